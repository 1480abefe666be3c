import PyProof.Rows.All
import Wide.All
import OpenK.AllK
import Wide.FinOn
import PySem.Challenge.RW_ak5020_01
open PySem PySem.W PyProof.Rows PySem.Spec PySem.Calls
set_option Elab.async false
set_option maxRecDepth 100000
set_option maxHeartbeats 8000000
set_option linter.all false

namespace Mine
open_top hd for PySem.Challenge.rw_ak5020_01
end Mine

namespace Mine
open PySem.Float64

/-- a rounded quotient N / D, the sign said apart -/
def RS (r : UInt64) (N : Int) (D : Nat) : Prop := ∃ neg, Right r neg N.natAbs D ∧ (N < 0 → neg = true) ∧ (0 < N → neg = false)

/-- finite, and lo, hi (in units of 2^-24) bound it -/
def Bt (x : UInt64) (lo hi : Int) : Prop := (∃ s m e, decode x = .fin s m e) ∧ lo * ((2 ^ 1050 : Nat) : Int) ≤ val x ∧ val x ≤ hi * ((2 ^ 1050 : Nat) : Int)

/-- every n up to 2^53 units is a double -/
theorem unit_double (k : Nat) (hk : 52 ≤ k) (n : Nat) (h : n ≤ 2 ^ 53) : ∃ t, V t = n * 2 ^ k := by
  by_cases h0 : n = 0
  · subst h0; exact ⟨0, by simp [V]⟩
  by_cases h1 : n = 2 ^ 53
  · subst h1
    exact ⟨k * 2 ^ 52 + 2 ^ 53, V_at (k := k) (q := 2 ^ 53) (by omega) (.inl (by omega))⟩
  have hl := Nat.log2_self_le h0
  have hu := @Nat.lt_log2_self n
  have hlt : n.log2 < 53 := (Nat.log2_lt h0).mpr (by omega)
  generalize n.log2 = l at *
  obtain ⟨j, hj⟩ : ∃ j, l + j = 52 := ⟨52 - l, by omega⟩
  have e1 : 2 ^ l * 2 ^ j = 2 ^ 52 := by rw [← Nat.pow_add, hj]
  have e2 : 2 ^ (l + 1) * 2 ^ j = 2 ^ 53 := by rw [← Nat.pow_add]; congr 1; omega
  have h3 : 2 ^ 52 ≤ n * 2 ^ j := by rw [← e1]; exact Nat.mul_le_mul_right _ hl
  have h4 : n * 2 ^ j < 2 ^ 53 := by rw [← e2]; exact Nat.mul_lt_mul_of_pos_right hu (Nat.two_pow_pos _)
  refine ⟨(k - j) * 2 ^ 52 + n * 2 ^ j, ?_⟩
  rw [V_at (by omega) (.inl h3), Nat.mul_assoc, ← Nat.pow_add]
  congr 2; omega

theorem rs_btk (k : Nat) (hk : 52 ≤ k) (hk2 : k ≤ 1500) {r : UInt64} {N : Int} {D : Nat} (h : RS r N D) (hD : 0 < D) {lo hi : Int} (hlo : -(2 ^ 53) ≤ lo) (hhi : hi ≤ 2 ^ 53) (hlo' : lo ≤ 2 ^ 53) (hhi' : -(2 ^ 53) ≤ hi)
    (h1 : lo * ((2 ^ k : Nat) : Int) * D ≤ N) (h2 : N ≤ hi * ((2 ^ k : Nat) : Int) * D) : (∃ s m e, decode r = .fin s m e) ∧ lo * ((2 ^ k : Nat) : Int) ≤ val r ∧ val r ≤ hi * ((2 ^ k : Nat) : Int) := by
  obtain ⟨neg, ⟨t, rfl, hle, hov, hnear⟩, hn, hp⟩ := h
  -- no overflow
  have hU : 2 ^ 53 * 2 ^ k * 2 < (2 ^ 54 - 1) * 2 ^ 2045 := by
    have e : 2 ^ 53 * 2 ^ 1500 * 2 < (2 ^ 54 - 1) * 2 ^ 2045 := by decide +kernel
    have e2 : 2 ^ k ≤ 2 ^ 1500 := Nat.pow_le_pow_right (by decide) hk2
    have e3 : 2 ^ 53 * 2 ^ k * 2 ≤ 2 ^ 53 * 2 ^ 1500 * 2 := Nat.mul_le_mul_right _ (Nat.mul_le_mul_left _ e2)
    exact Nat.lt_of_le_of_lt e3 e
  have hKp : 0 < 2 ^ k := Nat.two_pow_pos _
  generalize hK : 2 ^ k = K at *
  have hKD : (0 : Int) ≤ (K : Int) * D := Int.mul_nonneg (by omega) (by omega)
  have b1 : lo * K * D = lo * (K * D) := Int.mul_assoc _ _ _
  have b2 : hi * K * D = hi * (K * D) := Int.mul_assoc _ _ _
  rw [b1] at h1; rw [b2] at h2
  have c1 : -(2 ^ 53) * ((K : Int) * D) ≤ lo * (K * D) := Int.mul_le_mul_of_nonneg_right hlo hKD
  have c2 : hi * ((K : Int) * D) ≤ (2 ^ 53) * (K * D) := Int.mul_le_mul_of_nonneg_right hhi hKD
  have hW : N.natAbs ≤ 2 ^ 53 * (K * D) := by
    have : ((2 ^ 53 * (K * D) : Nat) : Int) = 2 ^ 53 * ((K : Int) * D) := by simp
    omega
  have hlt : t < infMag := by
    have : ¬ t = infMag := fun e => by
      have := hov.mp e
      have h5 : 2 * N.natAbs ≤ D * (2 ^ 53 * K * 2) := by
        calc 2 * N.natAbs ≤ 2 * (2 ^ 53 * (K * D)) := by omega
          _ = D * (2 ^ 53 * K * 2) := by ac_rfl
      have h6 : D * (2 ^ 53 * K * 2) < D * ((2 ^ 54 - 1) * 2 ^ 2045) := Nat.mul_lt_mul_of_pos_left hU hD
      omega
    omega
  obtain ⟨m, e, hd, _⟩ := decode_pack neg hlt
  have hv := val_pack neg hlt
  have hz := fun t' => (hnear hlt t').1
  refine ⟨⟨_, _, _, hd⟩, ?_⟩
  rw [hv]
  clear hnear hov hv hd hU hlt hle
  -- sign by sign
  have low : ∀ n : Nat, n ≤ 2 ^ 53 → n * K * D ≤ N.natAbs → n * K ≤ V t := fun n hn1 hn2 => by
    obtain ⟨t', ht'⟩ := unit_double k hk n hn1
    have hq := hz t'
    rw [hK] at ht'
    rw [ht'] at hq
    refine Nat.le_of_not_lt fun hlt => ?_
    have : D * V t < D * (n * K) := Nat.mul_lt_mul_of_pos_left hlt hD
    rw [Nat.mul_comm (n * K) D] at hn2
    unfold dist at hq
    omega
  have high : ∀ n : Nat, n ≤ 2 ^ 53 → N.natAbs ≤ n * K * D → V t ≤ n * K := fun n hn1 hn2 => by
    obtain ⟨t', ht'⟩ := unit_double k hk n hn1
    have hq := hz t'
    rw [hK] at ht'
    rw [ht'] at hq
    refine Nat.le_of_not_lt fun hlt => ?_
    have : D * (n * K) < D * V t := Nat.mul_lt_mul_of_pos_left hlt hD
    rw [Nat.mul_comm (n * K) D] at hn2
    unfold dist at hq
    omega
  clear hK
  have hKD0 : (0 : Int) < (K : Int) * D := by
    have := Nat.mul_pos hKp hD
    have e : ((K * D : Nat) : Int) = (K : Int) * D := by simp
    omega
  have cast3 : ∀ n : Nat, ((n * K * D : Nat) : Int) = (n : Int) * ((K : Int) * D) := fun n => by simp [Int.mul_assoc]
  have cast2 : ∀ n : Nat, ((n * K : Nat) : Int) = (n : Int) * (K : Int) := fun n => by simp
  have signLo : 0 ≤ N → 0 ≤ hi := fun hN => by
    refine Int.not_lt.mp fun hneg => ?_
    have := Int.mul_neg_of_neg_of_pos hneg hKD0
    omega
  have signHi : N ≤ 0 → lo ≤ 0 := fun hN => by
    refine Int.not_lt.mp fun hneg => ?_
    have := Int.mul_pos hneg hKD0
    omega
  rcases Int.lt_trichotomy N 0 with hN | hN | hN
  · -- below nought
    have hneg := hn hN; subst hneg
    have hs : sgn true (V t) = -(V t : Int) := rfl
    rw [hs]
    have hlo0 := signHi (by omega)
    constructor
    · have := high lo.natAbs (by omega) (by
        have := cast3 lo.natAbs
        rw [show (lo.natAbs : Int) = -lo by omega, Int.neg_mul] at this
        omega)
      have e := cast2 lo.natAbs
      rw [show (lo.natAbs : Int) = -lo by omega, Int.neg_mul] at e
      omega
    · by_cases hh : hi ≤ 0
      · have := low hi.natAbs (by omega) (by
          have := cast3 hi.natAbs
          rw [show (hi.natAbs : Int) = -hi by omega, Int.neg_mul] at this
          omega)
        have e := cast2 hi.natAbs
        rw [show (hi.natAbs : Int) = -hi by omega, Int.neg_mul] at e
        omega
      · have := Int.mul_nonneg (show 0 ≤ hi by omega) (show (0 : Int) ≤ K by omega)
        omega
  · -- nought
    subst hN
    have h0 := high 0 (by omega) (by simp)
    have hV : V t = 0 := by omega
    have hs : sgn neg (V t) = 0 := by rw [hV]; cases neg <;> rfl
    rw [hs]
    have a1 := signLo (by omega)
    have a2 := signHi (by omega)
    constructor
    · have := Int.mul_nonneg (show 0 ≤ -lo by omega) (show (0 : Int) ≤ K by omega)
      rw [Int.neg_mul] at this; omega
    · exact Int.mul_nonneg a1 (by omega)
  · have hneg := hp hN; subst hneg
    have hs : sgn false (V t) = (V t : Int) := rfl
    rw [hs]
    have hhi0 := signLo (by omega)
    constructor
    · by_cases hh : 0 ≤ lo
      · have := low lo.natAbs (by omega) (by
          have := cast3 lo.natAbs
          rw [show (lo.natAbs : Int) = lo by omega] at this
          omega)
        have e := cast2 lo.natAbs
        rw [show (lo.natAbs : Int) = lo by omega] at e
        omega
      · have := Int.mul_nonneg (show 0 ≤ -lo by omega) (show (0 : Int) ≤ K by omega)
        rw [Int.neg_mul] at this; omega
    · have := high hi.natAbs (by omega) (by
        have := cast3 hi.natAbs
        rw [show (hi.natAbs : Int) = hi by omega] at this
        omega)
      have e := cast2 hi.natAbs
      rw [show (hi.natAbs : Int) = hi by omega] at e
      omega

theorem rs_bt {r : UInt64} {N : Int} {D : Nat} (h : RS r N D) (hD : 0 < D) {lo hi : Int} (hlo : -(2 ^ 53) ≤ lo) (hhi : hi ≤ 2 ^ 53) (hlo' : lo ≤ 2 ^ 53) (hhi' : -(2 ^ 53) ≤ hi)
    (h1 : lo * ((2 ^ 1050 : Nat) : Int) * D ≤ N) (h2 : N ≤ hi * ((2 ^ 1050 : Nat) : Int) * D) : Bt r lo hi := rs_btk 1050 (by decide) (by decide) h hD hlo hhi hlo' hhi' h1 h2
theorem bt_zero {x : UInt64} {s : Bool} (h : x = zero s) : (∃ s m e, decode x = .fin s m e) ∧ val x = 0 := by
  subst h
  have h0 : (0 : Nat) < infMag := by decide +kernel
  obtain ⟨m, e, hd, _⟩ := decode_pack s h0
  refine ⟨⟨_, _, _, hd⟩, ?_⟩
  have := val_pack s h0
  unfold zero
  rw [this]
  cases s <;> simp [V, sgn]
theorem rs_int {r : UInt64} {N : Int} (h : Right r (decide (N < 0)) N.natAbs 1) : RS r N 1 :=
  ⟨_, h, fun h => by simpa using h, fun h => by simp; omega⟩
theorem bt_add {x y : UInt64} {a b c d : Int} (hx : Bt x a b) (hy : Bt y c d) (h1 : -(2 ^ 53) ≤ a + c) (h2 : b + d ≤ 2 ^ 53) (h3 : a + c ≤ 2 ^ 53) (h4 : -(2 ^ 53) ≤ b + d) : Bt (add x y) (a + c) (b + d) := by
  obtain ⟨⟨_, _, _, hdx⟩, x1, x2⟩ := hx
  obtain ⟨⟨_, _, _, hdy⟩, y1, y2⟩ := hy
  obtain ⟨hz, hr⟩ := add_right hdx hdy
  have l1 : (a + c) * ((2 ^ 1050 : Nat) : Int) ≤ val x + val y := by rw [Int.add_mul]; generalize ((2 ^ 1050 : Nat) : Int) = K at *; omega
  have l2 : val x + val y ≤ (b + d) * ((2 ^ 1050 : Nat) : Int) := by rw [Int.add_mul]; generalize ((2 ^ 1050 : Nat) : Int) = K at *; omega
  by_cases h0 : val x + val y = 0
  · obtain ⟨hf, hv⟩ := bt_zero (hz h0)
    rw [h0] at l1 l2
    exact ⟨hf, by rw [hv]; exact l1, by rw [hv]; exact l2⟩
  · exact rs_bt (rs_int (hr h0)) (by decide) h1 h2 h3 h4 (by simpa using l1) (by simpa using l2)
theorem bt_sub {x y : UInt64} {a b c d : Int} (hx : Bt x a b) (hy : Bt y c d) (h1 : -(2 ^ 53) ≤ a - d) (h2 : b - c ≤ 2 ^ 53) (h3 : a - d ≤ 2 ^ 53) (h4 : -(2 ^ 53) ≤ b - c) : Bt (sub x y) (a - d) (b - c) := by
  obtain ⟨⟨_, _, _, hdx⟩, x1, x2⟩ := hx
  obtain ⟨⟨_, _, _, hdy⟩, y1, y2⟩ := hy
  obtain ⟨hz, hr⟩ := sub_right hdx hdy
  have l1 : (a - d) * ((2 ^ 1050 : Nat) : Int) ≤ val x - val y := by rw [Int.sub_mul]; generalize ((2 ^ 1050 : Nat) : Int) = K at *; omega
  have l2 : val x - val y ≤ (b - c) * ((2 ^ 1050 : Nat) : Int) := by rw [Int.sub_mul]; generalize ((2 ^ 1050 : Nat) : Int) = K at *; omega
  by_cases h0 : val x - val y = 0
  · obtain ⟨hf, hv⟩ := bt_zero (hz h0)
    rw [h0] at l1 l2
    exact ⟨hf, by rw [hv]; exact l1, by rw [hv]; exact l2⟩
  · exact rs_bt (rs_int (hr h0)) (by decide) h1 h2 h3 h4 (by simpa using l1) (by simpa using l2)
theorem k1074 : ((2 ^ 1074 : Nat) : Int) = 16777216 * ((2 ^ 1050 : Nat) : Int) := by
  have : (2 ^ 1074 : Nat) = 2 ^ 24 * 2 ^ 1050 := by rw [← Nat.pow_add]
  rw [this]
  simp only [Int.natCast_mul]
  rfl
theorem bt_ofInt {i : Int} (h1 : -(2 ^ 29) ≤ i) (h2 : i ≤ 2 ^ 29) : Bt (ofInt i) (i * 16777216) (i * 16777216) := by
  have h := ofInt_right i
  have e : (i * ((2 ^ 1074 : Nat) : Int)).natAbs = i.natAbs * 2 ^ 1074 := by rw [Int.natAbs_mul, Int.natAbs_natCast]
  rw [← e] at h
  have hp : (0 : Int) < ((2 ^ 1074 : Nat) : Int) := Int.ofNat_lt.mpr (Nat.two_pow_pos _)
  have hr : RS (ofInt i) (i * ((2 ^ 1074 : Nat) : Int)) 1 := by
    refine ⟨_, h, fun h => ?_, fun h => ?_⟩
    · have : i < 0 := Int.not_le.mp fun h' => by have := Int.mul_nonneg h' (Int.le_of_lt hp); omega
      simpa using this
    · have : 0 < i := Int.not_le.mp fun h' => by have := Int.mul_nonneg (show 0 ≤ -i by omega) (Int.le_of_lt hp); rw [Int.neg_mul] at this; omega
      simp; omega
  refine rs_bt hr (by decide) (by omega) (by omega) (by omega) (by omega) ?_ ?_
  · rw [k1074]; simp only [Int.mul_assoc, Int.natCast_one, Int.mul_one, Int.le_refl]
  · rw [k1074]; simp only [Int.mul_assoc, Int.natCast_one, Int.mul_one, Int.le_refl]
/-- a quotient by an exact positive double -/
theorem bt_div {x y : UInt64} {a b c lo hi : Int} (hx : Bt x a b) (hy : Bt y c c) (hc : 0 < c) (h1 : -(2 ^ 53) ≤ lo) (h2 : hi ≤ 2 ^ 53) (h3 : lo ≤ 2 ^ 53) (h4 : -(2 ^ 53) ≤ hi)
    (l : lo * c ≤ a * 16777216) (u : b * 16777216 ≤ hi * c) : Bt (div x y) lo hi := by
  obtain ⟨⟨sx, mx, ex, hdx⟩, x1, x2⟩ := hx
  obtain ⟨⟨sy, my, ey, hdy⟩, y1, y2⟩ := hy
  have hvy : val y = c * ((2 ^ 1050 : Nat) : Int) := by omega
  have hp : (0 : Int) < ((2 ^ 1050 : Nat) : Int) := Int.ofNat_lt.mpr (Nat.two_pow_pos _)
  have hpos : 0 < val y := by rw [hvy]; exact Int.mul_pos hc hp
  have hm : my ≠ 0 := fun e => by
    rw [val_eq hdy, e] at hpos
    simp [sgn] at hpos
  have hsy : sy = false := by
    cases sy with
    | false => rfl
    | true =>
      rw [val_eq hdy] at hpos
      simp only [sgn, if_true] at hpos
      omega
  have h := div_right hdx hdy hm
  have e : (val x * ((2 ^ 1074 : Nat) : Int)).natAbs = (val x).natAbs * 2 ^ 1074 := by rw [Int.natAbs_mul, Int.natAbs_natCast]
  rw [← e, hsy] at h
  have hr : RS (div x y) (val x * ((2 ^ 1074 : Nat) : Int)) (val y).natAbs := by
    have hq : (0 : Int) < ((2 ^ 1074 : Nat) : Int) := Int.ofNat_lt.mpr (Nat.two_pow_pos _)
    refine ⟨_, h, fun h => ?_, fun h => ?_⟩
    · have : val x < 0 := Int.not_le.mp fun h' => by have := Int.mul_nonneg h' (Int.le_of_lt hq); omega
      rw [val_eq hdx] at this
      cases sx with
      | true => rfl
      | false => simp only [sgn, Bool.false_eq_true, if_false] at this; omega
    · have : 0 < val x := Int.not_le.mp fun h' => by have := Int.mul_nonneg (show 0 ≤ -val x by omega) (Int.le_of_lt hq); rw [Int.neg_mul] at this; omega
      rw [val_eq hdx] at this
      cases sx with
      | false => rfl
      | true => simp only [sgn, if_true] at this; omega
  have hn : ((val y).natAbs : Int) = c * ((2 ^ 1050 : Nat) : Int) := by omega
  refine rs_bt hr (by omega) h1 h2 h3 h4 ?_ ?_
  · rw [hn, k1074]
    generalize ((2 ^ 1050 : Nat) : Int) = K at *
    have e1 : lo * K * (c * K) = lo * c * (K * K) := by ac_rfl
    have e2 : a * 16777216 * (K * K) = (a * K) * (16777216 * K) := by ac_rfl
    have hKK : 0 ≤ K * K := Int.mul_nonneg (by omega) (by omega)
    have s1 := Int.mul_le_mul_of_nonneg_right l hKK
    have s2 : (a * K) * (16777216 * K) ≤ val x * (16777216 * K) := Int.mul_le_mul_of_nonneg_right x1 (by omega)
    omega
  · rw [hn, k1074]
    generalize ((2 ^ 1050 : Nat) : Int) = K at *
    have e1 : hi * K * (c * K) = hi * c * (K * K) := by ac_rfl
    have e2 : b * 16777216 * (K * K) = (b * K) * (16777216 * K) := by ac_rfl
    have hKK : 0 ≤ K * K := Int.mul_nonneg (by omega) (by omega)
    have s1 := Int.mul_le_mul_of_nonneg_right u hKK
    have s2 : val x * (16777216 * K) ≤ (b * K) * (16777216 * K) := Int.mul_le_mul_of_nonneg_right x2 (by omega)
    omega
/-- a quotient of two ints -/
theorem bt_frac {a b lo hi : Int} (hb : 0 < b) (h1 : -(2 ^ 53) ≤ lo) (h2 : hi ≤ 2 ^ 53) (h3 : lo ≤ 2 ^ 53) (h4 : -(2 ^ 53) ≤ hi)
    (l : lo * b ≤ a * 16777216) (u : a * 16777216 ≤ hi * b) : Bt (ofFrac (decide (a < 0) != decide (b < 0)) a.natAbs b.natAbs) lo hi := by
  have hb' : decide (b < 0) = false := by simp; omega
  rw [hb']
  have h := ofFrac_right (neg := (decide (a < 0) != false)) (n := a.natAbs) (d := b.natAbs) (W := (a * ((2 ^ 1074 : Nat) : Int)).natAbs) (D := b.natAbs) (by omega) (by rw [Int.natAbs_mul, Int.natAbs_natCast]) (by omega)
  have hr : RS (ofFrac (decide (a < 0) != false) a.natAbs b.natAbs) (a * ((2 ^ 1074 : Nat) : Int)) b.natAbs := by
    have hq : (0 : Int) < ((2 ^ 1074 : Nat) : Int) := Int.ofNat_lt.mpr (Nat.two_pow_pos _)
    refine ⟨_, h, fun h => ?_, fun h => ?_⟩
    · have : a < 0 := Int.not_le.mp fun h' => by have := Int.mul_nonneg h' (Int.le_of_lt hq); omega
      simp [this]
    · have : 0 < a := Int.not_le.mp fun h' => by have := Int.mul_nonneg (show 0 ≤ -a by omega) (Int.le_of_lt hq); rw [Int.neg_mul] at this; omega
      simp; omega
  have hn : ((b.natAbs : Nat) : Int) = b := by omega
  have hp : (0 : Int) < ((2 ^ 1050 : Nat) : Int) := Int.ofNat_lt.mpr (Nat.two_pow_pos _)
  refine rs_bt hr (by omega) h1 h2 h3 h4 ?_ ?_
  · rw [hn, k1074]
    generalize ((2 ^ 1050 : Nat) : Int) = K at *
    have e1 : lo * K * b = lo * b * K := by ac_rfl
    have e2 : a * 16777216 * K = a * (16777216 * K) := by ac_rfl
    have s1 := Int.mul_le_mul_of_nonneg_right l (Int.le_of_lt hp)
    omega
  · rw [hn, k1074]
    generalize ((2 ^ 1050 : Nat) : Int) = K at *
    have e1 : hi * K * b = hi * b * K := by ac_rfl
    have e2 : a * 16777216 * K = a * (16777216 * K) := by ac_rfl
    have s1 := Int.mul_le_mul_of_nonneg_right u (Int.le_of_lt hp)
    omega
/-- a product with an exact double that is not below nought -/
theorem bt_mul {x y : UInt64} {a b c lo hi : Int} (hx : Bt x c c) (hy : Bt y a b) (hc : 0 < c) (h1 : -(2 ^ 53) ≤ lo) (h2 : hi ≤ 2 ^ 53) (h3 : lo ≤ 2 ^ 53) (h4 : -(2 ^ 53) ≤ hi)
    (l : lo * 16777216 ≤ a * c) (u : b * c ≤ hi * 16777216) : Bt (mul x y) lo hi := by
  obtain ⟨⟨sx, mx, ex, hdx⟩, x1, x2⟩ := hx
  obtain ⟨⟨sy, my, ey, hdy⟩, y1, y2⟩ := hy
  have hvx : val x = c * ((2 ^ 1050 : Nat) : Int) := by omega
  have hp : (0 : Int) < ((2 ^ 1050 : Nat) : Int) := Int.ofNat_lt.mpr (Nat.two_pow_pos _)
  have hpos : 0 < val x := by rw [hvx]; exact Int.mul_pos hc hp
  have hsx : sx = false := by
    cases sx with
    | false => rfl
    | true =>
      rw [val_eq hdx] at hpos
      simp only [sgn, if_true] at hpos
      omega
  have h := mul_right hdx hdy
  have e : (val x * val y).natAbs = (val x).natAbs * (val y).natAbs := Int.natAbs_mul _ _
  rw [← e, hsx] at h
  have hr : RS (mul x y) (val x * val y) (2 ^ 1074) := by
    refine ⟨_, h, fun h => ?_, fun h => ?_⟩
    · have : val y < 0 := Int.not_le.mp fun h' => by have := Int.mul_nonneg (Int.le_of_lt hpos) h'; omega
      rw [val_eq hdy] at this
      cases sy with
      | true => rfl
      | false => simp only [sgn, Bool.false_eq_true, if_false] at this; omega
    · have : 0 < val y := Int.not_le.mp fun h' => by have := Int.mul_nonneg (Int.le_of_lt hpos) (show 0 ≤ -val y by omega); rw [Int.mul_neg] at this; omega
      rw [val_eq hdy] at this
      cases sy with
      | false => rfl
      | true => simp only [sgn, if_true] at this; omega
  refine rs_bt hr (Nat.two_pow_pos _) h1 h2 h3 h4 ?_ ?_
  · rw [hvx, k1074]
    generalize ((2 ^ 1050 : Nat) : Int) = K at *
    have e1 : lo * K * (16777216 * K) = lo * 16777216 * (K * K) := by ac_rfl
    have e2 : a * c * (K * K) = (c * K) * (a * K) := by ac_rfl
    have hKK : 0 ≤ K * K := Int.mul_nonneg (by omega) (by omega)
    have s1 := Int.mul_le_mul_of_nonneg_right l hKK
    have s2 : (c * K) * (a * K) ≤ (c * K) * val y := Int.mul_le_mul_of_nonneg_left y1 (by omega)
    omega
  · rw [hvx, k1074]
    generalize ((2 ^ 1050 : Nat) : Int) = K at *
    have e1 : hi * K * (16777216 * K) = hi * 16777216 * (K * K) := by ac_rfl
    have e2 : b * c * (K * K) = (c * K) * (b * K) := by ac_rfl
    have hKK : 0 ≤ K * K := Int.mul_nonneg (by omega) (by omega)
    have s1 := Int.mul_le_mul_of_nonneg_right u hKK
    have s2 : (c * K) * val y ≤ (c * K) * (b * K) := Int.mul_le_mul_of_nonneg_left y2 (by omega)
    omega
theorem floor_val {x : UInt64} {s : Bool} {m : Nat} {e : Int} (h : decode x = .fin s m e) : floorOf s m e = val x / ((2 ^ 1074 : Nat) : Int) := by
  have he := decode_ge h
  have hpow : ∀ n : Nat, ((2 ^ n : Nat) : Int) = (2 : Int) ^ n := fun n => by simp
  have hpos : ∀ n : Nat, (0 : Int) < (2 : Int) ^ n := fun n => by rw [← hpow]; exact Int.ofNat_lt.mpr (Nat.two_pow_pos _)
  rw [val_eq h, sgn_mul]
  unfold floorOf
  generalize sgn s m = q
  simp only [hpow]
  split
  · rename_i h0
    have e1 : (e + 1074).toNat = e.toNat + 1074 := by omega
    rw [e1, Int.pow_add, ← Int.mul_assoc, Int.mul_ediv_cancel _ (by have := hpos 1074; omega)]
  · rename_i h0
    have e1 : (1074 : Nat) = (e + 1074).toNat + (-e).toNat := by omega
    have e2 : (2 : Int) ^ 1074 = 2 ^ (-e).toNat * 2 ^ (e + 1074).toNat := by rw [← Int.pow_add]; congr 1; omega
    rw [e2, Int.fdiv_eq_ediv_of_nonneg _ (Int.le_of_lt (hpos _)), Int.mul_ediv_mul_of_pos_left _ _ (hpos _)]
theorem bt_floor {x : UInt64} {lo hi q : Int} (h : Bt x lo hi) (h1 : q * 16777216 ≤ lo) (h2 : hi < (q + 1) * 16777216) : PySem.Flt.toInt floorOf x = q := by
  obtain ⟨⟨s, m, e, hd⟩, x1, x2⟩ := h
  rw [PySem.Flt.toInt_fin hd, floor_val hd, k1074]
  have hp : (0 : Int) < ((2 ^ 1050 : Nat) : Int) := Int.ofNat_lt.mpr (Nat.two_pow_pos _)
  generalize ((2 ^ 1050 : Nat) : Int) = K at *
  have s1 := Int.mul_le_mul_of_nonneg_right h1 (Int.le_of_lt hp)
  have s2 := Int.mul_lt_mul_of_pos_right h2 hp
  refine Int.le_antisymm ?_ ?_
  · refine Int.lt_add_one_iff.mp (Int.ediv_lt_of_lt_mul (by omega) ?_)
    have : (q + 1) * (16777216 * K) = (q + 1) * 16777216 * K := by ac_rfl
    omega
  · refine Int.le_ediv_of_mul_le (by omega) ?_
    have : q * (16777216 * K) = q * 16777216 * K := by ac_rfl
    omega
theorem trunc_floor {x : UInt64} (h : ∃ s m e, decode x = .fin s m e) (h0 : 0 ≤ val x) : PySem.Flt.toInt truncOf x = PySem.Flt.toInt floorOf x := by
  obtain ⟨s, m, e, hd⟩ := h
  rw [PySem.Flt.toInt_fin hd, PySem.Flt.toInt_fin hd]
  unfold truncOf
  cases s with
  | false => rfl
  | true =>
    have hm : m = 0 := by
      rw [val_eq hd] at h0
      simp only [sgn, if_true] at h0
      have h1 : m * 2 ^ (e + 1074).toNat = 0 := by omega
      rcases Nat.mul_eq_zero.mp h1 with h | h
      · exact h
      · have := Nat.two_pow_pos (e + 1074).toNat; omega
    subst hm
    simp [ceilOf, floorOf, sgn]
theorem bt_nonneg {x : UInt64} {lo hi : Int} (h : Bt x lo hi) (h0 : 0 ≤ lo) : 0 ≤ val x := by
  obtain ⟨_, x1, _⟩ := h
  have hp : (0 : Int) < ((2 ^ 1050 : Nat) : Int) := Int.ofNat_lt.mpr (Nat.two_pow_pos _)
  have := Int.mul_nonneg h0 (Int.le_of_lt hp)
  omega
theorem bt_trunc {x : UInt64} {lo hi q : Int} (h : Bt x lo hi) (h0 : 0 ≤ lo) (h1 : q * 16777216 ≤ lo) (h2 : hi < (q + 1) * 16777216) : PySem.Flt.toInt truncOf x = q := by
  rw [trunc_floor h.1 (bt_nonneg h h0)]
  exact bt_floor h h1 h2
theorem bt_cmp {x y : UInt64} {a b : Int} (hx : Bt x a a) (hy : Bt y b b) : cmp x y = some (compare a b) := by
  obtain ⟨⟨_, _, _, hdx⟩, x1, x2⟩ := hx
  obtain ⟨⟨_, _, _, hdy⟩, y1, y2⟩ := hy
  have hp : (0 : Int) < ((2 ^ 1050 : Nat) : Int) := Int.ofNat_lt.mpr (Nat.two_pow_pos _)
  rw [cmp_right hdx hdy, show val x = a * ((2 ^ 1050 : Nat) : Int) by omega, show val y = b * ((2 ^ 1050 : Nat) : Int) by omega]
  generalize ((2 ^ 1050 : Nat) : Int) = K at *
  congr 1
  rcases Int.lt_trichotomy a b with h | h | h
  · rw [Int.compare_eq_lt.mpr h, Int.compare_eq_lt.mpr (Int.mul_lt_mul_of_pos_right h hp)]
  · subst h; simp
  · rw [Int.compare_eq_gt.mpr h, Int.compare_eq_gt.mpr (Int.mul_lt_mul_of_pos_right h hp)]
theorem bt_cmpInt {x : UInt64} {a i : Int} (hx : Bt x a a) : cmpInt x i = some (compare a (i * 16777216)) := by
  obtain ⟨⟨_, _, _, hdx⟩, x1, x2⟩ := hx
  have hp : (0 : Int) < ((2 ^ 1050 : Nat) : Int) := Int.ofNat_lt.mpr (Nat.two_pow_pos _)
  have h74 : i * (2 : Int) ^ 1074 = i * 16777216 * ((2 ^ 1050 : Nat) : Int) := by
    have := k1074
    rw [Int.mul_assoc, ← this]
    simp
  rw [cmpInt_right hdx, h74, show val x = a * ((2 ^ 1050 : Nat) : Int) by omega]
  generalize ((2 ^ 1050 : Nat) : Int) = K at *
  congr 1
  rcases Int.lt_trichotomy a (i * 16777216) with h | h | h
  · rw [Int.compare_eq_lt.mpr h, Int.compare_eq_lt.mpr (Int.mul_lt_mul_of_pos_right h hp)]
  · subst h; simp
  · rw [Int.compare_eq_gt.mpr h, Int.compare_eq_gt.mpr (Int.mul_lt_mul_of_pos_right h hp)]
end Mine

namespace Mine
open PySem.Float64

theorem fmod_right {x y : UInt64} {a b : Bool} {m k : Nat} {e f : Int} (hx : decode x = .fin a m e) (hy : decode y = .fin b k f) (hk : k ≠ 0) :
    Right (fmod x y) a ((val x).natAbs % (val y).natAbs) 1 := by
  have he := decode_ge hx
  have hf := decode_ge hy
  have hmod : fmod x y = ofBin a ((sgn false (m * 2 ^ (e - min e f).toNat)).toNat % (sgn false (k * 2 ^ (f - min e f).toNat)).toNat) (min e f) := by
    unfold fmod
    rw [hx, hy]
    simp only [align]
    rw [if_neg (by simpa using hk)]
  have s1 : ∀ n : Nat, (sgn false n).toNat = n := fun n => by simp [sgn]
  rw [s1, s1] at hmod
  have e1 : (val x).natAbs = m * 2 ^ (e - min e f).toNat * 2 ^ (min e f + 1074).toNat := by
    rw [val_natAbs hx, Nat.mul_assoc, ← Nat.pow_add]; congr 2; omega
  have e2 : (val y).natAbs = k * 2 ^ (f - min e f).toNat * 2 ^ (min e f + 1074).toNat := by
    rw [val_natAbs hy, Nat.mul_assoc, ← Nat.pow_add]; congr 2; omega
  rw [hmod, e1, e2, Nat.mul_mod_mul_right]
  unfold ofBin
  refine ofFrac_right (shift_pos _ _ _ (by decide)) ?_ (by decide)
  have := shift_one (m * 2 ^ (e - min e f).toNat % (k * 2 ^ (f - min e f).toNat)) (min e f) 1074 (by omega)
  rw [Nat.mul_one]
  exact this

theorem bt_fmod {x y : UInt64} {a c : Int} (hx : Bt x a a) (hy : Bt y c c) (hc : 0 < c) (ha1 : -(2 ^ 53) ≤ a) (ha2 : a ≤ 2 ^ 53) :
    Bt (fmod x y) (a.tmod c) (a.tmod c) := by
  obtain ⟨⟨sx, mx, ex, hdx⟩, x1, x2⟩ := hx
  obtain ⟨⟨sy, my, ey, hdy⟩, y1, y2⟩ := hy
  have hp : (0 : Int) < ((2 ^ 1050 : Nat) : Int) := Int.ofNat_lt.mpr (Nat.two_pow_pos _)
  have hvx : val x = a * ((2 ^ 1050 : Nat) : Int) := by omega
  have hvy : val y = c * ((2 ^ 1050 : Nat) : Int) := by omega
  have hk : my ≠ 0 := fun e => by
    have hpos : 0 < val y := by rw [hvy]; exact Int.mul_pos hc hp
    rw [val_eq hdy, e] at hpos
    simp [sgn] at hpos
  have h := fmod_right hdx hdy hk
  have n1 : (val x).natAbs = a.natAbs * 2 ^ 1050 := by rw [hvx, Int.natAbs_mul, Int.natAbs_natCast]
  have n2 : (val y).natAbs = c.natAbs * 2 ^ 1050 := by rw [hvy, Int.natAbs_mul, Int.natAbs_natCast]
  rw [n1, n2, Nat.mul_mod_mul_right] at h
  have n3 : (a.tmod c * ((2 ^ 1050 : Nat) : Int)).natAbs = a.natAbs % c.natAbs * 2 ^ 1050 := by
    rw [Int.natAbs_mul, Int.natAbs_natCast, Int.natAbs_tmod]
  rw [← n3] at h
  have hb : (a.tmod c).natAbs ≤ a.natAbs := by rw [Int.natAbs_tmod]; exact Nat.mod_le _ _
  have hr : RS (fmod x y) (a.tmod c * ((2 ^ 1050 : Nat) : Int)) 1 := by
    refine ⟨_, h, fun h => ?_, fun h => ?_⟩
    · have h1 : a.tmod c < 0 := Int.not_le.mp fun h' => by have := Int.mul_nonneg h' (Int.le_of_lt hp); omega
      have h2 : a < 0 := Int.not_le.mp fun h' => by have := Int.tmod_nonneg c h'; omega
      have h3 : val x < 0 := by rw [hvx]; exact Int.mul_neg_of_neg_of_pos h2 hp
      rw [val_eq hdx] at h3
      cases sx with
      | true => rfl
      | false => simp only [sgn, Bool.false_eq_true, if_false] at h3; omega
    · have h1 : 0 < a.tmod c := Int.not_le.mp fun h' => by have := Int.mul_nonneg (show 0 ≤ -(a.tmod c) by omega) (Int.le_of_lt hp); rw [Int.neg_mul] at this; omega
      have h2 : 0 < a := Int.not_le.mp fun h' => by
        have := Int.tmod_nonneg (a := -a) c (by omega)
        rw [Int.neg_tmod] at this
        omega
      have h3 : 0 < val x := by rw [hvx]; exact Int.mul_pos h2 hp
      rw [val_eq hdx] at h3
      cases sx with
      | false => rfl
      | true => simp only [sgn, if_true] at h3; omega
  exact rs_bt hr (by decide) (by omega) (by omega) (by omega) (by omega) (by simp) (by simp)

theorem bt_isZero {x : UInt64} {a : Int} (hx : Bt x a a) : isZero x = decide (a = 0) := by
  obtain ⟨⟨s, m, e, hd⟩, x1, x2⟩ := hx
  have hp : (0 : Int) < ((2 ^ 1050 : Nat) : Int) := Int.ofNat_lt.mpr (Nat.two_pow_pos _)
  have hv : val x = a * ((2 ^ 1050 : Nat) : Int) := by omega
  have hm : m = 0 ↔ a = 0 := by
    constructor
    · intro h
      rw [val_eq hd, h] at hv
      simp only [Nat.zero_mul, sgn] at hv
      have : a * ((2 ^ 1050 : Nat) : Int) = 0 := by rw [← hv]; cases s <;> rfl
      rcases Int.mul_eq_zero.mp this with h | h
      · exact h
      · omega
    · intro h
      rw [h, Int.zero_mul, val_eq hd] at hv
      have h1 : m * 2 ^ (e + 1074).toNat = 0 := by
        unfold sgn at hv
        split at hv <;> omega
      rcases Nat.mul_eq_zero.mp h1 with h | h
      · exact h
      · have := Nat.two_pow_pos (e + 1074).toNat; omega
  unfold isZero
  rw [hd]
  by_cases h : a = 0
  · have := hm.mpr h
    subst this
    simp [h]
  · have hne : m ≠ 0 := fun h' => h (hm.mp h')
    rw [decide_eq_false h]
    split
    · rename_i heq
      cases heq
      exact absurd rfl hne
    · rfl
theorem bt_pos0 (s : Bool) : Bt (pack s 0) 0 0 := by
  obtain ⟨h1, h2⟩ := bt_zero (x := pack s 0) (s := s) rfl
  exact ⟨h1, by rw [h2]; simp, by rw [h2]; simp⟩
theorem bt_mod {x y : UInt64} {a c : Int} (hx : Bt x a a) (hy : Bt y c c) (hc : 0 < c) (ha1 : -(2 ^ 53) ≤ a) (ha2 : a ≤ 2 ^ 53) (hc2 : c ≤ 2 ^ 53) :
    Bt (divmod x y).2 (a % c) (a % c) := by
  have hf := bt_fmod hx hy hc ha1 ha2
  have hz := bt_isZero hf
  have hl1 : Float64.lt y (zero false) = false := by
    unfold Float64.lt zero
    rw [bt_cmp hy (bt_pos0 false), Int.compare_eq_gt.mpr hc]
    rfl
  have hl2 : Float64.lt (fmod x y) (zero false) = decide (a.tmod c < 0) := by
    unfold Float64.lt zero
    rw [bt_cmp hf (bt_pos0 false)]
    rcases Int.lt_trichotomy (a.tmod c) 0 with h | h | h
    · rw [Int.compare_eq_lt.mpr h]; simp [h]
    · rw [h]; rfl
    · rw [Int.compare_eq_gt.mpr h]; simp; omega
  have hmm : a % c = if a.tmod c < 0 then a.tmod c + c else a.tmod c := by
    rw [Int.tmod_eq_emod]
    have h1 := Int.emod_nonneg a (show c ≠ 0 by omega)
    have h2 := Int.emod_lt_of_pos a hc
    by_cases h : 0 ≤ a ∨ c ∣ a
    · rw [if_pos h]; split <;> omega
    · rw [if_neg h]
      have : a % c ≠ 0 := fun e => h (.inr (Int.dvd_of_emod_eq_zero e))
      split <;> omega
  unfold divmod
  simp only [hz, hl1, hl2]
  by_cases h0 : a.tmod c = 0
  · rw [h0] at hmm
    simp only [Int.lt_irrefl, if_false] at hmm
    rw [if_pos (by simp [h0])]
    rw [hmm]
    have : (zero false).toNat % 2 ^ 63 = 0 := by decide +kernel
    unfold copysign
    have hn : isNaN (zero false) = false := by decide +kernel
    rw [hn, this]
    simp only [Bool.false_eq_true, if_false]
    exact bt_pos0 _
  · rw [if_neg (by simpa using h0)]
    by_cases h1 : a.tmod c < 0
    · rw [if_pos (by simp [h1]), hmm, if_pos h1]
      have hlt : -c < a.tmod c := by
        have := Int.lt_tmod_of_pos a hc
        exact this
      exact bt_add hf hy (by omega) (by omega) (by omega) (by omega)
    · rw [if_neg (by simp [h1]), hmm, if_neg h1]
      exact hf
end Mine

namespace Mine
open PySem.Float64 PySem.Flt

/-- x is p / 2 -/
def Hf (x : UInt64) (p : Int) : Prop := Bt x (p * 8388608) (p * 8388608)
/-- x is a / c, but for the last bits -/
def Nr (x : UInt64) (a c : Int) : Prop := Bt x (a * 16777216 / c) (-(-(a * 16777216) / c))
/-- floor of x -/
def Fq (x : UInt64) (q : Int) : Prop := Float64.isFinite x = true ∧ toInt floorOf x = q
/-- trunc of x -/
def Tq (x : UInt64) (q : Int) : Prop := Float64.isFinite x = true ∧ toInt truncOf x = q

theorem bt_fin {x : UInt64} {a b : Int} (h : Bt x a b) : isFinite x = true := by
  obtain ⟨⟨s, m, e, hd⟩, _⟩ := h
  unfold isFinite
  rw [hd]
theorem fin_nan {x : UInt64} (h : isFinite x = true) : Float64.isNaN x = true → False := by
  unfold isFinite at h; unfold Float64.isNaN
  intro h2
  split at h2
  · rename_i heq; rw [heq] at h; cases h
  · cases h2
theorem fin_inf {x : UInt64} (h : isFinite x = true) : isInf x = true → False := by
  unfold isFinite at h; unfold isInf
  intro h2
  split at h2
  · rename_i heq; rw [heq] at h; cases h
  · cases h2
theorem not_over {n : Int} (h1 : -(2 ^ 51) ≤ n) (h2 : n ≤ 2 ^ 51) : ¬ Over n := by
  have h3 : (2 : Nat) ^ 52 ≤ 2 ^ 1024 - 2 ^ 970 := by decide +kernel
  show ¬ (2 ^ 1024 - 2 ^ 970 ≤ n.natAbs)
  generalize (2 : Nat) ^ 1024 - 2 ^ 970 = K at *
  omega
theorem fits_int {n : Int} (h1 : -(2 ^ 51) ≤ n) (h2 : n ≤ 2 ^ 51) : n.natAbs < 2 ^ 1024 - 2 ^ 970 := by
  have := not_over h1 h2
  exact Nat.not_le.mp this

-- the numbers of the text
theorem hf_epoch : Hf 4700144277945057280 3442851 := ⟨⟨_, _, _, by with_unfolding_all rfl⟩, by decide +kernel, by decide +kernel⟩
theorem hf_1524 : Hf 4654419637352529920 3049 := ⟨⟨_, _, _, by with_unfolding_all rfl⟩, by decide +kernel, by decide +kernel⟩
theorem hf_half : Hf 4602678819172646912 1 := ⟨⟨_, _, _, by with_unfolding_all rfl⟩, by decide +kernel, by decide +kernel⟩
theorem hf_pos : Hf 4702353567246188544 4748959 := ⟨⟨_, _, _, by with_unfolding_all rfl⟩, by decide +kernel, by decide +kernel⟩
theorem hf_1_5 : Hf 4609434218613702656 3 := ⟨⟨_, _, _, by with_unfolding_all rfl⟩, by decide +kernel, by decide +kernel⟩
theorem bt_365 : Bt 4645133162144333824 6127878144 6127878144 := ⟨⟨_, _, _, by with_unfolding_all rfl⟩, by decide +kernel, by decide +kernel⟩
theorem bt_122 : Bt 4638292440600962662 2048498073 2048498074 := ⟨⟨_, _, _, by with_unfolding_all rfl⟩, by decide +kernel, by decide +kernel⟩

theorem k1073 : ((2 ^ 1073 : Nat) : Int) = 8388608 * ((2 ^ 1050 : Nat) : Int) := by
  have : (2 ^ 1073 : Nat) = 2 ^ 23 * 2 ^ 1050 := by rw [← Nat.pow_add]
  rw [this]
  simp only [Int.natCast_mul]
  rfl
theorem hf_iff {x : UInt64} {p : Int} : Hf x p ↔ (∃ s m e, decode x = .fin s m e) ∧ val x = p * ((2 ^ 1073 : Nat) : Int) := by
  unfold Hf Bt
  have e : p * 8388608 * ((2 ^ 1050 : Nat) : Int) = p * ((2 ^ 1073 : Nat) : Int) := by rw [k1073]; ac_rfl
  rw [e]
  exact and_congr_right fun _ => ⟨fun h => Int.le_antisymm h.2 h.1, fun h => by rw [h]; exact ⟨Int.le_refl _, Int.le_refl _⟩⟩
theorem rs_hf {r : UInt64} {p : Int} (h : RS r (p * ((2 ^ 1073 : Nat) : Int)) 1) (h1 : -(2 ^ 53) ≤ p) (h2 : p ≤ 2 ^ 53) : Hf r p := by
  obtain ⟨hf, a, b⟩ := rs_btk 1073 (by decide) (by decide) h (by decide) h1 h2 h2 h1 (by simp) (by simp)
  exact hf_iff.mpr ⟨hf, Int.le_antisymm b a⟩
theorem hf_add {x y : UInt64} {p q : Int} (hx : Hf x p) (hy : Hf y q) (h1 : -(2 ^ 53) ≤ p + q) (h2 : p + q ≤ 2 ^ 53) : Hf (add x y) (p + q) := by
  obtain ⟨⟨_, _, _, hdx⟩, x1⟩ := hf_iff.mp hx
  obtain ⟨⟨_, _, _, hdy⟩, y1⟩ := hf_iff.mp hy
  obtain ⟨hz, hr⟩ := add_right hdx hdy
  have e : val x + val y = (p + q) * ((2 ^ 1073 : Nat) : Int) := by rw [x1, y1, Int.add_mul]
  by_cases h0 : val x + val y = 0
  · obtain ⟨hf, hv⟩ := bt_zero (hz h0)
    exact hf_iff.mpr ⟨hf, by rw [hv, ← e, h0]⟩
  · have := rs_int (hr h0)
    rw [e] at this
    exact rs_hf this h1 h2
theorem hf_sub {x y : UInt64} {p q : Int} (hx : Hf x p) (hy : Hf y q) (h1 : -(2 ^ 53) ≤ p - q) (h2 : p - q ≤ 2 ^ 53) : Hf (sub x y) (p - q) := by
  obtain ⟨⟨_, _, _, hdx⟩, x1⟩ := hf_iff.mp hx
  obtain ⟨⟨_, _, _, hdy⟩, y1⟩ := hf_iff.mp hy
  obtain ⟨hz, hr⟩ := sub_right hdx hdy
  have e : val x - val y = (p - q) * ((2 ^ 1073 : Nat) : Int) := by rw [x1, y1, Int.sub_mul]
  by_cases h0 : val x - val y = 0
  · obtain ⟨hf, hv⟩ := bt_zero (hz h0)
    exact hf_iff.mpr ⟨hf, by rw [hv, ← e, h0]⟩
  · have := rs_int (hr h0)
    rw [e] at this
    exact rs_hf this h1 h2
theorem hf_int {n : Int} (h1 : -(2 ^ 51) ≤ n) (h2 : n ≤ 2 ^ 51) : Hf (ofInt n) (2 * n) := by
  have h := ofInt_right n
  have e : (n * ((2 ^ 1074 : Nat) : Int)).natAbs = n.natAbs * 2 ^ 1074 := by rw [Int.natAbs_mul, Int.natAbs_natCast]
  rw [← e] at h
  have hp : (0 : Int) < ((2 ^ 1074 : Nat) : Int) := Int.ofNat_lt.mpr (Nat.two_pow_pos _)
  have hr : RS (ofInt n) (n * ((2 ^ 1074 : Nat) : Int)) 1 := by
    refine ⟨_, h, fun h => ?_, fun h => ?_⟩
    · have : n < 0 := Int.not_le.mp fun h' => by have := Int.mul_nonneg h' (Int.le_of_lt hp); omega
      simpa using this
    · have : 0 < n := Int.not_le.mp fun h' => by have := Int.mul_nonneg (show 0 ≤ -n by omega) (Int.le_of_lt hp); rw [Int.neg_mul] at this; omega
      simp; omega
  have e2 : n * ((2 ^ 1074 : Nat) : Int) = 2 * n * ((2 ^ 1073 : Nat) : Int) := by
    have : (2 ^ 1074 : Nat) = 2 * 2 ^ 1073 := by rw [Nat.pow_succ, Nat.mul_comm]
    rw [this]
    simp only [Int.natCast_mul]
    rw [show 2 * n = n * ((2 : Nat) : Int) by simp; omega, Int.mul_assoc]
  rw [e2] at hr
  exact rs_hf hr (by omega) (by omega)
theorem hf_floor {x : UInt64} {p : Int} (h : Hf x p) : toInt floorOf x = p / 2 := bt_floor h (by omega) (by omega)
theorem hf_trunc {x : UInt64} {p : Int} (h : Hf x p) (h0 : 0 ≤ p) : toInt truncOf x = p / 2 := bt_trunc h (by omega) (by omega) (by omega)

theorem div_bounds {a c : Int} (hc : 0 < c) : a / c * c ≤ a ∧ a ≤ -(-a / c) * c := by
  constructor
  · exact Int.ediv_mul_le a (by omega)
  · have := Int.ediv_mul_le (-a) (b := c) (by omega)
    rw [Int.neg_mul]
    omega
theorem div_size {a c B : Int} (hc : 0 < c) (h1 : -B ≤ a) (h2 : a ≤ B) : -B ≤ a / c ∧ a / c ≤ B := by
  have hB : 0 ≤ B := by omega
  constructor
  · refine Int.le_ediv_of_mul_le hc ?_
    have := Int.mul_le_mul_of_nonneg_left (show (1 : Int) ≤ c by omega) hB
    rw [Int.neg_mul]
    omega
  · by_cases h : 0 ≤ a
    · exact Int.le_trans (Int.ediv_le_self _ h) h2
    · have := Int.ediv_neg_of_neg_of_pos (show a < 0 by omega) hc
      omega
theorem nr_of {x : UInt64} {a c : Int} (hc : 0 < c) (h1 : -(2 ^ 29) ≤ a) (h2 : a ≤ 2 ^ 29)
    (h : ∀ lo hi : Int, -(2 ^ 53) ≤ lo → hi ≤ 2 ^ 53 → lo ≤ 2 ^ 53 → -(2 ^ 53) ≤ hi → lo * c ≤ a * 16777216 → a * 16777216 ≤ hi * c → Bt x lo hi) : Nr x a c := by
  obtain ⟨e1, e2⟩ := div_bounds (a := a * 16777216) hc
  obtain ⟨s1, s2⟩ := div_size (a := a * 16777216) (B := 2 ^ 53) hc (by omega) (by omega)
  obtain ⟨s3, s4⟩ := div_size (a := -(a * 16777216)) (B := 2 ^ 53) hc (by omega) (by omega)
  exact h _ _ (by omega) (by omega) (by omega) (by omega) e1 e2
theorem nr_frac {a b : Int} (hb : 0 < b) (h1 : -(2 ^ 29) ≤ a) (h2 : a ≤ 2 ^ 29) : Nr (ofFrac (decide (a < 0) != decide (b < 0)) a.natAbs b.natAbs) a b :=
  nr_of hb h1 h2 fun _ _ a1 a2 a3 a4 l u => bt_frac hb a1 a2 a3 a4 l u
theorem nr_div {x : UInt64} {p n : Int} (hx : Hf x p) (hn : 0 < n) (hn2 : n ≤ 2 ^ 29) (h1 : -(2 ^ 29) ≤ p) (h2 : p ≤ 2 ^ 29) : Nr (div x (ofInt n)) p (2 * n) := by
  refine nr_of (by omega) h1 h2 fun lo hi a1 a2 a3 a4 l u => ?_
  have e1 : lo * (2 * n) = 2 * (lo * n) := by ac_rfl
  have e2 : hi * (2 * n) = 2 * (hi * n) := by ac_rfl
  rw [e1] at l
  rw [e2] at u
  have e3 : lo * (n * 16777216) = lo * n * 16777216 := by ac_rfl
  have e4 : hi * (n * 16777216) = hi * n * 16777216 := by ac_rfl
  exact bt_div hx (bt_ofInt (by omega) (by omega)) (by omega) a1 a2 a3 a4 (by omega) (by omega)
theorem nr_addInt {x : UInt64} {a c n : Int} (hx : Nr x a c) (hc : 0 < c) (h1 : -(2 ^ 28) ≤ n) (h2 : n ≤ 2 ^ 28) (h3 : -(2 ^ 28) ≤ a) (h4 : a ≤ 2 ^ 28) : Nr (add x (ofInt n)) (a + n * c) c := by
  unfold Nr at *
  obtain ⟨s1, s2⟩ := div_size (a := a * 16777216) (B := 2 ^ 52) hc (by omega) (by omega)
  obtain ⟨s3, s4⟩ := div_size (a := -(a * 16777216)) (B := 2 ^ 52) hc (by omega) (by omega)
  have := bt_add hx (bt_ofInt (i := n) (by omega) (by omega)) (by omega) (by omega) (by omega) (by omega)
  have e1 : (a + n * c) * 16777216 / c = a * 16777216 / c + n * 16777216 := by
    rw [Int.add_mul, show n * c * 16777216 = n * 16777216 * c by ac_rfl, Int.add_mul_ediv_right _ _ (by omega)]
  have e2 : -((a + n * c) * 16777216) / c = -(a * 16777216) / c + -(n * 16777216) := by
    rw [Int.add_mul, Int.neg_add, show -(n * c * 16777216) = -(n * 16777216) * c by rw [Int.neg_mul]; congr 1; ac_rfl, Int.add_mul_ediv_right _ _ (by omega)]
  rw [e1, e2]
  have e3 : -(-(a * 16777216) / c + -(n * 16777216)) = -(-(a * 16777216) / c) + n * 16777216 := by omega
  rw [e3]
  exact this
theorem nr_floor_aux {a c : Int} (hc : 0 < c) (hc2 : c ≤ 16777216) : a / c * 16777216 ≤ a * 16777216 / c ∧ -(-(a * 16777216) / c) < (a / c + 1) * 16777216 := by
  have e1 := Int.ediv_mul_le a (b := c) (by omega)
  have e2 := Int.lt_ediv_add_one_mul_self a hc
  constructor
  · refine Int.le_ediv_of_mul_le hc ?_
    rw [show a / c * 16777216 * c = a / c * c * 16777216 by ac_rfl]
    omega
  · have h : -((a / c + 1) * 16777216) + 1 ≤ -(a * 16777216) / c := by
      refine Int.le_ediv_of_mul_le hc ?_
      rw [Int.add_mul, Int.neg_mul, show (a / c + 1) * 16777216 * c = (a / c + 1) * c * 16777216 by ac_rfl]
      omega
    omega
theorem nr_floor {x : UInt64} {a c : Int} (hx : Nr x a c) (hc : 0 < c) (hc2 : c ≤ 16777216) : toInt floorOf x = a / c :=
  bt_floor hx (nr_floor_aux hc hc2).1 (nr_floor_aux hc hc2).2
theorem nr_trunc {x : UInt64} {a c : Int} (hx : Nr x a c) (hc : 0 < c) (hc2 : c ≤ 16777216) (h0 : 0 ≤ a) : toInt truncOf x = a / c :=
  bt_trunc hx (Int.ediv_nonneg (by omega) (by omega)) (nr_floor_aux hc hc2).1 (nr_floor_aux hc hc2).2
theorem hf_mod {x : UInt64} {p n : Int} (hx : Hf x p) (hn : 0 < n) (hn2 : n ≤ 2 ^ 29) (h1 : -(2 ^ 30) ≤ p) (h2 : p ≤ 2 ^ 30) : Hf (divmod x (ofInt n)).2 (p % (2 * n)) := by
  unfold Hf at *
  have := bt_mod hx (bt_ofInt (i := n) (by omega) (by omega)) (by omega) (by omega) (by omega) (by omega)
  have e : p * 8388608 % (n * 16777216) = p % (2 * n) * 8388608 := by
    rw [show n * 16777216 = 8388608 * (2 * n) by omega, Int.mul_comm p, Int.mul_emod_mul_of_pos _ _ (by decide), Int.mul_comm]
  rw [e] at this
  exact this
theorem hf_mulInt {x : UInt64} {p n : Int} (hx : Hf x p) (hn : 0 < n) (hn2 : n ≤ 2 ^ 20) (h1 : -(2 ^ 30) ≤ p * n) (h2 : p * n ≤ 2 ^ 30) : Hf (mul x (ofInt n)) (p * n) := by
  have hn3 := bt_ofInt (i := n) (by omega) (by omega)
  unfold Hf at *
  have hc : mul x (ofInt n) = mul (ofInt n) x := by
    obtain ⟨⟨a, m, e, e1⟩, _⟩ := hx
    obtain ⟨⟨b, k, f, e2⟩, _⟩ := hn3
    unfold mul
    rw [e1, e2]
    show ofBin (a != b) (m * k) (e + f) = ofBin (b != a) (k * m) (f + e)
    rw [Nat.mul_comm, Int.add_comm]
    congr 1
    cases a <;> cases b <;> rfl
  rw [hc]
  have e : p * n * 8388608 * 16777216 = p * 8388608 * (n * 16777216) := by ac_rfl
  exact bt_mul hn3 hx (by omega) (by omega) (by omega) (by omega) (by omega) (by omega) (by omega)
theorem fq_365 {n : Int} (h1 : -(2 ^ 18) ≤ n) (h2 : n ≤ 2 ^ 18) : Fq (mul 4645133162144333824 (ofInt n)) (1461 * n / 4) := by
  have := bt_mul (lo := n * 6127878144) (hi := n * 6127878144) bt_365 (bt_ofInt (i := n) (by omega) (by omega)) (by decide) (by omega) (by omega) (by omega) (by omega) (by omega) (by omega)
  exact ⟨bt_fin this, bt_floor this (by omega) (by omega)⟩
theorem jul_div {x : UInt64} {b : Int} (hx : Bt x (b * 16777216 - 2048498074) (b * 16777216 - 2048498073)) (h1 : -(2 ^ 27) ≤ b) (h2 : b ≤ 2 ^ 27) : Fq (div x 4645133162144333824) ((20 * b - 2442) / 7305) := by
  have := bt_div (lo := (20 * b - 2442) / 7305 * 16777216) (hi := ((20 * b - 2442) / 7305 + 1) * 16777216 - 1) hx bt_365 (by decide) (by omega) (by omega) (by omega) (by omega) (by omega) (by omega)
  exact ⟨bt_fin this, bt_floor this (by omega) (by omega)⟩
theorem jul_sub {b : Int} (h1 : -(2 ^ 27) ≤ b) (h2 : b ≤ 2 ^ 27) : Bt (sub (ofInt b) 4638292440600962662) (b * 16777216 - 2048498074) (b * 16777216 - 2048498073) :=
  bt_sub (bt_ofInt (i := b) (by omega) (by omega)) bt_122 (by omega) (by omega) (by omega) (by omega)
theorem tab_30_6001 : ∀ n : Nat, n < 16 → isFinite (mul 4629306380116972641 (ofInt (n : Int))) = true ∧ toInt floorOf (mul 4629306380116972641 (ofInt (n : Int))) = 306001 * (n : Int) / 10000 := by decide +kernel
theorem tab_30_6 : ∀ n : Nat, n < 16 → isFinite (mul 4629306351969474970 (ofInt (n : Int))) = true ∧ toInt truncOf (mul 4629306351969474970 (ofInt (n : Int))) = 153 * (n : Int) / 5 := by decide +kernel
theorem tab_div : ∀ n : Nat, n < 512 → isFinite (div (ofInt (n : Int)) 4629306380116972641) = true ∧ toInt floorOf (div (ofInt (n : Int)) 4629306380116972641) = 10000 * (n : Int) / 306001 := by decide +kernel
theorem fq_30_6001 {n : Int} (h1 : 0 ≤ n) (h2 : n < 16) : Fq (mul 4629306380116972641 (ofInt n)) (306001 * n / 10000) := by
  have := tab_30_6001 n.toNat (by omega)
  rw [show ((n.toNat : Nat) : Int) = n by omega] at this
  exact this
theorem tq_30_6 {n : Int} (h1 : 0 ≤ n) (h2 : n < 16) : Tq (mul 4629306351969474970 (ofInt n)) (153 * n / 5) := by
  have := tab_30_6 n.toNat (by omega)
  rw [show ((n.toNat : Nat) : Int) = n by omega] at this
  exact this
theorem fq_div {n : Int} (h1 : 0 ≤ n) (h2 : n < 512) : Fq (div (ofInt n) 4629306380116972641) (10000 * n / 306001) := by
  have := tab_div n.toNat (by omega)
  rw [show ((n.toNat : Nat) : Int) = n by omega] at this
  exact this
theorem hf_cmp {x y : UInt64} {p q : Int} (hx : Hf x p) (hy : Hf y q) : cmp x y = some (compare p q) := by
  have := bt_cmp hx hy
  rw [this]
  congr 1
  rcases Int.lt_trichotomy p q with h | h | h
  · rw [Int.compare_eq_lt.mpr h, Int.compare_eq_lt.mpr (by omega)]
  · subst h; simp
  · rw [Int.compare_eq_gt.mpr h, Int.compare_eq_gt.mpr (by omega)]
theorem hf_cmpInt {x : UInt64} {p n : Int} (hx : Hf x p) : cmpInt x n = some (compare p (2 * n)) := by
  rw [bt_cmpInt hx]
  congr 1
  rcases Int.lt_trichotomy p (2 * n) with h | h | h
  · rw [Int.compare_eq_lt.mpr h, Int.compare_eq_lt.mpr (by omega)]
  · subst h; rw [show 2 * n * 8388608 = n * 16777216 by omega]; simp
  · rw [Int.compare_eq_gt.mpr h, Int.compare_eq_gt.mpr (by omega)]
end Mine

namespace Mine
open PySem.Flt

section
variable {prog : Program} {w : World} {A : Around} {E : Value → Shared → Prop} {s : Shared} {Q : Value → Shared → Prop} {x y : UInt64} {t u : Tok} {p q n a c b : Int}

theorem w_add_ff (hx : Hf x p) (hy : Hf y q) (hb : -9007199254740992 ≤ p + q ∧ p + q ≤ 9007199254740992) (h : ∀ z, Hf z (p + q) → Q (.float z s.toks) { s with toks := s.toks + 1 }) :
    wpAny (model prog w) A (binaryOp .Add (.float x t) (.float y u)) Q E s := add_float (h _ (hf_add hx hy hb.1 hb.2))
theorem w_iadd_ff (hx : Hf x p) (hy : Hf y q) (hb : -9007199254740992 ≤ p + q ∧ p + q ≤ 9007199254740992) (h : ∀ z, Hf z (p + q) → Q (.float z s.toks) { s with toks := s.toks + 1 }) :
    wpAny (model prog w) A (inplaceOp .Add (.float x t) (.float y u)) Q E s := iadd_float (h _ (hf_add hx hy hb.1 hb.2))
theorem w_sub_ff (hx : Hf x p) (hy : Hf y q) (hb : -9007199254740992 ≤ p - q ∧ p - q ≤ 9007199254740992) (h : ∀ z, Hf z (p - q) → Q (.float z s.toks) { s with toks := s.toks + 1 }) :
    wpAny (model prog w) A (binaryOp .Sub (.float x t) (.float y u)) Q E s := sub_float (h _ (hf_sub hx hy hb.1 hb.2))
theorem w_add_fi (hA : A.handled = none) (hx : Hf x p) (hb : (-2251799813685248 ≤ n ∧ n ≤ 2251799813685248) ∧ -9007199254740992 ≤ p + 2 * n ∧ p + 2 * n ≤ 9007199254740992) (h : ∀ z, Hf z (p + 2 * n) → Q (.float z s.toks) { s with toks := s.toks + 1 }) :
    wpAny (model prog w) A (binaryOp .Add (.float x t) (.int n u)) Q E s :=
  add_fi_sharp hA (fun ho => absurd ho (Nat.not_le.mpr (fits_int hb.1.1 hb.1.2))) fun _ => h _ (hf_add hx (hf_int hb.1.1 hb.1.2) hb.2.1 hb.2.2)
theorem w_sub_fi (hA : A.handled = none) (hx : Hf x p) (hb : (-2251799813685248 ≤ n ∧ n ≤ 2251799813685248) ∧ -9007199254740992 ≤ p - 2 * n ∧ p - 2 * n ≤ 9007199254740992) (h : ∀ z, Hf z (p - 2 * n) → Q (.float z s.toks) { s with toks := s.toks + 1 }) :
    wpAny (model prog w) A (binaryOp .Sub (.float x t) (.int n u)) Q E s :=
  sub_fi_sharp hA (fun ho => absurd ho (Nat.not_le.mpr (fits_int hb.1.1 hb.1.2))) fun _ => h _ (hf_sub hx (hf_int hb.1.1 hb.1.2) hb.2.1 hb.2.2)
theorem w_add_if (hA : A.handled = none) (hx : Hf x p) (hb : (-2251799813685248 ≤ n ∧ n ≤ 2251799813685248) ∧ -9007199254740992 ≤ 2 * n + p ∧ 2 * n + p ≤ 9007199254740992) (h : ∀ z, Hf z (2 * n + p) → Q (.float z s.toks) { s with toks := s.toks + 1 }) :
    wpAny (model prog w) A (binaryOp .Add (.int n u) (.float x t)) Q E s :=
  add_if_sharp hA (fun ho => absurd ho (Nat.not_le.mpr (fits_int hb.1.1 hb.1.2))) fun _ => h _ (hf_add (hf_int hb.1.1 hb.1.2) hx hb.2.1 hb.2.2)
theorem w_sub_if (hA : A.handled = none) (hx : Hf x p) (hb : (-2251799813685248 ≤ n ∧ n ≤ 2251799813685248) ∧ -9007199254740992 ≤ 2 * n - p ∧ 2 * n - p ≤ 9007199254740992) (h : ∀ z, Hf z (2 * n - p) → Q (.float z s.toks) { s with toks := s.toks + 1 }) :
    wpAny (model prog w) A (binaryOp .Sub (.int n u) (.float x t)) Q E s :=
  sub_if_sharp hA (fun ho => absurd ho (Nat.not_le.mpr (fits_int hb.1.1 hb.1.2))) fun _ => h _ (hf_sub (hf_int hb.1.1 hb.1.2) hx hb.2.1 hb.2.2)
theorem w_mul_fi (hA : A.handled = none) (hx : Hf x p) (hb : (0 < n ∧ n ≤ 1048576) ∧ -1073741824 ≤ p * n ∧ p * n ≤ 1073741824) (h : ∀ z, Hf z (p * n) → Q (.float z s.toks) { s with toks := s.toks + 1 }) :
    wpAny (model prog w) A (binaryOp .Mult (.float x t) (.int n u)) Q E s :=
  mul_fi_sharp hA (fun ho => absurd ho (Nat.not_le.mpr (fits_int (by omega) (by omega)))) fun _ => h _ (hf_mulInt hx hb.1.1 hb.1.2 hb.2.1 hb.2.2)
theorem w_mod_fi (hA : A.handled = none) (hx : Hf x p) (hb : (0 < n ∧ n ≤ 536870912) ∧ -1073741824 ≤ p ∧ p ≤ 1073741824) (h : ∀ z r, r = p % (2 * n) → Hf z r → Q (.float z s.toks) { s with toks := s.toks + 1 }) :
    wpAny (model prog w) A (binaryOp .Mod (.float x t) (.int n u)) Q E s :=
  mod_fi hA (fun ho => absurd ho (not_over (by omega) (by omega))) (fun e => by omega) fun _ _ => h _ _ rfl (hf_mod hx hb.1.1 hb.1.2 hb.2.1 hb.2.2)
theorem w_div_fi (hA : A.handled = none) (hx : Hf x p) (hb : (0 < n ∧ n ≤ 536870912) ∧ -536870912 ≤ p ∧ p ≤ 536870912) (h : ∀ z, Nr z p (2 * n) → Q (.float z s.toks) { s with toks := s.toks + 1 }) :
    wpAny (model prog w) A (binaryOp .Div (.float x t) (.int n u)) Q E s :=
  truediv_fi hA (fun ho => absurd ho (not_over (by omega) (by omega))) (fun e => by omega) fun _ _ => h _ (nr_div hx hb.1.1 hb.1.2 hb.2.1 hb.2.2)
theorem w_div_ii (hA : A.handled = none) (hb : (0 < n ∧ n ≤ 536870912) ∧ -536870912 ≤ a ∧ a ≤ 536870912) (h : ∀ z, Nr z a n → Q (.float z s.toks) { s with toks := s.toks + 1 }) :
    wpAny (model prog w) A (binaryOp .Div (.int a t) (.int n u)) Q E s :=
  div_ii_fits hA (by have h1 : (2 : Nat) ^ 30 < 2 ^ 1023 := by decide +kernel
                     generalize (2 : Nat) ^ 1023 = K at *
                     omega) (fun e => by omega) fun _ _ => h _ (nr_frac hb.1.1 hb.2.1 hb.2.2)
theorem w_addn_fi (hA : A.handled = none) (hx : Nr x a c) (hb : 0 < c ∧ (-268435456 ≤ n ∧ n ≤ 268435456) ∧ -268435456 ≤ a ∧ a ≤ 268435456) (h : ∀ z, Nr z (a + n * c) c → Q (.float z s.toks) { s with toks := s.toks + 1 }) :
    wpAny (model prog w) A (binaryOp .Add (.float x t) (.int n u)) Q E s :=
  add_fi_sharp hA (fun ho => absurd ho (Nat.not_le.mpr (fits_int (by omega) (by omega)))) fun _ => h _ (nr_addInt hx hb.1 hb.2.1.1 hb.2.1.2 hb.2.2.1 hb.2.2.2)
theorem w_mul_365 (hA : A.handled = none) (hcc : x = 4645133162144333824) (hb : -262144 ≤ n ∧ n ≤ 262144) (h : ∀ z, Fq z (1461 * n / 4) → Q (.float z s.toks) { s with toks := s.toks + 1 }) :
    wpAny (model prog w) A (binaryOp .Mult (.float x t) (.int n u)) Q E s := by
  subst hcc
  exact mul_fi_sharp hA (fun ho => absurd ho (Nat.not_le.mpr (fits_int (by omega) (by omega)))) fun _ => h _ (fq_365 hb.1 hb.2)
theorem w_mul_306001 (hA : A.handled = none) (hcc : x = 4629306380116972641) (hb : 0 ≤ n ∧ n < 16) (h : ∀ z, Fq z (306001 * n / 10000) → Q (.float z s.toks) { s with toks := s.toks + 1 }) :
    wpAny (model prog w) A (binaryOp .Mult (.float x t) (.int n u)) Q E s := by
  subst hcc
  exact mul_fi_sharp hA (fun ho => absurd ho (Nat.not_le.mpr (fits_int (by omega) (by omega)))) fun _ => h _ (fq_30_6001 hb.1 hb.2)
theorem w_mul_306 (hA : A.handled = none) (hcc : x = 4629306351969474970) (hb : 0 ≤ n ∧ n < 16) (h : ∀ z, Tq z (153 * n / 5) → Q (.float z s.toks) { s with toks := s.toks + 1 }) :
    wpAny (model prog w) A (binaryOp .Mult (.float x t) (.int n u)) Q E s := by
  subst hcc
  exact mul_fi_sharp hA (fun ho => absurd ho (Nat.not_le.mpr (fits_int (by omega) (by omega)))) fun _ => h _ (tq_30_6 hb.1 hb.2)
theorem w_sub_122 (hA : A.handled = none) (hcc : x = 4638292440600962662) (hb : -134217728 ≤ b ∧ b ≤ 134217728) (h : ∀ z, Bt z (b * 16777216 - 2048498074) (b * 16777216 - 2048498073) → Q (.float z s.toks) { s with toks := s.toks + 1 }) :
    wpAny (model prog w) A (binaryOp .Sub (.int b u) (.float x t)) Q E s := by
  subst hcc
  exact sub_if_sharp hA (fun ho => absurd ho (Nat.not_le.mpr (fits_int (by omega) (by omega)))) fun _ => h _ (jul_sub hb.1 hb.2)
theorem w_div_365 (hA : A.handled = none) (hcc : y = 4645133162144333824) (hx : Bt x (b * 16777216 - 2048498074) (b * 16777216 - 2048498073)) (hb : -134217728 ≤ b ∧ b ≤ 134217728) (h : ∀ z, Fq z ((20 * b - 2442) / 7305) → Q (.float z s.toks) { s with toks := s.toks + 1 }) :
    wpAny (model prog w) A (binaryOp .Div (.float x t) (.float y u)) Q E s := by
  subst hcc
  exact truediv_float_or hA (fun ho => absurd ho (by decide +kernel)) fun _ => h _ (jul_div hx hb.1 hb.2)
theorem w_div_306001 (hA : A.handled = none) (hcc : x = 4629306380116972641) (hb : 0 ≤ n ∧ n < 512) (h : ∀ z, Fq z (10000 * n / 306001) → Q (.float z s.toks) { s with toks := s.toks + 1 }) :
    wpAny (model prog w) A (binaryOp .Div (.int n t) (.float x u)) Q E s := by
  subst hcc
  exact truediv_if hA (fun ho => absurd ho (not_over (by omega) (by omega))) (fun _ ho => absurd ho (by decide +kernel)) fun _ _ => h _ (fq_div hb.1 hb.2)
theorem w_floor_h (hA : A.handled = none) (hx : Hf x p) (h : ∀ r, r = p / 2 → Q (.int r s.toks) { s with toks := s.toks + 1 }) : wpAny (model prog w) A (call (.builtin "math.floor") [.float x t]) Q E s :=
  call_floor_float hA (fun e => (fin_nan (bt_fin hx) e).elim) (fun e => (fin_inf (bt_fin hx) e).elim) fun _ => by rw [hf_floor hx]; exact h _ rfl
theorem w_floor_n (hA : A.handled = none) (hx : Nr x a c) (hc : 0 < c ∧ c ≤ 16777216) (h : ∀ r, r = a / c → Q (.int r s.toks) { s with toks := s.toks + 1 }) : wpAny (model prog w) A (call (.builtin "math.floor") [.float x t]) Q E s :=
  call_floor_float hA (fun e => (fin_nan (bt_fin hx) e).elim) (fun e => (fin_inf (bt_fin hx) e).elim) fun _ => by rw [nr_floor hx hc.1 hc.2]; exact h _ rfl
theorem w_floor_q (hA : A.handled = none) (hx : Fq x q) (h : ∀ r, r = q → Q (.int r s.toks) { s with toks := s.toks + 1 }) : wpAny (model prog w) A (call (.builtin "math.floor") [.float x t]) Q E s :=
  call_floor_float hA (fun e => (fin_nan hx.1 e).elim) (fun e => (fin_inf hx.1 e).elim) fun _ => by rw [hx.2]; exact h _ rfl
theorem w_trunc_q (hA : A.handled = none) (hx : Tq x q) (h : ∀ r, r = q → Q (.int r s.toks) { s with toks := s.toks + 1 }) : wpAny (model prog w) A (call (.builtin "math.trunc") [.float x t]) Q E s :=
  call_trunc_float hA (fun e => (fin_nan hx.1 e).elim) (fun e => (fin_inf hx.1 e).elim) fun _ => by rw [hx.2]; exact h _ rfl
theorem w_trunc_n (hA : A.handled = none) (hx : Nr x a c) (hc : 0 < c ∧ c ≤ 16777216 ∧ 0 ≤ a) (h : ∀ r, r = a / c → Q (.int r s.toks) { s with toks := s.toks + 1 }) : wpAny (model prog w) A (call (.builtin "math.trunc") [.float x t]) Q E s :=
  call_trunc_float hA (fun e => (fin_nan (bt_fin hx) e).elim) (fun e => (fin_inf (bt_fin hx) e).elim) fun _ => by rw [nr_trunc hx hc.1 hc.2.1 hc.2.2]; exact h _ rfl
theorem w_int_h (hA : A.handled = none) (hx : Hf x p) (hc : 0 ≤ p) (h : ∀ r, r = p / 2 → Q (.int r s.toks) { s with toks := s.toks + 1 }) : wpAny (model prog w) A (call (.type "int") [.float x t]) Q E s :=
  call_int_float3 hA (fun e => (fin_nan (bt_fin hx) e).elim) (fun e => (fin_inf (bt_fin hx) e).elim) fun _ => by rw [hf_trunc hx hc]; exact h _ rfl
theorem cmp_eq_dec {p q : Int} : ((some (compare p q) : Option Ordering) == some Ordering.eq) = decide (p = q) := by
  rcases Int.lt_trichotomy p q with h | h | h
  · rw [Int.compare_eq_lt.mpr h]; simp; omega
  · subst h; simp
  · rw [Int.compare_eq_gt.mpr h]; simp; omega
theorem cmp_lt_dec {p q : Int} : ((some (compare p q) : Option Ordering) == some Ordering.lt) = decide (p < q) := by
  rcases Int.lt_trichotomy p q with h | h | h
  · rw [Int.compare_eq_lt.mpr h]; simp; omega
  · subst h; simp
  · rw [Int.compare_eq_gt.mpr h]; simp; omega
theorem cmp_ge_dec {p q : Int} : ((some (compare p q) : Option Ordering) == some Ordering.gt || (some (compare p q) : Option Ordering) == some Ordering.eq) = decide (q ≤ p) := by
  rcases Int.lt_trichotomy p q with h | h | h
  · rw [Int.compare_eq_lt.mpr h]; simp; omega
  · subst h; simp
  · rw [Int.compare_eq_gt.mpr h]; simp; omega
theorem w_eq_ff (hx : Hf x p) (hy : Hf y q) (h : Q (.bool (decide (p = q))) s) : wpAny (model prog w) A (compareOp .Eq (.float x t) (.float y u)) Q E s :=
  AutoFloatOps.eq_0 (by rw [hf_cmp hx hy, cmp_eq_dec]; exact h)
theorem w_ne_ff (hx : Hf x p) (hy : Hf y q) (h : Q (.bool (!decide (p = q))) s) : wpAny (model prog w) A (compareOp .NotEq (.float x t) (.float y u)) Q E s :=
  AutoFloatOps.ne_0 (by rw [hf_cmp hx hy, bne, cmp_eq_dec]; exact h)
theorem w_ge_ff (hx : Hf x p) (hy : Hf y q) (h : Q (.bool (decide (q ≤ p))) s) : wpAny (model prog w) A (compareOp .GtE (.float x t) (.float y u)) Q E s :=
  AutoFloatOps.ge_0 (by rw [hf_cmp hx hy, cmp_ge_dec]; exact h)
theorem w_lt_fi (hx : Hf x p) (h : Q (.bool (decide (p < 2 * n))) s) : wpAny (model prog w) A (compareOp .Lt (.float x t) (.int n u)) Q E s :=
  lt_fi (by rw [hf_cmpInt hx, cmp_lt_dec]; exact h)
theorem w_in30 {h₀ : Heap} {L l : Addr} {m : Str → Option Value} {K : Frag} {dd : Option Addr} {sl : Array (Option Value)} {k : Nat} {ta tb tc td : Tok} (F : Fr h₀ L s.heap m) (X₀ : K.In h₀)
    (hl : K.lookup l = some ⟨.type "tuple", dd, .seq ([.int 4 ta, .int 6 tb, .int 9 tc, .int 11 td] : List Value).toArray k, sl⟩)
    (h : Q (.bool (decide (n = 4 ∨ n = 6 ∨ n = 9 ∨ n = 11))) s) : wpAny (model prog w) A (compareOp .In (.int n u) (.ref l)) Q E s := by
  refine in_tuple_ints (ns := [4, 6, 9, 11]) (tupK (X₀.keeps F.keep) hl) (.cons _ _ (.cons _ _ (.cons _ _ (.cons _ _ .nil)))) ?_
  have e : ([4, 6, 9, 11] : List Int).any (· == n) = decide (n = 4 ∨ n = 6 ∨ n = 9 ∨ n = 11) := by
    simp only [List.any_cons, List.any_nil, Bool.or_false]
    rw [Bool.eq_iff_iff]
    simp only [Bool.or_eq_true, beq_iff_eq, decide_eq_true_eq]
    omega
  rw [e]
  exact h
end
end Mine

namespace Mine
open PySem.Flt

abbrev PP : Program := PySem.Challenge.rw_ak5020_01.row.prog
abbrev RetT := Heap → Addr → (Str → Option Value) → List (Addr × Obj) → Shared → (Value → Shared → Prop) → Prop

/-- a call of the def at f comes back as R says, from any frame -/
abbrev Claim (w : World) (f : Addr) (need : Nat) (vs : List Value) (R : RetT) : Prop :=
  ∀ (loose : List Str) (mean : ExcName → Option Value) (mg mb : Str → Option Value)
    (dp un : Nat) (gd : Option (List Code)) (cn : Str) (cs : Scope) (a : Addr) (ccd : Value) (cl : List (Str × Addr)) (outer : List Env) (A₀ : Around) (base h₀ : Heap) (L : Addr) (m : Str → Option Value) (news : List (Addr × Obj)) (s : Shared) (Q E : Value → Shared → Prop),
    Below A₀ base outer h₀ → Fr h₀ L s.heap m → (hd.heap_39 w.params).In h₀ → News h₀ L s.heap news → Top hd.view_39 loose mean mg mb h₀ → cs.kind = .function →
    dp + need < recursionLimit → un + 8 * need < cLine → R h₀ L m news s Q →
      wpAny (model PP w) (ktrTop dp un gd cn cs L a ccd cl outer) (call (.ref f) vs) Q E s

theorem Claim.use {w : World} {f : Addr} {need : Nat} {vs : List Value} {R : RetT} (c : Claim w f need vs R)
    {loose : List Str} {mean : ExcName → Option Value} {mg mb : Str → Option Value}
    {dp un : Nat} {gd : Option (List Code)} {cn : Str} {cs : Scope} {a : Addr} {ccd : Value} {cl : List (Str × Addr)} {outer : List Env} {A₀ : Around} {base h₀ : Heap} {L : Addr} {m : Str → Option Value} {news : List (Addr × Obj)} {s : Shared} {Q E : Value → Shared → Prop}
    (hB : Below A₀ base outer h₀) (hF : Fr h₀ L s.heap m) (hK : (hd.heap_39 w.params).In h₀) (hN : News h₀ L s.heap news) (hT : Top hd.view_39 loose mean mg mb h₀) (hk : cs.kind = .function)
    (hd : dp + need < recursionLimit) (hu : un + 8 * need < cLine) (hR : R h₀ L m news s Q) :
    wpAny (model PP w) (ktrTop dp un gd cn cs L a ccd cl outer) (call (.ref f) vs) Q E s :=
  c _ _ _ _ _ _ _ _ _ _ _ _ _ _ _ _ _ _ _ _ _ _ hB hF hK hN hT hk hd hu hR

abbrev RetB (x : Bool) : RetT := fun h₀ L m news s Q => ∀ (v : Bool) (h' : Heap) (tk' : Nat), v = x → Fr h₀ L h' m → News h₀ L h' news → Q (.bool v) { s with heap := h', toks := tk' }
abbrev RetI (x : Int) : RetT := fun h₀ L m news s Q => ∀ (v : Int) (t : Tok) (h' : Heap) (tk' : Nat), v = x → Fr h₀ L h' m → News h₀ L h' news → Q (.int v t) { s with heap := h', toks := tk' }
abbrev RetH (p : Int) : RetT := fun h₀ L m news s Q => ∀ (z : UInt64) (q : Int) (t : Tok) (h' : Heap) (tk' : Nat), Hf z q → q = p → Fr h₀ L h' m → News h₀ L h' news → Q (.float z t) { s with heap := h', toks := tk' }
abbrev Tup3 (a b c : Int) (t1 t2 t3 : Tok) (k : Nat) : Obj := { cls := .type "tuple", data := .seq #[.int a t1, .int b t2, .int c t3] k }
abbrev Tup2 (a b : Int) (t1 t2 : Tok) (k : Nat) : Obj := { cls := .type "tuple", data := .seq #[.int a t1, .int b t2] k }
abbrev Ret3 (a b c : Int) : RetT := fun h₀ L m news s Q => ∀ (D : Addr) (a' b' c' : Int) (t1 t2 t3 : Tok) (k : Nat) (h' : Heap) (tk' : Nat), a' = a → b' = b → c' = c → Fr h₀ L h' m → News h₀ L h' [(D, Tup3 a' b' c' t1 t2 t3 k)] → News h₀ L h' news → Q (.ref D) { s with heap := h', toks := tk' }
abbrev Ret2 (a b : Int) : RetT := fun h₀ L m news s Q => ∀ (D : Addr) (a' b' : Int) (t1 t2 : Tok) (k : Nat) (h' : Heap) (tk' : Nat), a' = a → b' = b → Fr h₀ L h' m → News h₀ L h' [(D, Tup2 a' b' t1 t2 k)] → News h₀ L h' news → Q (.ref D) { s with heap := h', toks := tk' }
theorem news_cons {h₀ h' : Heap} {L : Addr} {news : List (Addr × Obj)} {p : Addr × Obj} (h1 : News h₀ L h' [p]) (h2 : News h₀ L h' news) : News h₀ L h' (p :: news) := fun q hq => by
  rcases List.mem_cons.mp hq with rfl | hq
  · exact h1 _ (.head _)
  · exact h2 _ hq
theorem news_one {h₀ h' : Heap} {L : Addr} {news : List (Addr × Obj)} {p : Addr × Obj} (h1 : News h₀ L h' news) (h2 : p ∈ news) : News h₀ L h' [p] := fun q hq => by
  rcases List.mem_cons.mp hq with rfl | hq
  · exact h1 _ h2
  · cases hq
theorem news_drop {h₀ h' : Heap} {L : Addr} {news : List (Addr × Obj)} {p : Addr × Obj} (h1 : News h₀ L h' (p :: news)) : News h₀ L h' news := fun q hq => h1 _ (.tail _ hq)

/-- the leap years -/
def lp (y : Int) : Int := if y % 4 = 0 ∧ (y % 100 ≠ 0 ∨ y % 400 = 0) then 1 else 0
theorem lp_01 (y : Int) : lp y = 0 ∨ lp y = 1 := by unfold lp; split <;> simp
/-- year and month, counted from March -/
def yj (y m : Int) : Int := if m ≤ 2 then y - 1 else y
def mj (m : Int) : Int := if m ≤ 2 then m + 12 else m
/-- the Julian leap years -/
def jl (y : Int) : Int := if y % 4 = 0 then 1 else 0
theorem jl_01 (y : Int) : jl y = 0 ∨ jl y = 1 := by unfold jl; split <;> simp
theorem jl_cases (y : Int) : (y % 4 = 0 ∧ jl y = 1) ∨ (y % 4 ≠ 0 ∧ jl y = 0) := by unfold jl; split <;> simp_all
theorem split_jl {v : Bool} {y : Int} {T F : Prop} (e : v = decide (jl y = 1)) (h1 : jl y = 1 → T) (h0 : jl y = 0 → F) : if v = true then T else F := by
  rcases jl_01 y with h | h
  · rw [if_neg]; exact h0 h; rw [e, h]; decide
  · rw [if_pos]; exact h1 h; rw [e, h]; decide
/-- the day behind which a Julian year begins -/
def jyr (y : Int) : Int := 365 * (y + 4712) + (y + 4715) / 4 - 1
/-- the length of a month -/
def mlen (l m : Int) : Int := if m = 2 then 28 + l else if m = 4 ∨ m = 6 ∨ m = 9 ∨ m = 11 then 30 else 31
/-- the days of the year before a month, as to_jd has them (its month's first day is one behind) -/
def cum (l m : Int) : Int := (367 * m - 362) / 12 + (if m ≤ 2 then 0 else l - 2)
/-- the day behind which a year begins -/
def adj (l m : Int) : Int := if m ≤ 2 then 0 else l - 2
theorem adj_cases {l : Int} (hl : l = 0 ∨ l = 1) (m : Int) : -2 ≤ adj l m ∧ adj l m ≤ 0 := by unfold adj; split <;> omega
def yr (y : Int) : Int := 1721425 + 365 * (y - 1) + (y - 1) / 4 - (y - 1) / 100 + (y - 1) / 400

theorem leap1 {y : Int} (h1 : y.fmod 4 = 0) (h2 : y.fmod 100 ≠ 0) : (y.fmod 100 != 0) = decide (lp y = 1) := by
  rw [Int.fmod_eq_emod_of_nonneg _ (by decide)] at *
  have : lp y = 1 := by unfold lp; rw [if_pos]; omega
  rw [this]; simpa using h2
theorem leap2 {y : Int} (h1 : y.fmod 4 = 0) (h2 : y.fmod 100 = 0) : (y.fmod 400 == 0) = decide (lp y = 1) := by
  rw [Int.fmod_eq_emod_of_nonneg _ (by decide)] at *
  by_cases h : y % 400 = 0
  · have : lp y = 1 := by unfold lp; rw [if_pos]; omega
    rw [this]; simpa using h
  · have : lp y = 0 := by unfold lp; rw [if_neg]; omega
    rw [this]; simpa using h
theorem leap3 {y : Int} (h1 : y.fmod 4 ≠ 0) : (y.fmod 4 == 0) = decide (lp y = 1) := by
  rw [Int.fmod_eq_emod_of_nonneg _ (by decide)] at *
  have : lp y = 0 := by unfold lp; rw [if_neg]; omega
  rw [this]; simpa using h1
theorem leap_cases {v : Bool} {y : Int} (e : v = decide (lp y = 1)) : (v = true ∧ lp y = 1) ∨ (v = false ∧ lp y = 0) := by
  rcases lp_01 y with h | h <;> rw [h] at e <;> simp [e, h]

/-- an if that stores one int name: the name, and its value behind it -/
structure JMark (x : Str) (Y : Int) : Prop where
def JEnd (h₀ : Heap) (L : Addr) (s : Shared) (m : Str → Option Value) (x : Str) (Y : Int) (news : List (Addr × Obj)) (f : Flow) (s' : Shared) : Prop :=
  f = .next ∧ ∃ (t : Tok) (h' : Heap) (tk' : Nat), s' = { s with heap := h', toks := tk' } ∧ Fr h₀ L h' (fun z => if z = x then some (.int Y t) else m z) ∧ News h₀ L h' news
theorem join {M : Model} {A : Around} {E : Value → Shared → Prop} {s : Shared} {env : Env} {st : Stmt} {rest : List Stmt} {Q : Flow → Shared → Prop} {h₀ : Heap} {L : Addr} {m : Str → Option Value} {news : List (Addr × Obj)} {x : Str} {Y : Int}
    (_hJ : JMark x Y) (F : Fr h₀ L s.heap m) (N : News h₀ L s.heap news) (h1 : wpAny M A (exec st env) (JEnd h₀ L s m x Y news) E s)
    (h2 : ∀ (t : Tok) (h' : Heap) (tk' : Nat), Fr h₀ L h' (fun z => if z = x then some (.int Y t) else m z) → News h₀ L h' news → wpAny M A (execs rest env) Q E { s with heap := h', toks := tk' }) : wpAny M A (execs (st :: rest) env) Q E s :=
  wpAny_execs_cons (wpAny_mono h1 (fun f s' hj => by
    obtain ⟨rfl, t, h', tk', rfl, F', N'⟩ := hj
    exact h2 t h' tk' F' N') fun _ _ h => h)
theorem jend_store {h₀ h' : Heap} {L : Addr} {s : Shared} {m : Str → Option Value} {x : Str} {Y v : Int} {news : List (Addr × Obj)} {t : Tok} {tk' : Nat}
    (F : Fr h₀ L h' (fun z => if z = x then some (.int v t) else m z)) (N : News h₀ L h' news) (e : v = Y) : JEnd h₀ L s m x Y news .next { s with heap := h', toks := tk' } := by
  subst e
  exact ⟨rfl, t, h', tk', rfl, F, N⟩
theorem jend_keep {h₀ h' : Heap} {L : Addr} {s : Shared} {m : Str → Option Value} {x : Str} {Y v : Int} {news : List (Addr × Obj)} {t : Tok} {tk' : Nat}
    (hm : m x = some (.int v t)) (F : Fr h₀ L h' m) (N : News h₀ L h' news) (e : v = Y) : JEnd h₀ L s m x Y news .next { s with heap := h', toks := tk' } := by
  subst e
  refine ⟨rfl, t, h', tk', rfl, ?_, N⟩
  have : (fun z => if z = x then some (.int v t) else m z) = m := by
    funext z
    by_cases h : z = x
    · subst h; rw [if_pos rfl]; exact hm.symm
    · rw [if_neg h]
  rw [this]
  exact F
/-- an if that stores two int names -/
structure JMark2 (x : Str) (Y : Int) (x2 : Str) (Y2 : Int) : Prop where
def JEnd2 (h₀ : Heap) (L : Addr) (s : Shared) (m : Str → Option Value) (x : Str) (Y : Int) (x2 : Str) (Y2 : Int) (news : List (Addr × Obj)) (f : Flow) (s' : Shared) : Prop :=
  f = .next ∧ ∃ (t t2 : Tok) (h' : Heap) (tk' : Nat), s' = { s with heap := h', toks := tk' } ∧ Fr h₀ L h' (fun z => if z = x2 then some (.int Y2 t2) else if z = x then some (.int Y t) else m z) ∧ News h₀ L h' news
theorem join2 {M : Model} {A : Around} {E : Value → Shared → Prop} {s : Shared} {env : Env} {st : Stmt} {rest : List Stmt} {Q : Flow → Shared → Prop} {h₀ : Heap} {L : Addr} {m : Str → Option Value} {news : List (Addr × Obj)} {x : Str} {Y : Int} {x2 : Str} {Y2 : Int}
    (_hJ : JMark2 x Y x2 Y2) (F : Fr h₀ L s.heap m) (N : News h₀ L s.heap news) (h1 : wpAny M A (exec st env) (JEnd2 h₀ L s m x Y x2 Y2 news) E s)
    (h2 : ∀ (t t2 : Tok) (h' : Heap) (tk' : Nat), Fr h₀ L h' (fun z => if z = x2 then some (.int Y2 t2) else if z = x then some (.int Y t) else m z) → News h₀ L h' news → wpAny M A (execs rest env) Q E { s with heap := h', toks := tk' }) : wpAny M A (execs (st :: rest) env) Q E s :=
  wpAny_execs_cons (wpAny_mono h1 (fun f s' hj => by
    obtain ⟨rfl, t, t2, h', tk', rfl, F', N'⟩ := hj
    exact h2 t t2 h' tk' F' N') fun _ _ h => h)
theorem jend2_store {h₀ h' : Heap} {L : Addr} {s : Shared} {m : Str → Option Value} {x x2 : Str} {Y v Y2 v2 : Int} {news : List (Addr × Obj)} {t t2 : Tok} {tk' : Nat}
    (F : Fr h₀ L h' (fun z => if z = x2 then some (.int v2 t2) else if z = x then some (.int v t) else m z)) (N : News h₀ L h' news) (e : v = Y ∧ v2 = Y2) : JEnd2 h₀ L s m x Y x2 Y2 news .next { s with heap := h', toks := tk' } := by
  obtain ⟨rfl, rfl⟩ := e
  exact ⟨rfl, t, t2, h', tk', rfl, F, N⟩
theorem jend2_keep {h₀ h' : Heap} {L : Addr} {s : Shared} {m : Str → Option Value} {x x2 : Str} {Y v Y2 v2 : Int} {news : List (Addr × Obj)} {t t2 : Tok} {tk' : Nat}
    (hm : m x = some (.int v t)) (hm2 : m x2 = some (.int v2 t2)) (F : Fr h₀ L h' m) (N : News h₀ L h' news) (e : v = Y ∧ v2 = Y2) : JEnd2 h₀ L s m x Y x2 Y2 news .next { s with heap := h', toks := tk' } := by
  obtain ⟨rfl, rfl⟩ := e
  refine ⟨rfl, t, t2, h', tk', rfl, ?_, N⟩
  have : (fun z => if z = x2 then some (.int v2 t2) else if z = x then some (.int v t) else m z) = m := by
    funext z
    by_cases h2 : z = x2
    · subst h2; rw [if_pos rfl]; exact hm2.symm
    · rw [if_neg h2]
      by_cases h : z = x
      · subst h; rw [if_pos rfl]; exact hm.symm
      · rw [if_neg h]
  rw [this]
  exact F
theorem split_leap {v : Bool} {y : Int} {T F : Prop} (e : v = decide (lp y = 1)) (h1 : lp y = 1 → T) (h0 : lp y = 0 → F) : if v = true then T else F := by
  rcases lp_01 y with h | h
  · rw [if_neg]; exact h0 h; rw [e, h]; decide
  · rw [if_pos]; exact h1 h; rw [e, h]; decide
theorem split_leap1 {v : Bool} {y : Int} {T F : Prop} (e : v = decide (lp y = 1)) (h : lp y = 1) (h1 : T) : if v = true then T else F := split_leap e (fun _ => h1) fun h' => by omega
theorem split_leap0 {v : Bool} {y : Int} {T F : Prop} (e : v = decide (lp y = 1)) (h : lp y = 0) (h1 : F) : if v = true then T else F := split_leap e (fun h' => by omega) fun _ => h1
theorem bool_lp {v : Bool} {y : Int} (e : v = decide (lp y = 1)) : (if v = true then (1 : Int) else 0) = lp y := by
  rcases lp_01 y with h | h <;> rw [e, h] <;> rfl
theorem w_add_ib {prog : Program} {w : World} {A : Around} {E : Value → Shared → Prop} {s : Shared} {Q : Value → Shared → Prop} {a y : Int} {t : Tok} {b : Bool} (e : b = decide (lp y = 1))
    (h : Q (.int (a + lp y) s.toks) { s with toks := s.toks + 1 }) : wpAny (model prog w) A (binaryOp .Add (.int a t) (.bool b)) Q E s := add_int_bool (by rw [bool_lp e]; exact h)
theorem w_sub_ib {prog : Program} {w : World} {A : Around} {E : Value → Shared → Prop} {s : Shared} {Q : Value → Shared → Prop} {a y : Int} {t : Tok} {b : Bool} (e : b = decide (lp y = 1))
    (h : Q (.int (a - lp y) s.toks) { s with toks := s.toks + 1 }) : wpAny (model prog w) A (binaryOp .Sub (.int a t) (.bool b)) Q E s := IntBool.sub_int_bool (by rw [bool_lp e]; exact h)

/-- the day that is asked of -/
structure Mk (y m d : Int) : Prop where
theorem mlen_le (y m : Int) : mlen (lp y) m ≤ 31 := by
  unfold mlen
  have := lp_01 y
  split
  · omega
  · split <;> omega
theorem cum_cases (l m : Int) : (m ≤ 2 ∧ cum l m = (367 * m - 362) / 12) ∨ (2 < m ∧ cum l m = (367 * m - 362) / 12 + l - 2) := by
  unfold cum
  split <;> omega
theorem mlen_one (y : Int) {m : Int} (h : m = 1) : (1 : Int) ≤ 1 ∧ 1 ≤ mlen (lp y) m := by
  subst h
  have := lp_01 y
  simp [mlen]
theorem mlen_ge (y m : Int) : (1 : Int) ≤ 1 ∧ 1 ≤ mlen (lp y) m := by
  have := lp_01 y
  unfold mlen
  split
  · omega
  · split <;> omega
theorem cum_adj (l m : Int) : cum l m = (367 * m - 362) / 12 + adj l m := rfl
theorem yr_eq (y : Int) : yr y = 1721425 + 365 * (y - 1) + (y - 1) / 4 - (y - 1) / 100 + (y - 1) / 400 := rfl

abbrev Ret2E (P : Prop) (a b : Int) : RetT := fun h₀ L m news s Q => ∀ (D : Addr) (a' b' : Int) (t1 t2 : Tok) (k : Nat) (h' : Heap) (tk' : Nat), P → a' = a → b' = b → Fr h₀ L h' m → News h₀ L h' [(D, Tup2 a' b' t1 t2 k)] → News h₀ L h' news → Q (.ref D) { s with heap := h', toks := tk' }
abbrev RetHE (P : Prop) (p : Int) : RetT := fun h₀ L m news s Q => ∀ (z : UInt64) (q : Int) (t : Tok) (h' : Heap) (tk' : Nat), P → Hf z q → q = p → Fr h₀ L h' m → News h₀ L h' news → Q (.float z t) { s with heap := h', toks := tk' }
abbrev RetBE (P : Prop) (x : Bool) : RetT := fun h₀ L m news s Q => ∀ (v : Bool) (h' : Heap) (tk' : Nat), P → v = x → Fr h₀ L h' m → News h₀ L h' news → Q (.bool v) { s with heap := h', toks := tk' }
local macro_rules | `(tactic| walk_at "eval Call") => `(tactic| (k_here; (with_reducible show wpAny _ _ (eval (Expr.Call (Expr.Name _ _) _ [] _) _) _ _ _); k_dflt (refine Call_ ?_)))
local macro_rules | `(tactic| walk_at "binaryOp Add float float") => `(tactic| (k_here; (with_reducible show wpAny _ _ (binaryOp _ (Value.float _ _) (Value.float _ _)) _ _ _); ((with_reducible refine' Mine.w_add_ff ?hx ?hy ?hb ?_; (case hx => with_reducible first | assumption | exact Mine.hf_epoch | exact Mine.hf_half | exact Mine.hf_1524 | exact Mine.hf_pos | exact Mine.hf_1_5); (case hy => with_reducible first | assumption | exact Mine.hf_epoch | exact Mine.hf_half | exact Mine.hf_1524 | exact Mine.hf_pos | exact Mine.hf_1_5); (case hb => k_dflt omega); k_whole; intro z hz; (try dsimp only)))))
local macro_rules | `(tactic| walk_at "inplaceOp Add float float") => `(tactic| (k_here; (with_reducible show wpAny _ _ (inplaceOp _ (Value.float _ _) (Value.float _ _)) _ _ _); ((with_reducible refine' Mine.w_iadd_ff ?hx ?hy ?hb ?_; (case hx => with_reducible first | assumption | exact Mine.hf_epoch | exact Mine.hf_half | exact Mine.hf_1524 | exact Mine.hf_pos | exact Mine.hf_1_5); (case hy => with_reducible first | assumption | exact Mine.hf_epoch | exact Mine.hf_half | exact Mine.hf_1524 | exact Mine.hf_pos | exact Mine.hf_1_5); (case hb => k_dflt omega); k_whole; intro z hz; (try dsimp only)))))
local macro_rules | `(tactic| walk_at "binaryOp Sub float float") => `(tactic| (k_here; (with_reducible show wpAny _ _ (binaryOp _ (Value.float _ _) (Value.float _ _)) _ _ _); ((with_reducible refine' Mine.w_sub_ff ?hx ?hy ?hb ?_; (case hx => with_reducible first | assumption | exact Mine.hf_epoch | exact Mine.hf_half | exact Mine.hf_1524 | exact Mine.hf_pos | exact Mine.hf_1_5); (case hy => with_reducible first | assumption | exact Mine.hf_epoch | exact Mine.hf_half | exact Mine.hf_1524 | exact Mine.hf_pos | exact Mine.hf_1_5); (case hb => k_dflt omega); k_whole; intro z hz; (try dsimp only)))))
local macro_rules | `(tactic| walk_at "binaryOp Add float int") => `(tactic| (k_here; (with_reducible show wpAny _ _ (binaryOp _ (Value.float _ _) (Value.int _ _)) _ _ _); (first
  | (with_reducible refine' Mine.w_add_fi ?hA ?hx ?hb ?_; (case hA => k_dflt (exact rfl)); (case hx => with_reducible first | assumption | exact Mine.hf_epoch | exact Mine.hf_half | exact Mine.hf_1524 | exact Mine.hf_pos | exact Mine.hf_1_5); (case hb => k_dflt omega); k_whole; intro z hz; (try dsimp only))
  | (with_reducible refine' Mine.w_addn_fi ?hA ?hx ?hb ?_; (case hA => k_dflt (exact rfl)); (case hx => with_reducible assumption); (case hb => k_dflt omega); k_whole; intro z hz; (try dsimp only)))))
local macro_rules | `(tactic| walk_at "binaryOp Sub float int") => `(tactic| (k_here; (with_reducible show wpAny _ _ (binaryOp _ (Value.float _ _) (Value.int _ _)) _ _ _); ((with_reducible refine' Mine.w_sub_fi ?hA ?hx ?hb ?_; (case hA => k_dflt (exact rfl)); (case hx => with_reducible first | assumption | exact Mine.hf_epoch | exact Mine.hf_half | exact Mine.hf_1524 | exact Mine.hf_pos | exact Mine.hf_1_5); (case hb => k_dflt omega); k_whole; intro z hz; (try dsimp only)))))
local macro_rules | `(tactic| walk_at "binaryOp Add int float") => `(tactic| (k_here; (with_reducible show wpAny _ _ (binaryOp _ (Value.int _ _) (Value.float _ _)) _ _ _); ((with_reducible refine' Mine.w_add_if ?hA ?hx ?hb ?_; (case hA => k_dflt (exact rfl)); (case hx => with_reducible first | assumption | exact Mine.hf_epoch | exact Mine.hf_half | exact Mine.hf_1524 | exact Mine.hf_pos | exact Mine.hf_1_5); (case hb => k_dflt omega); k_whole; intro z hz; (try dsimp only)))))
local macro_rules | `(tactic| walk_at "binaryOp Sub int float") => `(tactic| (k_here; (with_reducible show wpAny _ _ (binaryOp _ (Value.int _ _) (Value.float _ _)) _ _ _); (first
  | (with_reducible refine' Mine.w_sub_122 ?hA ?hcc ?hb ?_; (case hcc => with_reducible rfl); (case hA => k_dflt (exact rfl)); (case hb => k_dflt omega); k_whole; intro z hz; (try dsimp only))
  | (with_reducible refine' Mine.w_sub_if ?hA ?hx ?hb ?_; (case hA => k_dflt (exact rfl)); (case hx => with_reducible first | assumption | exact Mine.hf_epoch | exact Mine.hf_half | exact Mine.hf_1524 | exact Mine.hf_pos | exact Mine.hf_1_5); (case hb => k_dflt omega); k_whole; intro z hz; (try dsimp only)))))
local macro_rules | `(tactic| walk_at "binaryOp Mult float int") => `(tactic| (k_here; (with_reducible show wpAny _ _ (binaryOp _ (Value.float _ _) (Value.int _ _)) _ _ _); (first
  | (with_reducible refine' Mine.w_mul_365 ?hA ?hcc ?hb ?_; (case hcc => with_reducible rfl); (case hA => k_dflt (exact rfl)); (case hb => k_dflt omega); k_whole; intro z hz; (try dsimp only))
  | (with_reducible refine' Mine.w_mul_306001 ?hA ?hcc ?hb ?_; (case hcc => with_reducible rfl); (case hA => k_dflt (exact rfl)); (case hb => k_dflt omega); k_whole; intro z hz; (try dsimp only))
  | (with_reducible refine' Mine.w_mul_306 ?hA ?hcc ?hb ?_; (case hcc => with_reducible rfl); (case hA => k_dflt (exact rfl)); (case hb => k_dflt omega); k_whole; intro z hz; (try dsimp only))
  | (with_reducible refine' Mine.w_mul_fi ?hA ?hx ?hb ?_; (case hA => k_dflt (exact rfl)); (case hx => with_reducible first | assumption | exact Mine.hf_epoch | exact Mine.hf_half | exact Mine.hf_1524 | exact Mine.hf_pos | exact Mine.hf_1_5); (case hb => k_dflt omega); k_whole; intro z hz; (try dsimp only)))))
local macro_rules | `(tactic| walk_at "binaryOp Mod float int") => `(tactic| (k_here; (with_reducible show wpAny _ _ (binaryOp _ (Value.float _ _) (Value.int _ _)) _ _ _); ((with_reducible refine' Mine.w_mod_fi ?hA ?hx ?hb ?_; (case hA => k_dflt (exact rfl)); (case hx => with_reducible first | assumption | exact Mine.hf_epoch | exact Mine.hf_half | exact Mine.hf_1524 | exact Mine.hf_pos | exact Mine.hf_1_5); (case hb => k_dflt omega); k_whole; intro z r hr hz; (try dsimp only)))))
local macro_rules | `(tactic| walk_at "binaryOp Div float int") => `(tactic| (k_here; (with_reducible show wpAny _ _ (binaryOp _ (Value.float _ _) (Value.int _ _)) _ _ _); ((with_reducible refine' Mine.w_div_fi ?hA ?hx ?hb ?_; (case hA => k_dflt (exact rfl)); (case hx => with_reducible first | assumption | exact Mine.hf_epoch | exact Mine.hf_half | exact Mine.hf_1524 | exact Mine.hf_pos | exact Mine.hf_1_5); (case hb => k_dflt omega); k_whole; intro z hz; (try dsimp only)))))
local macro_rules | `(tactic| walk_at "binaryOp Div int int") => `(tactic| (k_here; (with_reducible show wpAny _ _ (binaryOp _ (Value.int _ _) (Value.int _ _)) _ _ _); ((with_reducible refine' Mine.w_div_ii ?hA ?hb ?_; (case hA => k_dflt (exact rfl)); (case hb => k_dflt omega); k_whole; intro z hz; (try dsimp only)))))
local macro_rules | `(tactic| walk_at "binaryOp Div float float") => `(tactic| (k_here; (with_reducible show wpAny _ _ (binaryOp _ (Value.float _ _) (Value.float _ _)) _ _ _); ((with_reducible refine' Mine.w_div_365 ?hA ?hcc ?hx ?hb ?_; (case hcc => with_reducible rfl); (case hA => k_dflt (exact rfl)); (case hx => with_reducible assumption); (case hb => k_dflt omega); k_whole; intro z hz; (try dsimp only)))))
local macro_rules | `(tactic| walk_at "binaryOp Div int float") => `(tactic| (k_here; (with_reducible show wpAny _ _ (binaryOp _ (Value.int _ _) (Value.float _ _)) _ _ _); ((with_reducible refine' Mine.w_div_306001 ?hA ?hcc ?hb ?_; (case hcc => with_reducible rfl); (case hA => k_dflt (exact rfl)); (case hb => k_dflt omega); k_whole; intro z hz; (try dsimp only)))))
local macro_rules | `(tactic| walk_at "call builtin:math.floor") => `(tactic| (k_here; (with_reducible show wpAny _ _ (call _ [Value.float _ _]) _ _ _); (first
  | (with_reducible refine' Mine.w_floor_h ?hA ?hx ?_; (case hA => k_dflt (exact rfl)); (case hx => with_reducible assumption); k_whole; intro r hr; (try dsimp only))
  | (with_reducible refine' Mine.w_floor_n ?hA ?hx ?hb ?_; (case hA => k_dflt (exact rfl)); (case hx => with_reducible assumption); (case hb => k_dflt omega); k_whole; intro r hr; (try dsimp only))
  | (with_reducible refine' Mine.w_floor_q ?hA ?hx ?_; (case hA => k_dflt (exact rfl)); (case hx => with_reducible assumption); k_whole; intro r hr; (try dsimp only)))))
local macro_rules | `(tactic| walk_at "call builtin:math.trunc") => `(tactic| (k_here; (with_reducible show wpAny _ _ (call _ [Value.float _ _]) _ _ _); (first
  | (with_reducible refine' Mine.w_trunc_q ?hA ?hx ?_; (case hA => k_dflt (exact rfl)); (case hx => with_reducible assumption); k_whole; intro r hr; (try dsimp only))
  | (with_reducible refine' Mine.w_trunc_n ?hA ?hx ?hb ?_; (case hA => k_dflt (exact rfl)); (case hx => with_reducible assumption); (case hb => k_dflt omega); k_whole; intro r hr; (try dsimp only)))))
local macro_rules | `(tactic| walk_at "call type:int") => `(tactic| (k_here; (with_reducible show wpAny _ _ (call _ [Value.float _ _]) _ _ _); ((with_reducible refine' Mine.w_int_h ?hA ?hx ?hb ?_; (case hA => k_dflt (exact rfl)); (case hx => with_reducible assumption); (case hb => k_dflt omega); k_whole; intro r hr; (try dsimp only)))))
local macro_rules | `(tactic| walk_at "compareOp Eq float float") => `(tactic| (k_here; (with_reducible show wpAny _ _ (compareOp _ (Value.float _ _) (Value.float _ _)) _ _ _); ((with_reducible refine' Mine.w_eq_ff ?hx ?hy ?_; (case hx => with_reducible first | assumption | exact Mine.hf_epoch | exact Mine.hf_half | exact Mine.hf_1524 | exact Mine.hf_pos | exact Mine.hf_1_5); (case hy => with_reducible first | assumption | exact Mine.hf_epoch | exact Mine.hf_half | exact Mine.hf_1524 | exact Mine.hf_pos | exact Mine.hf_1_5); k_whole; skip; (try dsimp only)))))
local macro_rules | `(tactic| walk_at "compareOp NotEq float float") => `(tactic| (k_here; (with_reducible show wpAny _ _ (compareOp _ (Value.float _ _) (Value.float _ _)) _ _ _); ((with_reducible refine' Mine.w_ne_ff ?hx ?hy ?_; (case hx => with_reducible first | assumption | exact Mine.hf_epoch | exact Mine.hf_half | exact Mine.hf_1524 | exact Mine.hf_pos | exact Mine.hf_1_5); (case hy => with_reducible first | assumption | exact Mine.hf_epoch | exact Mine.hf_half | exact Mine.hf_1524 | exact Mine.hf_pos | exact Mine.hf_1_5); k_whole; skip; (try dsimp only)))))
local macro_rules | `(tactic| walk_at "compareOp GtE float float") => `(tactic| (k_here; (with_reducible show wpAny _ _ (compareOp _ (Value.float _ _) (Value.float _ _)) _ _ _); ((with_reducible refine' Mine.w_ge_ff ?hx ?hy ?_; (case hx => with_reducible first | assumption | exact Mine.hf_epoch | exact Mine.hf_half | exact Mine.hf_1524 | exact Mine.hf_pos | exact Mine.hf_1_5); (case hy => with_reducible first | assumption | exact Mine.hf_epoch | exact Mine.hf_half | exact Mine.hf_1524 | exact Mine.hf_pos | exact Mine.hf_1_5); k_whole; skip; (try dsimp only)))))
local macro_rules | `(tactic| walk_at "compareOp Lt float int") => `(tactic| (k_here; (with_reducible show wpAny _ _ (compareOp _ (Value.float _ _) (Value.int _ _)) _ _ _); ((with_reducible refine' Mine.w_lt_fi ?hx ?_; (case hx => with_reducible first | assumption | exact Mine.hf_epoch | exact Mine.hf_half | exact Mine.hf_1524 | exact Mine.hf_pos | exact Mine.hf_1_5); k_whole; skip; (try dsimp only)))))
local macro_rules | `(tactic| walk_at "ite") => `(tactic| (k_here; k_openite; first | (refine ite_pos (by with_reducible assumption) ?_; walk_say "PRUNED") | (refine ite_neg (by with_reducible assumption) ?_; walk_say "PRUNED") | (refine ite_isFalse (by with_reducible assumption) ?_; walk_say "PRUNED") | (refine ite_pos (by with_reducible (first | omega | (simp only [beq_iff_eq]; omega) | (simp only [decide_eq_true_eq]; omega) | (simp only [Bool.not_eq_true', decide_eq_false_iff_not]; omega) | (simp only [bne_iff_ne, ne_eq]; omega) | (simp only [Bool.not_eq_true', beq_eq_false_iff_ne, ne_eq]; omega) | (simp only [Bool.and_eq_true, Bool.or_eq_true, decide_eq_true_eq, beq_iff_eq, bne_iff_ne, Bool.not_eq_true', decide_eq_false_iff_not]; omega))) ?_; walk_say "PRUNED MINE") | (refine ite_neg (by with_reducible (first | omega | (simp only [beq_iff_eq]; omega) | (simp only [decide_eq_true_eq]; omega) | (simp only [Bool.not_eq_true', decide_eq_false_iff_not]; omega) | (simp only [bne_iff_ne, ne_eq]; omega) | (simp only [Bool.not_eq_true', beq_eq_false_iff_ne, ne_eq]; omega) | (simp only [Bool.and_eq_true, Bool.or_eq_true, decide_eq_true_eq, beq_iff_eq, bne_iff_ne, Bool.not_eq_true', decide_eq_false_iff_not]; omega))) ?_; walk_say "PRUNED MINE")))
local macro_rules | `(tactic| walk_at "ite") => `(tactic| (k_here; k_openite; first | (refine Mine.split_leap1 (by with_reducible assumption) (by with_reducible assumption) ?_) | (refine Mine.split_leap0 (by with_reducible assumption) (by with_reducible assumption) ?_) | (refine Mine.split_leap (by with_reducible assumption) ?_ ?_ <;> intro hl) | (refine Mine.split_jl (by with_reducible assumption) ?_ ?_ <;> intro hl)))
local macro_rules | `(tactic| walk_at "binaryOp Add int bool") => `(tactic| (k_here; with_reducible refine' Mine.w_add_ib ?k1 ?_; (case k1 => with_reducible assumption); k_whole; (try dsimp only)))
local macro_rules | `(tactic| walk_at "binaryOp Sub int bool") => `(tactic| (k_here; with_reducible refine' Mine.w_sub_ib ?k1 ?_; (case k1 => with_reducible assumption); k_whole; (try dsimp only)))
local macro_rules | `(tactic| walk_at "execs cons If") => `(tactic| (k_here; (with_reducible rename Mine.JMark _ _ => hj9); (with_reducible rename Fr _ _ _ _ => F0); (with_reducible rename News _ _ _ _ => N0); k_dflt (refine' Mine.join hj9 F0 N0 ?_ ?_; rotate_left; clear hj9; intro t9 h9 tk9 F9 N9; (try k_sweep); (try dsimp only); (try k_fold); rotate_left; clear hj9; (try dsimp only); (try k_fold))))
local macro_rules | `(tactic| walk_at "JEnd") => `(tactic| ((with_reducible rename Fr _ _ _ _ => F0); (with_reducible rename News _ _ _ _ => N0); k_dflt (first | (refine' Mine.jend_store F0 N0 ?_; k_whole) | (refine' Mine.jend_keep ?hm F0 N0 ?_; (case hm => rfl); k_whole)); first | assumption | omega | (unfold Mine.mlen; (repeat' split) <;> omega) | (unfold Mine.adj; (repeat' split) <;> omega) | tb_rel | tb_start))
local macro_rules | `(tactic| walk_at "execs cons If") => `(tactic| (k_here; (with_reducible rename Mine.JMark2 _ _ _ _ => hj9); (with_reducible rename Fr _ _ _ _ => F0); (with_reducible rename News _ _ _ _ => N0); k_dflt (refine' Mine.join2 hj9 F0 N0 ?_ ?_; rotate_left; clear hj9; intro t9 u9 h9 tk9 F9 N9; (try k_sweep); (try dsimp only); (try k_fold); rotate_left; clear hj9; (try dsimp only); (try k_fold))))
local macro_rules | `(tactic| walk_at "JEnd2") => `(tactic| ((with_reducible rename Fr _ _ _ _ => F0); (with_reducible rename News _ _ _ _ => N0); k_dflt (first | (refine' Mine.jend2_store F0 N0 ?_; k_whole) | (refine' Mine.jend2_keep ?hm ?hm2 F0 N0 ?_; (case hm => rfl); (case hm2 => rfl); k_whole)); (refine ⟨?_, ?_⟩) <;> (first | omega | (unfold Mine.yj; (repeat' split) <;> omega) | (unfold Mine.mj; (repeat' split) <;> omega))))
local macro_rules | `(tactic| walk_at "compareOp In int ref") => `(tactic| (k_here; k_dflt (refine' Mine.w_in30 ?k1 ?k2 ?k3 ?_; (case k1 => k_asm); (case k2 => k_asm); (case k3 => k_is))))
theorem c_isleap (w : World) (y : Int) (t : Tok) : Claim w 50 1 [.int y t] (RetB (decide (lp y = 1))) := by
  w_top off
  k_with_none
  have kfill : PySem.Challenge.rw_ak5020_01 = PySem.Challenge.rw_ak5020_01 ∧ hd.heap_39 = hd.heap_39 := by
    k_fill
    exact ⟨rfl, rfl⟩
  clear kfill
  all_goals dsimp only [Claim, RetB, RetI, RetH, Ret2, Ret3]
  all_goals intros
  all_goals rename_i hret
  all_goals (try obtain ⟨hmem, hret⟩ := hret)
  all_goals refine wpAny_call ?_
  all_goals k_dflt cell_enter
  all_goals k_steps
  all_goals exact hret _ _ _ (by first | exact leap1 (by assumption) (by assumption) | exact leap2 (by assumption) (by assumption) | exact leap3 (by assumption)) (by k_asm) (by k_asm)

local macro_rules | `(tactic| walk_at "call ref") => `(tactic| (k_here; (with_reducible show wpAny _ _ (call (Value.ref 50) _) _ _ _); k_dflt (refine' Mine.Claim.use (Mine.c_isleap _ _ _) ?k1 ?k2 ?k3 ?k4 ?k5 ?k6 ?k7 ?k8 ?_; (case k1 => k_asm); (case k2 => k_asm); (case k3 => k_asm); (case k4 => k_asm); (case k5 => k_asm); (case k6 => first | exact rfl | assumption); (case k7 => ktr_room); (case k8 => ktr_units); k_whole; (try dsimp only [Mine.RetB, Mine.RetI, Mine.RetH, Mine.Ret2, Mine.Ret3]); intro v h9 tk9 e9 F9 N9; (try dsimp only); (try k_fold))))
theorem c_legal (w : World) (y m d : Int) (t1 t2 t3 : Tok) (hm : 1 ≤ m ∧ m ≤ 12) (hdd : 1 ≤ d ∧ d ≤ mlen (lp y) m) : Claim w 57 2 [.int y t1, .int m t2, .int d t3] (RetB true) := by
  w_top off
  k_with_none
  have kfill : PySem.Challenge.rw_ak5020_01 = PySem.Challenge.rw_ak5020_01 ∧ hd.heap_39 = hd.heap_39 := by
    k_fill
    exact ⟨rfl, rfl⟩
  clear kfill
  have hj : JMark (Str.ofString "daysinmonth") (mlen (lp y) m) := ⟨⟩
  all_goals dsimp only [Claim, RetB, RetI, RetH, Ret2, Ret3]
  all_goals intros
  all_goals rename_i hret
  all_goals (try obtain ⟨hmem, hret⟩ := hret)
  all_goals refine wpAny_call ?_
  all_goals k_dflt cell_enter
  all_goals k_steps
  all_goals exact hret _ _ _ rfl (by k_asm) (by k_asm)

local macro_rules | `(tactic| walk_at "call ref") => `(tactic| (k_here; (with_reducible show wpAny _ _ (call (Value.ref 57) _) _ _ _); k_dflt (refine' Mine.Claim.use (Mine.c_legal _ _ _ _ _ _ _ ?p1 ?p2) ?k1 ?k2 ?k3 ?k4 ?k5 ?k6 ?k7 ?k8 ?_; (case k1 => k_asm); (case k2 => k_asm); (case k3 => k_asm); (case k4 => k_asm); (case k5 => k_asm); (case k6 => first | exact rfl | assumption); (case k7 => ktr_room); (case k8 => ktr_units); (case p1 => omega); (case p2 => assumption); k_whole; (try dsimp only [Mine.RetB, Mine.RetI, Mine.RetH, Mine.Ret2, Mine.Ret3]); intro v h9 tk9 e9 F9 N9; subst e9; (try dsimp only); (try k_fold))))
theorem c_to_jd_gregorian (w : World) (y m d : Int) (t1 t2 t3 : Tok) (hy : -50000 ≤ y ∧ y ≤ 50000) (hm : 1 ≤ m ∧ m ≤ 12) (hdd : 1 ≤ d ∧ d ≤ mlen (lp y) m) : Claim w 71 3 [.int y t1, .int m t2, .int d t3] (RetH (2 * (yr y + cum (lp y) m + d) - 1)) := by
  w_top off
  k_with_none
  have kfill : PySem.Challenge.rw_ak5020_01 = PySem.Challenge.rw_ak5020_01 ∧ hd.heap_39 = hd.heap_39 := by
    k_fill
    exact ⟨rfl, rfl⟩
  clear kfill
  have h31 := mlen_le y m
  have hj : JMark (Str.ofString "leap_adj") (adj (lp y) m) := ⟨⟩
  have ha := adj_cases (lp_01 y) m
  all_goals dsimp only [Claim, RetB, RetI, RetH, Ret2, Ret3]
  all_goals intros
  all_goals rename_i hret
  all_goals (try obtain ⟨hmem, hret⟩ := hret)
  all_goals refine wpAny_call ?_
  all_goals k_dflt cell_enter
  all_goals k_steps
  all_goals exact hret _ _ _ _ _ (by assumption) (by have h1 := cum_adj (lp y) m; have h2 := yr_eq y; omega) (by k_asm) (by k_asm)

local macro_rules | `(tactic| walk_at "call ref") => `(tactic| (k_here; (with_reducible show wpAny _ _ (call (Value.ref 71) _) _ _ _); k_dflt (refine' Mine.Claim.use (Mine.c_to_jd_gregorian _ _ _ _ _ _ _ ?p1 ?p2 ?p3) ?k1 ?k2 ?k3 ?k4 ?k5 ?k6 ?k7 ?k8 ?_; (case k1 => k_asm); (case k2 => k_asm); (case k3 => k_asm); (case k4 => k_asm); (case k5 => k_asm); (case k6 => first | exact rfl | assumption); (case k7 => ktr_room); (case k8 => ktr_units); (case p1 => omega); (case p2 => omega); (case p3 => first | assumption | omega); k_whole; (try dsimp only [Mine.RetB, Mine.RetI, Mine.RetH, Mine.Ret2, Mine.Ret3]); intro z q t9 h9 tk9 z9 e9 F9 N9; subst e9; (try dsimp only); (try k_fold))))

theorem c_to_jd_at1 (w : World) {y' y m d : Int} {m' d' : Int} {t1 t2 t3 : Tok} (_hY : Mk y m d) (e : y' = y) (e2 : m' = 1) (e3 : d' = 1) (hy : -50000 ≤ y ∧ y ≤ 50000) :
    Claim w 71 3 [.int y' t1, .int m' t2, .int d' t3] (RetHE (y' = y) (2 * (yr y + 1) - 1)) := by
  subst e; subst e2; subst e3
  have h := c_to_jd_gregorian w y' 1 1 t1 t2 t3 hy (by omega) (mlen_one y' rfl)
  have e1 : cum (lp y') 1 = 0 := by have := cum_cases (lp y') 1; omega
  rw [e1, Int.add_zero] at h
  intro loose mean mg mb dp un gd cn cs a ccd cl outer A₀ base h₀ L m news s Q E hB hF hK hN hT hk hd hu hR
  exact h _ _ _ _ _ _ _ _ _ _ _ _ _ _ _ _ _ _ _ _ _ _ hB hF hK hN hT hk hd hu (fun z q t h' tk' hz hq F N => hR z q t h' tk' rfl hz hq F N)
theorem c_to_jd_at2 (w : World) {y' y m d : Int} {m' d' : Int} {t1 t2 t3 : Tok} (_hY : Mk y m d) (e : y' = y) (e2 : m' = m) (e3 : d' = 1) (hy : -50000 ≤ y ∧ y ≤ 50000) (hm : 1 ≤ m ∧ m ≤ 12) :
    Claim w 71 3 [.int y' t1, .int m' t2, .int d' t3] (RetHE (m' = m) (2 * (yr y + cum (lp y) m + 1) - 1)) := by
  subst e; subst e2; subst e3
  have h := c_to_jd_gregorian w y' m' 1 t1 t2 t3 hy hm (mlen_ge y' m')
  intro loose mean mg mb dp un gd cn cs a ccd cl outer A₀ base h₀ L m news s Q E hB hF hK hN hT hk hd hu hR
  exact h _ _ _ _ _ _ _ _ _ _ _ _ _ _ _ _ _ _ _ _ _ _ hB hF hK hN hT hk hd hu (fun z q t h' tk' hz hq F N => hR z q t h' tk' rfl hz hq F N)
theorem c_isleap_at (w : World) {y' y m d : Int} {t : Tok} (_hY : Mk y m d) (e : y' = y) : Claim w 50 1 [.int y' t] (RetB (decide (lp y = 1))) := by
  subst e
  exact c_isleap w y' t
local macro_rules | `(tactic| walk_at "call ref") => `(tactic| (k_here; (with_reducible show wpAny _ _ (call (Value.ref 50) _) _ _ _); k_dflt (refine' Mine.Claim.use (Mine.c_isleap_at _ ?p1 ?p2) ?k1 ?k2 ?k3 ?k4 ?k5 ?k6 ?k7 ?k8 ?_; (case p1 => assumption); (case p2 => first | assumption | rfl); (case k1 => k_asm); (case k2 => k_asm); (case k3 => k_asm); (case k4 => k_asm); (case k5 => k_asm); (case k6 => first | exact rfl | assumption); (case k7 => ktr_room); (case k8 => ktr_units); k_whole; (try dsimp only [Mine.RetB, Mine.RetI, Mine.RetH, Mine.Ret2, Mine.Ret2E, Mine.Ret3, Mine.RetHE, Mine.RetBE]); intro v h9 tk9 e9 F9 N9; (try dsimp only); (try k_fold))))
local macro_rules | `(tactic| walk_at "call ref") => `(tactic| (k_here; (with_reducible show wpAny _ _ (call (Value.ref 71) _) _ _ _); k_dflt (refine' Mine.Claim.use (Mine.c_to_jd_at2 _ ?p1 ?p2 ?p3 ?p4 ?p5 ?p6) ?k1 ?k2 ?k3 ?k4 ?k5 ?k6 ?k7 ?k8 ?_; (case p1 => assumption); (case p2 => first | assumption | rfl); (case p3 => first | assumption | omega); (case p4 => exact rfl); (case p5 => assumption); (case p6 => omega); (case k1 => k_asm); (case k2 => k_asm); (case k3 => k_asm); (case k4 => k_asm); (case k5 => k_asm); (case k6 => first | exact rfl | assumption); (case k7 => ktr_room); (case k8 => ktr_units); k_whole; (try dsimp only [Mine.RetB, Mine.RetI, Mine.RetH, Mine.Ret2, Mine.Ret2E, Mine.Ret3, Mine.RetHE, Mine.RetBE]); intro z q t9 h9 tk9 ee9 z9 e9 F9 N9; subst e9; (try dsimp only); (try k_fold))))
local macro_rules | `(tactic| walk_at "call ref") => `(tactic| (k_here; (with_reducible show wpAny _ _ (call (Value.ref 71) _) _ _ _); k_dflt (refine' Mine.Claim.use (Mine.c_to_jd_at1 _ ?p1 ?p2 ?p3 ?p4 ?p5) ?k1 ?k2 ?k3 ?k4 ?k5 ?k6 ?k7 ?k8 ?_; (case p1 => assumption); (case p2 => first | assumption | rfl | tb_start); (case p3 => exact rfl); (case p4 => exact rfl); (case p5 => assumption); (case k1 => k_asm); (case k2 => k_asm); (case k3 => k_asm); (case k4 => k_asm); (case k5 => k_asm); (case k6 => first | exact rfl | assumption); (case k7 => ktr_room); (case k8 => ktr_units); k_whole; (try dsimp only [Mine.RetB, Mine.RetI, Mine.RetH, Mine.Ret2, Mine.Ret2E, Mine.Ret3, Mine.RetHE, Mine.RetBE]); intro z q t9 h9 tk9 ee9 z9 e9 F9 N9; subst e9; (try dsimp only); (try k_fold))))
end Mine

namespace Mine
open PySem.Flt
local macro_rules | `(tactic| walk_at "eval Call") => `(tactic| (k_here; (with_reducible show wpAny _ _ (eval (Expr.Call (Expr.Name _ _) _ [] _) _) _ _ _); k_dflt (refine Call_ ?_)))
local macro_rules | `(tactic| walk_at "binaryOp Add float float") => `(tactic| (k_here; (with_reducible show wpAny _ _ (binaryOp _ (Value.float _ _) (Value.float _ _)) _ _ _); ((with_reducible refine' Mine.w_add_ff ?hx ?hy ?hb ?_; (case hx => with_reducible first | assumption | exact Mine.hf_epoch | exact Mine.hf_half | exact Mine.hf_1524 | exact Mine.hf_pos | exact Mine.hf_1_5); (case hy => with_reducible first | assumption | exact Mine.hf_epoch | exact Mine.hf_half | exact Mine.hf_1524 | exact Mine.hf_pos | exact Mine.hf_1_5); (case hb => k_dflt omega); k_whole; intro z hz; (try dsimp only)))))
local macro_rules | `(tactic| walk_at "inplaceOp Add float float") => `(tactic| (k_here; (with_reducible show wpAny _ _ (inplaceOp _ (Value.float _ _) (Value.float _ _)) _ _ _); ((with_reducible refine' Mine.w_iadd_ff ?hx ?hy ?hb ?_; (case hx => with_reducible first | assumption | exact Mine.hf_epoch | exact Mine.hf_half | exact Mine.hf_1524 | exact Mine.hf_pos | exact Mine.hf_1_5); (case hy => with_reducible first | assumption | exact Mine.hf_epoch | exact Mine.hf_half | exact Mine.hf_1524 | exact Mine.hf_pos | exact Mine.hf_1_5); (case hb => k_dflt omega); k_whole; intro z hz; (try dsimp only)))))
local macro_rules | `(tactic| walk_at "binaryOp Sub float float") => `(tactic| (k_here; (with_reducible show wpAny _ _ (binaryOp _ (Value.float _ _) (Value.float _ _)) _ _ _); ((with_reducible refine' Mine.w_sub_ff ?hx ?hy ?hb ?_; (case hx => with_reducible first | assumption | exact Mine.hf_epoch | exact Mine.hf_half | exact Mine.hf_1524 | exact Mine.hf_pos | exact Mine.hf_1_5); (case hy => with_reducible first | assumption | exact Mine.hf_epoch | exact Mine.hf_half | exact Mine.hf_1524 | exact Mine.hf_pos | exact Mine.hf_1_5); (case hb => k_dflt omega); k_whole; intro z hz; (try dsimp only)))))
local macro_rules | `(tactic| walk_at "binaryOp Add float int") => `(tactic| (k_here; (with_reducible show wpAny _ _ (binaryOp _ (Value.float _ _) (Value.int _ _)) _ _ _); (first
  | (with_reducible refine' Mine.w_add_fi ?hA ?hx ?hb ?_; (case hA => k_dflt (exact rfl)); (case hx => with_reducible first | assumption | exact Mine.hf_epoch | exact Mine.hf_half | exact Mine.hf_1524 | exact Mine.hf_pos | exact Mine.hf_1_5); (case hb => k_dflt omega); k_whole; intro z hz; (try dsimp only))
  | (with_reducible refine' Mine.w_addn_fi ?hA ?hx ?hb ?_; (case hA => k_dflt (exact rfl)); (case hx => with_reducible assumption); (case hb => k_dflt omega); k_whole; intro z hz; (try dsimp only)))))
local macro_rules | `(tactic| walk_at "binaryOp Sub float int") => `(tactic| (k_here; (with_reducible show wpAny _ _ (binaryOp _ (Value.float _ _) (Value.int _ _)) _ _ _); ((with_reducible refine' Mine.w_sub_fi ?hA ?hx ?hb ?_; (case hA => k_dflt (exact rfl)); (case hx => with_reducible first | assumption | exact Mine.hf_epoch | exact Mine.hf_half | exact Mine.hf_1524 | exact Mine.hf_pos | exact Mine.hf_1_5); (case hb => k_dflt omega); k_whole; intro z hz; (try dsimp only)))))
local macro_rules | `(tactic| walk_at "binaryOp Add int float") => `(tactic| (k_here; (with_reducible show wpAny _ _ (binaryOp _ (Value.int _ _) (Value.float _ _)) _ _ _); ((with_reducible refine' Mine.w_add_if ?hA ?hx ?hb ?_; (case hA => k_dflt (exact rfl)); (case hx => with_reducible first | assumption | exact Mine.hf_epoch | exact Mine.hf_half | exact Mine.hf_1524 | exact Mine.hf_pos | exact Mine.hf_1_5); (case hb => k_dflt omega); k_whole; intro z hz; (try dsimp only)))))
local macro_rules | `(tactic| walk_at "binaryOp Sub int float") => `(tactic| (k_here; (with_reducible show wpAny _ _ (binaryOp _ (Value.int _ _) (Value.float _ _)) _ _ _); (first
  | (with_reducible refine' Mine.w_sub_122 ?hA ?hcc ?hb ?_; (case hcc => with_reducible rfl); (case hA => k_dflt (exact rfl)); (case hb => k_dflt omega); k_whole; intro z hz; (try dsimp only))
  | (with_reducible refine' Mine.w_sub_if ?hA ?hx ?hb ?_; (case hA => k_dflt (exact rfl)); (case hx => with_reducible first | assumption | exact Mine.hf_epoch | exact Mine.hf_half | exact Mine.hf_1524 | exact Mine.hf_pos | exact Mine.hf_1_5); (case hb => k_dflt omega); k_whole; intro z hz; (try dsimp only)))))
local macro_rules | `(tactic| walk_at "binaryOp Mult float int") => `(tactic| (k_here; (with_reducible show wpAny _ _ (binaryOp _ (Value.float _ _) (Value.int _ _)) _ _ _); (first
  | (with_reducible refine' Mine.w_mul_365 ?hA ?hcc ?hb ?_; (case hcc => with_reducible rfl); (case hA => k_dflt (exact rfl)); (case hb => k_dflt omega); k_whole; intro z hz; (try dsimp only))
  | (with_reducible refine' Mine.w_mul_306001 ?hA ?hcc ?hb ?_; (case hcc => with_reducible rfl); (case hA => k_dflt (exact rfl)); (case hb => k_dflt omega); k_whole; intro z hz; (try dsimp only))
  | (with_reducible refine' Mine.w_mul_306 ?hA ?hcc ?hb ?_; (case hcc => with_reducible rfl); (case hA => k_dflt (exact rfl)); (case hb => k_dflt omega); k_whole; intro z hz; (try dsimp only))
  | (with_reducible refine' Mine.w_mul_fi ?hA ?hx ?hb ?_; (case hA => k_dflt (exact rfl)); (case hx => with_reducible first | assumption | exact Mine.hf_epoch | exact Mine.hf_half | exact Mine.hf_1524 | exact Mine.hf_pos | exact Mine.hf_1_5); (case hb => k_dflt omega); k_whole; intro z hz; (try dsimp only)))))
local macro_rules | `(tactic| walk_at "binaryOp Mod float int") => `(tactic| (k_here; (with_reducible show wpAny _ _ (binaryOp _ (Value.float _ _) (Value.int _ _)) _ _ _); ((with_reducible refine' Mine.w_mod_fi ?hA ?hx ?hb ?_; (case hA => k_dflt (exact rfl)); (case hx => with_reducible first | assumption | exact Mine.hf_epoch | exact Mine.hf_half | exact Mine.hf_1524 | exact Mine.hf_pos | exact Mine.hf_1_5); (case hb => k_dflt omega); k_whole; intro z r hr hz; (try dsimp only)))))
local macro_rules | `(tactic| walk_at "binaryOp Div float int") => `(tactic| (k_here; (with_reducible show wpAny _ _ (binaryOp _ (Value.float _ _) (Value.int _ _)) _ _ _); ((with_reducible refine' Mine.w_div_fi ?hA ?hx ?hb ?_; (case hA => k_dflt (exact rfl)); (case hx => with_reducible first | assumption | exact Mine.hf_epoch | exact Mine.hf_half | exact Mine.hf_1524 | exact Mine.hf_pos | exact Mine.hf_1_5); (case hb => k_dflt omega); k_whole; intro z hz; (try dsimp only)))))
local macro_rules | `(tactic| walk_at "binaryOp Div int int") => `(tactic| (k_here; (with_reducible show wpAny _ _ (binaryOp _ (Value.int _ _) (Value.int _ _)) _ _ _); ((with_reducible refine' Mine.w_div_ii ?hA ?hb ?_; (case hA => k_dflt (exact rfl)); (case hb => k_dflt omega); k_whole; intro z hz; (try dsimp only)))))
local macro_rules | `(tactic| walk_at "binaryOp Div float float") => `(tactic| (k_here; (with_reducible show wpAny _ _ (binaryOp _ (Value.float _ _) (Value.float _ _)) _ _ _); ((with_reducible refine' Mine.w_div_365 ?hA ?hcc ?hx ?hb ?_; (case hcc => with_reducible rfl); (case hA => k_dflt (exact rfl)); (case hx => with_reducible assumption); (case hb => k_dflt omega); k_whole; intro z hz; (try dsimp only)))))
local macro_rules | `(tactic| walk_at "binaryOp Div int float") => `(tactic| (k_here; (with_reducible show wpAny _ _ (binaryOp _ (Value.int _ _) (Value.float _ _)) _ _ _); ((with_reducible refine' Mine.w_div_306001 ?hA ?hcc ?hb ?_; (case hcc => with_reducible rfl); (case hA => k_dflt (exact rfl)); (case hb => k_dflt omega); k_whole; intro z hz; (try dsimp only)))))
local macro_rules | `(tactic| walk_at "call builtin:math.floor") => `(tactic| (k_here; (with_reducible show wpAny _ _ (call _ [Value.float _ _]) _ _ _); (first
  | (with_reducible refine' Mine.w_floor_h ?hA ?hx ?_; (case hA => k_dflt (exact rfl)); (case hx => with_reducible assumption); k_whole; intro r hr; (try dsimp only))
  | (with_reducible refine' Mine.w_floor_n ?hA ?hx ?hb ?_; (case hA => k_dflt (exact rfl)); (case hx => with_reducible assumption); (case hb => k_dflt omega); k_whole; intro r hr; (try dsimp only))
  | (with_reducible refine' Mine.w_floor_q ?hA ?hx ?_; (case hA => k_dflt (exact rfl)); (case hx => with_reducible assumption); k_whole; intro r hr; (try dsimp only)))))
local macro_rules | `(tactic| walk_at "call builtin:math.trunc") => `(tactic| (k_here; (with_reducible show wpAny _ _ (call _ [Value.float _ _]) _ _ _); (first
  | (with_reducible refine' Mine.w_trunc_q ?hA ?hx ?_; (case hA => k_dflt (exact rfl)); (case hx => with_reducible assumption); k_whole; intro r hr; (try dsimp only))
  | (with_reducible refine' Mine.w_trunc_n ?hA ?hx ?hb ?_; (case hA => k_dflt (exact rfl)); (case hx => with_reducible assumption); (case hb => k_dflt omega); k_whole; intro r hr; (try dsimp only)))))
local macro_rules | `(tactic| walk_at "call type:int") => `(tactic| (k_here; (with_reducible show wpAny _ _ (call _ [Value.float _ _]) _ _ _); ((with_reducible refine' Mine.w_int_h ?hA ?hx ?hb ?_; (case hA => k_dflt (exact rfl)); (case hx => with_reducible assumption); (case hb => k_dflt omega); k_whole; intro r hr; (try dsimp only)))))
local macro_rules | `(tactic| walk_at "compareOp Eq float float") => `(tactic| (k_here; (with_reducible show wpAny _ _ (compareOp _ (Value.float _ _) (Value.float _ _)) _ _ _); ((with_reducible refine' Mine.w_eq_ff ?hx ?hy ?_; (case hx => with_reducible first | assumption | exact Mine.hf_epoch | exact Mine.hf_half | exact Mine.hf_1524 | exact Mine.hf_pos | exact Mine.hf_1_5); (case hy => with_reducible first | assumption | exact Mine.hf_epoch | exact Mine.hf_half | exact Mine.hf_1524 | exact Mine.hf_pos | exact Mine.hf_1_5); k_whole; skip; (try dsimp only)))))
local macro_rules | `(tactic| walk_at "compareOp NotEq float float") => `(tactic| (k_here; (with_reducible show wpAny _ _ (compareOp _ (Value.float _ _) (Value.float _ _)) _ _ _); ((with_reducible refine' Mine.w_ne_ff ?hx ?hy ?_; (case hx => with_reducible first | assumption | exact Mine.hf_epoch | exact Mine.hf_half | exact Mine.hf_1524 | exact Mine.hf_pos | exact Mine.hf_1_5); (case hy => with_reducible first | assumption | exact Mine.hf_epoch | exact Mine.hf_half | exact Mine.hf_1524 | exact Mine.hf_pos | exact Mine.hf_1_5); k_whole; skip; (try dsimp only)))))
local macro_rules | `(tactic| walk_at "compareOp GtE float float") => `(tactic| (k_here; (with_reducible show wpAny _ _ (compareOp _ (Value.float _ _) (Value.float _ _)) _ _ _); ((with_reducible refine' Mine.w_ge_ff ?hx ?hy ?_; (case hx => with_reducible first | assumption | exact Mine.hf_epoch | exact Mine.hf_half | exact Mine.hf_1524 | exact Mine.hf_pos | exact Mine.hf_1_5); (case hy => with_reducible first | assumption | exact Mine.hf_epoch | exact Mine.hf_half | exact Mine.hf_1524 | exact Mine.hf_pos | exact Mine.hf_1_5); k_whole; skip; (try dsimp only)))))
local macro_rules | `(tactic| walk_at "compareOp Lt float int") => `(tactic| (k_here; (with_reducible show wpAny _ _ (compareOp _ (Value.float _ _) (Value.int _ _)) _ _ _); ((with_reducible refine' Mine.w_lt_fi ?hx ?_; (case hx => with_reducible first | assumption | exact Mine.hf_epoch | exact Mine.hf_half | exact Mine.hf_1524 | exact Mine.hf_pos | exact Mine.hf_1_5); k_whole; skip; (try dsimp only)))))
local macro_rules | `(tactic| walk_at "ite") => `(tactic| (k_here; k_openite; first | (refine ite_pos (by with_reducible assumption) ?_; walk_say "PRUNED") | (refine ite_neg (by with_reducible assumption) ?_; walk_say "PRUNED") | (refine ite_isFalse (by with_reducible assumption) ?_; walk_say "PRUNED") | (refine ite_pos (by with_reducible (first | omega | (simp only [beq_iff_eq]; omega) | (simp only [decide_eq_true_eq]; omega) | (simp only [Bool.not_eq_true', decide_eq_false_iff_not]; omega) | (simp only [bne_iff_ne, ne_eq]; omega) | (simp only [Bool.not_eq_true', beq_eq_false_iff_ne, ne_eq]; omega) | (simp only [Bool.and_eq_true, Bool.or_eq_true, decide_eq_true_eq, beq_iff_eq, bne_iff_ne, Bool.not_eq_true', decide_eq_false_iff_not]; omega))) ?_; walk_say "PRUNED MINE") | (refine ite_neg (by with_reducible (first | omega | (simp only [beq_iff_eq]; omega) | (simp only [decide_eq_true_eq]; omega) | (simp only [Bool.not_eq_true', decide_eq_false_iff_not]; omega) | (simp only [bne_iff_ne, ne_eq]; omega) | (simp only [Bool.not_eq_true', beq_eq_false_iff_ne, ne_eq]; omega) | (simp only [Bool.and_eq_true, Bool.or_eq_true, decide_eq_true_eq, beq_iff_eq, bne_iff_ne, Bool.not_eq_true', decide_eq_false_iff_not]; omega))) ?_; walk_say "PRUNED MINE")))
local macro_rules | `(tactic| walk_at "ite") => `(tactic| (k_here; k_openite; first | (refine Mine.split_leap1 (by with_reducible assumption) (by with_reducible assumption) ?_) | (refine Mine.split_leap0 (by with_reducible assumption) (by with_reducible assumption) ?_) | (refine Mine.split_leap (by with_reducible assumption) ?_ ?_ <;> intro hl) | (refine Mine.split_jl (by with_reducible assumption) ?_ ?_ <;> intro hl)))
local macro_rules | `(tactic| walk_at "binaryOp Add int bool") => `(tactic| (k_here; with_reducible refine' Mine.w_add_ib ?k1 ?_; (case k1 => with_reducible assumption); k_whole; (try dsimp only)))
local macro_rules | `(tactic| walk_at "binaryOp Sub int bool") => `(tactic| (k_here; with_reducible refine' Mine.w_sub_ib ?k1 ?_; (case k1 => with_reducible assumption); k_whole; (try dsimp only)))
local macro_rules | `(tactic| walk_at "execs cons If") => `(tactic| (k_here; (with_reducible rename Mine.JMark _ _ => hj9); (with_reducible rename Fr _ _ _ _ => F0); (with_reducible rename News _ _ _ _ => N0); k_dflt (refine' Mine.join hj9 F0 N0 ?_ ?_; rotate_left; clear hj9; intro t9 h9 tk9 F9 N9; (try k_sweep); (try dsimp only); (try k_fold); rotate_left; clear hj9; (try dsimp only); (try k_fold))))
local macro_rules | `(tactic| walk_at "JEnd") => `(tactic| ((with_reducible rename Fr _ _ _ _ => F0); (with_reducible rename News _ _ _ _ => N0); k_dflt (first | (refine' Mine.jend_store F0 N0 ?_; k_whole) | (refine' Mine.jend_keep ?hm F0 N0 ?_; (case hm => rfl); k_whole)); first | assumption | omega | (unfold Mine.mlen; (repeat' split) <;> omega) | (unfold Mine.adj; (repeat' split) <;> omega) | tb_rel | tb_start))
local macro_rules | `(tactic| walk_at "execs cons If") => `(tactic| (k_here; (with_reducible rename Mine.JMark2 _ _ _ _ => hj9); (with_reducible rename Fr _ _ _ _ => F0); (with_reducible rename News _ _ _ _ => N0); k_dflt (refine' Mine.join2 hj9 F0 N0 ?_ ?_; rotate_left; clear hj9; intro t9 u9 h9 tk9 F9 N9; (try k_sweep); (try dsimp only); (try k_fold); rotate_left; clear hj9; (try dsimp only); (try k_fold))))
local macro_rules | `(tactic| walk_at "JEnd2") => `(tactic| ((with_reducible rename Fr _ _ _ _ => F0); (with_reducible rename News _ _ _ _ => N0); k_dflt (first | (refine' Mine.jend2_store F0 N0 ?_; k_whole) | (refine' Mine.jend2_keep ?hm ?hm2 F0 N0 ?_; (case hm => rfl); (case hm2 => rfl); k_whole)); (refine ⟨?_, ?_⟩) <;> (first | omega | (unfold Mine.yj; (repeat' split) <;> omega) | (unfold Mine.mj; (repeat' split) <;> omega))))
local macro_rules | `(tactic| walk_at "compareOp In int ref") => `(tactic| (k_here; k_dflt (refine' Mine.w_in30 ?k1 ?k2 ?k3 ?_; (case k1 => k_asm); (case k2 => k_asm); (case k3 => k_is))))
local macro_rules | `(tactic| walk_at "call ref") => `(tactic| (k_here; (with_reducible show wpAny _ _ (call (Value.ref 50) _) _ _ _); k_dflt (refine' Mine.Claim.use (Mine.c_isleap _ _ _) ?k1 ?k2 ?k3 ?k4 ?k5 ?k6 ?k7 ?k8 ?_; (case k1 => k_asm); (case k2 => k_asm); (case k3 => k_asm); (case k4 => k_asm); (case k5 => k_asm); (case k6 => first | exact rfl | assumption); (case k7 => ktr_room); (case k8 => ktr_units); k_whole; (try dsimp only [Mine.RetB, Mine.RetI, Mine.RetH, Mine.Ret2, Mine.Ret3]); intro v h9 tk9 e9 F9 N9; (try dsimp only); (try k_fold))))
local macro_rules | `(tactic| walk_at "call ref") => `(tactic| (k_here; (with_reducible show wpAny _ _ (call (Value.ref 57) _) _ _ _); k_dflt (refine' Mine.Claim.use (Mine.c_legal _ _ _ _ _ _ _ ?p1 ?p2) ?k1 ?k2 ?k3 ?k4 ?k5 ?k6 ?k7 ?k8 ?_; (case k1 => k_asm); (case k2 => k_asm); (case k3 => k_asm); (case k4 => k_asm); (case k5 => k_asm); (case k6 => first | exact rfl | assumption); (case k7 => ktr_room); (case k8 => ktr_units); (case p1 => omega); (case p2 => assumption); k_whole; (try dsimp only [Mine.RetB, Mine.RetI, Mine.RetH, Mine.Ret2, Mine.Ret3]); intro v h9 tk9 e9 F9 N9; subst e9; (try dsimp only); (try k_fold))))
local macro_rules | `(tactic| walk_at "call ref") => `(tactic| (k_here; (with_reducible show wpAny _ _ (call (Value.ref 71) _) _ _ _); k_dflt (refine' Mine.Claim.use (Mine.c_to_jd_gregorian _ _ _ _ _ _ _ ?p1 ?p2 ?p3) ?k1 ?k2 ?k3 ?k4 ?k5 ?k6 ?k7 ?k8 ?_; (case k1 => k_asm); (case k2 => k_asm); (case k3 => k_asm); (case k4 => k_asm); (case k5 => k_asm); (case k6 => first | exact rfl | assumption); (case k7 => ktr_room); (case k8 => ktr_units); (case p1 => omega); (case p2 => omega); (case p3 => first | assumption | omega); k_whole; (try dsimp only [Mine.RetB, Mine.RetI, Mine.RetH, Mine.Ret2, Mine.Ret3]); intro z q t9 h9 tk9 z9 e9 F9 N9; subst e9; (try dsimp only); (try k_fold))))
local macro_rules | `(tactic| walk_at "call ref") => `(tactic| (k_here; (with_reducible show wpAny _ _ (call (Value.ref 50) _) _ _ _); k_dflt (refine' Mine.Claim.use (Mine.c_isleap_at _ ?p1 ?p2) ?k1 ?k2 ?k3 ?k4 ?k5 ?k6 ?k7 ?k8 ?_; (case p1 => assumption); (case p2 => first | assumption | rfl); (case k1 => k_asm); (case k2 => k_asm); (case k3 => k_asm); (case k4 => k_asm); (case k5 => k_asm); (case k6 => first | exact rfl | assumption); (case k7 => ktr_room); (case k8 => ktr_units); k_whole; (try dsimp only [Mine.RetB, Mine.RetI, Mine.RetH, Mine.Ret2, Mine.Ret2E, Mine.Ret3, Mine.RetHE, Mine.RetBE]); intro v h9 tk9 e9 F9 N9; (try dsimp only); (try k_fold))))
local macro_rules | `(tactic| walk_at "call ref") => `(tactic| (k_here; (with_reducible show wpAny _ _ (call (Value.ref 71) _) _ _ _); k_dflt (refine' Mine.Claim.use (Mine.c_to_jd_at2 _ ?p1 ?p2 ?p3 ?p4 ?p5 ?p6) ?k1 ?k2 ?k3 ?k4 ?k5 ?k6 ?k7 ?k8 ?_; (case p1 => assumption); (case p2 => first | assumption | rfl); (case p3 => first | assumption | omega); (case p4 => exact rfl); (case p5 => assumption); (case p6 => omega); (case k1 => k_asm); (case k2 => k_asm); (case k3 => k_asm); (case k4 => k_asm); (case k5 => k_asm); (case k6 => first | exact rfl | assumption); (case k7 => ktr_room); (case k8 => ktr_units); k_whole; (try dsimp only [Mine.RetB, Mine.RetI, Mine.RetH, Mine.Ret2, Mine.Ret2E, Mine.Ret3, Mine.RetHE, Mine.RetBE]); intro z q t9 h9 tk9 ee9 z9 e9 F9 N9; subst e9; (try dsimp only); (try k_fold))))
local macro_rules | `(tactic| walk_at "call ref") => `(tactic| (k_here; (with_reducible show wpAny _ _ (call (Value.ref 71) _) _ _ _); k_dflt (refine' Mine.Claim.use (Mine.c_to_jd_at1 _ ?p1 ?p2 ?p3 ?p4 ?p5) ?k1 ?k2 ?k3 ?k4 ?k5 ?k6 ?k7 ?k8 ?_; (case p1 => assumption); (case p2 => first | assumption | rfl | tb_start); (case p3 => exact rfl); (case p4 => exact rfl); (case p5 => assumption); (case k1 => k_asm); (case k2 => k_asm); (case k3 => k_asm); (case k4 => k_asm); (case k5 => k_asm); (case k6 => first | exact rfl | assumption); (case k7 => ktr_room); (case k8 => ktr_units); k_whole; (try dsimp only [Mine.RetB, Mine.RetI, Mine.RetH, Mine.Ret2, Mine.Ret2E, Mine.Ret3, Mine.RetHE, Mine.RetBE]); intro z q t9 h9 tk9 ee9 z9 e9 F9 N9; subst e9; (try dsimp only); (try k_fold))))
theorem m_cases {m : Int} (h : 1 ≤ m ∧ m ≤ 12) : m = 1 ∨ m = 2 ∨ m = 3 ∨ m = 4 ∨ m = 5 ∨ m = 6 ∨ m = 7 ∨ m = 8 ∨ m = 9 ∨ m = 10 ∨ m = 11 ∨ m = 12 := by omega
/-- the step over February's end, as from_jd has it -/
def ladj (l c : Int) : Int := if c < 59 + l then 0 else 2 - l
theorem ladj_cases {l : Int} (hl : l = 0 ∨ l = 1) (c : Int) : 0 ≤ ladj l c ∧ ladj l c ≤ 2 := by unfold ladj; split <;> omega
theorem cum_range {l m d : Int} (hl : l = 0 ∨ l = 1) (hm : 1 ≤ m ∧ m ≤ 12) (hd : 1 ≤ d ∧ d ≤ mlen l m) : 1 ≤ cum l m + d ∧ cum l m + d ≤ 365 + l := by
  rcases m_cases hm with rfl | rfl | rfl | rfl | rfl | rfl | rfl | rfl | rfl | rfl | rfl | rfl <;> simp [cum, mlen] at hd ⊢ <;> omega
theorem mlem {l m d : Int} (hl : l = 0 ∨ l = 1) (hm : 1 ≤ m ∧ m ≤ 12) (hd : 1 ≤ d ∧ d ≤ mlen l m) :
    ((cum l m + d - 1 + ladj l (cum l m + d)) * 12 + 373) / 367 = m := by
  rcases m_cases hm with rfl | rfl | rfl | rfl | rfl | rfl | rfl | rfl | rfl | rfl | rfl | rfl <;> simp [cum, mlen, ladj] at hd ⊢ <;> (try split) <;> omega
theorem lp_of {y A B C D : Int} (hy : y - 1 = 400 * A + 100 * B + 4 * C + D) (hB : 0 ≤ B ∧ B ≤ 3) (hC : 0 ≤ C ∧ C ≤ 24) (hD : 0 ≤ D ∧ D ≤ 3) :
    lp y = 1 ∧ D = 3 ∧ (C ≠ 24 ∨ B = 3) ∨ lp y = 0 ∧ (D ≠ 3 ∨ C = 24 ∧ B ≠ 3) := by
  unfold lp
  by_cases h3 : D = 3
  · by_cases h24 : C = 24
    · by_cases hb : B = 3
      · left; rw [if_pos]; omega; omega
      · right; rw [if_neg]; omega; omega
    · left; rw [if_pos]; omega; omega
  · right; rw [if_neg]; omega; omega
/-- the year, out of the day's number: by 400, 100, 4 and 1 years -/
theorem year_parts {y e c A B C D : Int} (hy : y - 1 = 400 * A + 100 * B + 4 * C + D) (hB : 0 ≤ B ∧ B ≤ 3) (hC : 0 ≤ C ∧ C ≤ 24) (hD : 0 ≤ D ∧ D ≤ 3)
    (he : e = 146097 * A + 36524 * B + 1461 * C + 365 * D + c) (hc : 0 ≤ c ∧ c ≤ 364 + lp y) :
    e / 146097 = A ∧ e % 146097 = 36524 * B + 1461 * C + 365 * D + c := by
  have h := lp_of hy hB hC hD
  omega
theorem yr_parts {y A B C D : Int} (hy : y - 1 = 400 * A + 100 * B + 4 * C + D) (hB : 0 ≤ B ∧ B ≤ 3) (hC : 0 ≤ C ∧ C ≤ 24) (hD : 0 ≤ D ∧ D ≤ 3) :
    yr y = 1721425 + 146097 * A + 36524 * B + 1461 * C + 365 * D := by
  unfold yr
  rw [hy]
  omega
theorem y_split (y : Int) : ∃ A B C D : Int, y - 1 = 400 * A + 100 * B + 4 * C + D ∧ (0 ≤ B ∧ B ≤ 3) ∧ (0 ≤ C ∧ C ≤ 24) ∧ (0 ≤ D ∧ D ≤ 3) :=
  ⟨(y - 1) / 400, (y - 1) % 400 / 100, (y - 1) % 100 / 4, (y - 1) % 4, by omega, by omega, by omega, by omega⟩
theorem ylem {n y m d r7 r6 r5 r4 r3 r2 r1 r0 : Int} (he : n = yr y + cum (lp y) m + d) (hm : 1 ≤ m ∧ m ≤ 12) (hdd : 1 ≤ d ∧ d ≤ mlen (lp y) m)
    (h7 : r7 = (2 * n - 1 - 1) / 2) (h6 : r6 = (2 * r7 + 1 - 3442851) / (2 * 146097)) (h5 : r5 = (2 * r7 + 1 - 3442851) % (2 * 146097)) (h4 : r4 = r5 / (2 * 36524))
    (h3 : r3 = r5 % (2 * 36524)) (h2 : r2 = r3 / (2 * 1461)) (h1 : r1 = r3 % (2 * 1461)) (h0 : r0 = r1 / (2 * 365)) :
    (r4 = 4 ∨ r0 = 4 → r6 * 400 + r4 * 100 + r2 * 4 + r0 = y) ∧ (r4 ≠ 4 → r0 ≠ 4 → r6 * 400 + r4 * 100 + r2 * 4 + r0 + 1 = y) := by
  have hcr := cum_range (lp_01 y) hm hdd
  obtain ⟨A, B, C, D, hy, hB, hC, hD⟩ := y_split y
  have hyr := yr_parts hy hB hC hD
  have hl := lp_of hy hB hC hD
  generalize hc : cum (lp y) m + d - 1 = c at *
  have hn : n = 1721425 + 146097 * A + 36524 * B + 1461 * C + 365 * D + c + 1 := by omega
  clear hyr he hm hdd
  have e7 : r7 = n - 1 := by omega
  obtain ⟨e6, e5⟩ := year_parts (e := r7 - 1721425) (c := c) hy hB hC hD (by omega) (by omega)
  have f6 : r6 = A := by omega
  have f5 : r5 = 2 * (36524 * B + 1461 * C + 365 * D + c) := by omega
  clear e6 e5 h6 h5 h7 e7 hn
  subst f6
  generalize hg : lp y = l at *
  clear hg
  by_cases hx : B = 3 ∧ C = 24 ∧ D = 3 ∧ c = 365
  · obtain ⟨rfl, rfl, rfl, rfl⟩ := hx
    have : r4 = 4 := by omega
    have : r3 = 0 := by omega
    have : r2 = 0 := by omega
    have : r1 = 0 := by omega
    have : r0 = 0 := by omega
    omega
  · have g4 : r4 = B := by omega
    have g3 : r3 = 2 * (1461 * C + 365 * D + c) := by omega
    have g2 : r2 = C := by omega
    have g1 : r1 = 2 * (365 * D + c) := by omega
    have g0 : r0 = D ∨ (D = 3 ∧ c = 365 ∧ r0 = 4) := by omega
    omega
local macro_rules | `(tactic| tb_rel) => `(tactic| (unfold Mine.ladj; (repeat' split) <;> omega))
local macro_rules | `(tactic| tb_start) => `(tactic| first | exact (Mine.ylem (by assumption) (by assumption) (by assumption) (by assumption) (by assumption) (by assumption) (by assumption) (by assumption) (by assumption) (by assumption) (by assumption)).1 (Or.inl (by assumption)) | exact (Mine.ylem (by assumption) (by assumption) (by assumption) (by assumption) (by assumption) (by assumption) (by assumption) (by assumption) (by assumption) (by assumption) (by assumption)).1 (Or.inr (by assumption)) | exact (Mine.ylem (by assumption) (by assumption) (by assumption) (by assumption) (by assumption) (by assumption) (by assumption) (by assumption) (by assumption) (by assumption) (by assumption)).2 (by assumption) (by assumption))
theorem c_from_jd_gregorian (w : World) (x : UInt64) (n y m d : Int) (t : Tok) (hx : Hf x (2 * n - 1)) (hn : -13000000 ≤ n ∧ n ≤ 13000000) (hm : 1 ≤ m ∧ m ≤ 12) (hdd : 1 ≤ d ∧ d ≤ mlen (lp y) m) (he : n = yr y + cum (lp y) m + d) : Claim w 78 4 [.float x t] (Ret3 y m d) := by
  w_top off
  k_with_none
  have kfill : PySem.Challenge.rw_ak5020_01 = PySem.Challenge.rw_ak5020_01 ∧ hd.heap_39 = hd.heap_39 := by
    k_fill
    exact ⟨rfl, rfl⟩
  clear kfill
  have hMk : Mk y m d := ⟨⟩
  have h31 := mlen_le y m
  have hcr := cum_range (lp_01 y) hm hdd
  have hl01 := lp_01 y
  have hyb : -50000 ≤ y ∧ y ≤ 50000 := by have h2 := yr_eq y; omega
  have hml := mlem (lp_01 y) hm hdd
  have hlj := ladj_cases (lp_01 y) (cum (lp y) m + d)
  have hj1 : JMark (Str.ofString "leap_adj") (ladj (lp y) (cum (lp y) m + d)) := ⟨⟩
  have hj2 : JMark (Str.ofString "year") y := ⟨⟩
  all_goals dsimp only [Claim, RetB, RetI, RetH, Ret2, Ret3]
  all_goals intros
  all_goals rename_i hret
  all_goals (try obtain ⟨hmem, hret⟩ := hret)
  all_goals refine wpAny_call ?_
  all_goals k_dflt cell_enter
  all_goals k_steps
  all_goals refine hret _ _ _ _ _ _ _ _ _ _ ?_ ?_ ?_ (by k_asm) (news_one (by k_asm) (.head _)) (by first | k_asm | exact news_drop (by k_asm) | exact news_drop (news_drop (by k_asm)) | exact news_drop (news_drop (news_drop (by k_asm))))
  all_goals first | assumption | rfl | omega

local macro_rules | `(tactic| walk_at "call ref") => `(tactic| (k_here; (with_reducible show wpAny _ _ (call (Value.ref 78) _) _ _ _); k_dflt (refine' Mine.Claim.use (Mine.c_from_jd_gregorian _ _ _ _ _ _ _ ?p1 ?p2 ?p3 ?p4 ?p5) ?k1 ?k2 ?k3 ?k4 ?k5 ?k6 ?k7 ?k8 ?_; (case k1 => k_asm); (case k2 => k_asm); (case k3 => k_asm); (case k4 => k_asm); (case k5 => k_asm); (case k6 => first | exact rfl | assumption); (case k7 => ktr_room); (case k8 => ktr_units); (case p1 => assumption); (case p2 => omega); (case p3 => omega); (case p4 => assumption); (case p5 => omega); k_whole; (try dsimp only [Mine.RetB, Mine.RetI, Mine.RetH, Mine.Ret2, Mine.Ret3]); intro D9 a9 b9 c9 t1 t2 t3 k9 h9 tk9 e1 e2 e3 F9 N1 N2; subst e1; subst e2; subst e3; have N9 := Mine.news_cons N1 N2; clear N1 N2; (try dsimp only); (try k_fold))))
end Mine

namespace Mine
open PySem.Flt
local macro_rules | `(tactic| walk_at "eval Call") => `(tactic| (k_here; (with_reducible show wpAny _ _ (eval (Expr.Call (Expr.Name _ _) _ [] _) _) _ _ _); k_dflt (refine Call_ ?_)))
local macro_rules | `(tactic| walk_at "binaryOp Add float float") => `(tactic| (k_here; (with_reducible show wpAny _ _ (binaryOp _ (Value.float _ _) (Value.float _ _)) _ _ _); ((with_reducible refine' Mine.w_add_ff ?hx ?hy ?hb ?_; (case hx => with_reducible first | assumption | exact Mine.hf_epoch | exact Mine.hf_half | exact Mine.hf_1524 | exact Mine.hf_pos | exact Mine.hf_1_5); (case hy => with_reducible first | assumption | exact Mine.hf_epoch | exact Mine.hf_half | exact Mine.hf_1524 | exact Mine.hf_pos | exact Mine.hf_1_5); (case hb => k_dflt omega); k_whole; intro z hz; (try dsimp only)))))
local macro_rules | `(tactic| walk_at "inplaceOp Add float float") => `(tactic| (k_here; (with_reducible show wpAny _ _ (inplaceOp _ (Value.float _ _) (Value.float _ _)) _ _ _); ((with_reducible refine' Mine.w_iadd_ff ?hx ?hy ?hb ?_; (case hx => with_reducible first | assumption | exact Mine.hf_epoch | exact Mine.hf_half | exact Mine.hf_1524 | exact Mine.hf_pos | exact Mine.hf_1_5); (case hy => with_reducible first | assumption | exact Mine.hf_epoch | exact Mine.hf_half | exact Mine.hf_1524 | exact Mine.hf_pos | exact Mine.hf_1_5); (case hb => k_dflt omega); k_whole; intro z hz; (try dsimp only)))))
local macro_rules | `(tactic| walk_at "binaryOp Sub float float") => `(tactic| (k_here; (with_reducible show wpAny _ _ (binaryOp _ (Value.float _ _) (Value.float _ _)) _ _ _); ((with_reducible refine' Mine.w_sub_ff ?hx ?hy ?hb ?_; (case hx => with_reducible first | assumption | exact Mine.hf_epoch | exact Mine.hf_half | exact Mine.hf_1524 | exact Mine.hf_pos | exact Mine.hf_1_5); (case hy => with_reducible first | assumption | exact Mine.hf_epoch | exact Mine.hf_half | exact Mine.hf_1524 | exact Mine.hf_pos | exact Mine.hf_1_5); (case hb => k_dflt omega); k_whole; intro z hz; (try dsimp only)))))
local macro_rules | `(tactic| walk_at "binaryOp Add float int") => `(tactic| (k_here; (with_reducible show wpAny _ _ (binaryOp _ (Value.float _ _) (Value.int _ _)) _ _ _); (first
  | (with_reducible refine' Mine.w_add_fi ?hA ?hx ?hb ?_; (case hA => k_dflt (exact rfl)); (case hx => with_reducible first | assumption | exact Mine.hf_epoch | exact Mine.hf_half | exact Mine.hf_1524 | exact Mine.hf_pos | exact Mine.hf_1_5); (case hb => k_dflt omega); k_whole; intro z hz; (try dsimp only))
  | (with_reducible refine' Mine.w_addn_fi ?hA ?hx ?hb ?_; (case hA => k_dflt (exact rfl)); (case hx => with_reducible assumption); (case hb => k_dflt omega); k_whole; intro z hz; (try dsimp only)))))
local macro_rules | `(tactic| walk_at "binaryOp Sub float int") => `(tactic| (k_here; (with_reducible show wpAny _ _ (binaryOp _ (Value.float _ _) (Value.int _ _)) _ _ _); ((with_reducible refine' Mine.w_sub_fi ?hA ?hx ?hb ?_; (case hA => k_dflt (exact rfl)); (case hx => with_reducible first | assumption | exact Mine.hf_epoch | exact Mine.hf_half | exact Mine.hf_1524 | exact Mine.hf_pos | exact Mine.hf_1_5); (case hb => k_dflt omega); k_whole; intro z hz; (try dsimp only)))))
local macro_rules | `(tactic| walk_at "binaryOp Add int float") => `(tactic| (k_here; (with_reducible show wpAny _ _ (binaryOp _ (Value.int _ _) (Value.float _ _)) _ _ _); ((with_reducible refine' Mine.w_add_if ?hA ?hx ?hb ?_; (case hA => k_dflt (exact rfl)); (case hx => with_reducible first | assumption | exact Mine.hf_epoch | exact Mine.hf_half | exact Mine.hf_1524 | exact Mine.hf_pos | exact Mine.hf_1_5); (case hb => k_dflt omega); k_whole; intro z hz; (try dsimp only)))))
local macro_rules | `(tactic| walk_at "binaryOp Sub int float") => `(tactic| (k_here; (with_reducible show wpAny _ _ (binaryOp _ (Value.int _ _) (Value.float _ _)) _ _ _); (first
  | (with_reducible refine' Mine.w_sub_122 ?hA ?hcc ?hb ?_; (case hcc => with_reducible rfl); (case hA => k_dflt (exact rfl)); (case hb => k_dflt omega); k_whole; intro z hz; (try dsimp only))
  | (with_reducible refine' Mine.w_sub_if ?hA ?hx ?hb ?_; (case hA => k_dflt (exact rfl)); (case hx => with_reducible first | assumption | exact Mine.hf_epoch | exact Mine.hf_half | exact Mine.hf_1524 | exact Mine.hf_pos | exact Mine.hf_1_5); (case hb => k_dflt omega); k_whole; intro z hz; (try dsimp only)))))
local macro_rules | `(tactic| walk_at "binaryOp Mult float int") => `(tactic| (k_here; (with_reducible show wpAny _ _ (binaryOp _ (Value.float _ _) (Value.int _ _)) _ _ _); (first
  | (with_reducible refine' Mine.w_mul_365 ?hA ?hcc ?hb ?_; (case hcc => with_reducible rfl); (case hA => k_dflt (exact rfl)); (case hb => k_dflt omega); k_whole; intro z hz; (try dsimp only))
  | (with_reducible refine' Mine.w_mul_306001 ?hA ?hcc ?hb ?_; (case hcc => with_reducible rfl); (case hA => k_dflt (exact rfl)); (case hb => k_dflt omega); k_whole; intro z hz; (try dsimp only))
  | (with_reducible refine' Mine.w_mul_306 ?hA ?hcc ?hb ?_; (case hcc => with_reducible rfl); (case hA => k_dflt (exact rfl)); (case hb => k_dflt omega); k_whole; intro z hz; (try dsimp only))
  | (with_reducible refine' Mine.w_mul_fi ?hA ?hx ?hb ?_; (case hA => k_dflt (exact rfl)); (case hx => with_reducible first | assumption | exact Mine.hf_epoch | exact Mine.hf_half | exact Mine.hf_1524 | exact Mine.hf_pos | exact Mine.hf_1_5); (case hb => k_dflt omega); k_whole; intro z hz; (try dsimp only)))))
local macro_rules | `(tactic| walk_at "binaryOp Mod float int") => `(tactic| (k_here; (with_reducible show wpAny _ _ (binaryOp _ (Value.float _ _) (Value.int _ _)) _ _ _); ((with_reducible refine' Mine.w_mod_fi ?hA ?hx ?hb ?_; (case hA => k_dflt (exact rfl)); (case hx => with_reducible first | assumption | exact Mine.hf_epoch | exact Mine.hf_half | exact Mine.hf_1524 | exact Mine.hf_pos | exact Mine.hf_1_5); (case hb => k_dflt omega); k_whole; intro z r hr hz; (try dsimp only)))))
local macro_rules | `(tactic| walk_at "binaryOp Div float int") => `(tactic| (k_here; (with_reducible show wpAny _ _ (binaryOp _ (Value.float _ _) (Value.int _ _)) _ _ _); ((with_reducible refine' Mine.w_div_fi ?hA ?hx ?hb ?_; (case hA => k_dflt (exact rfl)); (case hx => with_reducible first | assumption | exact Mine.hf_epoch | exact Mine.hf_half | exact Mine.hf_1524 | exact Mine.hf_pos | exact Mine.hf_1_5); (case hb => k_dflt omega); k_whole; intro z hz; (try dsimp only)))))
local macro_rules | `(tactic| walk_at "binaryOp Div int int") => `(tactic| (k_here; (with_reducible show wpAny _ _ (binaryOp _ (Value.int _ _) (Value.int _ _)) _ _ _); ((with_reducible refine' Mine.w_div_ii ?hA ?hb ?_; (case hA => k_dflt (exact rfl)); (case hb => k_dflt omega); k_whole; intro z hz; (try dsimp only)))))
local macro_rules | `(tactic| walk_at "binaryOp Div float float") => `(tactic| (k_here; (with_reducible show wpAny _ _ (binaryOp _ (Value.float _ _) (Value.float _ _)) _ _ _); ((with_reducible refine' Mine.w_div_365 ?hA ?hcc ?hx ?hb ?_; (case hcc => with_reducible rfl); (case hA => k_dflt (exact rfl)); (case hx => with_reducible assumption); (case hb => k_dflt omega); k_whole; intro z hz; (try dsimp only)))))
local macro_rules | `(tactic| walk_at "binaryOp Div int float") => `(tactic| (k_here; (with_reducible show wpAny _ _ (binaryOp _ (Value.int _ _) (Value.float _ _)) _ _ _); ((with_reducible refine' Mine.w_div_306001 ?hA ?hcc ?hb ?_; (case hcc => with_reducible rfl); (case hA => k_dflt (exact rfl)); (case hb => k_dflt omega); k_whole; intro z hz; (try dsimp only)))))
local macro_rules | `(tactic| walk_at "call builtin:math.floor") => `(tactic| (k_here; (with_reducible show wpAny _ _ (call _ [Value.float _ _]) _ _ _); (first
  | (with_reducible refine' Mine.w_floor_h ?hA ?hx ?_; (case hA => k_dflt (exact rfl)); (case hx => with_reducible assumption); k_whole; intro r hr; (try dsimp only))
  | (with_reducible refine' Mine.w_floor_n ?hA ?hx ?hb ?_; (case hA => k_dflt (exact rfl)); (case hx => with_reducible assumption); (case hb => k_dflt omega); k_whole; intro r hr; (try dsimp only))
  | (with_reducible refine' Mine.w_floor_q ?hA ?hx ?_; (case hA => k_dflt (exact rfl)); (case hx => with_reducible assumption); k_whole; intro r hr; (try dsimp only)))))
local macro_rules | `(tactic| walk_at "call builtin:math.trunc") => `(tactic| (k_here; (with_reducible show wpAny _ _ (call _ [Value.float _ _]) _ _ _); (first
  | (with_reducible refine' Mine.w_trunc_q ?hA ?hx ?_; (case hA => k_dflt (exact rfl)); (case hx => with_reducible assumption); k_whole; intro r hr; (try dsimp only))
  | (with_reducible refine' Mine.w_trunc_n ?hA ?hx ?hb ?_; (case hA => k_dflt (exact rfl)); (case hx => with_reducible assumption); (case hb => k_dflt omega); k_whole; intro r hr; (try dsimp only)))))
local macro_rules | `(tactic| walk_at "call type:int") => `(tactic| (k_here; (with_reducible show wpAny _ _ (call _ [Value.float _ _]) _ _ _); ((with_reducible refine' Mine.w_int_h ?hA ?hx ?hb ?_; (case hA => k_dflt (exact rfl)); (case hx => with_reducible assumption); (case hb => k_dflt omega); k_whole; intro r hr; (try dsimp only)))))
local macro_rules | `(tactic| walk_at "compareOp Eq float float") => `(tactic| (k_here; (with_reducible show wpAny _ _ (compareOp _ (Value.float _ _) (Value.float _ _)) _ _ _); ((with_reducible refine' Mine.w_eq_ff ?hx ?hy ?_; (case hx => with_reducible first | assumption | exact Mine.hf_epoch | exact Mine.hf_half | exact Mine.hf_1524 | exact Mine.hf_pos | exact Mine.hf_1_5); (case hy => with_reducible first | assumption | exact Mine.hf_epoch | exact Mine.hf_half | exact Mine.hf_1524 | exact Mine.hf_pos | exact Mine.hf_1_5); k_whole; skip; (try dsimp only)))))
local macro_rules | `(tactic| walk_at "compareOp NotEq float float") => `(tactic| (k_here; (with_reducible show wpAny _ _ (compareOp _ (Value.float _ _) (Value.float _ _)) _ _ _); ((with_reducible refine' Mine.w_ne_ff ?hx ?hy ?_; (case hx => with_reducible first | assumption | exact Mine.hf_epoch | exact Mine.hf_half | exact Mine.hf_1524 | exact Mine.hf_pos | exact Mine.hf_1_5); (case hy => with_reducible first | assumption | exact Mine.hf_epoch | exact Mine.hf_half | exact Mine.hf_1524 | exact Mine.hf_pos | exact Mine.hf_1_5); k_whole; skip; (try dsimp only)))))
local macro_rules | `(tactic| walk_at "compareOp GtE float float") => `(tactic| (k_here; (with_reducible show wpAny _ _ (compareOp _ (Value.float _ _) (Value.float _ _)) _ _ _); ((with_reducible refine' Mine.w_ge_ff ?hx ?hy ?_; (case hx => with_reducible first | assumption | exact Mine.hf_epoch | exact Mine.hf_half | exact Mine.hf_1524 | exact Mine.hf_pos | exact Mine.hf_1_5); (case hy => with_reducible first | assumption | exact Mine.hf_epoch | exact Mine.hf_half | exact Mine.hf_1524 | exact Mine.hf_pos | exact Mine.hf_1_5); k_whole; skip; (try dsimp only)))))
local macro_rules | `(tactic| walk_at "compareOp Lt float int") => `(tactic| (k_here; (with_reducible show wpAny _ _ (compareOp _ (Value.float _ _) (Value.int _ _)) _ _ _); ((with_reducible refine' Mine.w_lt_fi ?hx ?_; (case hx => with_reducible first | assumption | exact Mine.hf_epoch | exact Mine.hf_half | exact Mine.hf_1524 | exact Mine.hf_pos | exact Mine.hf_1_5); k_whole; skip; (try dsimp only)))))
local macro_rules | `(tactic| walk_at "ite") => `(tactic| (k_here; k_openite; first | (refine ite_pos (by with_reducible assumption) ?_; walk_say "PRUNED") | (refine ite_neg (by with_reducible assumption) ?_; walk_say "PRUNED") | (refine ite_isFalse (by with_reducible assumption) ?_; walk_say "PRUNED") | (refine ite_pos (by with_reducible (first | omega | (simp only [beq_iff_eq]; omega) | (simp only [decide_eq_true_eq]; omega) | (simp only [Bool.not_eq_true', decide_eq_false_iff_not]; omega) | (simp only [bne_iff_ne, ne_eq]; omega) | (simp only [Bool.not_eq_true', beq_eq_false_iff_ne, ne_eq]; omega) | (simp only [Bool.and_eq_true, Bool.or_eq_true, decide_eq_true_eq, beq_iff_eq, bne_iff_ne, Bool.not_eq_true', decide_eq_false_iff_not]; omega))) ?_; walk_say "PRUNED MINE") | (refine ite_neg (by with_reducible (first | omega | (simp only [beq_iff_eq]; omega) | (simp only [decide_eq_true_eq]; omega) | (simp only [Bool.not_eq_true', decide_eq_false_iff_not]; omega) | (simp only [bne_iff_ne, ne_eq]; omega) | (simp only [Bool.not_eq_true', beq_eq_false_iff_ne, ne_eq]; omega) | (simp only [Bool.and_eq_true, Bool.or_eq_true, decide_eq_true_eq, beq_iff_eq, bne_iff_ne, Bool.not_eq_true', decide_eq_false_iff_not]; omega))) ?_; walk_say "PRUNED MINE")))
local macro_rules | `(tactic| walk_at "ite") => `(tactic| (k_here; k_openite; first | (refine Mine.split_leap1 (by with_reducible assumption) (by with_reducible assumption) ?_) | (refine Mine.split_leap0 (by with_reducible assumption) (by with_reducible assumption) ?_) | (refine Mine.split_leap (by with_reducible assumption) ?_ ?_ <;> intro hl) | (refine Mine.split_jl (by with_reducible assumption) ?_ ?_ <;> intro hl)))
local macro_rules | `(tactic| walk_at "binaryOp Add int bool") => `(tactic| (k_here; with_reducible refine' Mine.w_add_ib ?k1 ?_; (case k1 => with_reducible assumption); k_whole; (try dsimp only)))
local macro_rules | `(tactic| walk_at "binaryOp Sub int bool") => `(tactic| (k_here; with_reducible refine' Mine.w_sub_ib ?k1 ?_; (case k1 => with_reducible assumption); k_whole; (try dsimp only)))
local macro_rules | `(tactic| walk_at "execs cons If") => `(tactic| (k_here; (with_reducible rename Mine.JMark _ _ => hj9); (with_reducible rename Fr _ _ _ _ => F0); (with_reducible rename News _ _ _ _ => N0); k_dflt (refine' Mine.join hj9 F0 N0 ?_ ?_; rotate_left; clear hj9; intro t9 h9 tk9 F9 N9; (try k_sweep); (try dsimp only); (try k_fold); rotate_left; clear hj9; (try dsimp only); (try k_fold))))
local macro_rules | `(tactic| walk_at "JEnd") => `(tactic| ((with_reducible rename Fr _ _ _ _ => F0); (with_reducible rename News _ _ _ _ => N0); k_dflt (first | (refine' Mine.jend_store F0 N0 ?_; k_whole) | (refine' Mine.jend_keep ?hm F0 N0 ?_; (case hm => rfl); k_whole)); first | assumption | omega | (unfold Mine.mlen; (repeat' split) <;> omega) | (unfold Mine.adj; (repeat' split) <;> omega) | tb_rel | tb_start))
local macro_rules | `(tactic| walk_at "execs cons If") => `(tactic| (k_here; (with_reducible rename Mine.JMark2 _ _ _ _ => hj9); (with_reducible rename Fr _ _ _ _ => F0); (with_reducible rename News _ _ _ _ => N0); k_dflt (refine' Mine.join2 hj9 F0 N0 ?_ ?_; rotate_left; clear hj9; intro t9 u9 h9 tk9 F9 N9; (try k_sweep); (try dsimp only); (try k_fold); rotate_left; clear hj9; (try dsimp only); (try k_fold))))
local macro_rules | `(tactic| walk_at "JEnd2") => `(tactic| ((with_reducible rename Fr _ _ _ _ => F0); (with_reducible rename News _ _ _ _ => N0); k_dflt (first | (refine' Mine.jend2_store F0 N0 ?_; k_whole) | (refine' Mine.jend2_keep ?hm ?hm2 F0 N0 ?_; (case hm => rfl); (case hm2 => rfl); k_whole)); (refine ⟨?_, ?_⟩) <;> (first | omega | (unfold Mine.yj; (repeat' split) <;> omega) | (unfold Mine.mj; (repeat' split) <;> omega))))
local macro_rules | `(tactic| walk_at "compareOp In int ref") => `(tactic| (k_here; k_dflt (refine' Mine.w_in30 ?k1 ?k2 ?k3 ?_; (case k1 => k_asm); (case k2 => k_asm); (case k3 => k_is))))
local macro_rules | `(tactic| walk_at "call ref") => `(tactic| (k_here; (with_reducible show wpAny _ _ (call (Value.ref 50) _) _ _ _); k_dflt (refine' Mine.Claim.use (Mine.c_isleap _ _ _) ?k1 ?k2 ?k3 ?k4 ?k5 ?k6 ?k7 ?k8 ?_; (case k1 => k_asm); (case k2 => k_asm); (case k3 => k_asm); (case k4 => k_asm); (case k5 => k_asm); (case k6 => first | exact rfl | assumption); (case k7 => ktr_room); (case k8 => ktr_units); k_whole; (try dsimp only [Mine.RetB, Mine.RetI, Mine.RetH, Mine.Ret2, Mine.Ret3]); intro v h9 tk9 e9 F9 N9; (try dsimp only); (try k_fold))))
local macro_rules | `(tactic| walk_at "call ref") => `(tactic| (k_here; (with_reducible show wpAny _ _ (call (Value.ref 57) _) _ _ _); k_dflt (refine' Mine.Claim.use (Mine.c_legal _ _ _ _ _ _ _ ?p1 ?p2) ?k1 ?k2 ?k3 ?k4 ?k5 ?k6 ?k7 ?k8 ?_; (case k1 => k_asm); (case k2 => k_asm); (case k3 => k_asm); (case k4 => k_asm); (case k5 => k_asm); (case k6 => first | exact rfl | assumption); (case k7 => ktr_room); (case k8 => ktr_units); (case p1 => omega); (case p2 => assumption); k_whole; (try dsimp only [Mine.RetB, Mine.RetI, Mine.RetH, Mine.Ret2, Mine.Ret3]); intro v h9 tk9 e9 F9 N9; subst e9; (try dsimp only); (try k_fold))))
local macro_rules | `(tactic| walk_at "call ref") => `(tactic| (k_here; (with_reducible show wpAny _ _ (call (Value.ref 71) _) _ _ _); k_dflt (refine' Mine.Claim.use (Mine.c_to_jd_gregorian _ _ _ _ _ _ _ ?p1 ?p2 ?p3) ?k1 ?k2 ?k3 ?k4 ?k5 ?k6 ?k7 ?k8 ?_; (case k1 => k_asm); (case k2 => k_asm); (case k3 => k_asm); (case k4 => k_asm); (case k5 => k_asm); (case k6 => first | exact rfl | assumption); (case k7 => ktr_room); (case k8 => ktr_units); (case p1 => omega); (case p2 => omega); (case p3 => first | assumption | omega); k_whole; (try dsimp only [Mine.RetB, Mine.RetI, Mine.RetH, Mine.Ret2, Mine.Ret3]); intro z q t9 h9 tk9 z9 e9 F9 N9; subst e9; (try dsimp only); (try k_fold))))
local macro_rules | `(tactic| walk_at "call ref") => `(tactic| (k_here; (with_reducible show wpAny _ _ (call (Value.ref 50) _) _ _ _); k_dflt (refine' Mine.Claim.use (Mine.c_isleap_at _ ?p1 ?p2) ?k1 ?k2 ?k3 ?k4 ?k5 ?k6 ?k7 ?k8 ?_; (case p1 => assumption); (case p2 => first | assumption | rfl); (case k1 => k_asm); (case k2 => k_asm); (case k3 => k_asm); (case k4 => k_asm); (case k5 => k_asm); (case k6 => first | exact rfl | assumption); (case k7 => ktr_room); (case k8 => ktr_units); k_whole; (try dsimp only [Mine.RetB, Mine.RetI, Mine.RetH, Mine.Ret2, Mine.Ret2E, Mine.Ret3, Mine.RetHE, Mine.RetBE]); intro v h9 tk9 e9 F9 N9; (try dsimp only); (try k_fold))))
local macro_rules | `(tactic| walk_at "call ref") => `(tactic| (k_here; (with_reducible show wpAny _ _ (call (Value.ref 71) _) _ _ _); k_dflt (refine' Mine.Claim.use (Mine.c_to_jd_at2 _ ?p1 ?p2 ?p3 ?p4 ?p5 ?p6) ?k1 ?k2 ?k3 ?k4 ?k5 ?k6 ?k7 ?k8 ?_; (case p1 => assumption); (case p2 => first | assumption | rfl); (case p3 => first | assumption | omega); (case p4 => exact rfl); (case p5 => assumption); (case p6 => omega); (case k1 => k_asm); (case k2 => k_asm); (case k3 => k_asm); (case k4 => k_asm); (case k5 => k_asm); (case k6 => first | exact rfl | assumption); (case k7 => ktr_room); (case k8 => ktr_units); k_whole; (try dsimp only [Mine.RetB, Mine.RetI, Mine.RetH, Mine.Ret2, Mine.Ret2E, Mine.Ret3, Mine.RetHE, Mine.RetBE]); intro z q t9 h9 tk9 ee9 z9 e9 F9 N9; subst e9; (try dsimp only); (try k_fold))))
local macro_rules | `(tactic| walk_at "call ref") => `(tactic| (k_here; (with_reducible show wpAny _ _ (call (Value.ref 71) _) _ _ _); k_dflt (refine' Mine.Claim.use (Mine.c_to_jd_at1 _ ?p1 ?p2 ?p3 ?p4 ?p5) ?k1 ?k2 ?k3 ?k4 ?k5 ?k6 ?k7 ?k8 ?_; (case p1 => assumption); (case p2 => first | assumption | rfl | tb_start); (case p3 => exact rfl); (case p4 => exact rfl); (case p5 => assumption); (case k1 => k_asm); (case k2 => k_asm); (case k3 => k_asm); (case k4 => k_asm); (case k5 => k_asm); (case k6 => first | exact rfl | assumption); (case k7 => ktr_room); (case k8 => ktr_units); k_whole; (try dsimp only [Mine.RetB, Mine.RetI, Mine.RetH, Mine.Ret2, Mine.Ret2E, Mine.Ret3, Mine.RetHE, Mine.RetBE]); intro z q t9 h9 tk9 ee9 z9 e9 F9 N9; subst e9; (try dsimp only); (try k_fold))))
local macro_rules | `(tactic| walk_at "call ref") => `(tactic| (k_here; (with_reducible show wpAny _ _ (call (Value.ref 78) _) _ _ _); k_dflt (refine' Mine.Claim.use (Mine.c_from_jd_gregorian _ _ _ _ _ _ _ ?p1 ?p2 ?p3 ?p4 ?p5) ?k1 ?k2 ?k3 ?k4 ?k5 ?k6 ?k7 ?k8 ?_; (case k1 => k_asm); (case k2 => k_asm); (case k3 => k_asm); (case k4 => k_asm); (case k5 => k_asm); (case k6 => first | exact rfl | assumption); (case k7 => ktr_room); (case k8 => ktr_units); (case p1 => assumption); (case p2 => omega); (case p3 => omega); (case p4 => assumption); (case p5 => omega); k_whole; (try dsimp only [Mine.RetB, Mine.RetI, Mine.RetH, Mine.Ret2, Mine.Ret3]); intro D9 a9 b9 c9 t1 t2 t3 k9 h9 tk9 e1 e2 e3 F9 N1 N2; subst e1; subst e2; subst e3; have N9 := Mine.news_cons N1 N2; clear N1 N2; (try dsimp only); (try k_fold))))

/-- from_gregorian's own count of the days before the month, by 30.6 -/
theorem fgo {l m d : Int} (hl : l = 0 ∨ l = 1) (hm : 1 ≤ m ∧ m ≤ 12) (hd : 1 ≤ d ∧ d ≤ mlen l m) :
    (365 + l < 153 * (if m ≤ 2 then m + 13 else m + 1) / 5 + d - 122 + 59 + l → 153 * (if m ≤ 2 then m + 13 else m + 1) / 5 + d - 122 + 59 + l - 365 - l = cum l m + d) ∧
    (¬ 365 + l < 153 * (if m ≤ 2 then m + 13 else m + 1) / 5 + d - 122 + 59 + l → 153 * (if m ≤ 2 then m + 13 else m + 1) / 5 + d - 122 + 59 + l = cum l m + d) := by
  rcases m_cases hm with rfl | rfl | rfl | rfl | rfl | rfl | rfl | rfl | rfl | rfl | rfl | rfl <;> simp [cum, mlen] at hd ⊢ <;> omega
def ladj2 (l c : Int) : Int := if c < 59 + l then 0 else 2 - l
theorem ladj2_cases {l : Int} (hl : l = 0 ∨ l = 1) (c : Int) : 0 ≤ ladj2 l c ∧ ladj2 l c ≤ 2 := by unfold ladj2; split <;> omega
theorem mlem2 {l m d : Int} (hl : l = 0 ∨ l = 1) (hm : 1 ≤ m ∧ m ≤ 12) (hd : 1 ≤ d ∧ d ≤ mlen l m) :
    ((cum l m + d - 1 + ladj2 l (cum l m + d)) * 12 + 373) / 367 = m := by
  rcases m_cases hm with rfl | rfl | rfl | rfl | rfl | rfl | rfl | rfl | rfl | rfl | rfl | rfl <;> simp [cum, mlen, ladj2] at hd ⊢ <;> (try split) <;> omega
local macro_rules | `(tactic| tb_rel) => `(tactic| (unfold Mine.ladj2; (repeat' split) <;> omega))
theorem c_to_jd_ordinal (w : World) (y c : Int) (t1 t2 : Tok) (hy : -50000 ≤ y ∧ y ≤ 50000) (hc : 1 ≤ c ∧ c ≤ 366) : Claim w 85 4 [.int y t1, .int c t2] (RetH (2 * (yr y + c) - 1)) := by
  w_top off
  k_with_none
  have kfill : PySem.Challenge.rw_ak5020_01 = PySem.Challenge.rw_ak5020_01 ∧ hd.heap_39 = hd.heap_39 := by
    k_fill
    exact ⟨rfl, rfl⟩
  clear kfill
  have hMk : Mk y 1 1 := ⟨⟩
  have hyr := yr_eq y
  all_goals dsimp only [Claim, RetB, RetI, RetH, Ret2, Ret3]
  all_goals intros
  all_goals rename_i hret
  all_goals (try obtain ⟨hmem, hret⟩ := hret)
  all_goals refine wpAny_call ?_
  all_goals k_dflt cell_enter
  all_goals k_steps
  all_goals refine hret _ _ _ _ _ (by assumption) ?_ (by k_asm) (by first | k_asm | exact news_drop (by k_asm) | exact news_drop (news_drop (by k_asm)) | exact news_drop (news_drop (news_drop (by k_asm))))
  all_goals first | assumption | rfl | omega

local macro_rules | `(tactic| walk_at "call ref") => `(tactic| (k_here; (with_reducible show wpAny _ _ (call (Value.ref 85) _) _ _ _); k_dflt (refine' Mine.Claim.use (Mine.c_to_jd_ordinal _ _ _ _ _ ?p1 ?p2) ?k1 ?k2 ?k3 ?k4 ?k5 ?k6 ?k7 ?k8 ?_; (case k1 => k_asm); (case k2 => k_asm); (case k3 => k_asm); (case k4 => k_asm); (case k5 => k_asm); (case k6 => first | exact rfl | assumption); (case k7 => ktr_room); (case k8 => ktr_units); (case p1 => omega); (case p2 => omega); k_whole; (try dsimp only [Mine.RetB, Mine.RetI, Mine.RetH, Mine.Ret2, Mine.Ret3]); intro z q t9 h9 tk9 z9 e9 F9 N9; subst e9; (try dsimp only); (try k_fold))))
theorem c_from_jd_ordinal (w : World) (x : UInt64) (n y m d : Int) (t : Tok) (hx : Hf x (2 * n - 1)) (hn : -13000000 ≤ n ∧ n ≤ 13000000) (hm : 1 ≤ m ∧ m ≤ 12) (hdd : 1 ≤ d ∧ d ≤ mlen (lp y) m) (he : n = yr y + cum (lp y) m + d) : Claim w 92 6 [.float x t] (Ret2 y (n - yr y)) := by
  w_top off
  k_with_none
  have kfill : PySem.Challenge.rw_ak5020_01 = PySem.Challenge.rw_ak5020_01 ∧ hd.heap_39 = hd.heap_39 := by
    k_fill
    exact ⟨rfl, rfl⟩
  clear kfill
  have hMk : Mk y m d := ⟨⟩
  have hyb : -50000 ≤ y ∧ y ≤ 50000 := by have h2 := yr_eq y; have hcr := cum_range (lp_01 y) hm hdd; have hl01 := lp_01 y; omega
  have hcr := cum_range (lp_01 y) hm hdd
  have h31 := mlen_le y m
  have hl01 := lp_01 y
  all_goals dsimp only [Claim, RetB, RetI, RetH, Ret2, Ret3]
  all_goals intros
  all_goals rename_i hret
  all_goals (try obtain ⟨hmem, hret⟩ := hret)
  all_goals refine wpAny_call ?_
  all_goals k_dflt cell_enter
  all_goals k_steps
  all_goals refine hret _ _ _ _ _ _ _ _ ?_ ?_ (by k_asm) (news_one (by k_asm) (.head _)) (by first | k_asm | exact news_drop (by k_asm) | exact news_drop (news_drop (by k_asm)) | exact news_drop (news_drop (news_drop (by k_asm))))
  all_goals first | assumption | rfl | omega

local macro_rules | `(tactic| walk_at "call ref") => `(tactic| (k_here; (with_reducible show wpAny _ _ (call (Value.ref 92) _) _ _ _); k_dflt (refine' Mine.Claim.use (Mine.c_from_jd_ordinal _ _ _ _ _ _ _ ?p1 ?p2 ?p3 ?p4 ?p5) ?k1 ?k2 ?k3 ?k4 ?k5 ?k6 ?k7 ?k8 ?_; (case k1 => k_asm); (case k2 => k_asm); (case k3 => k_asm); (case k4 => k_asm); (case k5 => k_asm); (case k6 => first | exact rfl | assumption); (case k7 => ktr_room); (case k8 => ktr_units); (case p1 => assumption); (case p2 => omega); (case p3 => omega); (case p4 => assumption); (case p5 => omega); k_whole; (try dsimp only [Mine.RetB, Mine.RetI, Mine.RetH, Mine.Ret2, Mine.Ret3]); intro D9 a9 b9 t1 t2 k9 h9 tk9 e1 e2 F9 N1 N2; subst e1; subst e2; have N9 := Mine.news_cons N1 N2; clear N1 N2; (try dsimp only); (try k_fold))))
theorem c_from_gregorian_ordinal (w : World) (y m d : Int) (t1 t2 t3 : Tok) (hm : 1 ≤ m ∧ m ≤ 12) (hdd : 1 ≤ d ∧ d ≤ mlen (lp y) m) : Claim w 99 2 [.int y t1, .int m t2, .int d t3] (Ret2 y (cum (lp y) m + d)) := by
  w_top off
  k_with_none
  have kfill : PySem.Challenge.rw_ak5020_01 = PySem.Challenge.rw_ak5020_01 ∧ hd.heap_39 = hd.heap_39 := by
    k_fill
    exact ⟨rfl, rfl⟩
  clear kfill
  have hf := fgo (lp_01 y) hm hdd
  have hl01 := lp_01 y
  have hj1 : JMark (Str.ofString "t") (cum (lp y) m + d) := ⟨⟩
  have hj2 : JMark (Str.ofString "m") (if m ≤ 2 then m + 13 else m + 1) := ⟨⟩
  all_goals dsimp only [Claim, RetB, RetI, RetH, Ret2, Ret3]
  all_goals intros
  all_goals rename_i hret
  all_goals (try obtain ⟨hmem, hret⟩ := hret)
  all_goals refine wpAny_call ?_
  all_goals k_dflt cell_enter
  all_goals k_steps
  all_goals refine hret _ _ _ _ _ _ _ _ ?_ ?_ (by k_asm) (news_one (by k_asm) (.head _)) (by first | k_asm | exact news_drop (by k_asm) | exact news_drop (news_drop (by k_asm)) | exact news_drop (news_drop (news_drop (by k_asm))))
  all_goals first | assumption | rfl | omega

local macro_rules | `(tactic| walk_at "call ref") => `(tactic| (k_here; (with_reducible show wpAny _ _ (call (Value.ref 99) _) _ _ _); k_dflt (refine' Mine.Claim.use (Mine.c_from_gregorian_ordinal _ _ _ _ _ _ _ ?p1 ?p2) ?k1 ?k2 ?k3 ?k4 ?k5 ?k6 ?k7 ?k8 ?_; (case k1 => k_asm); (case k2 => k_asm); (case k3 => k_asm); (case k4 => k_asm); (case k5 => k_asm); (case k6 => first | exact rfl | assumption); (case k7 => ktr_room); (case k8 => ktr_units); (case p1 => omega); (case p2 => first | assumption | omega); k_whole; (try dsimp only [Mine.RetB, Mine.RetI, Mine.RetH, Mine.Ret2, Mine.Ret3]); intro D9 a9 b9 t1 t2 k9 h9 tk9 e1 e2 F9 N1 N2; subst e1; subst e2; have N9 := Mine.news_cons N1 N2; clear N1 N2; (try dsimp only); (try k_fold))))

theorem c_fgo_at (w : World) {y m d m' d' : Int} {t1 t2 t3 : Tok} (_hY : Mk y m d) (e : m' = m) (e3 : d' = 1) (hm : 1 ≤ m ∧ m ≤ 12) :
    Claim w 99 2 [.int y t1, .int m' t2, .int d' t3] (Ret2E (m' = m) y (cum (lp y) m + 1)) := by
  subst e; subst e3
  have h := c_from_gregorian_ordinal w y m' 1 t1 t2 t3 hm (mlen_ge y m')
  intro loose mean mg mb dp un gd cn cs a ccd cl outer A₀ base h₀ L m news s Q E hB hF hK hN hT hk hd hu hR
  exact h _ _ _ _ _ _ _ _ _ _ _ _ _ _ _ _ _ _ _ _ _ _ hB hF hK hN hT hk hd hu (fun D a' b' t1 t2 k h' tk' e1 e2 F N1 N2 => hR D a' b' t1 t2 k h' tk' rfl e1 e2 F N1 N2)
local macro_rules | `(tactic| walk_at "call ref") => `(tactic| (k_here; (with_reducible show wpAny _ _ (call (Value.ref 99) _) _ _ _); k_dflt (refine' Mine.Claim.use (Mine.c_fgo_at _ ?p1 ?p2 ?p3 ?p4) ?k1 ?k2 ?k3 ?k4 ?k5 ?k6 ?k7 ?k8 ?_; (case p1 => assumption); (case p2 => first | assumption | omega); (case p3 => exact rfl); (case p4 => omega); (case k1 => k_asm); (case k2 => k_asm); (case k3 => k_asm); (case k4 => k_asm); (case k5 => k_asm); (case k6 => first | exact rfl | assumption); (case k7 => ktr_room); (case k8 => ktr_units); k_whole; (try dsimp only [Mine.RetB, Mine.RetI, Mine.RetH, Mine.Ret2, Mine.Ret2E, Mine.Ret3, Mine.RetHE, Mine.RetBE]); intro D9 a9 b9 t1 t2 k9 h9 tk9 ee9 e1 e2 F9 N1 N2; have N9 := Mine.news_cons N1 N2; clear N1 N2; (try dsimp only); (try k_fold))))
theorem c_to_gregorian_ordinal (w : World) (y m d c : Int) (t1 t2 : Tok) (hm : 1 ≤ m ∧ m ≤ 12) (hdd : 1 ≤ d ∧ d ≤ mlen (lp y) m) (hc : c = cum (lp y) m + d) : Claim w 106 4 [.int y t1, .int c t2] (Ret3 y m d) := by
  w_top off
  k_with_none
  have kfill : PySem.Challenge.rw_ak5020_01 = PySem.Challenge.rw_ak5020_01 ∧ hd.heap_39 = hd.heap_39 := by
    k_fill
    exact ⟨rfl, rfl⟩
  clear kfill
  have hMk : Mk y m d := ⟨⟩
  have hml := mlem2 (lp_01 y) hm hdd
  have hl01 := lp_01 y
  have hcr := cum_range (lp_01 y) hm hdd
  have hlj := ladj2_cases (lp_01 y) (cum (lp y) m + d)
  have hj1 : JMark (Str.ofString "leap_adj") (ladj2 (lp y) (cum (lp y) m + d)) := ⟨⟩
  all_goals dsimp only [Claim, RetB, RetI, RetH, Ret2, Ret3]
  all_goals intros
  all_goals rename_i hret
  all_goals (try obtain ⟨hmem, hret⟩ := hret)
  all_goals refine wpAny_call ?_
  all_goals k_dflt cell_enter
  all_goals k_steps
  all_goals refine hret _ _ _ _ _ _ _ _ _ _ ?_ ?_ ?_ (by k_asm) (news_one (by k_asm) (.head _)) (by first | k_asm | exact news_drop (by k_asm) | exact news_drop (news_drop (by k_asm)) | exact news_drop (news_drop (news_drop (by k_asm))))
  all_goals first | assumption | rfl | omega

local macro_rules | `(tactic| walk_at "call ref") => `(tactic| (k_here; (with_reducible show wpAny _ _ (call (Value.ref 106) _) _ _ _); k_dflt (refine' Mine.Claim.use (Mine.c_to_gregorian_ordinal _ _ _ _ _ _ _ ?p1 ?p2 ?p3) ?k1 ?k2 ?k3 ?k4 ?k5 ?k6 ?k7 ?k8 ?_; (case k1 => k_asm); (case k2 => k_asm); (case k3 => k_asm); (case k4 => k_asm); (case k5 => k_asm); (case k6 => first | exact rfl | assumption); (case k7 => ktr_room); (case k8 => ktr_units); (case p1 => omega); (case p2 => first | assumption | omega); (case p3 => omega); k_whole; (try dsimp only [Mine.RetB, Mine.RetI, Mine.RetH, Mine.Ret2, Mine.Ret3]); intro D9 a9 b9 c9 t1 t2 t3 k9 h9 tk9 e1 e2 e3 F9 N1 N2; subst e1; subst e2; subst e3; have N9 := Mine.news_cons N1 N2; clear N1 N2; (try dsimp only); (try k_fold))))
end Mine

namespace Mine
open PySem.Flt
local macro_rules | `(tactic| walk_at "eval Call") => `(tactic| (k_here; (with_reducible show wpAny _ _ (eval (Expr.Call (Expr.Name _ _) _ [] _) _) _ _ _); k_dflt (refine Call_ ?_)))
local macro_rules | `(tactic| walk_at "binaryOp Add float float") => `(tactic| (k_here; (with_reducible show wpAny _ _ (binaryOp _ (Value.float _ _) (Value.float _ _)) _ _ _); ((with_reducible refine' Mine.w_add_ff ?hx ?hy ?hb ?_; (case hx => with_reducible first | assumption | exact Mine.hf_epoch | exact Mine.hf_half | exact Mine.hf_1524 | exact Mine.hf_pos | exact Mine.hf_1_5); (case hy => with_reducible first | assumption | exact Mine.hf_epoch | exact Mine.hf_half | exact Mine.hf_1524 | exact Mine.hf_pos | exact Mine.hf_1_5); (case hb => k_dflt omega); k_whole; intro z hz; (try dsimp only)))))
local macro_rules | `(tactic| walk_at "inplaceOp Add float float") => `(tactic| (k_here; (with_reducible show wpAny _ _ (inplaceOp _ (Value.float _ _) (Value.float _ _)) _ _ _); ((with_reducible refine' Mine.w_iadd_ff ?hx ?hy ?hb ?_; (case hx => with_reducible first | assumption | exact Mine.hf_epoch | exact Mine.hf_half | exact Mine.hf_1524 | exact Mine.hf_pos | exact Mine.hf_1_5); (case hy => with_reducible first | assumption | exact Mine.hf_epoch | exact Mine.hf_half | exact Mine.hf_1524 | exact Mine.hf_pos | exact Mine.hf_1_5); (case hb => k_dflt omega); k_whole; intro z hz; (try dsimp only)))))
local macro_rules | `(tactic| walk_at "binaryOp Sub float float") => `(tactic| (k_here; (with_reducible show wpAny _ _ (binaryOp _ (Value.float _ _) (Value.float _ _)) _ _ _); ((with_reducible refine' Mine.w_sub_ff ?hx ?hy ?hb ?_; (case hx => with_reducible first | assumption | exact Mine.hf_epoch | exact Mine.hf_half | exact Mine.hf_1524 | exact Mine.hf_pos | exact Mine.hf_1_5); (case hy => with_reducible first | assumption | exact Mine.hf_epoch | exact Mine.hf_half | exact Mine.hf_1524 | exact Mine.hf_pos | exact Mine.hf_1_5); (case hb => k_dflt omega); k_whole; intro z hz; (try dsimp only)))))
local macro_rules | `(tactic| walk_at "binaryOp Add float int") => `(tactic| (k_here; (with_reducible show wpAny _ _ (binaryOp _ (Value.float _ _) (Value.int _ _)) _ _ _); (first
  | (with_reducible refine' Mine.w_add_fi ?hA ?hx ?hb ?_; (case hA => k_dflt (exact rfl)); (case hx => with_reducible first | assumption | exact Mine.hf_epoch | exact Mine.hf_half | exact Mine.hf_1524 | exact Mine.hf_pos | exact Mine.hf_1_5); (case hb => k_dflt omega); k_whole; intro z hz; (try dsimp only))
  | (with_reducible refine' Mine.w_addn_fi ?hA ?hx ?hb ?_; (case hA => k_dflt (exact rfl)); (case hx => with_reducible assumption); (case hb => k_dflt omega); k_whole; intro z hz; (try dsimp only)))))
local macro_rules | `(tactic| walk_at "binaryOp Sub float int") => `(tactic| (k_here; (with_reducible show wpAny _ _ (binaryOp _ (Value.float _ _) (Value.int _ _)) _ _ _); ((with_reducible refine' Mine.w_sub_fi ?hA ?hx ?hb ?_; (case hA => k_dflt (exact rfl)); (case hx => with_reducible first | assumption | exact Mine.hf_epoch | exact Mine.hf_half | exact Mine.hf_1524 | exact Mine.hf_pos | exact Mine.hf_1_5); (case hb => k_dflt omega); k_whole; intro z hz; (try dsimp only)))))
local macro_rules | `(tactic| walk_at "binaryOp Add int float") => `(tactic| (k_here; (with_reducible show wpAny _ _ (binaryOp _ (Value.int _ _) (Value.float _ _)) _ _ _); ((with_reducible refine' Mine.w_add_if ?hA ?hx ?hb ?_; (case hA => k_dflt (exact rfl)); (case hx => with_reducible first | assumption | exact Mine.hf_epoch | exact Mine.hf_half | exact Mine.hf_1524 | exact Mine.hf_pos | exact Mine.hf_1_5); (case hb => k_dflt omega); k_whole; intro z hz; (try dsimp only)))))
local macro_rules | `(tactic| walk_at "binaryOp Sub int float") => `(tactic| (k_here; (with_reducible show wpAny _ _ (binaryOp _ (Value.int _ _) (Value.float _ _)) _ _ _); (first
  | (with_reducible refine' Mine.w_sub_122 ?hA ?hcc ?hb ?_; (case hcc => with_reducible rfl); (case hA => k_dflt (exact rfl)); (case hb => k_dflt omega); k_whole; intro z hz; (try dsimp only))
  | (with_reducible refine' Mine.w_sub_if ?hA ?hx ?hb ?_; (case hA => k_dflt (exact rfl)); (case hx => with_reducible first | assumption | exact Mine.hf_epoch | exact Mine.hf_half | exact Mine.hf_1524 | exact Mine.hf_pos | exact Mine.hf_1_5); (case hb => k_dflt omega); k_whole; intro z hz; (try dsimp only)))))
local macro_rules | `(tactic| walk_at "binaryOp Mult float int") => `(tactic| (k_here; (with_reducible show wpAny _ _ (binaryOp _ (Value.float _ _) (Value.int _ _)) _ _ _); (first
  | (with_reducible refine' Mine.w_mul_365 ?hA ?hcc ?hb ?_; (case hcc => with_reducible rfl); (case hA => k_dflt (exact rfl)); (case hb => k_dflt omega); k_whole; intro z hz; (try dsimp only))
  | (with_reducible refine' Mine.w_mul_306001 ?hA ?hcc ?hb ?_; (case hcc => with_reducible rfl); (case hA => k_dflt (exact rfl)); (case hb => k_dflt omega); k_whole; intro z hz; (try dsimp only))
  | (with_reducible refine' Mine.w_mul_306 ?hA ?hcc ?hb ?_; (case hcc => with_reducible rfl); (case hA => k_dflt (exact rfl)); (case hb => k_dflt omega); k_whole; intro z hz; (try dsimp only))
  | (with_reducible refine' Mine.w_mul_fi ?hA ?hx ?hb ?_; (case hA => k_dflt (exact rfl)); (case hx => with_reducible first | assumption | exact Mine.hf_epoch | exact Mine.hf_half | exact Mine.hf_1524 | exact Mine.hf_pos | exact Mine.hf_1_5); (case hb => k_dflt omega); k_whole; intro z hz; (try dsimp only)))))
local macro_rules | `(tactic| walk_at "binaryOp Mod float int") => `(tactic| (k_here; (with_reducible show wpAny _ _ (binaryOp _ (Value.float _ _) (Value.int _ _)) _ _ _); ((with_reducible refine' Mine.w_mod_fi ?hA ?hx ?hb ?_; (case hA => k_dflt (exact rfl)); (case hx => with_reducible first | assumption | exact Mine.hf_epoch | exact Mine.hf_half | exact Mine.hf_1524 | exact Mine.hf_pos | exact Mine.hf_1_5); (case hb => k_dflt omega); k_whole; intro z r hr hz; (try dsimp only)))))
local macro_rules | `(tactic| walk_at "binaryOp Div float int") => `(tactic| (k_here; (with_reducible show wpAny _ _ (binaryOp _ (Value.float _ _) (Value.int _ _)) _ _ _); ((with_reducible refine' Mine.w_div_fi ?hA ?hx ?hb ?_; (case hA => k_dflt (exact rfl)); (case hx => with_reducible first | assumption | exact Mine.hf_epoch | exact Mine.hf_half | exact Mine.hf_1524 | exact Mine.hf_pos | exact Mine.hf_1_5); (case hb => k_dflt omega); k_whole; intro z hz; (try dsimp only)))))
local macro_rules | `(tactic| walk_at "binaryOp Div int int") => `(tactic| (k_here; (with_reducible show wpAny _ _ (binaryOp _ (Value.int _ _) (Value.int _ _)) _ _ _); ((with_reducible refine' Mine.w_div_ii ?hA ?hb ?_; (case hA => k_dflt (exact rfl)); (case hb => k_dflt omega); k_whole; intro z hz; (try dsimp only)))))
local macro_rules | `(tactic| walk_at "binaryOp Div float float") => `(tactic| (k_here; (with_reducible show wpAny _ _ (binaryOp _ (Value.float _ _) (Value.float _ _)) _ _ _); ((with_reducible refine' Mine.w_div_365 ?hA ?hcc ?hx ?hb ?_; (case hcc => with_reducible rfl); (case hA => k_dflt (exact rfl)); (case hx => with_reducible assumption); (case hb => k_dflt omega); k_whole; intro z hz; (try dsimp only)))))
local macro_rules | `(tactic| walk_at "binaryOp Div int float") => `(tactic| (k_here; (with_reducible show wpAny _ _ (binaryOp _ (Value.int _ _) (Value.float _ _)) _ _ _); ((with_reducible refine' Mine.w_div_306001 ?hA ?hcc ?hb ?_; (case hcc => with_reducible rfl); (case hA => k_dflt (exact rfl)); (case hb => k_dflt omega); k_whole; intro z hz; (try dsimp only)))))
local macro_rules | `(tactic| walk_at "call builtin:math.floor") => `(tactic| (k_here; (with_reducible show wpAny _ _ (call _ [Value.float _ _]) _ _ _); (first
  | (with_reducible refine' Mine.w_floor_h ?hA ?hx ?_; (case hA => k_dflt (exact rfl)); (case hx => with_reducible assumption); k_whole; intro r hr; (try dsimp only))
  | (with_reducible refine' Mine.w_floor_n ?hA ?hx ?hb ?_; (case hA => k_dflt (exact rfl)); (case hx => with_reducible assumption); (case hb => k_dflt omega); k_whole; intro r hr; (try dsimp only))
  | (with_reducible refine' Mine.w_floor_q ?hA ?hx ?_; (case hA => k_dflt (exact rfl)); (case hx => with_reducible assumption); k_whole; intro r hr; (try dsimp only)))))
local macro_rules | `(tactic| walk_at "call builtin:math.trunc") => `(tactic| (k_here; (with_reducible show wpAny _ _ (call _ [Value.float _ _]) _ _ _); (first
  | (with_reducible refine' Mine.w_trunc_q ?hA ?hx ?_; (case hA => k_dflt (exact rfl)); (case hx => with_reducible assumption); k_whole; intro r hr; (try dsimp only))
  | (with_reducible refine' Mine.w_trunc_n ?hA ?hx ?hb ?_; (case hA => k_dflt (exact rfl)); (case hx => with_reducible assumption); (case hb => k_dflt omega); k_whole; intro r hr; (try dsimp only)))))
local macro_rules | `(tactic| walk_at "call type:int") => `(tactic| (k_here; (with_reducible show wpAny _ _ (call _ [Value.float _ _]) _ _ _); ((with_reducible refine' Mine.w_int_h ?hA ?hx ?hb ?_; (case hA => k_dflt (exact rfl)); (case hx => with_reducible assumption); (case hb => k_dflt omega); k_whole; intro r hr; (try dsimp only)))))
local macro_rules | `(tactic| walk_at "compareOp Eq float float") => `(tactic| (k_here; (with_reducible show wpAny _ _ (compareOp _ (Value.float _ _) (Value.float _ _)) _ _ _); ((with_reducible refine' Mine.w_eq_ff ?hx ?hy ?_; (case hx => with_reducible first | assumption | exact Mine.hf_epoch | exact Mine.hf_half | exact Mine.hf_1524 | exact Mine.hf_pos | exact Mine.hf_1_5); (case hy => with_reducible first | assumption | exact Mine.hf_epoch | exact Mine.hf_half | exact Mine.hf_1524 | exact Mine.hf_pos | exact Mine.hf_1_5); k_whole; skip; (try dsimp only)))))
local macro_rules | `(tactic| walk_at "compareOp NotEq float float") => `(tactic| (k_here; (with_reducible show wpAny _ _ (compareOp _ (Value.float _ _) (Value.float _ _)) _ _ _); ((with_reducible refine' Mine.w_ne_ff ?hx ?hy ?_; (case hx => with_reducible first | assumption | exact Mine.hf_epoch | exact Mine.hf_half | exact Mine.hf_1524 | exact Mine.hf_pos | exact Mine.hf_1_5); (case hy => with_reducible first | assumption | exact Mine.hf_epoch | exact Mine.hf_half | exact Mine.hf_1524 | exact Mine.hf_pos | exact Mine.hf_1_5); k_whole; skip; (try dsimp only)))))
local macro_rules | `(tactic| walk_at "compareOp GtE float float") => `(tactic| (k_here; (with_reducible show wpAny _ _ (compareOp _ (Value.float _ _) (Value.float _ _)) _ _ _); ((with_reducible refine' Mine.w_ge_ff ?hx ?hy ?_; (case hx => with_reducible first | assumption | exact Mine.hf_epoch | exact Mine.hf_half | exact Mine.hf_1524 | exact Mine.hf_pos | exact Mine.hf_1_5); (case hy => with_reducible first | assumption | exact Mine.hf_epoch | exact Mine.hf_half | exact Mine.hf_1524 | exact Mine.hf_pos | exact Mine.hf_1_5); k_whole; skip; (try dsimp only)))))
local macro_rules | `(tactic| walk_at "compareOp Lt float int") => `(tactic| (k_here; (with_reducible show wpAny _ _ (compareOp _ (Value.float _ _) (Value.int _ _)) _ _ _); ((with_reducible refine' Mine.w_lt_fi ?hx ?_; (case hx => with_reducible first | assumption | exact Mine.hf_epoch | exact Mine.hf_half | exact Mine.hf_1524 | exact Mine.hf_pos | exact Mine.hf_1_5); k_whole; skip; (try dsimp only)))))
local macro_rules | `(tactic| walk_at "ite") => `(tactic| (k_here; k_openite; first | (refine ite_pos (by with_reducible assumption) ?_; walk_say "PRUNED") | (refine ite_neg (by with_reducible assumption) ?_; walk_say "PRUNED") | (refine ite_isFalse (by with_reducible assumption) ?_; walk_say "PRUNED") | (refine ite_pos (by with_reducible (first | omega | (simp only [beq_iff_eq]; omega) | (simp only [decide_eq_true_eq]; omega) | (simp only [Bool.not_eq_true', decide_eq_false_iff_not]; omega) | (simp only [bne_iff_ne, ne_eq]; omega) | (simp only [Bool.not_eq_true', beq_eq_false_iff_ne, ne_eq]; omega) | (simp only [Bool.and_eq_true, Bool.or_eq_true, decide_eq_true_eq, beq_iff_eq, bne_iff_ne, Bool.not_eq_true', decide_eq_false_iff_not]; omega))) ?_; walk_say "PRUNED MINE") | (refine ite_neg (by with_reducible (first | omega | (simp only [beq_iff_eq]; omega) | (simp only [decide_eq_true_eq]; omega) | (simp only [Bool.not_eq_true', decide_eq_false_iff_not]; omega) | (simp only [bne_iff_ne, ne_eq]; omega) | (simp only [Bool.not_eq_true', beq_eq_false_iff_ne, ne_eq]; omega) | (simp only [Bool.and_eq_true, Bool.or_eq_true, decide_eq_true_eq, beq_iff_eq, bne_iff_ne, Bool.not_eq_true', decide_eq_false_iff_not]; omega))) ?_; walk_say "PRUNED MINE")))
local macro_rules | `(tactic| walk_at "ite") => `(tactic| (k_here; k_openite; first | (refine Mine.split_leap1 (by with_reducible assumption) (by with_reducible assumption) ?_) | (refine Mine.split_leap0 (by with_reducible assumption) (by with_reducible assumption) ?_) | (refine Mine.split_leap (by with_reducible assumption) ?_ ?_ <;> intro hl) | (refine Mine.split_jl (by with_reducible assumption) ?_ ?_ <;> intro hl)))
local macro_rules | `(tactic| walk_at "binaryOp Add int bool") => `(tactic| (k_here; with_reducible refine' Mine.w_add_ib ?k1 ?_; (case k1 => with_reducible assumption); k_whole; (try dsimp only)))
local macro_rules | `(tactic| walk_at "binaryOp Sub int bool") => `(tactic| (k_here; with_reducible refine' Mine.w_sub_ib ?k1 ?_; (case k1 => with_reducible assumption); k_whole; (try dsimp only)))
local macro_rules | `(tactic| walk_at "execs cons If") => `(tactic| (k_here; (with_reducible rename Mine.JMark _ _ => hj9); (with_reducible rename Fr _ _ _ _ => F0); (with_reducible rename News _ _ _ _ => N0); k_dflt (refine' Mine.join hj9 F0 N0 ?_ ?_; rotate_left; clear hj9; intro t9 h9 tk9 F9 N9; (try k_sweep); (try dsimp only); (try k_fold); rotate_left; clear hj9; (try dsimp only); (try k_fold))))
local macro_rules | `(tactic| walk_at "JEnd") => `(tactic| ((with_reducible rename Fr _ _ _ _ => F0); (with_reducible rename News _ _ _ _ => N0); k_dflt (first | (refine' Mine.jend_store F0 N0 ?_; k_whole) | (refine' Mine.jend_keep ?hm F0 N0 ?_; (case hm => rfl); k_whole)); first | assumption | omega | (unfold Mine.mlen; (repeat' split) <;> omega) | (unfold Mine.adj; (repeat' split) <;> omega) | tb_rel | tb_start))
local macro_rules | `(tactic| walk_at "execs cons If") => `(tactic| (k_here; (with_reducible rename Mine.JMark2 _ _ _ _ => hj9); (with_reducible rename Fr _ _ _ _ => F0); (with_reducible rename News _ _ _ _ => N0); k_dflt (refine' Mine.join2 hj9 F0 N0 ?_ ?_; rotate_left; clear hj9; intro t9 u9 h9 tk9 F9 N9; (try k_sweep); (try dsimp only); (try k_fold); rotate_left; clear hj9; (try dsimp only); (try k_fold))))
local macro_rules | `(tactic| walk_at "JEnd2") => `(tactic| ((with_reducible rename Fr _ _ _ _ => F0); (with_reducible rename News _ _ _ _ => N0); k_dflt (first | (refine' Mine.jend2_store F0 N0 ?_; k_whole) | (refine' Mine.jend2_keep ?hm ?hm2 F0 N0 ?_; (case hm => rfl); (case hm2 => rfl); k_whole)); (refine ⟨?_, ?_⟩) <;> (first | omega | (unfold Mine.yj; (repeat' split) <;> omega) | (unfold Mine.mj; (repeat' split) <;> omega))))
local macro_rules | `(tactic| walk_at "compareOp In int ref") => `(tactic| (k_here; k_dflt (refine' Mine.w_in30 ?k1 ?k2 ?k3 ?_; (case k1 => k_asm); (case k2 => k_asm); (case k3 => k_is))))
local macro_rules | `(tactic| walk_at "call ref") => `(tactic| (k_here; (with_reducible show wpAny _ _ (call (Value.ref 50) _) _ _ _); k_dflt (refine' Mine.Claim.use (Mine.c_isleap _ _ _) ?k1 ?k2 ?k3 ?k4 ?k5 ?k6 ?k7 ?k8 ?_; (case k1 => k_asm); (case k2 => k_asm); (case k3 => k_asm); (case k4 => k_asm); (case k5 => k_asm); (case k6 => first | exact rfl | assumption); (case k7 => ktr_room); (case k8 => ktr_units); k_whole; (try dsimp only [Mine.RetB, Mine.RetI, Mine.RetH, Mine.Ret2, Mine.Ret3]); intro v h9 tk9 e9 F9 N9; (try dsimp only); (try k_fold))))
local macro_rules | `(tactic| walk_at "call ref") => `(tactic| (k_here; (with_reducible show wpAny _ _ (call (Value.ref 57) _) _ _ _); k_dflt (refine' Mine.Claim.use (Mine.c_legal _ _ _ _ _ _ _ ?p1 ?p2) ?k1 ?k2 ?k3 ?k4 ?k5 ?k6 ?k7 ?k8 ?_; (case k1 => k_asm); (case k2 => k_asm); (case k3 => k_asm); (case k4 => k_asm); (case k5 => k_asm); (case k6 => first | exact rfl | assumption); (case k7 => ktr_room); (case k8 => ktr_units); (case p1 => omega); (case p2 => assumption); k_whole; (try dsimp only [Mine.RetB, Mine.RetI, Mine.RetH, Mine.Ret2, Mine.Ret3]); intro v h9 tk9 e9 F9 N9; subst e9; (try dsimp only); (try k_fold))))
local macro_rules | `(tactic| walk_at "call ref") => `(tactic| (k_here; (with_reducible show wpAny _ _ (call (Value.ref 71) _) _ _ _); k_dflt (refine' Mine.Claim.use (Mine.c_to_jd_gregorian _ _ _ _ _ _ _ ?p1 ?p2 ?p3) ?k1 ?k2 ?k3 ?k4 ?k5 ?k6 ?k7 ?k8 ?_; (case k1 => k_asm); (case k2 => k_asm); (case k3 => k_asm); (case k4 => k_asm); (case k5 => k_asm); (case k6 => first | exact rfl | assumption); (case k7 => ktr_room); (case k8 => ktr_units); (case p1 => omega); (case p2 => omega); (case p3 => first | assumption | omega); k_whole; (try dsimp only [Mine.RetB, Mine.RetI, Mine.RetH, Mine.Ret2, Mine.Ret3]); intro z q t9 h9 tk9 z9 e9 F9 N9; subst e9; (try dsimp only); (try k_fold))))
local macro_rules | `(tactic| walk_at "call ref") => `(tactic| (k_here; (with_reducible show wpAny _ _ (call (Value.ref 50) _) _ _ _); k_dflt (refine' Mine.Claim.use (Mine.c_isleap_at _ ?p1 ?p2) ?k1 ?k2 ?k3 ?k4 ?k5 ?k6 ?k7 ?k8 ?_; (case p1 => assumption); (case p2 => first | assumption | rfl); (case k1 => k_asm); (case k2 => k_asm); (case k3 => k_asm); (case k4 => k_asm); (case k5 => k_asm); (case k6 => first | exact rfl | assumption); (case k7 => ktr_room); (case k8 => ktr_units); k_whole; (try dsimp only [Mine.RetB, Mine.RetI, Mine.RetH, Mine.Ret2, Mine.Ret2E, Mine.Ret3, Mine.RetHE, Mine.RetBE]); intro v h9 tk9 e9 F9 N9; (try dsimp only); (try k_fold))))
local macro_rules | `(tactic| walk_at "call ref") => `(tactic| (k_here; (with_reducible show wpAny _ _ (call (Value.ref 71) _) _ _ _); k_dflt (refine' Mine.Claim.use (Mine.c_to_jd_at2 _ ?p1 ?p2 ?p3 ?p4 ?p5 ?p6) ?k1 ?k2 ?k3 ?k4 ?k5 ?k6 ?k7 ?k8 ?_; (case p1 => assumption); (case p2 => first | assumption | rfl); (case p3 => first | assumption | omega); (case p4 => exact rfl); (case p5 => assumption); (case p6 => omega); (case k1 => k_asm); (case k2 => k_asm); (case k3 => k_asm); (case k4 => k_asm); (case k5 => k_asm); (case k6 => first | exact rfl | assumption); (case k7 => ktr_room); (case k8 => ktr_units); k_whole; (try dsimp only [Mine.RetB, Mine.RetI, Mine.RetH, Mine.Ret2, Mine.Ret2E, Mine.Ret3, Mine.RetHE, Mine.RetBE]); intro z q t9 h9 tk9 ee9 z9 e9 F9 N9; subst e9; (try dsimp only); (try k_fold))))
local macro_rules | `(tactic| walk_at "call ref") => `(tactic| (k_here; (with_reducible show wpAny _ _ (call (Value.ref 71) _) _ _ _); k_dflt (refine' Mine.Claim.use (Mine.c_to_jd_at1 _ ?p1 ?p2 ?p3 ?p4 ?p5) ?k1 ?k2 ?k3 ?k4 ?k5 ?k6 ?k7 ?k8 ?_; (case p1 => assumption); (case p2 => first | assumption | rfl | tb_start); (case p3 => exact rfl); (case p4 => exact rfl); (case p5 => assumption); (case k1 => k_asm); (case k2 => k_asm); (case k3 => k_asm); (case k4 => k_asm); (case k5 => k_asm); (case k6 => first | exact rfl | assumption); (case k7 => ktr_room); (case k8 => ktr_units); k_whole; (try dsimp only [Mine.RetB, Mine.RetI, Mine.RetH, Mine.Ret2, Mine.Ret2E, Mine.Ret3, Mine.RetHE, Mine.RetBE]); intro z q t9 h9 tk9 ee9 z9 e9 F9 N9; subst e9; (try dsimp only); (try k_fold))))
local macro_rules | `(tactic| walk_at "call ref") => `(tactic| (k_here; (with_reducible show wpAny _ _ (call (Value.ref 78) _) _ _ _); k_dflt (refine' Mine.Claim.use (Mine.c_from_jd_gregorian _ _ _ _ _ _ _ ?p1 ?p2 ?p3 ?p4 ?p5) ?k1 ?k2 ?k3 ?k4 ?k5 ?k6 ?k7 ?k8 ?_; (case k1 => k_asm); (case k2 => k_asm); (case k3 => k_asm); (case k4 => k_asm); (case k5 => k_asm); (case k6 => first | exact rfl | assumption); (case k7 => ktr_room); (case k8 => ktr_units); (case p1 => assumption); (case p2 => omega); (case p3 => omega); (case p4 => assumption); (case p5 => omega); k_whole; (try dsimp only [Mine.RetB, Mine.RetI, Mine.RetH, Mine.Ret2, Mine.Ret3]); intro D9 a9 b9 c9 t1 t2 t3 k9 h9 tk9 e1 e2 e3 F9 N1 N2; subst e1; subst e2; subst e3; have N9 := Mine.news_cons N1 N2; clear N1 N2; (try dsimp only); (try k_fold))))
local macro_rules | `(tactic| walk_at "call ref") => `(tactic| (k_here; (with_reducible show wpAny _ _ (call (Value.ref 85) _) _ _ _); k_dflt (refine' Mine.Claim.use (Mine.c_to_jd_ordinal _ _ _ _ _ ?p1 ?p2) ?k1 ?k2 ?k3 ?k4 ?k5 ?k6 ?k7 ?k8 ?_; (case k1 => k_asm); (case k2 => k_asm); (case k3 => k_asm); (case k4 => k_asm); (case k5 => k_asm); (case k6 => first | exact rfl | assumption); (case k7 => ktr_room); (case k8 => ktr_units); (case p1 => omega); (case p2 => omega); k_whole; (try dsimp only [Mine.RetB, Mine.RetI, Mine.RetH, Mine.Ret2, Mine.Ret3]); intro z q t9 h9 tk9 z9 e9 F9 N9; subst e9; (try dsimp only); (try k_fold))))
local macro_rules | `(tactic| walk_at "call ref") => `(tactic| (k_here; (with_reducible show wpAny _ _ (call (Value.ref 92) _) _ _ _); k_dflt (refine' Mine.Claim.use (Mine.c_from_jd_ordinal _ _ _ _ _ _ _ ?p1 ?p2 ?p3 ?p4 ?p5) ?k1 ?k2 ?k3 ?k4 ?k5 ?k6 ?k7 ?k8 ?_; (case k1 => k_asm); (case k2 => k_asm); (case k3 => k_asm); (case k4 => k_asm); (case k5 => k_asm); (case k6 => first | exact rfl | assumption); (case k7 => ktr_room); (case k8 => ktr_units); (case p1 => assumption); (case p2 => omega); (case p3 => omega); (case p4 => assumption); (case p5 => omega); k_whole; (try dsimp only [Mine.RetB, Mine.RetI, Mine.RetH, Mine.Ret2, Mine.Ret3]); intro D9 a9 b9 t1 t2 k9 h9 tk9 e1 e2 F9 N1 N2; subst e1; subst e2; have N9 := Mine.news_cons N1 N2; clear N1 N2; (try dsimp only); (try k_fold))))
local macro_rules | `(tactic| walk_at "call ref") => `(tactic| (k_here; (with_reducible show wpAny _ _ (call (Value.ref 99) _) _ _ _); k_dflt (refine' Mine.Claim.use (Mine.c_from_gregorian_ordinal _ _ _ _ _ _ _ ?p1 ?p2) ?k1 ?k2 ?k3 ?k4 ?k5 ?k6 ?k7 ?k8 ?_; (case k1 => k_asm); (case k2 => k_asm); (case k3 => k_asm); (case k4 => k_asm); (case k5 => k_asm); (case k6 => first | exact rfl | assumption); (case k7 => ktr_room); (case k8 => ktr_units); (case p1 => omega); (case p2 => first | assumption | omega); k_whole; (try dsimp only [Mine.RetB, Mine.RetI, Mine.RetH, Mine.Ret2, Mine.Ret3]); intro D9 a9 b9 t1 t2 k9 h9 tk9 e1 e2 F9 N1 N2; subst e1; subst e2; have N9 := Mine.news_cons N1 N2; clear N1 N2; (try dsimp only); (try k_fold))))
local macro_rules | `(tactic| walk_at "call ref") => `(tactic| (k_here; (with_reducible show wpAny _ _ (call (Value.ref 99) _) _ _ _); k_dflt (refine' Mine.Claim.use (Mine.c_fgo_at _ ?p1 ?p2 ?p3 ?p4) ?k1 ?k2 ?k3 ?k4 ?k5 ?k6 ?k7 ?k8 ?_; (case p1 => assumption); (case p2 => first | assumption | omega); (case p3 => exact rfl); (case p4 => omega); (case k1 => k_asm); (case k2 => k_asm); (case k3 => k_asm); (case k4 => k_asm); (case k5 => k_asm); (case k6 => first | exact rfl | assumption); (case k7 => ktr_room); (case k8 => ktr_units); k_whole; (try dsimp only [Mine.RetB, Mine.RetI, Mine.RetH, Mine.Ret2, Mine.Ret2E, Mine.Ret3, Mine.RetHE, Mine.RetBE]); intro D9 a9 b9 t1 t2 k9 h9 tk9 ee9 e1 e2 F9 N1 N2; have N9 := Mine.news_cons N1 N2; clear N1 N2; (try dsimp only); (try k_fold))))
local macro_rules | `(tactic| walk_at "call ref") => `(tactic| (k_here; (with_reducible show wpAny _ _ (call (Value.ref 106) _) _ _ _); k_dflt (refine' Mine.Claim.use (Mine.c_to_gregorian_ordinal _ _ _ _ _ _ _ ?p1 ?p2 ?p3) ?k1 ?k2 ?k3 ?k4 ?k5 ?k6 ?k7 ?k8 ?_; (case k1 => k_asm); (case k2 => k_asm); (case k3 => k_asm); (case k4 => k_asm); (case k5 => k_asm); (case k6 => first | exact rfl | assumption); (case k7 => ktr_room); (case k8 => ktr_units); (case p1 => omega); (case p2 => first | assumption | omega); (case p3 => omega); k_whole; (try dsimp only [Mine.RetB, Mine.RetI, Mine.RetH, Mine.Ret2, Mine.Ret3]); intro D9 a9 b9 c9 t1 t2 t3 k9 h9 tk9 e1 e2 e3 F9 N1 N2; subst e1; subst e2; subst e3; have N9 := Mine.news_cons N1 N2; clear N1 N2; (try dsimp only); (try k_fold))))

theorem div_1461 (z : Int) : 1461 * (z + 4716) / 4 = 365 * z + z / 4 + 1722519 := by
  have h : z = 4 * (z / 4) ∨ z = 4 * (z / 4) + 1 ∨ z = 4 * (z / 4) + 2 ∨ z = 4 * (z / 4) + 3 := by omega
  generalize z / 4 = k at *
  rcases h with rfl | rfl | rfl | rfl <;> omega
theorem lp_div (y : Int) : lp y = y / 4 - (y - 1) / 4 - (y / 100 - (y - 1) / 100) + (y / 400 - (y - 1) / 400) := by
  have h4 : (y % 4 = 0 ∧ y / 4 = (y - 1) / 4 + 1) ∨ (y % 4 ≠ 0 ∧ y / 4 = (y - 1) / 4) := by omega
  have h100 : (y % 100 = 0 ∧ y / 100 = (y - 1) / 100 + 1) ∨ (y % 100 ≠ 0 ∧ y / 100 = (y - 1) / 100) := by omega
  have h400 : (y % 400 = 0 ∧ y / 400 = (y - 1) / 400 + 1) ∨ (y % 400 ≠ 0 ∧ y / 400 = (y - 1) / 400) := by omega
  have i1 : y % 400 = 0 → y % 100 = 0 := by omega
  have i2 : y % 100 = 0 → y % 4 = 0 := by omega
  unfold lp
  generalize y / 4 = a4 at *
  generalize y / 100 = a100 at *
  generalize y / 400 = a400 at *
  generalize (y - 1) / 4 = b4 at *
  generalize (y - 1) / 100 = b100 at *
  generalize (y - 1) / 400 = b400 at *
  generalize y % 4 = c4 at *
  generalize y % 100 = c100 at *
  generalize y % 400 = c400 at *
  split <;> omega
theorem jd2_eq {y m : Int} (hm : 1 ≤ m ∧ m ≤ 12) : 2 - yj y m / 100 + yj y m / 100 / 4 + 1461 * (yj y m + 4716) / 4 + 306001 * (mj m + 1) / 10000 - 1524 = yr y + cum (lp y) m := by
  have hl := lp_div y
  have e1 := div_1461 (y - 1)
  have e2 := div_1461 y
  have q1 : (y - 1) / 100 / 4 = (y - 1) / 400 := by omega
  have q2 : y / 100 / 4 = y / 400 := by omega
  rcases m_cases hm with rfl | rfl | rfl | rfl | rfl | rfl | rfl | rfl | rfl | rfl | rfl | rfl <;> simp only [yj, mj, cum, yr] <;> simp <;> omega
theorem jdj_eq {y m : Int} (hm : 1 ≤ m ∧ m ≤ 12) : 1461 * (yj y m + 4716) / 4 + 306001 * (mj m + 1) / 10000 - 1524 = jyr y + cum (jl y) m := by
  have hl := jl_cases y
  have e1 := div_1461 (y - 1)
  have e2 := div_1461 y
  generalize jl y = l at *
  rcases m_cases hm with rfl | rfl | rfl | rfl | rfl | rfl | rfl | rfl | rfl | rfl | rfl | rfl <;> simp only [yj, mj, cum, jyr] <;> simp <;> omega
theorem mj_bounds {m : Int} (hm : 1 ≤ m ∧ m ≤ 12) : 3 ≤ mj m ∧ mj m ≤ 14 := by unfold mj; split <;> omega
theorem yj_bounds (y m : Int) : y - 1 ≤ yj y m ∧ yj y m ≤ y := by unfold yj; split <;> omega
theorem jfacts {n y m d : Int} (hm : 1 ≤ m ∧ m ≤ 12) (hd : 1 ≤ d ∧ d ≤ mlen (jl y) m) (he : n = jyr y + cum (jl y) m + d) :
    (20 * (n + 1524) - 2442) / 7305 = yj y m + 4716 ∧ n + 1524 = 1461 * (yj y m + 4716) / 4 + 306001 * (mj m + 1) / 10000 + d ∧
    10000 * (306001 * (mj m + 1) / 10000 + d) / 306001 = mj m + 1 ∧ 1 ≤ 306001 * (mj m + 1) / 10000 + d ∧ 306001 * (mj m + 1) / 10000 + d ≤ 500 := by
  have hj := jdj_eq (y := y) hm
  have hn : n + 1524 = 1461 * (yj y m + 4716) / 4 + 306001 * (mj m + 1) / 10000 + d := by omega
  clear he hj
  have hl := jl_cases y
  generalize jl y = l at *
  rw [hn]
  refine ⟨?_, rfl, ?_⟩
  · clear hn
    have e1 := div_1461 (yj y m)
    rw [e1]
    have h4 : yj y m = 4 * (yj y m / 4) ∨ yj y m = 4 * (yj y m / 4) + 1 ∨ yj y m = 4 * (yj y m / 4) + 2 ∨ yj y m = 4 * (yj y m / 4) + 3 := by omega
    rcases m_cases hm with rfl | rfl | rfl | rfl | rfl | rfl | rfl | rfl | rfl | rfl | rfl | rfl <;> simp [mlen] at hd <;> simp only [mj] <;> simp <;> simp only [yj] at * <;> simp at * <;> omega
  · clear hn
    rcases m_cases hm with rfl | rfl | rfl | rfl | rfl | rfl | rfl | rfl | rfl | rfl | rfl | rfl <;> simp [mj, mlen] at hd ⊢ <;> omega
theorem jsteps {n r3 r2 r1 r0 Y Q d M : Int} (f1 : (20 * (n + 1524) - 2442) / 7305 = Y) (f2 : n + 1524 = 1461 * Y / 4 + Q + d) (f3 : 10000 * (Q + d) / 306001 = M)
    (h3 : r3 = (2 * n - 1 + 1) / 2) (h2 : r2 = (20 * (r3 + 1524) - 2442) / 7305) (h1 : r1 = 1461 * r2 / 4) (h0 : r0 = 10000 * (r3 + 1524 - r1) / 306001) :
    r3 = n ∧ r2 = Y ∧ r0 = M ∧ r3 + 1524 - r1 = Q + d := by
  have e3 : r3 = n := by omega
  subst e3
  rw [f1] at h2
  subst h2
  have e1 : r3 + 1524 - r1 = Q + d := by omega
  rw [e1, f3] at h0
  exact ⟨rfl, rfl, h0, e1⟩
theorem leapj {y : Int} : (y.fmod 4 == 0) = decide (jl y = 1) := by
  rw [Int.fmod_eq_emod_of_nonneg _ (by decide)]
  rcases jl_cases y with ⟨h1, h2⟩ | ⟨h1, h2⟩ <;> rw [h2] <;> simp [h1]
theorem c_to_jd2 (w : World) (y m d : Int) (t1 t2 t3 : Tok) (hy : -50000 ≤ y ∧ y ≤ 50000) (hm : 1 ≤ m ∧ m ≤ 12) (hdd : 1 ≤ d ∧ d ≤ mlen (lp y) m) : Claim w 64 3 [.int y t1, .int m t2, .int d t3] (RetH (2 * (yr y + cum (lp y) m + d) - 1)) := by
  w_top off
  k_with_none
  have kfill : PySem.Challenge.rw_ak5020_01 = PySem.Challenge.rw_ak5020_01 ∧ hd.heap_39 = hd.heap_39 := by
    k_fill
    exact ⟨rfl, rfl⟩
  clear kfill
  have h31 := mlen_le y m
  have hjd := jd2_eq (y := y) hm
  have hmb := mj_bounds hm
  have hyb := yj_bounds y m
  have hj : JMark2 (Str.ofString "year") (yj y m) (Str.ofString "month") (mj m) := ⟨⟩
  all_goals dsimp only [Claim, RetB, RetI, RetH, Ret2, Ret3]
  all_goals intros
  all_goals rename_i hret
  all_goals (try obtain ⟨hmem, hret⟩ := hret)
  all_goals refine wpAny_call ?_
  all_goals k_dflt cell_enter
  all_goals k_steps
  all_goals refine hret _ _ _ _ _ (by assumption) ?_ (by k_asm) (by first | k_asm | exact news_drop (by k_asm) | exact news_drop (news_drop (by k_asm)) | exact news_drop (news_drop (news_drop (by k_asm))))
  all_goals first | assumption | rfl | omega

local macro_rules | `(tactic| walk_at "call ref") => `(tactic| (k_here; (with_reducible show wpAny _ _ (call (Value.ref 64) _) _ _ _); k_dflt (refine' Mine.Claim.use (Mine.c_to_jd2 _ _ _ _ _ _ _ ?p1 ?p2 ?p3) ?k1 ?k2 ?k3 ?k4 ?k5 ?k6 ?k7 ?k8 ?_; (case k1 => k_asm); (case k2 => k_asm); (case k3 => k_asm); (case k4 => k_asm); (case k5 => k_asm); (case k6 => first | exact rfl | assumption); (case k7 => ktr_room); (case k8 => ktr_units); (case p1 => omega); (case p2 => omega); (case p3 => first | assumption | omega); k_whole; (try dsimp only [Mine.RetB, Mine.RetI, Mine.RetH, Mine.Ret2, Mine.Ret3]); intro z q t9 h9 tk9 z9 e9 F9 N9; subst e9; (try dsimp only); (try k_fold))))
theorem c_leapj (w : World) (y : Int) (t : Tok) : Claim w 114 1 [.int y t] (RetB (decide (jl y = 1))) := by
  w_top off
  k_with_none
  have kfill : PySem.Challenge.rw_ak5020_01 = PySem.Challenge.rw_ak5020_01 ∧ hd.heap_39 = hd.heap_39 := by
    k_fill
    exact ⟨rfl, rfl⟩
  clear kfill
  all_goals dsimp only [Claim, RetB, RetI, RetH, Ret2, Ret3]
  all_goals intros
  all_goals rename_i hret
  all_goals (try obtain ⟨hmem, hret⟩ := hret)
  all_goals refine wpAny_call ?_
  all_goals k_dflt cell_enter
  all_goals k_steps
  all_goals exact hret _ _ _ leapj (by k_asm) (by k_asm)

local macro_rules | `(tactic| walk_at "call ref") => `(tactic| (k_here; (with_reducible show wpAny _ _ (call (Value.ref 114) _) _ _ _); k_dflt (refine' Mine.Claim.use (Mine.c_leapj _ _ _) ?k1 ?k2 ?k3 ?k4 ?k5 ?k6 ?k7 ?k8 ?_; (case k1 => k_asm); (case k2 => k_asm); (case k3 => k_asm); (case k4 => k_asm); (case k5 => k_asm); (case k6 => first | exact rfl | assumption); (case k7 => ktr_room); (case k8 => ktr_units); k_whole; (try dsimp only [Mine.RetB, Mine.RetI, Mine.RetH, Mine.Ret2, Mine.Ret3]); intro v h9 tk9 e9 F9 N9; (try dsimp only); (try k_fold))))
theorem c_month_length (w : World) (y m : Int) (t1 t2 : Tok) : Claim w 121 2 [.int y t1, .int m t2] (RetI (mlen (jl y) m)) := by
  w_top off
  k_with_none
  have kfill : PySem.Challenge.rw_ak5020_01 = PySem.Challenge.rw_ak5020_01 ∧ hd.heap_39 = hd.heap_39 := by
    k_fill
    exact ⟨rfl, rfl⟩
  clear kfill
  have hj : JMark (Str.ofString "daysinmonth") (mlen (jl y) m) := ⟨⟩
  all_goals dsimp only [Claim, RetB, RetI, RetH, Ret2, Ret3]
  all_goals intros
  all_goals rename_i hret
  all_goals (try obtain ⟨hmem, hret⟩ := hret)
  all_goals refine wpAny_call ?_
  all_goals k_dflt cell_enter
  all_goals k_steps
  all_goals exact hret _ _ _ _ rfl (by k_asm) (by k_asm)

local macro_rules | `(tactic| walk_at "call ref") => `(tactic| (k_here; (with_reducible show wpAny _ _ (call (Value.ref 121) _) _ _ _); k_dflt (refine' Mine.Claim.use (Mine.c_month_length _ _ _ _ _) ?k1 ?k2 ?k3 ?k4 ?k5 ?k6 ?k7 ?k8 ?_; (case k1 => k_asm); (case k2 => k_asm); (case k3 => k_asm); (case k4 => k_asm); (case k5 => k_asm); (case k6 => first | exact rfl | assumption); (case k7 => ktr_room); (case k8 => ktr_units); k_whole; (try dsimp only [Mine.RetB, Mine.RetI, Mine.RetH, Mine.Ret2, Mine.Ret3]); intro v t9 h9 tk9 e9 F9 N9; subst e9; (try dsimp only); (try k_fold))))
theorem c_legalj (w : World) (y m d : Int) (t1 t2 t3 : Tok) (hdd : 1 ≤ d ∧ d ≤ mlen (jl y) m) : Claim w 128 3 [.int y t1, .int m t2, .int d t3] (RetB true) := by
  w_top off
  k_with_none
  have kfill : PySem.Challenge.rw_ak5020_01 = PySem.Challenge.rw_ak5020_01 ∧ hd.heap_39 = hd.heap_39 := by
    k_fill
    exact ⟨rfl, rfl⟩
  clear kfill
  all_goals dsimp only [Claim, RetB, RetI, RetH, Ret2, Ret3]
  all_goals intros
  all_goals rename_i hret
  all_goals (try obtain ⟨hmem, hret⟩ := hret)
  all_goals refine wpAny_call ?_
  all_goals k_dflt cell_enter
  all_goals k_steps
  all_goals exact hret _ _ _ rfl (by k_asm) (by k_asm)

local macro_rules | `(tactic| walk_at "call ref") => `(tactic| (k_here; (with_reducible show wpAny _ _ (call (Value.ref 128) _) _ _ _); k_dflt (refine' Mine.Claim.use (Mine.c_legalj _ _ _ _ _ _ _ ?p1) ?k1 ?k2 ?k3 ?k4 ?k5 ?k6 ?k7 ?k8 ?_; (case k1 => k_asm); (case k2 => k_asm); (case k3 => k_asm); (case k4 => k_asm); (case k5 => k_asm); (case k6 => first | exact rfl | assumption); (case k7 => ktr_room); (case k8 => ktr_units); (case p1 => first | assumption | omega); k_whole; (try dsimp only [Mine.RetB, Mine.RetI, Mine.RetH, Mine.Ret2, Mine.Ret3]); intro v h9 tk9 e9 F9 N9; subst e9; (try dsimp only); (try k_fold))))
theorem c_to_jd_julian (w : World) (y m d : Int) (t1 t2 t3 : Tok) (hy : -50000 ≤ y ∧ y ≤ 50000) (hm : 1 ≤ m ∧ m ≤ 12) (hdd : 1 ≤ d ∧ d ≤ mlen (jl y) m) : Claim w 142 4 [.int y t1, .int m t2, .int d t3] (RetH (2 * (jyr y + cum (jl y) m + d) - 1)) := by
  w_top off
  k_with_none
  have kfill : PySem.Challenge.rw_ak5020_01 = PySem.Challenge.rw_ak5020_01 ∧ hd.heap_39 = hd.heap_39 := by
    k_fill
    exact ⟨rfl, rfl⟩
  clear kfill
  have h31 : mlen (jl y) m ≤ 31 := by
    have := jl_01 y
    unfold mlen
    (repeat' split) <;> omega
  have hjd := jdj_eq (y := y) hm
  have hmb := mj_bounds hm
  have hyb := yj_bounds y m
  have hj : JMark2 (Str.ofString "year") (yj y m) (Str.ofString "month") (mj m) := ⟨⟩
  all_goals dsimp only [Claim, RetB, RetI, RetH, Ret2, Ret3]
  all_goals intros
  all_goals rename_i hret
  all_goals (try obtain ⟨hmem, hret⟩ := hret)
  all_goals refine wpAny_call ?_
  all_goals k_dflt cell_enter
  all_goals k_steps
  all_goals refine hret _ _ _ _ _ (by assumption) ?_ (by k_asm) (by first | k_asm | exact news_drop (by k_asm) | exact news_drop (news_drop (by k_asm)) | exact news_drop (news_drop (news_drop (by k_asm))))
  all_goals first | assumption | rfl | omega

local macro_rules | `(tactic| walk_at "call ref") => `(tactic| (k_here; (with_reducible show wpAny _ _ (call (Value.ref 142) _) _ _ _); k_dflt (refine' Mine.Claim.use (Mine.c_to_jd_julian _ _ _ _ _ _ _ ?p1 ?p2 ?p3) ?k1 ?k2 ?k3 ?k4 ?k5 ?k6 ?k7 ?k8 ?_; (case k1 => k_asm); (case k2 => k_asm); (case k3 => k_asm); (case k4 => k_asm); (case k5 => k_asm); (case k6 => first | exact rfl | assumption); (case k7 => ktr_room); (case k8 => ktr_units); (case p1 => omega); (case p2 => omega); (case p3 => first | assumption | omega); k_whole; (try dsimp only [Mine.RetB, Mine.RetI, Mine.RetH, Mine.Ret2, Mine.Ret3]); intro z q t9 h9 tk9 z9 e9 F9 N9; subst e9; (try dsimp only); (try k_fold))))
local macro_rules | `(tactic| tb_start) => `(tactic| (obtain ⟨g1, g2, g3, g4⟩ := (Mine.jsteps (by assumption) (by assumption) (by assumption) (by assumption) (by assumption) (by assumption) (by assumption)); omega))
theorem c_from_jd_julian (w : World) (x : UInt64) (n y m d : Int) (t : Tok) (hx : Hf x (2 * n - 1)) (hn : -13000000 ≤ n ∧ n ≤ 13000000) (hm : 1 ≤ m ∧ m ≤ 12) (hdd : 1 ≤ d ∧ d ≤ mlen (jl y) m) (he : n = jyr y + cum (jl y) m + d) : Claim w 135 1 [.float x t] (Ret3 y m d) := by
  w_top off
  k_with_none
  have kfill : PySem.Challenge.rw_ak5020_01 = PySem.Challenge.rw_ak5020_01 ∧ hd.heap_39 = hd.heap_39 := by
    k_fill
    exact ⟨rfl, rfl⟩
  clear kfill
  obtain ⟨f1, f2, f3, f4, f5⟩ := jfacts hm hdd he
  have hmb := mj_bounds hm
  have hyb := yj_bounds y m
  have hyc : (m ≤ 2 ∧ yj y m = y - 1 ∧ mj m = m + 12) ∨ (2 < m ∧ yj y m = y ∧ mj m = m) := by
    unfold yj mj
    (repeat' split) <;> omega
  have hj1 : JMark (Str.ofString "year") y := ⟨⟩
  have hj2 : JMark (Str.ofString "month") m := ⟨⟩
  all_goals dsimp only [Claim, RetB, RetI, RetH, Ret2, Ret3]
  all_goals intros
  all_goals rename_i hret
  all_goals (try obtain ⟨hmem, hret⟩ := hret)
  all_goals refine wpAny_call ?_
  all_goals k_dflt cell_enter
  all_goals k_steps
  all_goals refine hret _ _ _ _ _ _ _ _ _ _ ?_ ?_ ?_ (by k_asm) (news_one (by k_asm) (.head _)) (by first | k_asm | exact news_drop (by k_asm) | exact news_drop (news_drop (by k_asm)) | exact news_drop (news_drop (news_drop (by k_asm))))
  all_goals first | assumption | rfl | (obtain ⟨g1, g2, g3, g4⟩ := (Mine.jsteps (by assumption) (by assumption) (by assumption) (by assumption) (by assumption) (by assumption) (by assumption)); omega)

local macro_rules | `(tactic| walk_at "call ref") => `(tactic| (k_here; (with_reducible show wpAny _ _ (call (Value.ref 135) _) _ _ _); k_dflt (refine' Mine.Claim.use (Mine.c_from_jd_julian _ _ _ _ _ _ _ ?p1 ?p2 ?p3 ?p4 ?p5) ?k1 ?k2 ?k3 ?k4 ?k5 ?k6 ?k7 ?k8 ?_; (case k1 => k_asm); (case k2 => k_asm); (case k3 => k_asm); (case k4 => k_asm); (case k5 => k_asm); (case k6 => first | exact rfl | assumption); (case k7 => ktr_room); (case k8 => ktr_units); (case p1 => assumption); (case p2 => omega); (case p3 => omega); (case p4 => assumption); (case p5 => omega); k_whole; (try dsimp only [Mine.RetB, Mine.RetI, Mine.RetH, Mine.Ret2, Mine.Ret3]); intro D9 a9 b9 c9 t1 t2 t3 k9 h9 tk9 e1 e2 e3 F9 N1 N2; subst e1; subst e2; subst e3; have N9 := Mine.news_cons N1 N2; clear N1 N2; (try dsimp only); (try k_fold))))
end Mine

namespace Mine
open PySem.Flt
local macro_rules | `(tactic| walk_at "eval Call") => `(tactic| (k_here; (with_reducible show wpAny _ _ (eval (Expr.Call (Expr.Name _ _) _ [] _) _) _ _ _); k_dflt (refine Call_ ?_)))
local macro_rules | `(tactic| walk_at "binaryOp Add float float") => `(tactic| (k_here; (with_reducible show wpAny _ _ (binaryOp _ (Value.float _ _) (Value.float _ _)) _ _ _); ((with_reducible refine' Mine.w_add_ff ?hx ?hy ?hb ?_; (case hx => with_reducible first | assumption | exact Mine.hf_epoch | exact Mine.hf_half | exact Mine.hf_1524 | exact Mine.hf_pos | exact Mine.hf_1_5); (case hy => with_reducible first | assumption | exact Mine.hf_epoch | exact Mine.hf_half | exact Mine.hf_1524 | exact Mine.hf_pos | exact Mine.hf_1_5); (case hb => k_dflt omega); k_whole; intro z hz; (try dsimp only)))))
local macro_rules | `(tactic| walk_at "inplaceOp Add float float") => `(tactic| (k_here; (with_reducible show wpAny _ _ (inplaceOp _ (Value.float _ _) (Value.float _ _)) _ _ _); ((with_reducible refine' Mine.w_iadd_ff ?hx ?hy ?hb ?_; (case hx => with_reducible first | assumption | exact Mine.hf_epoch | exact Mine.hf_half | exact Mine.hf_1524 | exact Mine.hf_pos | exact Mine.hf_1_5); (case hy => with_reducible first | assumption | exact Mine.hf_epoch | exact Mine.hf_half | exact Mine.hf_1524 | exact Mine.hf_pos | exact Mine.hf_1_5); (case hb => k_dflt omega); k_whole; intro z hz; (try dsimp only)))))
local macro_rules | `(tactic| walk_at "binaryOp Sub float float") => `(tactic| (k_here; (with_reducible show wpAny _ _ (binaryOp _ (Value.float _ _) (Value.float _ _)) _ _ _); ((with_reducible refine' Mine.w_sub_ff ?hx ?hy ?hb ?_; (case hx => with_reducible first | assumption | exact Mine.hf_epoch | exact Mine.hf_half | exact Mine.hf_1524 | exact Mine.hf_pos | exact Mine.hf_1_5); (case hy => with_reducible first | assumption | exact Mine.hf_epoch | exact Mine.hf_half | exact Mine.hf_1524 | exact Mine.hf_pos | exact Mine.hf_1_5); (case hb => k_dflt omega); k_whole; intro z hz; (try dsimp only)))))
local macro_rules | `(tactic| walk_at "binaryOp Add float int") => `(tactic| (k_here; (with_reducible show wpAny _ _ (binaryOp _ (Value.float _ _) (Value.int _ _)) _ _ _); (first
  | (with_reducible refine' Mine.w_add_fi ?hA ?hx ?hb ?_; (case hA => k_dflt (exact rfl)); (case hx => with_reducible first | assumption | exact Mine.hf_epoch | exact Mine.hf_half | exact Mine.hf_1524 | exact Mine.hf_pos | exact Mine.hf_1_5); (case hb => k_dflt omega); k_whole; intro z hz; (try dsimp only))
  | (with_reducible refine' Mine.w_addn_fi ?hA ?hx ?hb ?_; (case hA => k_dflt (exact rfl)); (case hx => with_reducible assumption); (case hb => k_dflt omega); k_whole; intro z hz; (try dsimp only)))))
local macro_rules | `(tactic| walk_at "binaryOp Sub float int") => `(tactic| (k_here; (with_reducible show wpAny _ _ (binaryOp _ (Value.float _ _) (Value.int _ _)) _ _ _); ((with_reducible refine' Mine.w_sub_fi ?hA ?hx ?hb ?_; (case hA => k_dflt (exact rfl)); (case hx => with_reducible first | assumption | exact Mine.hf_epoch | exact Mine.hf_half | exact Mine.hf_1524 | exact Mine.hf_pos | exact Mine.hf_1_5); (case hb => k_dflt omega); k_whole; intro z hz; (try dsimp only)))))
local macro_rules | `(tactic| walk_at "binaryOp Add int float") => `(tactic| (k_here; (with_reducible show wpAny _ _ (binaryOp _ (Value.int _ _) (Value.float _ _)) _ _ _); ((with_reducible refine' Mine.w_add_if ?hA ?hx ?hb ?_; (case hA => k_dflt (exact rfl)); (case hx => with_reducible first | assumption | exact Mine.hf_epoch | exact Mine.hf_half | exact Mine.hf_1524 | exact Mine.hf_pos | exact Mine.hf_1_5); (case hb => k_dflt omega); k_whole; intro z hz; (try dsimp only)))))
local macro_rules | `(tactic| walk_at "binaryOp Sub int float") => `(tactic| (k_here; (with_reducible show wpAny _ _ (binaryOp _ (Value.int _ _) (Value.float _ _)) _ _ _); (first
  | (with_reducible refine' Mine.w_sub_122 ?hA ?hcc ?hb ?_; (case hcc => with_reducible rfl); (case hA => k_dflt (exact rfl)); (case hb => k_dflt omega); k_whole; intro z hz; (try dsimp only))
  | (with_reducible refine' Mine.w_sub_if ?hA ?hx ?hb ?_; (case hA => k_dflt (exact rfl)); (case hx => with_reducible first | assumption | exact Mine.hf_epoch | exact Mine.hf_half | exact Mine.hf_1524 | exact Mine.hf_pos | exact Mine.hf_1_5); (case hb => k_dflt omega); k_whole; intro z hz; (try dsimp only)))))
local macro_rules | `(tactic| walk_at "binaryOp Mult float int") => `(tactic| (k_here; (with_reducible show wpAny _ _ (binaryOp _ (Value.float _ _) (Value.int _ _)) _ _ _); (first
  | (with_reducible refine' Mine.w_mul_365 ?hA ?hcc ?hb ?_; (case hcc => with_reducible rfl); (case hA => k_dflt (exact rfl)); (case hb => k_dflt omega); k_whole; intro z hz; (try dsimp only))
  | (with_reducible refine' Mine.w_mul_306001 ?hA ?hcc ?hb ?_; (case hcc => with_reducible rfl); (case hA => k_dflt (exact rfl)); (case hb => k_dflt omega); k_whole; intro z hz; (try dsimp only))
  | (with_reducible refine' Mine.w_mul_306 ?hA ?hcc ?hb ?_; (case hcc => with_reducible rfl); (case hA => k_dflt (exact rfl)); (case hb => k_dflt omega); k_whole; intro z hz; (try dsimp only))
  | (with_reducible refine' Mine.w_mul_fi ?hA ?hx ?hb ?_; (case hA => k_dflt (exact rfl)); (case hx => with_reducible first | assumption | exact Mine.hf_epoch | exact Mine.hf_half | exact Mine.hf_1524 | exact Mine.hf_pos | exact Mine.hf_1_5); (case hb => k_dflt omega); k_whole; intro z hz; (try dsimp only)))))
local macro_rules | `(tactic| walk_at "binaryOp Mod float int") => `(tactic| (k_here; (with_reducible show wpAny _ _ (binaryOp _ (Value.float _ _) (Value.int _ _)) _ _ _); ((with_reducible refine' Mine.w_mod_fi ?hA ?hx ?hb ?_; (case hA => k_dflt (exact rfl)); (case hx => with_reducible first | assumption | exact Mine.hf_epoch | exact Mine.hf_half | exact Mine.hf_1524 | exact Mine.hf_pos | exact Mine.hf_1_5); (case hb => k_dflt omega); k_whole; intro z r hr hz; (try dsimp only)))))
local macro_rules | `(tactic| walk_at "binaryOp Div float int") => `(tactic| (k_here; (with_reducible show wpAny _ _ (binaryOp _ (Value.float _ _) (Value.int _ _)) _ _ _); ((with_reducible refine' Mine.w_div_fi ?hA ?hx ?hb ?_; (case hA => k_dflt (exact rfl)); (case hx => with_reducible first | assumption | exact Mine.hf_epoch | exact Mine.hf_half | exact Mine.hf_1524 | exact Mine.hf_pos | exact Mine.hf_1_5); (case hb => k_dflt omega); k_whole; intro z hz; (try dsimp only)))))
local macro_rules | `(tactic| walk_at "binaryOp Div int int") => `(tactic| (k_here; (with_reducible show wpAny _ _ (binaryOp _ (Value.int _ _) (Value.int _ _)) _ _ _); ((with_reducible refine' Mine.w_div_ii ?hA ?hb ?_; (case hA => k_dflt (exact rfl)); (case hb => k_dflt omega); k_whole; intro z hz; (try dsimp only)))))
local macro_rules | `(tactic| walk_at "binaryOp Div float float") => `(tactic| (k_here; (with_reducible show wpAny _ _ (binaryOp _ (Value.float _ _) (Value.float _ _)) _ _ _); ((with_reducible refine' Mine.w_div_365 ?hA ?hcc ?hx ?hb ?_; (case hcc => with_reducible rfl); (case hA => k_dflt (exact rfl)); (case hx => with_reducible assumption); (case hb => k_dflt omega); k_whole; intro z hz; (try dsimp only)))))
local macro_rules | `(tactic| walk_at "binaryOp Div int float") => `(tactic| (k_here; (with_reducible show wpAny _ _ (binaryOp _ (Value.int _ _) (Value.float _ _)) _ _ _); ((with_reducible refine' Mine.w_div_306001 ?hA ?hcc ?hb ?_; (case hcc => with_reducible rfl); (case hA => k_dflt (exact rfl)); (case hb => k_dflt omega); k_whole; intro z hz; (try dsimp only)))))
local macro_rules | `(tactic| walk_at "call builtin:math.floor") => `(tactic| (k_here; (with_reducible show wpAny _ _ (call _ [Value.float _ _]) _ _ _); (first
  | (with_reducible refine' Mine.w_floor_h ?hA ?hx ?_; (case hA => k_dflt (exact rfl)); (case hx => with_reducible assumption); k_whole; intro r hr; (try dsimp only))
  | (with_reducible refine' Mine.w_floor_n ?hA ?hx ?hb ?_; (case hA => k_dflt (exact rfl)); (case hx => with_reducible assumption); (case hb => k_dflt omega); k_whole; intro r hr; (try dsimp only))
  | (with_reducible refine' Mine.w_floor_q ?hA ?hx ?_; (case hA => k_dflt (exact rfl)); (case hx => with_reducible assumption); k_whole; intro r hr; (try dsimp only)))))
local macro_rules | `(tactic| walk_at "call builtin:math.trunc") => `(tactic| (k_here; (with_reducible show wpAny _ _ (call _ [Value.float _ _]) _ _ _); (first
  | (with_reducible refine' Mine.w_trunc_q ?hA ?hx ?_; (case hA => k_dflt (exact rfl)); (case hx => with_reducible assumption); k_whole; intro r hr; (try dsimp only))
  | (with_reducible refine' Mine.w_trunc_n ?hA ?hx ?hb ?_; (case hA => k_dflt (exact rfl)); (case hx => with_reducible assumption); (case hb => k_dflt omega); k_whole; intro r hr; (try dsimp only)))))
local macro_rules | `(tactic| walk_at "call type:int") => `(tactic| (k_here; (with_reducible show wpAny _ _ (call _ [Value.float _ _]) _ _ _); ((with_reducible refine' Mine.w_int_h ?hA ?hx ?hb ?_; (case hA => k_dflt (exact rfl)); (case hx => with_reducible assumption); (case hb => k_dflt omega); k_whole; intro r hr; (try dsimp only)))))
local macro_rules | `(tactic| walk_at "compareOp Eq float float") => `(tactic| (k_here; (with_reducible show wpAny _ _ (compareOp _ (Value.float _ _) (Value.float _ _)) _ _ _); ((with_reducible refine' Mine.w_eq_ff ?hx ?hy ?_; (case hx => with_reducible first | assumption | exact Mine.hf_epoch | exact Mine.hf_half | exact Mine.hf_1524 | exact Mine.hf_pos | exact Mine.hf_1_5); (case hy => with_reducible first | assumption | exact Mine.hf_epoch | exact Mine.hf_half | exact Mine.hf_1524 | exact Mine.hf_pos | exact Mine.hf_1_5); k_whole; skip; (try dsimp only)))))
local macro_rules | `(tactic| walk_at "compareOp NotEq float float") => `(tactic| (k_here; (with_reducible show wpAny _ _ (compareOp _ (Value.float _ _) (Value.float _ _)) _ _ _); ((with_reducible refine' Mine.w_ne_ff ?hx ?hy ?_; (case hx => with_reducible first | assumption | exact Mine.hf_epoch | exact Mine.hf_half | exact Mine.hf_1524 | exact Mine.hf_pos | exact Mine.hf_1_5); (case hy => with_reducible first | assumption | exact Mine.hf_epoch | exact Mine.hf_half | exact Mine.hf_1524 | exact Mine.hf_pos | exact Mine.hf_1_5); k_whole; skip; (try dsimp only)))))
local macro_rules | `(tactic| walk_at "compareOp GtE float float") => `(tactic| (k_here; (with_reducible show wpAny _ _ (compareOp _ (Value.float _ _) (Value.float _ _)) _ _ _); ((with_reducible refine' Mine.w_ge_ff ?hx ?hy ?_; (case hx => with_reducible first | assumption | exact Mine.hf_epoch | exact Mine.hf_half | exact Mine.hf_1524 | exact Mine.hf_pos | exact Mine.hf_1_5); (case hy => with_reducible first | assumption | exact Mine.hf_epoch | exact Mine.hf_half | exact Mine.hf_1524 | exact Mine.hf_pos | exact Mine.hf_1_5); k_whole; skip; (try dsimp only)))))
local macro_rules | `(tactic| walk_at "compareOp Lt float int") => `(tactic| (k_here; (with_reducible show wpAny _ _ (compareOp _ (Value.float _ _) (Value.int _ _)) _ _ _); ((with_reducible refine' Mine.w_lt_fi ?hx ?_; (case hx => with_reducible first | assumption | exact Mine.hf_epoch | exact Mine.hf_half | exact Mine.hf_1524 | exact Mine.hf_pos | exact Mine.hf_1_5); k_whole; skip; (try dsimp only)))))
local macro_rules | `(tactic| walk_at "ite") => `(tactic| (k_here; k_openite; first | (refine ite_pos (by with_reducible assumption) ?_; walk_say "PRUNED") | (refine ite_neg (by with_reducible assumption) ?_; walk_say "PRUNED") | (refine ite_isFalse (by with_reducible assumption) ?_; walk_say "PRUNED") | (refine ite_pos (by with_reducible (first | omega | (simp only [beq_iff_eq]; omega) | (simp only [decide_eq_true_eq]; omega) | (simp only [Bool.not_eq_true', decide_eq_false_iff_not]; omega) | (simp only [bne_iff_ne, ne_eq]; omega) | (simp only [Bool.not_eq_true', beq_eq_false_iff_ne, ne_eq]; omega) | (simp only [Bool.and_eq_true, Bool.or_eq_true, decide_eq_true_eq, beq_iff_eq, bne_iff_ne, Bool.not_eq_true', decide_eq_false_iff_not]; omega))) ?_; walk_say "PRUNED MINE") | (refine ite_neg (by with_reducible (first | omega | (simp only [beq_iff_eq]; omega) | (simp only [decide_eq_true_eq]; omega) | (simp only [Bool.not_eq_true', decide_eq_false_iff_not]; omega) | (simp only [bne_iff_ne, ne_eq]; omega) | (simp only [Bool.not_eq_true', beq_eq_false_iff_ne, ne_eq]; omega) | (simp only [Bool.and_eq_true, Bool.or_eq_true, decide_eq_true_eq, beq_iff_eq, bne_iff_ne, Bool.not_eq_true', decide_eq_false_iff_not]; omega))) ?_; walk_say "PRUNED MINE")))
local macro_rules | `(tactic| walk_at "ite") => `(tactic| (k_here; k_openite; first | (refine Mine.split_leap1 (by with_reducible assumption) (by with_reducible assumption) ?_) | (refine Mine.split_leap0 (by with_reducible assumption) (by with_reducible assumption) ?_) | (refine Mine.split_leap (by with_reducible assumption) ?_ ?_ <;> intro hl) | (refine Mine.split_jl (by with_reducible assumption) ?_ ?_ <;> intro hl)))
local macro_rules | `(tactic| walk_at "binaryOp Add int bool") => `(tactic| (k_here; with_reducible refine' Mine.w_add_ib ?k1 ?_; (case k1 => with_reducible assumption); k_whole; (try dsimp only)))
local macro_rules | `(tactic| walk_at "binaryOp Sub int bool") => `(tactic| (k_here; with_reducible refine' Mine.w_sub_ib ?k1 ?_; (case k1 => with_reducible assumption); k_whole; (try dsimp only)))
local macro_rules | `(tactic| walk_at "execs cons If") => `(tactic| (k_here; (with_reducible rename Mine.JMark _ _ => hj9); (with_reducible rename Fr _ _ _ _ => F0); (with_reducible rename News _ _ _ _ => N0); k_dflt (refine' Mine.join hj9 F0 N0 ?_ ?_; rotate_left; clear hj9; intro t9 h9 tk9 F9 N9; (try k_sweep); (try dsimp only); (try k_fold); rotate_left; clear hj9; (try dsimp only); (try k_fold))))
local macro_rules | `(tactic| walk_at "JEnd") => `(tactic| ((with_reducible rename Fr _ _ _ _ => F0); (with_reducible rename News _ _ _ _ => N0); k_dflt (first | (refine' Mine.jend_store F0 N0 ?_; k_whole) | (refine' Mine.jend_keep ?hm F0 N0 ?_; (case hm => rfl); k_whole)); first | assumption | omega | (unfold Mine.mlen; (repeat' split) <;> omega) | (unfold Mine.adj; (repeat' split) <;> omega) | tb_rel | tb_start))
local macro_rules | `(tactic| walk_at "execs cons If") => `(tactic| (k_here; (with_reducible rename Mine.JMark2 _ _ _ _ => hj9); (with_reducible rename Fr _ _ _ _ => F0); (with_reducible rename News _ _ _ _ => N0); k_dflt (refine' Mine.join2 hj9 F0 N0 ?_ ?_; rotate_left; clear hj9; intro t9 u9 h9 tk9 F9 N9; (try k_sweep); (try dsimp only); (try k_fold); rotate_left; clear hj9; (try dsimp only); (try k_fold))))
local macro_rules | `(tactic| walk_at "JEnd2") => `(tactic| ((with_reducible rename Fr _ _ _ _ => F0); (with_reducible rename News _ _ _ _ => N0); k_dflt (first | (refine' Mine.jend2_store F0 N0 ?_; k_whole) | (refine' Mine.jend2_keep ?hm ?hm2 F0 N0 ?_; (case hm => rfl); (case hm2 => rfl); k_whole)); (refine ⟨?_, ?_⟩) <;> (first | omega | (unfold Mine.yj; (repeat' split) <;> omega) | (unfold Mine.mj; (repeat' split) <;> omega))))
local macro_rules | `(tactic| walk_at "compareOp In int ref") => `(tactic| (k_here; k_dflt (refine' Mine.w_in30 ?k1 ?k2 ?k3 ?_; (case k1 => k_asm); (case k2 => k_asm); (case k3 => k_is))))
local macro_rules | `(tactic| walk_at "call ref") => `(tactic| (k_here; (with_reducible show wpAny _ _ (call (Value.ref 50) _) _ _ _); k_dflt (refine' Mine.Claim.use (Mine.c_isleap _ _ _) ?k1 ?k2 ?k3 ?k4 ?k5 ?k6 ?k7 ?k8 ?_; (case k1 => k_asm); (case k2 => k_asm); (case k3 => k_asm); (case k4 => k_asm); (case k5 => k_asm); (case k6 => first | exact rfl | assumption); (case k7 => ktr_room); (case k8 => ktr_units); k_whole; (try dsimp only [Mine.RetB, Mine.RetI, Mine.RetH, Mine.Ret2, Mine.Ret3]); intro v h9 tk9 e9 F9 N9; (try dsimp only); (try k_fold))))
local macro_rules | `(tactic| walk_at "call ref") => `(tactic| (k_here; (with_reducible show wpAny _ _ (call (Value.ref 57) _) _ _ _); k_dflt (refine' Mine.Claim.use (Mine.c_legal _ _ _ _ _ _ _ ?p1 ?p2) ?k1 ?k2 ?k3 ?k4 ?k5 ?k6 ?k7 ?k8 ?_; (case k1 => k_asm); (case k2 => k_asm); (case k3 => k_asm); (case k4 => k_asm); (case k5 => k_asm); (case k6 => first | exact rfl | assumption); (case k7 => ktr_room); (case k8 => ktr_units); (case p1 => omega); (case p2 => assumption); k_whole; (try dsimp only [Mine.RetB, Mine.RetI, Mine.RetH, Mine.Ret2, Mine.Ret3]); intro v h9 tk9 e9 F9 N9; subst e9; (try dsimp only); (try k_fold))))
local macro_rules | `(tactic| walk_at "call ref") => `(tactic| (k_here; (with_reducible show wpAny _ _ (call (Value.ref 71) _) _ _ _); k_dflt (refine' Mine.Claim.use (Mine.c_to_jd_gregorian _ _ _ _ _ _ _ ?p1 ?p2 ?p3) ?k1 ?k2 ?k3 ?k4 ?k5 ?k6 ?k7 ?k8 ?_; (case k1 => k_asm); (case k2 => k_asm); (case k3 => k_asm); (case k4 => k_asm); (case k5 => k_asm); (case k6 => first | exact rfl | assumption); (case k7 => ktr_room); (case k8 => ktr_units); (case p1 => omega); (case p2 => omega); (case p3 => first | assumption | omega); k_whole; (try dsimp only [Mine.RetB, Mine.RetI, Mine.RetH, Mine.Ret2, Mine.Ret3]); intro z q t9 h9 tk9 z9 e9 F9 N9; subst e9; (try dsimp only); (try k_fold))))
local macro_rules | `(tactic| walk_at "call ref") => `(tactic| (k_here; (with_reducible show wpAny _ _ (call (Value.ref 50) _) _ _ _); k_dflt (refine' Mine.Claim.use (Mine.c_isleap_at _ ?p1 ?p2) ?k1 ?k2 ?k3 ?k4 ?k5 ?k6 ?k7 ?k8 ?_; (case p1 => assumption); (case p2 => first | assumption | rfl); (case k1 => k_asm); (case k2 => k_asm); (case k3 => k_asm); (case k4 => k_asm); (case k5 => k_asm); (case k6 => first | exact rfl | assumption); (case k7 => ktr_room); (case k8 => ktr_units); k_whole; (try dsimp only [Mine.RetB, Mine.RetI, Mine.RetH, Mine.Ret2, Mine.Ret2E, Mine.Ret3, Mine.RetHE, Mine.RetBE]); intro v h9 tk9 e9 F9 N9; (try dsimp only); (try k_fold))))
local macro_rules | `(tactic| walk_at "call ref") => `(tactic| (k_here; (with_reducible show wpAny _ _ (call (Value.ref 71) _) _ _ _); k_dflt (refine' Mine.Claim.use (Mine.c_to_jd_at2 _ ?p1 ?p2 ?p3 ?p4 ?p5 ?p6) ?k1 ?k2 ?k3 ?k4 ?k5 ?k6 ?k7 ?k8 ?_; (case p1 => assumption); (case p2 => first | assumption | rfl); (case p3 => first | assumption | omega); (case p4 => exact rfl); (case p5 => assumption); (case p6 => omega); (case k1 => k_asm); (case k2 => k_asm); (case k3 => k_asm); (case k4 => k_asm); (case k5 => k_asm); (case k6 => first | exact rfl | assumption); (case k7 => ktr_room); (case k8 => ktr_units); k_whole; (try dsimp only [Mine.RetB, Mine.RetI, Mine.RetH, Mine.Ret2, Mine.Ret2E, Mine.Ret3, Mine.RetHE, Mine.RetBE]); intro z q t9 h9 tk9 ee9 z9 e9 F9 N9; subst e9; (try dsimp only); (try k_fold))))
local macro_rules | `(tactic| walk_at "call ref") => `(tactic| (k_here; (with_reducible show wpAny _ _ (call (Value.ref 71) _) _ _ _); k_dflt (refine' Mine.Claim.use (Mine.c_to_jd_at1 _ ?p1 ?p2 ?p3 ?p4 ?p5) ?k1 ?k2 ?k3 ?k4 ?k5 ?k6 ?k7 ?k8 ?_; (case p1 => assumption); (case p2 => first | assumption | rfl | tb_start); (case p3 => exact rfl); (case p4 => exact rfl); (case p5 => assumption); (case k1 => k_asm); (case k2 => k_asm); (case k3 => k_asm); (case k4 => k_asm); (case k5 => k_asm); (case k6 => first | exact rfl | assumption); (case k7 => ktr_room); (case k8 => ktr_units); k_whole; (try dsimp only [Mine.RetB, Mine.RetI, Mine.RetH, Mine.Ret2, Mine.Ret2E, Mine.Ret3, Mine.RetHE, Mine.RetBE]); intro z q t9 h9 tk9 ee9 z9 e9 F9 N9; subst e9; (try dsimp only); (try k_fold))))
local macro_rules | `(tactic| walk_at "call ref") => `(tactic| (k_here; (with_reducible show wpAny _ _ (call (Value.ref 78) _) _ _ _); k_dflt (refine' Mine.Claim.use (Mine.c_from_jd_gregorian _ _ _ _ _ _ _ ?p1 ?p2 ?p3 ?p4 ?p5) ?k1 ?k2 ?k3 ?k4 ?k5 ?k6 ?k7 ?k8 ?_; (case k1 => k_asm); (case k2 => k_asm); (case k3 => k_asm); (case k4 => k_asm); (case k5 => k_asm); (case k6 => first | exact rfl | assumption); (case k7 => ktr_room); (case k8 => ktr_units); (case p1 => assumption); (case p2 => omega); (case p3 => omega); (case p4 => assumption); (case p5 => omega); k_whole; (try dsimp only [Mine.RetB, Mine.RetI, Mine.RetH, Mine.Ret2, Mine.Ret3]); intro D9 a9 b9 c9 t1 t2 t3 k9 h9 tk9 e1 e2 e3 F9 N1 N2; subst e1; subst e2; subst e3; have N9 := Mine.news_cons N1 N2; clear N1 N2; (try dsimp only); (try k_fold))))
local macro_rules | `(tactic| walk_at "call ref") => `(tactic| (k_here; (with_reducible show wpAny _ _ (call (Value.ref 85) _) _ _ _); k_dflt (refine' Mine.Claim.use (Mine.c_to_jd_ordinal _ _ _ _ _ ?p1 ?p2) ?k1 ?k2 ?k3 ?k4 ?k5 ?k6 ?k7 ?k8 ?_; (case k1 => k_asm); (case k2 => k_asm); (case k3 => k_asm); (case k4 => k_asm); (case k5 => k_asm); (case k6 => first | exact rfl | assumption); (case k7 => ktr_room); (case k8 => ktr_units); (case p1 => omega); (case p2 => omega); k_whole; (try dsimp only [Mine.RetB, Mine.RetI, Mine.RetH, Mine.Ret2, Mine.Ret3]); intro z q t9 h9 tk9 z9 e9 F9 N9; subst e9; (try dsimp only); (try k_fold))))
local macro_rules | `(tactic| walk_at "call ref") => `(tactic| (k_here; (with_reducible show wpAny _ _ (call (Value.ref 92) _) _ _ _); k_dflt (refine' Mine.Claim.use (Mine.c_from_jd_ordinal _ _ _ _ _ _ _ ?p1 ?p2 ?p3 ?p4 ?p5) ?k1 ?k2 ?k3 ?k4 ?k5 ?k6 ?k7 ?k8 ?_; (case k1 => k_asm); (case k2 => k_asm); (case k3 => k_asm); (case k4 => k_asm); (case k5 => k_asm); (case k6 => first | exact rfl | assumption); (case k7 => ktr_room); (case k8 => ktr_units); (case p1 => assumption); (case p2 => omega); (case p3 => omega); (case p4 => assumption); (case p5 => omega); k_whole; (try dsimp only [Mine.RetB, Mine.RetI, Mine.RetH, Mine.Ret2, Mine.Ret3]); intro D9 a9 b9 t1 t2 k9 h9 tk9 e1 e2 F9 N1 N2; subst e1; subst e2; have N9 := Mine.news_cons N1 N2; clear N1 N2; (try dsimp only); (try k_fold))))
local macro_rules | `(tactic| walk_at "call ref") => `(tactic| (k_here; (with_reducible show wpAny _ _ (call (Value.ref 99) _) _ _ _); k_dflt (refine' Mine.Claim.use (Mine.c_from_gregorian_ordinal _ _ _ _ _ _ _ ?p1 ?p2) ?k1 ?k2 ?k3 ?k4 ?k5 ?k6 ?k7 ?k8 ?_; (case k1 => k_asm); (case k2 => k_asm); (case k3 => k_asm); (case k4 => k_asm); (case k5 => k_asm); (case k6 => first | exact rfl | assumption); (case k7 => ktr_room); (case k8 => ktr_units); (case p1 => omega); (case p2 => first | assumption | omega); k_whole; (try dsimp only [Mine.RetB, Mine.RetI, Mine.RetH, Mine.Ret2, Mine.Ret3]); intro D9 a9 b9 t1 t2 k9 h9 tk9 e1 e2 F9 N1 N2; subst e1; subst e2; have N9 := Mine.news_cons N1 N2; clear N1 N2; (try dsimp only); (try k_fold))))
local macro_rules | `(tactic| walk_at "call ref") => `(tactic| (k_here; (with_reducible show wpAny _ _ (call (Value.ref 99) _) _ _ _); k_dflt (refine' Mine.Claim.use (Mine.c_fgo_at _ ?p1 ?p2 ?p3 ?p4) ?k1 ?k2 ?k3 ?k4 ?k5 ?k6 ?k7 ?k8 ?_; (case p1 => assumption); (case p2 => first | assumption | omega); (case p3 => exact rfl); (case p4 => omega); (case k1 => k_asm); (case k2 => k_asm); (case k3 => k_asm); (case k4 => k_asm); (case k5 => k_asm); (case k6 => first | exact rfl | assumption); (case k7 => ktr_room); (case k8 => ktr_units); k_whole; (try dsimp only [Mine.RetB, Mine.RetI, Mine.RetH, Mine.Ret2, Mine.Ret2E, Mine.Ret3, Mine.RetHE, Mine.RetBE]); intro D9 a9 b9 t1 t2 k9 h9 tk9 ee9 e1 e2 F9 N1 N2; have N9 := Mine.news_cons N1 N2; clear N1 N2; (try dsimp only); (try k_fold))))
local macro_rules | `(tactic| walk_at "call ref") => `(tactic| (k_here; (with_reducible show wpAny _ _ (call (Value.ref 106) _) _ _ _); k_dflt (refine' Mine.Claim.use (Mine.c_to_gregorian_ordinal _ _ _ _ _ _ _ ?p1 ?p2 ?p3) ?k1 ?k2 ?k3 ?k4 ?k5 ?k6 ?k7 ?k8 ?_; (case k1 => k_asm); (case k2 => k_asm); (case k3 => k_asm); (case k4 => k_asm); (case k5 => k_asm); (case k6 => first | exact rfl | assumption); (case k7 => ktr_room); (case k8 => ktr_units); (case p1 => omega); (case p2 => first | assumption | omega); (case p3 => omega); k_whole; (try dsimp only [Mine.RetB, Mine.RetI, Mine.RetH, Mine.Ret2, Mine.Ret3]); intro D9 a9 b9 c9 t1 t2 t3 k9 h9 tk9 e1 e2 e3 F9 N1 N2; subst e1; subst e2; subst e3; have N9 := Mine.news_cons N1 N2; clear N1 N2; (try dsimp only); (try k_fold))))
local macro_rules | `(tactic| walk_at "call ref") => `(tactic| (k_here; (with_reducible show wpAny _ _ (call (Value.ref 64) _) _ _ _); k_dflt (refine' Mine.Claim.use (Mine.c_to_jd2 _ _ _ _ _ _ _ ?p1 ?p2 ?p3) ?k1 ?k2 ?k3 ?k4 ?k5 ?k6 ?k7 ?k8 ?_; (case k1 => k_asm); (case k2 => k_asm); (case k3 => k_asm); (case k4 => k_asm); (case k5 => k_asm); (case k6 => first | exact rfl | assumption); (case k7 => ktr_room); (case k8 => ktr_units); (case p1 => omega); (case p2 => omega); (case p3 => first | assumption | omega); k_whole; (try dsimp only [Mine.RetB, Mine.RetI, Mine.RetH, Mine.Ret2, Mine.Ret3]); intro z q t9 h9 tk9 z9 e9 F9 N9; subst e9; (try dsimp only); (try k_fold))))
local macro_rules | `(tactic| walk_at "call ref") => `(tactic| (k_here; (with_reducible show wpAny _ _ (call (Value.ref 114) _) _ _ _); k_dflt (refine' Mine.Claim.use (Mine.c_leapj _ _ _) ?k1 ?k2 ?k3 ?k4 ?k5 ?k6 ?k7 ?k8 ?_; (case k1 => k_asm); (case k2 => k_asm); (case k3 => k_asm); (case k4 => k_asm); (case k5 => k_asm); (case k6 => first | exact rfl | assumption); (case k7 => ktr_room); (case k8 => ktr_units); k_whole; (try dsimp only [Mine.RetB, Mine.RetI, Mine.RetH, Mine.Ret2, Mine.Ret3]); intro v h9 tk9 e9 F9 N9; (try dsimp only); (try k_fold))))
local macro_rules | `(tactic| walk_at "call ref") => `(tactic| (k_here; (with_reducible show wpAny _ _ (call (Value.ref 121) _) _ _ _); k_dflt (refine' Mine.Claim.use (Mine.c_month_length _ _ _ _ _) ?k1 ?k2 ?k3 ?k4 ?k5 ?k6 ?k7 ?k8 ?_; (case k1 => k_asm); (case k2 => k_asm); (case k3 => k_asm); (case k4 => k_asm); (case k5 => k_asm); (case k6 => first | exact rfl | assumption); (case k7 => ktr_room); (case k8 => ktr_units); k_whole; (try dsimp only [Mine.RetB, Mine.RetI, Mine.RetH, Mine.Ret2, Mine.Ret3]); intro v t9 h9 tk9 e9 F9 N9; subst e9; (try dsimp only); (try k_fold))))
local macro_rules | `(tactic| walk_at "call ref") => `(tactic| (k_here; (with_reducible show wpAny _ _ (call (Value.ref 128) _) _ _ _); k_dflt (refine' Mine.Claim.use (Mine.c_legalj _ _ _ _ _ _ _ ?p1) ?k1 ?k2 ?k3 ?k4 ?k5 ?k6 ?k7 ?k8 ?_; (case k1 => k_asm); (case k2 => k_asm); (case k3 => k_asm); (case k4 => k_asm); (case k5 => k_asm); (case k6 => first | exact rfl | assumption); (case k7 => ktr_room); (case k8 => ktr_units); (case p1 => first | assumption | omega); k_whole; (try dsimp only [Mine.RetB, Mine.RetI, Mine.RetH, Mine.Ret2, Mine.Ret3]); intro v h9 tk9 e9 F9 N9; subst e9; (try dsimp only); (try k_fold))))
local macro_rules | `(tactic| walk_at "call ref") => `(tactic| (k_here; (with_reducible show wpAny _ _ (call (Value.ref 142) _) _ _ _); k_dflt (refine' Mine.Claim.use (Mine.c_to_jd_julian _ _ _ _ _ _ _ ?p1 ?p2 ?p3) ?k1 ?k2 ?k3 ?k4 ?k5 ?k6 ?k7 ?k8 ?_; (case k1 => k_asm); (case k2 => k_asm); (case k3 => k_asm); (case k4 => k_asm); (case k5 => k_asm); (case k6 => first | exact rfl | assumption); (case k7 => ktr_room); (case k8 => ktr_units); (case p1 => omega); (case p2 => omega); (case p3 => first | assumption | omega); k_whole; (try dsimp only [Mine.RetB, Mine.RetI, Mine.RetH, Mine.Ret2, Mine.Ret3]); intro z q t9 h9 tk9 z9 e9 F9 N9; subst e9; (try dsimp only); (try k_fold))))
local macro_rules | `(tactic| walk_at "call ref") => `(tactic| (k_here; (with_reducible show wpAny _ _ (call (Value.ref 135) _) _ _ _); k_dflt (refine' Mine.Claim.use (Mine.c_from_jd_julian _ _ _ _ _ _ _ ?p1 ?p2 ?p3 ?p4 ?p5) ?k1 ?k2 ?k3 ?k4 ?k5 ?k6 ?k7 ?k8 ?_; (case k1 => k_asm); (case k2 => k_asm); (case k3 => k_asm); (case k4 => k_asm); (case k5 => k_asm); (case k6 => first | exact rfl | assumption); (case k7 => ktr_room); (case k8 => ktr_units); (case p1 => assumption); (case p2 => omega); (case p3 => omega); (case p4 => assumption); (case p5 => omega); k_whole; (try dsimp only [Mine.RetB, Mine.RetI, Mine.RetH, Mine.Ret2, Mine.Ret3]); intro D9 a9 b9 c9 t1 t2 t3 k9 h9 tk9 e1 e2 e3 F9 N1 N2; subst e1; subst e2; subst e3; have N9 := Mine.news_cons N1 N2; clear N1 N2; (try dsimp only); (try k_fold))))

/-- the length of a Positivist month, by its Gregorian year's leap day -/
def plen (l m : Int) : Int := if m < 14 then 28 else 1 + l
theorem plem {n y c r7 r6 r5 r4 r3 r2 r1 r0 : Int} (he : n = yr y + c + 1) (hc : 0 ≤ c ∧ c ≤ 364 + lp y) (hx : y % 400 ≠ 0 ∨ c < 365)
    (h7 : r7 = (2 * n - 1 - 1) / 2) (h6 : r6 = (2 * r7 + 1 - 3442851) / (2 * 146097)) (h5 : r5 = (2 * r7 + 1 - 3442851) % (2 * 146097)) (h4 : r4 = r5 / (2 * 36524))
    (h3 : r3 = r5 % (2 * 36524)) (h2 : r2 = r3 / (2 * 1461)) (h1 : r1 = r3 % (2 * 1461)) (h0 : r0 = r1 / (2 * 365)) :
    (r0 = 4 → r6 * 400 + r4 * 100 + r2 * 4 + r0 = y ∧ c = 365) ∧ (r0 ≠ 4 → r6 * 400 + r4 * 100 + r2 * 4 + r0 = y - 1 ∧ 2 * r7 + 1 - 3442851 - 2 * (r6 * 146097) - 2 * (r4 * 36524) - 2 * (r2 * 1461) - 2 * (r0 * 365) = 2 * c) := by
  obtain ⟨A, B, C, D, hy, hB, hC, hD⟩ := y_split y
  have hyr := yr_parts hy hB hC hD
  have hl := lp_of hy hB hC hD
  have hn : n = 1721425 + 146097 * A + 36524 * B + 1461 * C + 365 * D + c + 1 := by omega
  have hx2 : ¬ (B = 3 ∧ C = 24 ∧ D = 3 ∧ c = 365) := by omega
  clear hyr he hx
  have e7 : r7 = n - 1 := by omega
  obtain ⟨e6, e5⟩ := year_parts (e := r7 - 1721425) (c := c) hy hB hC hD (by omega) (by omega)
  have f6 : r6 = A := by omega
  have f5 : r5 = 2 * (36524 * B + 1461 * C + 365 * D + c) := by omega
  clear e6 e5 h6 h5 h7
  subst f6
  generalize hg : lp y = l at *
  clear hg
  have g4 : r4 = B := by omega
  have g3 : r3 = 2 * (1461 * C + 365 * D + c) := by omega
  have g2 : r2 = C := by omega
  have g1 : r1 = 2 * (365 * D + c) := by omega
  have g0 : r0 = D ∧ c ≤ 364 ∨ (D = 3 ∧ c = 365 ∧ r0 = 4) := by omega
  omega
theorem c_legalp (w : World) (y m d g : Int) (t1 t2 t3 : Tok) (hg : g = y + 1788) (hy : 1 ≤ y) (hm : 1 ≤ m ∧ m ≤ 14) (hdd : 1 ≤ d ∧ d ≤ plen (lp g) m) : Claim w 240 2 [.int y t1, .int m t2, .int d t3] (RetB true) := by
  w_top off
  k_with_none
  have kfill : PySem.Challenge.rw_ak5020_01 = PySem.Challenge.rw_ak5020_01 ∧ hd.heap_39 = hd.heap_39 := by
    k_fill
    exact ⟨rfl, rfl⟩
  clear kfill
  have hlg : lp (y + 1789 - 1) = lp g := by rw [hg]; congr 1; omega
  have hl01 := lp_01 g
  have hpl : (m < 14 ∧ plen (lp g) m = 28) ∨ (m = 14 ∧ plen (lp g) m = 1 + lp g) := by unfold plen; split <;> omega
  all_goals dsimp only [Claim, RetB, RetI, RetH, Ret2, Ret3]
  all_goals intros
  all_goals rename_i hret
  all_goals (try obtain ⟨hmem, hret⟩ := hret)
  all_goals refine wpAny_call ?_
  all_goals k_dflt cell_enter
  all_goals k_steps
  all_goals exact hret _ _ _ rfl (by k_asm) (by k_asm)

local macro_rules | `(tactic| walk_at "call ref") => `(tactic| (k_here; (with_reducible show wpAny _ _ (call (Value.ref 240) _) _ _ _); k_dflt (refine' Mine.Claim.use (Mine.c_legalp _ _ _ _ _ _ _ _ ?p1 ?p2 ?p3 ?p4) ?k1 ?k2 ?k3 ?k4 ?k5 ?k6 ?k7 ?k8 ?_; (case k1 => k_asm); (case k2 => k_asm); (case k3 => k_asm); (case k4 => k_asm); (case k5 => k_asm); (case k6 => first | exact rfl | assumption); (case k7 => ktr_room); (case k8 => ktr_units); (case p1 => first | assumption | rfl); (case p2 => omega); (case p3 => omega); (case p4 => first | assumption | omega); k_whole; (try dsimp only [Mine.RetB, Mine.RetI, Mine.RetH, Mine.Ret2, Mine.Ret3]); intro v h9 tk9 e9 F9 N9; subst e9; (try dsimp only); (try k_fold))))
theorem c_to_jd_positivist (w : World) (y m d g : Int) (t1 t2 t3 : Tok) (hg : g = y + 1788) (hy : 1 ≤ y ∧ y ≤ 10000001) (hm : 1 ≤ m ∧ m ≤ 14) (hdd : 1 ≤ d ∧ d ≤ plen (lp g) m) : Claim w 247 3 [.int y t1, .int m t2, .int d t3] (RetH (2 * (yr g + 28 * (m - 1) + d) - 1)) := by
  w_top off
  k_with_none
  have kfill : PySem.Challenge.rw_ak5020_01 = PySem.Challenge.rw_ak5020_01 ∧ hd.heap_39 = hd.heap_39 := by
    k_fill
    exact ⟨rfl, rfl⟩
  clear kfill
  have hyr := yr_eq g
  have hpl : plen (lp g) m ≤ 28 := by have := lp_01 g; unfold plen; split <;> omega
  all_goals dsimp only [Claim, RetB, RetI, RetH, Ret2, Ret3]
  all_goals intros
  all_goals rename_i hret
  all_goals (try obtain ⟨hmem, hret⟩ := hret)
  all_goals refine wpAny_call ?_
  all_goals k_dflt cell_enter
  all_goals k_steps
  all_goals refine hret _ _ _ _ _ (by assumption) ?_ (by k_asm) (by first | k_asm | exact news_drop (by k_asm) | exact news_drop (news_drop (by k_asm)) | exact news_drop (news_drop (news_drop (by k_asm))))
  all_goals first | assumption | rfl | omega

local macro_rules | `(tactic| walk_at "call ref") => `(tactic| (k_here; (with_reducible show wpAny _ _ (call (Value.ref 247) _) _ _ _); k_dflt (refine' Mine.Claim.use (Mine.c_to_jd_positivist _ _ _ _ _ _ _ _ ?p1 ?p2 ?p3 ?p4) ?k1 ?k2 ?k3 ?k4 ?k5 ?k6 ?k7 ?k8 ?_; (case k1 => k_asm); (case k2 => k_asm); (case k3 => k_asm); (case k4 => k_asm); (case k5 => k_asm); (case k6 => first | exact rfl | assumption); (case k7 => ktr_room); (case k8 => ktr_units); (case p1 => first | assumption | rfl); (case p2 => omega); (case p3 => omega); (case p4 => first | assumption | omega); k_whole; (try dsimp only [Mine.RetB, Mine.RetI, Mine.RetH, Mine.Ret2, Mine.Ret3]); intro z q t9 h9 tk9 z9 e9 F9 N9; subst e9; (try dsimp only); (try k_fold))))
theorem c_from_jd_positivist (w : World) (x : UInt64) (n y c : Int) (t : Tok) (hx : Hf x (2 * n - 1)) (hn : 2374480 ≤ n ∧ n ≤ 13000000) (he : n = yr y + c + 1) (hc : 0 ≤ c ∧ c ≤ 364 + lp y) (hex : y % 400 ≠ 0 ∨ c < 365) : Claim w 254 1 [.float x t] (Ret3 (y - 1788) (c / 28 + 1) (c % 28 + 1)) := by
  w_top off
  k_with_none
  have kfill : PySem.Challenge.rw_ak5020_01 = PySem.Challenge.rw_ak5020_01 ∧ hd.heap_39 = hd.heap_39 := by
    k_fill
    exact ⟨rfl, rfl⟩
  clear kfill
  have hl01 := lp_01 y
  all_goals dsimp only [Claim, RetB, RetI, RetH, Ret2, Ret3]
  all_goals intros
  all_goals rename_i hret
  all_goals (try obtain ⟨hmem, hret⟩ := hret)
  all_goals refine wpAny_call ?_
  all_goals k_dflt cell_enter
  all_goals k_steps
  all_goals refine hret _ _ _ _ _ _ _ _ _ _ ?_ ?_ ?_ (by k_asm) (news_one (by k_asm) (.head _)) (by first | k_asm | exact news_drop (by k_asm) | exact news_drop (news_drop (by k_asm)) | exact news_drop (news_drop (news_drop (by k_asm))))
  all_goals first | (have g := (Mine.plem (by assumption) (by assumption) (by assumption) (by assumption) (by assumption) (by assumption) (by assumption) (by assumption) (by assumption) (by assumption) (by assumption)).1 (by assumption); omega) | (have g := (Mine.plem (by assumption) (by assumption) (by assumption) (by assumption) (by assumption) (by assumption) (by assumption) (by assumption) (by assumption) (by assumption) (by assumption)).2 (by assumption); omega)

local macro_rules | `(tactic| walk_at "call ref") => `(tactic| (k_here; (with_reducible show wpAny _ _ (call (Value.ref 254) _) _ _ _); k_dflt (refine' Mine.Claim.use (Mine.c_from_jd_positivist _ _ _ _ _ _ ?p1 ?p2 ?p3 ?p4 ?p5) ?k1 ?k2 ?k3 ?k4 ?k5 ?k6 ?k7 ?k8 ?_; (case k1 => k_asm); (case k2 => k_asm); (case k3 => k_asm); (case k4 => k_asm); (case k5 => k_asm); (case k6 => first | exact rfl | assumption); (case k7 => ktr_room); (case k8 => ktr_units); (case p1 => assumption); (case p2 => omega); (case p3 => first | assumption | omega); (case p4 => omega); (case p5 => first | assumption | omega); k_whole; (try dsimp only [Mine.RetB, Mine.RetI, Mine.RetH, Mine.Ret2, Mine.Ret3]); intro D9 a9 b9 c9 t1 t2 t3 k9 h9 tk9 e1 e2 e3 F9 N1 N2; subst e1; subst e2; subst e3; have N9 := Mine.news_cons N1 N2; clear N1 N2; (try dsimp only); (try k_fold))))
end Mine

namespace Mine
open PySem.Flt
local macro_rules | `(tactic| walk_at "eval Call") => `(tactic| (k_here; (with_reducible show wpAny _ _ (eval (Expr.Call (Expr.Name _ _) _ [] _) _) _ _ _); k_dflt (refine Call_ ?_)))
local macro_rules | `(tactic| walk_at "binaryOp Add float float") => `(tactic| (k_here; (with_reducible show wpAny _ _ (binaryOp _ (Value.float _ _) (Value.float _ _)) _ _ _); ((with_reducible refine' Mine.w_add_ff ?hx ?hy ?hb ?_; (case hx => with_reducible first | assumption | exact Mine.hf_epoch | exact Mine.hf_half | exact Mine.hf_1524 | exact Mine.hf_pos | exact Mine.hf_1_5); (case hy => with_reducible first | assumption | exact Mine.hf_epoch | exact Mine.hf_half | exact Mine.hf_1524 | exact Mine.hf_pos | exact Mine.hf_1_5); (case hb => k_dflt omega); k_whole; intro z hz; (try dsimp only)))))
local macro_rules | `(tactic| walk_at "inplaceOp Add float float") => `(tactic| (k_here; (with_reducible show wpAny _ _ (inplaceOp _ (Value.float _ _) (Value.float _ _)) _ _ _); ((with_reducible refine' Mine.w_iadd_ff ?hx ?hy ?hb ?_; (case hx => with_reducible first | assumption | exact Mine.hf_epoch | exact Mine.hf_half | exact Mine.hf_1524 | exact Mine.hf_pos | exact Mine.hf_1_5); (case hy => with_reducible first | assumption | exact Mine.hf_epoch | exact Mine.hf_half | exact Mine.hf_1524 | exact Mine.hf_pos | exact Mine.hf_1_5); (case hb => k_dflt omega); k_whole; intro z hz; (try dsimp only)))))
local macro_rules | `(tactic| walk_at "binaryOp Sub float float") => `(tactic| (k_here; (with_reducible show wpAny _ _ (binaryOp _ (Value.float _ _) (Value.float _ _)) _ _ _); ((with_reducible refine' Mine.w_sub_ff ?hx ?hy ?hb ?_; (case hx => with_reducible first | assumption | exact Mine.hf_epoch | exact Mine.hf_half | exact Mine.hf_1524 | exact Mine.hf_pos | exact Mine.hf_1_5); (case hy => with_reducible first | assumption | exact Mine.hf_epoch | exact Mine.hf_half | exact Mine.hf_1524 | exact Mine.hf_pos | exact Mine.hf_1_5); (case hb => k_dflt omega); k_whole; intro z hz; (try dsimp only)))))
local macro_rules | `(tactic| walk_at "binaryOp Add float int") => `(tactic| (k_here; (with_reducible show wpAny _ _ (binaryOp _ (Value.float _ _) (Value.int _ _)) _ _ _); (first
  | (with_reducible refine' Mine.w_add_fi ?hA ?hx ?hb ?_; (case hA => k_dflt (exact rfl)); (case hx => with_reducible first | assumption | exact Mine.hf_epoch | exact Mine.hf_half | exact Mine.hf_1524 | exact Mine.hf_pos | exact Mine.hf_1_5); (case hb => k_dflt omega); k_whole; intro z hz; (try dsimp only))
  | (with_reducible refine' Mine.w_addn_fi ?hA ?hx ?hb ?_; (case hA => k_dflt (exact rfl)); (case hx => with_reducible assumption); (case hb => k_dflt omega); k_whole; intro z hz; (try dsimp only)))))
local macro_rules | `(tactic| walk_at "binaryOp Sub float int") => `(tactic| (k_here; (with_reducible show wpAny _ _ (binaryOp _ (Value.float _ _) (Value.int _ _)) _ _ _); ((with_reducible refine' Mine.w_sub_fi ?hA ?hx ?hb ?_; (case hA => k_dflt (exact rfl)); (case hx => with_reducible first | assumption | exact Mine.hf_epoch | exact Mine.hf_half | exact Mine.hf_1524 | exact Mine.hf_pos | exact Mine.hf_1_5); (case hb => k_dflt omega); k_whole; intro z hz; (try dsimp only)))))
local macro_rules | `(tactic| walk_at "binaryOp Add int float") => `(tactic| (k_here; (with_reducible show wpAny _ _ (binaryOp _ (Value.int _ _) (Value.float _ _)) _ _ _); ((with_reducible refine' Mine.w_add_if ?hA ?hx ?hb ?_; (case hA => k_dflt (exact rfl)); (case hx => with_reducible first | assumption | exact Mine.hf_epoch | exact Mine.hf_half | exact Mine.hf_1524 | exact Mine.hf_pos | exact Mine.hf_1_5); (case hb => k_dflt omega); k_whole; intro z hz; (try dsimp only)))))
local macro_rules | `(tactic| walk_at "binaryOp Sub int float") => `(tactic| (k_here; (with_reducible show wpAny _ _ (binaryOp _ (Value.int _ _) (Value.float _ _)) _ _ _); (first
  | (with_reducible refine' Mine.w_sub_122 ?hA ?hcc ?hb ?_; (case hcc => with_reducible rfl); (case hA => k_dflt (exact rfl)); (case hb => k_dflt omega); k_whole; intro z hz; (try dsimp only))
  | (with_reducible refine' Mine.w_sub_if ?hA ?hx ?hb ?_; (case hA => k_dflt (exact rfl)); (case hx => with_reducible first | assumption | exact Mine.hf_epoch | exact Mine.hf_half | exact Mine.hf_1524 | exact Mine.hf_pos | exact Mine.hf_1_5); (case hb => k_dflt omega); k_whole; intro z hz; (try dsimp only)))))
local macro_rules | `(tactic| walk_at "binaryOp Mult float int") => `(tactic| (k_here; (with_reducible show wpAny _ _ (binaryOp _ (Value.float _ _) (Value.int _ _)) _ _ _); (first
  | (with_reducible refine' Mine.w_mul_365 ?hA ?hcc ?hb ?_; (case hcc => with_reducible rfl); (case hA => k_dflt (exact rfl)); (case hb => k_dflt omega); k_whole; intro z hz; (try dsimp only))
  | (with_reducible refine' Mine.w_mul_306001 ?hA ?hcc ?hb ?_; (case hcc => with_reducible rfl); (case hA => k_dflt (exact rfl)); (case hb => k_dflt omega); k_whole; intro z hz; (try dsimp only))
  | (with_reducible refine' Mine.w_mul_306 ?hA ?hcc ?hb ?_; (case hcc => with_reducible rfl); (case hA => k_dflt (exact rfl)); (case hb => k_dflt omega); k_whole; intro z hz; (try dsimp only))
  | (with_reducible refine' Mine.w_mul_fi ?hA ?hx ?hb ?_; (case hA => k_dflt (exact rfl)); (case hx => with_reducible first | assumption | exact Mine.hf_epoch | exact Mine.hf_half | exact Mine.hf_1524 | exact Mine.hf_pos | exact Mine.hf_1_5); (case hb => k_dflt omega); k_whole; intro z hz; (try dsimp only)))))
local macro_rules | `(tactic| walk_at "binaryOp Mod float int") => `(tactic| (k_here; (with_reducible show wpAny _ _ (binaryOp _ (Value.float _ _) (Value.int _ _)) _ _ _); ((with_reducible refine' Mine.w_mod_fi ?hA ?hx ?hb ?_; (case hA => k_dflt (exact rfl)); (case hx => with_reducible first | assumption | exact Mine.hf_epoch | exact Mine.hf_half | exact Mine.hf_1524 | exact Mine.hf_pos | exact Mine.hf_1_5); (case hb => k_dflt omega); k_whole; intro z r hr hz; (try dsimp only)))))
local macro_rules | `(tactic| walk_at "binaryOp Div float int") => `(tactic| (k_here; (with_reducible show wpAny _ _ (binaryOp _ (Value.float _ _) (Value.int _ _)) _ _ _); ((with_reducible refine' Mine.w_div_fi ?hA ?hx ?hb ?_; (case hA => k_dflt (exact rfl)); (case hx => with_reducible first | assumption | exact Mine.hf_epoch | exact Mine.hf_half | exact Mine.hf_1524 | exact Mine.hf_pos | exact Mine.hf_1_5); (case hb => k_dflt omega); k_whole; intro z hz; (try dsimp only)))))
local macro_rules | `(tactic| walk_at "binaryOp Div int int") => `(tactic| (k_here; (with_reducible show wpAny _ _ (binaryOp _ (Value.int _ _) (Value.int _ _)) _ _ _); ((with_reducible refine' Mine.w_div_ii ?hA ?hb ?_; (case hA => k_dflt (exact rfl)); (case hb => k_dflt omega); k_whole; intro z hz; (try dsimp only)))))
local macro_rules | `(tactic| walk_at "binaryOp Div float float") => `(tactic| (k_here; (with_reducible show wpAny _ _ (binaryOp _ (Value.float _ _) (Value.float _ _)) _ _ _); ((with_reducible refine' Mine.w_div_365 ?hA ?hcc ?hx ?hb ?_; (case hcc => with_reducible rfl); (case hA => k_dflt (exact rfl)); (case hx => with_reducible assumption); (case hb => k_dflt omega); k_whole; intro z hz; (try dsimp only)))))
local macro_rules | `(tactic| walk_at "binaryOp Div int float") => `(tactic| (k_here; (with_reducible show wpAny _ _ (binaryOp _ (Value.int _ _) (Value.float _ _)) _ _ _); ((with_reducible refine' Mine.w_div_306001 ?hA ?hcc ?hb ?_; (case hcc => with_reducible rfl); (case hA => k_dflt (exact rfl)); (case hb => k_dflt omega); k_whole; intro z hz; (try dsimp only)))))
local macro_rules | `(tactic| walk_at "call builtin:math.floor") => `(tactic| (k_here; (with_reducible show wpAny _ _ (call _ [Value.float _ _]) _ _ _); (first
  | (with_reducible refine' Mine.w_floor_h ?hA ?hx ?_; (case hA => k_dflt (exact rfl)); (case hx => with_reducible assumption); k_whole; intro r hr; (try dsimp only))
  | (with_reducible refine' Mine.w_floor_n ?hA ?hx ?hb ?_; (case hA => k_dflt (exact rfl)); (case hx => with_reducible assumption); (case hb => k_dflt omega); k_whole; intro r hr; (try dsimp only))
  | (with_reducible refine' Mine.w_floor_q ?hA ?hx ?_; (case hA => k_dflt (exact rfl)); (case hx => with_reducible assumption); k_whole; intro r hr; (try dsimp only)))))
local macro_rules | `(tactic| walk_at "call builtin:math.trunc") => `(tactic| (k_here; (with_reducible show wpAny _ _ (call _ [Value.float _ _]) _ _ _); (first
  | (with_reducible refine' Mine.w_trunc_q ?hA ?hx ?_; (case hA => k_dflt (exact rfl)); (case hx => with_reducible assumption); k_whole; intro r hr; (try dsimp only))
  | (with_reducible refine' Mine.w_trunc_n ?hA ?hx ?hb ?_; (case hA => k_dflt (exact rfl)); (case hx => with_reducible assumption); (case hb => k_dflt omega); k_whole; intro r hr; (try dsimp only)))))
local macro_rules | `(tactic| walk_at "call type:int") => `(tactic| (k_here; (with_reducible show wpAny _ _ (call _ [Value.float _ _]) _ _ _); ((with_reducible refine' Mine.w_int_h ?hA ?hx ?hb ?_; (case hA => k_dflt (exact rfl)); (case hx => with_reducible assumption); (case hb => k_dflt omega); k_whole; intro r hr; (try dsimp only)))))
local macro_rules | `(tactic| walk_at "compareOp Eq float float") => `(tactic| (k_here; (with_reducible show wpAny _ _ (compareOp _ (Value.float _ _) (Value.float _ _)) _ _ _); ((with_reducible refine' Mine.w_eq_ff ?hx ?hy ?_; (case hx => with_reducible first | assumption | exact Mine.hf_epoch | exact Mine.hf_half | exact Mine.hf_1524 | exact Mine.hf_pos | exact Mine.hf_1_5); (case hy => with_reducible first | assumption | exact Mine.hf_epoch | exact Mine.hf_half | exact Mine.hf_1524 | exact Mine.hf_pos | exact Mine.hf_1_5); k_whole; skip; (try dsimp only)))))
local macro_rules | `(tactic| walk_at "compareOp NotEq float float") => `(tactic| (k_here; (with_reducible show wpAny _ _ (compareOp _ (Value.float _ _) (Value.float _ _)) _ _ _); ((with_reducible refine' Mine.w_ne_ff ?hx ?hy ?_; (case hx => with_reducible first | assumption | exact Mine.hf_epoch | exact Mine.hf_half | exact Mine.hf_1524 | exact Mine.hf_pos | exact Mine.hf_1_5); (case hy => with_reducible first | assumption | exact Mine.hf_epoch | exact Mine.hf_half | exact Mine.hf_1524 | exact Mine.hf_pos | exact Mine.hf_1_5); k_whole; skip; (try dsimp only)))))
local macro_rules | `(tactic| walk_at "compareOp GtE float float") => `(tactic| (k_here; (with_reducible show wpAny _ _ (compareOp _ (Value.float _ _) (Value.float _ _)) _ _ _); ((with_reducible refine' Mine.w_ge_ff ?hx ?hy ?_; (case hx => with_reducible first | assumption | exact Mine.hf_epoch | exact Mine.hf_half | exact Mine.hf_1524 | exact Mine.hf_pos | exact Mine.hf_1_5); (case hy => with_reducible first | assumption | exact Mine.hf_epoch | exact Mine.hf_half | exact Mine.hf_1524 | exact Mine.hf_pos | exact Mine.hf_1_5); k_whole; skip; (try dsimp only)))))
local macro_rules | `(tactic| walk_at "compareOp Lt float int") => `(tactic| (k_here; (with_reducible show wpAny _ _ (compareOp _ (Value.float _ _) (Value.int _ _)) _ _ _); ((with_reducible refine' Mine.w_lt_fi ?hx ?_; (case hx => with_reducible first | assumption | exact Mine.hf_epoch | exact Mine.hf_half | exact Mine.hf_1524 | exact Mine.hf_pos | exact Mine.hf_1_5); k_whole; skip; (try dsimp only)))))
local macro_rules | `(tactic| walk_at "ite") => `(tactic| (k_here; k_openite; first | (refine ite_pos (by with_reducible assumption) ?_; walk_say "PRUNED") | (refine ite_neg (by with_reducible assumption) ?_; walk_say "PRUNED") | (refine ite_isFalse (by with_reducible assumption) ?_; walk_say "PRUNED") | (refine ite_pos (by with_reducible (first | omega | (simp only [beq_iff_eq]; omega) | (simp only [decide_eq_true_eq]; omega) | (simp only [Bool.not_eq_true', decide_eq_false_iff_not]; omega) | (simp only [bne_iff_ne, ne_eq]; omega) | (simp only [Bool.not_eq_true', beq_eq_false_iff_ne, ne_eq]; omega) | (simp only [Bool.and_eq_true, Bool.or_eq_true, decide_eq_true_eq, beq_iff_eq, bne_iff_ne, Bool.not_eq_true', decide_eq_false_iff_not]; omega))) ?_; walk_say "PRUNED MINE") | (refine ite_neg (by with_reducible (first | omega | (simp only [beq_iff_eq]; omega) | (simp only [decide_eq_true_eq]; omega) | (simp only [Bool.not_eq_true', decide_eq_false_iff_not]; omega) | (simp only [bne_iff_ne, ne_eq]; omega) | (simp only [Bool.not_eq_true', beq_eq_false_iff_ne, ne_eq]; omega) | (simp only [Bool.and_eq_true, Bool.or_eq_true, decide_eq_true_eq, beq_iff_eq, bne_iff_ne, Bool.not_eq_true', decide_eq_false_iff_not]; omega))) ?_; walk_say "PRUNED MINE")))
local macro_rules | `(tactic| walk_at "ite") => `(tactic| (k_here; k_openite; first | (refine Mine.split_leap1 (by with_reducible assumption) (by with_reducible assumption) ?_) | (refine Mine.split_leap0 (by with_reducible assumption) (by with_reducible assumption) ?_) | (refine Mine.split_leap (by with_reducible assumption) ?_ ?_ <;> intro hl) | (refine Mine.split_jl (by with_reducible assumption) ?_ ?_ <;> intro hl)))
local macro_rules | `(tactic| walk_at "binaryOp Add int bool") => `(tactic| (k_here; with_reducible refine' Mine.w_add_ib ?k1 ?_; (case k1 => with_reducible assumption); k_whole; (try dsimp only)))
local macro_rules | `(tactic| walk_at "binaryOp Sub int bool") => `(tactic| (k_here; with_reducible refine' Mine.w_sub_ib ?k1 ?_; (case k1 => with_reducible assumption); k_whole; (try dsimp only)))
local macro_rules | `(tactic| walk_at "execs cons If") => `(tactic| (k_here; (with_reducible rename Mine.JMark _ _ => hj9); (with_reducible rename Fr _ _ _ _ => F0); (with_reducible rename News _ _ _ _ => N0); k_dflt (refine' Mine.join hj9 F0 N0 ?_ ?_; rotate_left; clear hj9; intro t9 h9 tk9 F9 N9; (try k_sweep); (try dsimp only); (try k_fold); rotate_left; clear hj9; (try dsimp only); (try k_fold))))
local macro_rules | `(tactic| walk_at "JEnd") => `(tactic| ((with_reducible rename Fr _ _ _ _ => F0); (with_reducible rename News _ _ _ _ => N0); k_dflt (first | (refine' Mine.jend_store F0 N0 ?_; k_whole) | (refine' Mine.jend_keep ?hm F0 N0 ?_; (case hm => rfl); k_whole)); first | assumption | omega | (unfold Mine.mlen; (repeat' split) <;> omega) | (unfold Mine.adj; (repeat' split) <;> omega) | tb_rel | tb_start))
local macro_rules | `(tactic| walk_at "execs cons If") => `(tactic| (k_here; (with_reducible rename Mine.JMark2 _ _ _ _ => hj9); (with_reducible rename Fr _ _ _ _ => F0); (with_reducible rename News _ _ _ _ => N0); k_dflt (refine' Mine.join2 hj9 F0 N0 ?_ ?_; rotate_left; clear hj9; intro t9 u9 h9 tk9 F9 N9; (try k_sweep); (try dsimp only); (try k_fold); rotate_left; clear hj9; (try dsimp only); (try k_fold))))
local macro_rules | `(tactic| walk_at "JEnd2") => `(tactic| ((with_reducible rename Fr _ _ _ _ => F0); (with_reducible rename News _ _ _ _ => N0); k_dflt (first | (refine' Mine.jend2_store F0 N0 ?_; k_whole) | (refine' Mine.jend2_keep ?hm ?hm2 F0 N0 ?_; (case hm => rfl); (case hm2 => rfl); k_whole)); (refine ⟨?_, ?_⟩) <;> (first | omega | (unfold Mine.yj; (repeat' split) <;> omega) | (unfold Mine.mj; (repeat' split) <;> omega))))
local macro_rules | `(tactic| walk_at "compareOp In int ref") => `(tactic| (k_here; k_dflt (refine' Mine.w_in30 ?k1 ?k2 ?k3 ?_; (case k1 => k_asm); (case k2 => k_asm); (case k3 => k_is))))
local macro_rules | `(tactic| walk_at "call ref") => `(tactic| (k_here; (with_reducible show wpAny _ _ (call (Value.ref 50) _) _ _ _); k_dflt (refine' Mine.Claim.use (Mine.c_isleap _ _ _) ?k1 ?k2 ?k3 ?k4 ?k5 ?k6 ?k7 ?k8 ?_; (case k1 => k_asm); (case k2 => k_asm); (case k3 => k_asm); (case k4 => k_asm); (case k5 => k_asm); (case k6 => first | exact rfl | assumption); (case k7 => ktr_room); (case k8 => ktr_units); k_whole; (try dsimp only [Mine.RetB, Mine.RetI, Mine.RetH, Mine.Ret2, Mine.Ret3]); intro v h9 tk9 e9 F9 N9; (try dsimp only); (try k_fold))))
local macro_rules | `(tactic| walk_at "call ref") => `(tactic| (k_here; (with_reducible show wpAny _ _ (call (Value.ref 57) _) _ _ _); k_dflt (refine' Mine.Claim.use (Mine.c_legal _ _ _ _ _ _ _ ?p1 ?p2) ?k1 ?k2 ?k3 ?k4 ?k5 ?k6 ?k7 ?k8 ?_; (case k1 => k_asm); (case k2 => k_asm); (case k3 => k_asm); (case k4 => k_asm); (case k5 => k_asm); (case k6 => first | exact rfl | assumption); (case k7 => ktr_room); (case k8 => ktr_units); (case p1 => omega); (case p2 => assumption); k_whole; (try dsimp only [Mine.RetB, Mine.RetI, Mine.RetH, Mine.Ret2, Mine.Ret3]); intro v h9 tk9 e9 F9 N9; subst e9; (try dsimp only); (try k_fold))))
local macro_rules | `(tactic| walk_at "call ref") => `(tactic| (k_here; (with_reducible show wpAny _ _ (call (Value.ref 71) _) _ _ _); k_dflt (refine' Mine.Claim.use (Mine.c_to_jd_gregorian _ _ _ _ _ _ _ ?p1 ?p2 ?p3) ?k1 ?k2 ?k3 ?k4 ?k5 ?k6 ?k7 ?k8 ?_; (case k1 => k_asm); (case k2 => k_asm); (case k3 => k_asm); (case k4 => k_asm); (case k5 => k_asm); (case k6 => first | exact rfl | assumption); (case k7 => ktr_room); (case k8 => ktr_units); (case p1 => omega); (case p2 => omega); (case p3 => first | assumption | omega); k_whole; (try dsimp only [Mine.RetB, Mine.RetI, Mine.RetH, Mine.Ret2, Mine.Ret3]); intro z q t9 h9 tk9 z9 e9 F9 N9; subst e9; (try dsimp only); (try k_fold))))
local macro_rules | `(tactic| walk_at "call ref") => `(tactic| (k_here; (with_reducible show wpAny _ _ (call (Value.ref 50) _) _ _ _); k_dflt (refine' Mine.Claim.use (Mine.c_isleap_at _ ?p1 ?p2) ?k1 ?k2 ?k3 ?k4 ?k5 ?k6 ?k7 ?k8 ?_; (case p1 => assumption); (case p2 => first | assumption | rfl); (case k1 => k_asm); (case k2 => k_asm); (case k3 => k_asm); (case k4 => k_asm); (case k5 => k_asm); (case k6 => first | exact rfl | assumption); (case k7 => ktr_room); (case k8 => ktr_units); k_whole; (try dsimp only [Mine.RetB, Mine.RetI, Mine.RetH, Mine.Ret2, Mine.Ret2E, Mine.Ret3, Mine.RetHE, Mine.RetBE]); intro v h9 tk9 e9 F9 N9; (try dsimp only); (try k_fold))))
local macro_rules | `(tactic| walk_at "call ref") => `(tactic| (k_here; (with_reducible show wpAny _ _ (call (Value.ref 71) _) _ _ _); k_dflt (refine' Mine.Claim.use (Mine.c_to_jd_at2 _ ?p1 ?p2 ?p3 ?p4 ?p5 ?p6) ?k1 ?k2 ?k3 ?k4 ?k5 ?k6 ?k7 ?k8 ?_; (case p1 => assumption); (case p2 => first | assumption | rfl); (case p3 => first | assumption | omega); (case p4 => exact rfl); (case p5 => assumption); (case p6 => omega); (case k1 => k_asm); (case k2 => k_asm); (case k3 => k_asm); (case k4 => k_asm); (case k5 => k_asm); (case k6 => first | exact rfl | assumption); (case k7 => ktr_room); (case k8 => ktr_units); k_whole; (try dsimp only [Mine.RetB, Mine.RetI, Mine.RetH, Mine.Ret2, Mine.Ret2E, Mine.Ret3, Mine.RetHE, Mine.RetBE]); intro z q t9 h9 tk9 ee9 z9 e9 F9 N9; subst e9; (try dsimp only); (try k_fold))))
local macro_rules | `(tactic| walk_at "call ref") => `(tactic| (k_here; (with_reducible show wpAny _ _ (call (Value.ref 71) _) _ _ _); k_dflt (refine' Mine.Claim.use (Mine.c_to_jd_at1 _ ?p1 ?p2 ?p3 ?p4 ?p5) ?k1 ?k2 ?k3 ?k4 ?k5 ?k6 ?k7 ?k8 ?_; (case p1 => assumption); (case p2 => first | assumption | rfl | tb_start); (case p3 => exact rfl); (case p4 => exact rfl); (case p5 => assumption); (case k1 => k_asm); (case k2 => k_asm); (case k3 => k_asm); (case k4 => k_asm); (case k5 => k_asm); (case k6 => first | exact rfl | assumption); (case k7 => ktr_room); (case k8 => ktr_units); k_whole; (try dsimp only [Mine.RetB, Mine.RetI, Mine.RetH, Mine.Ret2, Mine.Ret2E, Mine.Ret3, Mine.RetHE, Mine.RetBE]); intro z q t9 h9 tk9 ee9 z9 e9 F9 N9; subst e9; (try dsimp only); (try k_fold))))
local macro_rules | `(tactic| walk_at "call ref") => `(tactic| (k_here; (with_reducible show wpAny _ _ (call (Value.ref 78) _) _ _ _); k_dflt (refine' Mine.Claim.use (Mine.c_from_jd_gregorian _ _ _ _ _ _ _ ?p1 ?p2 ?p3 ?p4 ?p5) ?k1 ?k2 ?k3 ?k4 ?k5 ?k6 ?k7 ?k8 ?_; (case k1 => k_asm); (case k2 => k_asm); (case k3 => k_asm); (case k4 => k_asm); (case k5 => k_asm); (case k6 => first | exact rfl | assumption); (case k7 => ktr_room); (case k8 => ktr_units); (case p1 => assumption); (case p2 => omega); (case p3 => omega); (case p4 => assumption); (case p5 => omega); k_whole; (try dsimp only [Mine.RetB, Mine.RetI, Mine.RetH, Mine.Ret2, Mine.Ret3]); intro D9 a9 b9 c9 t1 t2 t3 k9 h9 tk9 e1 e2 e3 F9 N1 N2; subst e1; subst e2; subst e3; have N9 := Mine.news_cons N1 N2; clear N1 N2; (try dsimp only); (try k_fold))))
local macro_rules | `(tactic| walk_at "call ref") => `(tactic| (k_here; (with_reducible show wpAny _ _ (call (Value.ref 85) _) _ _ _); k_dflt (refine' Mine.Claim.use (Mine.c_to_jd_ordinal _ _ _ _ _ ?p1 ?p2) ?k1 ?k2 ?k3 ?k4 ?k5 ?k6 ?k7 ?k8 ?_; (case k1 => k_asm); (case k2 => k_asm); (case k3 => k_asm); (case k4 => k_asm); (case k5 => k_asm); (case k6 => first | exact rfl | assumption); (case k7 => ktr_room); (case k8 => ktr_units); (case p1 => omega); (case p2 => omega); k_whole; (try dsimp only [Mine.RetB, Mine.RetI, Mine.RetH, Mine.Ret2, Mine.Ret3]); intro z q t9 h9 tk9 z9 e9 F9 N9; subst e9; (try dsimp only); (try k_fold))))
local macro_rules | `(tactic| walk_at "call ref") => `(tactic| (k_here; (with_reducible show wpAny _ _ (call (Value.ref 92) _) _ _ _); k_dflt (refine' Mine.Claim.use (Mine.c_from_jd_ordinal _ _ _ _ _ _ _ ?p1 ?p2 ?p3 ?p4 ?p5) ?k1 ?k2 ?k3 ?k4 ?k5 ?k6 ?k7 ?k8 ?_; (case k1 => k_asm); (case k2 => k_asm); (case k3 => k_asm); (case k4 => k_asm); (case k5 => k_asm); (case k6 => first | exact rfl | assumption); (case k7 => ktr_room); (case k8 => ktr_units); (case p1 => assumption); (case p2 => omega); (case p3 => omega); (case p4 => assumption); (case p5 => omega); k_whole; (try dsimp only [Mine.RetB, Mine.RetI, Mine.RetH, Mine.Ret2, Mine.Ret3]); intro D9 a9 b9 t1 t2 k9 h9 tk9 e1 e2 F9 N1 N2; subst e1; subst e2; have N9 := Mine.news_cons N1 N2; clear N1 N2; (try dsimp only); (try k_fold))))
local macro_rules | `(tactic| walk_at "call ref") => `(tactic| (k_here; (with_reducible show wpAny _ _ (call (Value.ref 99) _) _ _ _); k_dflt (refine' Mine.Claim.use (Mine.c_from_gregorian_ordinal _ _ _ _ _ _ _ ?p1 ?p2) ?k1 ?k2 ?k3 ?k4 ?k5 ?k6 ?k7 ?k8 ?_; (case k1 => k_asm); (case k2 => k_asm); (case k3 => k_asm); (case k4 => k_asm); (case k5 => k_asm); (case k6 => first | exact rfl | assumption); (case k7 => ktr_room); (case k8 => ktr_units); (case p1 => omega); (case p2 => first | assumption | omega); k_whole; (try dsimp only [Mine.RetB, Mine.RetI, Mine.RetH, Mine.Ret2, Mine.Ret3]); intro D9 a9 b9 t1 t2 k9 h9 tk9 e1 e2 F9 N1 N2; subst e1; subst e2; have N9 := Mine.news_cons N1 N2; clear N1 N2; (try dsimp only); (try k_fold))))
local macro_rules | `(tactic| walk_at "call ref") => `(tactic| (k_here; (with_reducible show wpAny _ _ (call (Value.ref 99) _) _ _ _); k_dflt (refine' Mine.Claim.use (Mine.c_fgo_at _ ?p1 ?p2 ?p3 ?p4) ?k1 ?k2 ?k3 ?k4 ?k5 ?k6 ?k7 ?k8 ?_; (case p1 => assumption); (case p2 => first | assumption | omega); (case p3 => exact rfl); (case p4 => omega); (case k1 => k_asm); (case k2 => k_asm); (case k3 => k_asm); (case k4 => k_asm); (case k5 => k_asm); (case k6 => first | exact rfl | assumption); (case k7 => ktr_room); (case k8 => ktr_units); k_whole; (try dsimp only [Mine.RetB, Mine.RetI, Mine.RetH, Mine.Ret2, Mine.Ret2E, Mine.Ret3, Mine.RetHE, Mine.RetBE]); intro D9 a9 b9 t1 t2 k9 h9 tk9 ee9 e1 e2 F9 N1 N2; have N9 := Mine.news_cons N1 N2; clear N1 N2; (try dsimp only); (try k_fold))))
local macro_rules | `(tactic| walk_at "call ref") => `(tactic| (k_here; (with_reducible show wpAny _ _ (call (Value.ref 106) _) _ _ _); k_dflt (refine' Mine.Claim.use (Mine.c_to_gregorian_ordinal _ _ _ _ _ _ _ ?p1 ?p2 ?p3) ?k1 ?k2 ?k3 ?k4 ?k5 ?k6 ?k7 ?k8 ?_; (case k1 => k_asm); (case k2 => k_asm); (case k3 => k_asm); (case k4 => k_asm); (case k5 => k_asm); (case k6 => first | exact rfl | assumption); (case k7 => ktr_room); (case k8 => ktr_units); (case p1 => omega); (case p2 => first | assumption | omega); (case p3 => omega); k_whole; (try dsimp only [Mine.RetB, Mine.RetI, Mine.RetH, Mine.Ret2, Mine.Ret3]); intro D9 a9 b9 c9 t1 t2 t3 k9 h9 tk9 e1 e2 e3 F9 N1 N2; subst e1; subst e2; subst e3; have N9 := Mine.news_cons N1 N2; clear N1 N2; (try dsimp only); (try k_fold))))
local macro_rules | `(tactic| walk_at "call ref") => `(tactic| (k_here; (with_reducible show wpAny _ _ (call (Value.ref 64) _) _ _ _); k_dflt (refine' Mine.Claim.use (Mine.c_to_jd2 _ _ _ _ _ _ _ ?p1 ?p2 ?p3) ?k1 ?k2 ?k3 ?k4 ?k5 ?k6 ?k7 ?k8 ?_; (case k1 => k_asm); (case k2 => k_asm); (case k3 => k_asm); (case k4 => k_asm); (case k5 => k_asm); (case k6 => first | exact rfl | assumption); (case k7 => ktr_room); (case k8 => ktr_units); (case p1 => omega); (case p2 => omega); (case p3 => first | assumption | omega); k_whole; (try dsimp only [Mine.RetB, Mine.RetI, Mine.RetH, Mine.Ret2, Mine.Ret3]); intro z q t9 h9 tk9 z9 e9 F9 N9; subst e9; (try dsimp only); (try k_fold))))
local macro_rules | `(tactic| walk_at "call ref") => `(tactic| (k_here; (with_reducible show wpAny _ _ (call (Value.ref 114) _) _ _ _); k_dflt (refine' Mine.Claim.use (Mine.c_leapj _ _ _) ?k1 ?k2 ?k3 ?k4 ?k5 ?k6 ?k7 ?k8 ?_; (case k1 => k_asm); (case k2 => k_asm); (case k3 => k_asm); (case k4 => k_asm); (case k5 => k_asm); (case k6 => first | exact rfl | assumption); (case k7 => ktr_room); (case k8 => ktr_units); k_whole; (try dsimp only [Mine.RetB, Mine.RetI, Mine.RetH, Mine.Ret2, Mine.Ret3]); intro v h9 tk9 e9 F9 N9; (try dsimp only); (try k_fold))))
local macro_rules | `(tactic| walk_at "call ref") => `(tactic| (k_here; (with_reducible show wpAny _ _ (call (Value.ref 121) _) _ _ _); k_dflt (refine' Mine.Claim.use (Mine.c_month_length _ _ _ _ _) ?k1 ?k2 ?k3 ?k4 ?k5 ?k6 ?k7 ?k8 ?_; (case k1 => k_asm); (case k2 => k_asm); (case k3 => k_asm); (case k4 => k_asm); (case k5 => k_asm); (case k6 => first | exact rfl | assumption); (case k7 => ktr_room); (case k8 => ktr_units); k_whole; (try dsimp only [Mine.RetB, Mine.RetI, Mine.RetH, Mine.Ret2, Mine.Ret3]); intro v t9 h9 tk9 e9 F9 N9; subst e9; (try dsimp only); (try k_fold))))
local macro_rules | `(tactic| walk_at "call ref") => `(tactic| (k_here; (with_reducible show wpAny _ _ (call (Value.ref 128) _) _ _ _); k_dflt (refine' Mine.Claim.use (Mine.c_legalj _ _ _ _ _ _ _ ?p1) ?k1 ?k2 ?k3 ?k4 ?k5 ?k6 ?k7 ?k8 ?_; (case k1 => k_asm); (case k2 => k_asm); (case k3 => k_asm); (case k4 => k_asm); (case k5 => k_asm); (case k6 => first | exact rfl | assumption); (case k7 => ktr_room); (case k8 => ktr_units); (case p1 => first | assumption | omega); k_whole; (try dsimp only [Mine.RetB, Mine.RetI, Mine.RetH, Mine.Ret2, Mine.Ret3]); intro v h9 tk9 e9 F9 N9; subst e9; (try dsimp only); (try k_fold))))
local macro_rules | `(tactic| walk_at "call ref") => `(tactic| (k_here; (with_reducible show wpAny _ _ (call (Value.ref 142) _) _ _ _); k_dflt (refine' Mine.Claim.use (Mine.c_to_jd_julian _ _ _ _ _ _ _ ?p1 ?p2 ?p3) ?k1 ?k2 ?k3 ?k4 ?k5 ?k6 ?k7 ?k8 ?_; (case k1 => k_asm); (case k2 => k_asm); (case k3 => k_asm); (case k4 => k_asm); (case k5 => k_asm); (case k6 => first | exact rfl | assumption); (case k7 => ktr_room); (case k8 => ktr_units); (case p1 => omega); (case p2 => omega); (case p3 => first | assumption | omega); k_whole; (try dsimp only [Mine.RetB, Mine.RetI, Mine.RetH, Mine.Ret2, Mine.Ret3]); intro z q t9 h9 tk9 z9 e9 F9 N9; subst e9; (try dsimp only); (try k_fold))))
local macro_rules | `(tactic| walk_at "call ref") => `(tactic| (k_here; (with_reducible show wpAny _ _ (call (Value.ref 135) _) _ _ _); k_dflt (refine' Mine.Claim.use (Mine.c_from_jd_julian _ _ _ _ _ _ _ ?p1 ?p2 ?p3 ?p4 ?p5) ?k1 ?k2 ?k3 ?k4 ?k5 ?k6 ?k7 ?k8 ?_; (case k1 => k_asm); (case k2 => k_asm); (case k3 => k_asm); (case k4 => k_asm); (case k5 => k_asm); (case k6 => first | exact rfl | assumption); (case k7 => ktr_room); (case k8 => ktr_units); (case p1 => assumption); (case p2 => omega); (case p3 => omega); (case p4 => assumption); (case p5 => omega); k_whole; (try dsimp only [Mine.RetB, Mine.RetI, Mine.RetH, Mine.Ret2, Mine.Ret3]); intro D9 a9 b9 c9 t1 t2 t3 k9 h9 tk9 e1 e2 e3 F9 N1 N2; subst e1; subst e2; subst e3; have N9 := Mine.news_cons N1 N2; clear N1 N2; (try dsimp only); (try k_fold))))
local macro_rules | `(tactic| walk_at "call ref") => `(tactic| (k_here; (with_reducible show wpAny _ _ (call (Value.ref 240) _) _ _ _); k_dflt (refine' Mine.Claim.use (Mine.c_legalp _ _ _ _ _ _ _ _ ?p1 ?p2 ?p3 ?p4) ?k1 ?k2 ?k3 ?k4 ?k5 ?k6 ?k7 ?k8 ?_; (case k1 => k_asm); (case k2 => k_asm); (case k3 => k_asm); (case k4 => k_asm); (case k5 => k_asm); (case k6 => first | exact rfl | assumption); (case k7 => ktr_room); (case k8 => ktr_units); (case p1 => first | assumption | rfl); (case p2 => omega); (case p3 => omega); (case p4 => first | assumption | omega); k_whole; (try dsimp only [Mine.RetB, Mine.RetI, Mine.RetH, Mine.Ret2, Mine.Ret3]); intro v h9 tk9 e9 F9 N9; subst e9; (try dsimp only); (try k_fold))))
local macro_rules | `(tactic| walk_at "call ref") => `(tactic| (k_here; (with_reducible show wpAny _ _ (call (Value.ref 247) _) _ _ _); k_dflt (refine' Mine.Claim.use (Mine.c_to_jd_positivist _ _ _ _ _ _ _ _ ?p1 ?p2 ?p3 ?p4) ?k1 ?k2 ?k3 ?k4 ?k5 ?k6 ?k7 ?k8 ?_; (case k1 => k_asm); (case k2 => k_asm); (case k3 => k_asm); (case k4 => k_asm); (case k5 => k_asm); (case k6 => first | exact rfl | assumption); (case k7 => ktr_room); (case k8 => ktr_units); (case p1 => first | assumption | rfl); (case p2 => omega); (case p3 => omega); (case p4 => first | assumption | omega); k_whole; (try dsimp only [Mine.RetB, Mine.RetI, Mine.RetH, Mine.Ret2, Mine.Ret3]); intro z q t9 h9 tk9 z9 e9 F9 N9; subst e9; (try dsimp only); (try k_fold))))
local macro_rules | `(tactic| walk_at "call ref") => `(tactic| (k_here; (with_reducible show wpAny _ _ (call (Value.ref 254) _) _ _ _); k_dflt (refine' Mine.Claim.use (Mine.c_from_jd_positivist _ _ _ _ _ _ ?p1 ?p2 ?p3 ?p4 ?p5) ?k1 ?k2 ?k3 ?k4 ?k5 ?k6 ?k7 ?k8 ?_; (case k1 => k_asm); (case k2 => k_asm); (case k3 => k_asm); (case k4 => k_asm); (case k5 => k_asm); (case k6 => first | exact rfl | assumption); (case k7 => ktr_room); (case k8 => ktr_units); (case p1 => assumption); (case p2 => omega); (case p3 => first | assumption | omega); (case p4 => omega); (case p5 => first | assumption | omega); k_whole; (try dsimp only [Mine.RetB, Mine.RetI, Mine.RetH, Mine.Ret2, Mine.Ret3]); intro D9 a9 b9 c9 t1 t2 t3 k9 h9 tk9 e1 e2 e3 F9 N1 N2; subst e1; subst e2; subst e3; have N9 := Mine.news_cons N1 N2; clear N1 N2; (try dsimp only); (try k_fold))))

theorem first_eq {y : Int} : 2451545 + 146097 * (y - 2000).fdiv 400 + 365 * (y - 2000).fmod 400 + ((y - 2000).fmod 400 + 3).fdiv 4 -
    (if (y - 2000).fmod 400 - 1 > 0 then (y - 2000).fmod 400 - 1 else 0).fdiv 100 = yr y + 1 := by
  simp only [Int.fdiv_eq_ediv_of_nonneg _ (show (0 : Int) ≤ 400 by decide), Int.fdiv_eq_ediv_of_nonneg _ (show (0 : Int) ≤ 100 by decide), Int.fdiv_eq_ediv_of_nonneg _ (show (0 : Int) ≤ 4 by decide), Int.fmod_eq_emod_of_nonneg _ (show (0 : Int) ≤ 400 by decide)]
  have hy : y = 2000 + 400 * ((y - 2000) / 400) + (y - 2000) % 400 := by omega
  have hP : 0 ≤ (y - 2000) % 400 ∧ (y - 2000) % 400 < 400 := by omega
  generalize (y - 2000) / 400 = A at *
  generalize (y - 2000) % 400 = P at *
  have e4 : (y - 1) / 4 = 499 + 100 * A + (P + 3) / 4 := by omega
  have e100 : (y - 1) / 100 = 19 + 4 * A + (P + 99) / 100 := by omega
  have e400 : (y - 1) / 400 = 4 + A + (P + 399) / 400 := by omega
  unfold yr
  rw [e4, e100, e400]
  split <;> omega
theorem first_unf {v y : Int} (e : v = yr y + 1) : v = 1721425 + 365 * (y - 1) + (y - 1) / 4 - (y - 1) / 100 + (y - 1) / 400 + 1 := e
def lens (b : Int) : List Int := [31, b, 31, 30, 31, 30, 31, 31, 30, 31, 30, 31]
theorem lens_at {L b M : Int} (hb : b = 28 + L) (hM : 1 ≤ M ∧ M ≤ 12) : (lens b).getD (M - 1).toNat 0 = mlen L M := by
  subst hb
  rcases m_cases hM with rfl | rfl | rfl | rfl | rfl | rfl | rfl | rfl | rfl | rfl | rfl | rfl <;> rfl
theorem cum_next {l M : Int} (hM : 1 ≤ M ∧ M ≤ 12) : (M ≤ 11 → cum l (M + 1) = cum l M + mlen l M) ∧ (M = 12 → cum l M + mlen l M = 365 + l) := by
  rcases m_cases hM with rfl | rfl | rfl | rfl | rfl | rfl | rfl | rfl | rfl | rfl | rfl | rfl <;> simp [cum, mlen] <;> omega
theorem mlen_range {l M : Int} (hl : l = 0 ∨ l = 1) : 28 ≤ mlen l M ∧ mlen l M ≤ 31 := by unfold mlen; (repeat' split) <;> omega
theorem w_len {prog : Program} {w : World} {A : Around} {E : Value → Shared → Prop} {s : Shared} {h₀ : Heap} {Lc l : Addr} {news : List (Addr × Obj)} {vs : List Value} {k0 : Nat} {L b M : Int} {u : Tok} {value slice : PySem.Expr} {Q : Value → Shared → Prop}
    (N : News h₀ Lc s.heap news) (hm : (l, listOf vs.toArray k0) ∈ news) (hi : IntsAre vs (lens b)) (hb : b = 28 + L) (hL : L = 0 ∨ L = 1) (hM : 1 ≤ M ∧ M ≤ 12)
    (h : ∀ r t, r = mlen L M → (M ≤ 11 → cum L (M + 1) = cum L M + r) → (M = 12 → cum L M + r = 365 + L) → (28 ≤ r ∧ r ≤ 31) → Q (.int r t) s)
    (hs : subscripted slice false (.ref l) (.int (M - 1) u) = operate [.ref l, .int (M - 1) u] (getItem (.ref l) (.int (M - 1) u)) := by with_unfolding_all rfl) :
    wpAny (model prog w) A (subscriptTail value slice (.ref l) (.int (M - 1) u)) Q E s := by
  refine item_anyK (News.isList N hm) hi (by omega) (by simp [lens]; omega) (by omega) (fun t => ?_) hs
  rw [lens_at hb hM]
  exact h _ _ rfl (cum_next hM).1 (cum_next hM).2 (mlen_range hL)
theorem cum_one {l : Int} : cum l 1 = 0 := by simp [cum]
abbrev RetW (l : Addr) (vs : List Value) (k0 : Nat) (L y c0 : Int) : RetT := fun h₀ Lc m news s Q => ((l, listOf vs.toArray k0) ∈ news) ∧ ∀ (D : Addr) (a b c : Int) (t1 t2 t3 : Tok) (k : Nat) (h' : Heap) (tk' : Nat), a = y → (1 ≤ b ∧ b ≤ 12) → (1 ≤ c ∧ c ≤ mlen L b) → c0 + 1 = cum L b + c → Fr h₀ Lc h' m → News h₀ Lc h' [(D, Tup3 a b c t1 t2 t3 k)] → News h₀ Lc h' news → Q (.ref D) { s with heap := h', toks := tk' }
local macro_rules | `(tactic| walk_at "subscriptTail") => `(tactic| (k_here; (with_reducible show wpAny _ _ (subscriptTail _ _ (Value.ref _) (Value.int _ _)) _ _ _); k_dflt (refine' Mine.w_len ?k1 ?k2 ?k3 ?k4 ?k5 ?k6 ?_; (case k1 => k_asm); (case k2 => with_reducible assumption); (case k3 => with_reducible assumption); (case k4 => with_reducible assumption); (case k5 => with_reducible assumption); (case k6 => omega); k_whole; intro r t hr hr1 hr2 hr3)))
theorem c_law_first (w : World) (y : Int) (t : Tok) : Claim w 275 1 [.int y t] (RetI (yr y + 1)) := by
  w_top off
  k_with_none
  have kfill : PySem.Challenge.rw_ak5020_01 = PySem.Challenge.rw_ak5020_01 ∧ hd.heap_39 = hd.heap_39 := by
    k_fill
    exact ⟨rfl, rfl⟩
  clear kfill
  all_goals dsimp only [Claim, RetB, RetI, RetH, Ret2, Ret3]
  all_goals intros
  all_goals rename_i hret
  all_goals (try obtain ⟨hmem, hret⟩ := hret)
  all_goals refine wpAny_call ?_
  all_goals k_dflt cell_enter
  all_goals k_steps
  all_goals exact hret _ _ _ _ first_eq (by k_asm) (by first | k_asm | exact news_drop (by k_asm) | exact news_drop (news_drop (by k_asm)))

local macro_rules | `(tactic| walk_at "call ref") => `(tactic| (k_here; (with_reducible show wpAny _ _ (call (Value.ref 275) _) _ _ _); k_dflt (refine' Mine.Claim.use (Mine.c_law_first _ _ _) ?k1 ?k2 ?k3 ?k4 ?k5 ?k6 ?k7 ?k8 ?_; (case k1 => k_asm); (case k2 => k_asm); (case k3 => k_asm); (case k4 => k_asm); (case k5 => k_asm); (case k6 => first | exact rfl | assumption); (case k7 => ktr_room); (case k8 => ktr_units); k_whole; (try dsimp only [Mine.RetB, Mine.RetI, Mine.RetH, Mine.Ret2, Mine.Ret3]); intro v t9 h9 tk9 e9 F9 N9; (try dsimp only); (try k_fold))))
theorem c_law_walk (w : World) (l : Addr) (vs : List Value) (k0 : Nat) (L b y c0 : Int) (t1 t2 : Tok) (hi : IntsAre vs (lens b)) (hb : b = 28 + L) (hL : L = 0 ∨ L = 1) (hc : 0 ≤ c0 ∧ c0 ≤ 364 + L) : Claim w 282 1 [.int y t1, .int c0 t2, .ref l] (RetW l vs k0 L y c0) := by
  w_top off
  k_with_none
  have kfill : PySem.Challenge.rw_ak5020_01 = PySem.Challenge.rw_ak5020_01 ∧ hd.heap_39 = hd.heap_39 := by
    k_fill
    exact ⟨rfl, rfl⟩
  clear kfill
  have hc1 := cum_one (l := L)
  k_with "exec While Compare cons nil" => k_while (fun (_ : List Int) mth dy => 1 ≤ mth ∧ mth ≤ 12 ∧ 0 ≤ dy ∧ cum L mth + dy = c0) (fun (_ : List Int) mth _ => (12 - mth).toNat) "month" "day"
  all_goals dsimp only [Claim, RetB, RetI, RetH, Ret2, Ret3, RetW]
  all_goals intros
  all_goals rename_i hret
  all_goals (try obtain ⟨hmem, hret⟩ := hret)
  all_goals refine wpAny_call ?_
  all_goals k_dflt cell_enter
  all_goals k_steps
  all_goals refine hret _ _ _ _ _ _ _ _ _ _ ?_ ?_ ?_ ?_ (by k_asm) (news_one (by k_asm) (.head _)) (by first | k_asm | exact news_drop (by k_asm) | exact news_drop (news_drop (by k_asm)) | exact news_drop (news_drop (news_drop (by k_asm))))
  all_goals first | assumption | rfl | omega

local macro_rules | `(tactic| walk_at "call ref") => `(tactic| (k_here; (with_reducible show wpAny _ _ (call (Value.ref 282) _) _ _ _); k_dflt (refine' Mine.Claim.use (Mine.c_law_walk _ _ _ _ _ _ _ _ _ _ _ ?p1 ?p2 ?p3 ?p4) ?k1 ?k2 ?k3 ?k4 ?k5 ?k6 ?k7 ?k8 ?_; (case k1 => k_asm); (case k2 => k_asm); (case k3 => k_asm); (case k4 => k_asm); (case k5 => k_asm); (case k6 => first | exact rfl | assumption); (case k7 => ktr_room); (case k8 => ktr_units); (case p1 => l_ints); (case p2 => omega); (case p3 => omega); (case p4 => omega); k_whole; (try dsimp only [Mine.RetB, Mine.RetI, Mine.RetH, Mine.Ret2, Mine.Ret3, Mine.RetW]); refine ⟨List.Mem.head _, ?_⟩; intro D9 a9 b9 c9 t1 t2 t3 k9 h9 tk9 e1 q1 q2 q3 F9 N1 N2; subst e1; have N9 := Mine.news_cons N1 N2; clear N1 N2; (try dsimp only); (try k_fold))))
end Mine

namespace Mine
open PySem.Flt
local macro_rules | `(tactic| walk_at "eval Call") => `(tactic| (k_here; (with_reducible show wpAny _ _ (eval (Expr.Call (Expr.Name _ _) _ [] _) _) _ _ _); k_dflt (refine Call_ ?_)))
local macro_rules | `(tactic| walk_at "binaryOp Add float float") => `(tactic| (k_here; (with_reducible show wpAny _ _ (binaryOp _ (Value.float _ _) (Value.float _ _)) _ _ _); ((with_reducible refine' Mine.w_add_ff ?hx ?hy ?hb ?_; (case hx => with_reducible first | assumption | exact Mine.hf_epoch | exact Mine.hf_half | exact Mine.hf_1524 | exact Mine.hf_pos | exact Mine.hf_1_5); (case hy => with_reducible first | assumption | exact Mine.hf_epoch | exact Mine.hf_half | exact Mine.hf_1524 | exact Mine.hf_pos | exact Mine.hf_1_5); (case hb => k_dflt omega); k_whole; intro z hz; (try dsimp only)))))
local macro_rules | `(tactic| walk_at "inplaceOp Add float float") => `(tactic| (k_here; (with_reducible show wpAny _ _ (inplaceOp _ (Value.float _ _) (Value.float _ _)) _ _ _); ((with_reducible refine' Mine.w_iadd_ff ?hx ?hy ?hb ?_; (case hx => with_reducible first | assumption | exact Mine.hf_epoch | exact Mine.hf_half | exact Mine.hf_1524 | exact Mine.hf_pos | exact Mine.hf_1_5); (case hy => with_reducible first | assumption | exact Mine.hf_epoch | exact Mine.hf_half | exact Mine.hf_1524 | exact Mine.hf_pos | exact Mine.hf_1_5); (case hb => k_dflt omega); k_whole; intro z hz; (try dsimp only)))))
local macro_rules | `(tactic| walk_at "binaryOp Sub float float") => `(tactic| (k_here; (with_reducible show wpAny _ _ (binaryOp _ (Value.float _ _) (Value.float _ _)) _ _ _); ((with_reducible refine' Mine.w_sub_ff ?hx ?hy ?hb ?_; (case hx => with_reducible first | assumption | exact Mine.hf_epoch | exact Mine.hf_half | exact Mine.hf_1524 | exact Mine.hf_pos | exact Mine.hf_1_5); (case hy => with_reducible first | assumption | exact Mine.hf_epoch | exact Mine.hf_half | exact Mine.hf_1524 | exact Mine.hf_pos | exact Mine.hf_1_5); (case hb => k_dflt omega); k_whole; intro z hz; (try dsimp only)))))
local macro_rules | `(tactic| walk_at "binaryOp Add float int") => `(tactic| (k_here; (with_reducible show wpAny _ _ (binaryOp _ (Value.float _ _) (Value.int _ _)) _ _ _); (first
  | (with_reducible refine' Mine.w_add_fi ?hA ?hx ?hb ?_; (case hA => k_dflt (exact rfl)); (case hx => with_reducible first | assumption | exact Mine.hf_epoch | exact Mine.hf_half | exact Mine.hf_1524 | exact Mine.hf_pos | exact Mine.hf_1_5); (case hb => k_dflt omega); k_whole; intro z hz; (try dsimp only))
  | (with_reducible refine' Mine.w_addn_fi ?hA ?hx ?hb ?_; (case hA => k_dflt (exact rfl)); (case hx => with_reducible assumption); (case hb => k_dflt omega); k_whole; intro z hz; (try dsimp only)))))
local macro_rules | `(tactic| walk_at "binaryOp Sub float int") => `(tactic| (k_here; (with_reducible show wpAny _ _ (binaryOp _ (Value.float _ _) (Value.int _ _)) _ _ _); ((with_reducible refine' Mine.w_sub_fi ?hA ?hx ?hb ?_; (case hA => k_dflt (exact rfl)); (case hx => with_reducible first | assumption | exact Mine.hf_epoch | exact Mine.hf_half | exact Mine.hf_1524 | exact Mine.hf_pos | exact Mine.hf_1_5); (case hb => k_dflt omega); k_whole; intro z hz; (try dsimp only)))))
local macro_rules | `(tactic| walk_at "binaryOp Add int float") => `(tactic| (k_here; (with_reducible show wpAny _ _ (binaryOp _ (Value.int _ _) (Value.float _ _)) _ _ _); ((with_reducible refine' Mine.w_add_if ?hA ?hx ?hb ?_; (case hA => k_dflt (exact rfl)); (case hx => with_reducible first | assumption | exact Mine.hf_epoch | exact Mine.hf_half | exact Mine.hf_1524 | exact Mine.hf_pos | exact Mine.hf_1_5); (case hb => k_dflt omega); k_whole; intro z hz; (try dsimp only)))))
local macro_rules | `(tactic| walk_at "binaryOp Sub int float") => `(tactic| (k_here; (with_reducible show wpAny _ _ (binaryOp _ (Value.int _ _) (Value.float _ _)) _ _ _); (first
  | (with_reducible refine' Mine.w_sub_122 ?hA ?hcc ?hb ?_; (case hcc => with_reducible rfl); (case hA => k_dflt (exact rfl)); (case hb => k_dflt omega); k_whole; intro z hz; (try dsimp only))
  | (with_reducible refine' Mine.w_sub_if ?hA ?hx ?hb ?_; (case hA => k_dflt (exact rfl)); (case hx => with_reducible first | assumption | exact Mine.hf_epoch | exact Mine.hf_half | exact Mine.hf_1524 | exact Mine.hf_pos | exact Mine.hf_1_5); (case hb => k_dflt omega); k_whole; intro z hz; (try dsimp only)))))
local macro_rules | `(tactic| walk_at "binaryOp Mult float int") => `(tactic| (k_here; (with_reducible show wpAny _ _ (binaryOp _ (Value.float _ _) (Value.int _ _)) _ _ _); (first
  | (with_reducible refine' Mine.w_mul_365 ?hA ?hcc ?hb ?_; (case hcc => with_reducible rfl); (case hA => k_dflt (exact rfl)); (case hb => k_dflt omega); k_whole; intro z hz; (try dsimp only))
  | (with_reducible refine' Mine.w_mul_306001 ?hA ?hcc ?hb ?_; (case hcc => with_reducible rfl); (case hA => k_dflt (exact rfl)); (case hb => k_dflt omega); k_whole; intro z hz; (try dsimp only))
  | (with_reducible refine' Mine.w_mul_306 ?hA ?hcc ?hb ?_; (case hcc => with_reducible rfl); (case hA => k_dflt (exact rfl)); (case hb => k_dflt omega); k_whole; intro z hz; (try dsimp only))
  | (with_reducible refine' Mine.w_mul_fi ?hA ?hx ?hb ?_; (case hA => k_dflt (exact rfl)); (case hx => with_reducible first | assumption | exact Mine.hf_epoch | exact Mine.hf_half | exact Mine.hf_1524 | exact Mine.hf_pos | exact Mine.hf_1_5); (case hb => k_dflt omega); k_whole; intro z hz; (try dsimp only)))))
local macro_rules | `(tactic| walk_at "binaryOp Mod float int") => `(tactic| (k_here; (with_reducible show wpAny _ _ (binaryOp _ (Value.float _ _) (Value.int _ _)) _ _ _); ((with_reducible refine' Mine.w_mod_fi ?hA ?hx ?hb ?_; (case hA => k_dflt (exact rfl)); (case hx => with_reducible first | assumption | exact Mine.hf_epoch | exact Mine.hf_half | exact Mine.hf_1524 | exact Mine.hf_pos | exact Mine.hf_1_5); (case hb => k_dflt omega); k_whole; intro z r hr hz; (try dsimp only)))))
local macro_rules | `(tactic| walk_at "binaryOp Div float int") => `(tactic| (k_here; (with_reducible show wpAny _ _ (binaryOp _ (Value.float _ _) (Value.int _ _)) _ _ _); ((with_reducible refine' Mine.w_div_fi ?hA ?hx ?hb ?_; (case hA => k_dflt (exact rfl)); (case hx => with_reducible first | assumption | exact Mine.hf_epoch | exact Mine.hf_half | exact Mine.hf_1524 | exact Mine.hf_pos | exact Mine.hf_1_5); (case hb => k_dflt omega); k_whole; intro z hz; (try dsimp only)))))
local macro_rules | `(tactic| walk_at "binaryOp Div int int") => `(tactic| (k_here; (with_reducible show wpAny _ _ (binaryOp _ (Value.int _ _) (Value.int _ _)) _ _ _); ((with_reducible refine' Mine.w_div_ii ?hA ?hb ?_; (case hA => k_dflt (exact rfl)); (case hb => k_dflt omega); k_whole; intro z hz; (try dsimp only)))))
local macro_rules | `(tactic| walk_at "binaryOp Div float float") => `(tactic| (k_here; (with_reducible show wpAny _ _ (binaryOp _ (Value.float _ _) (Value.float _ _)) _ _ _); ((with_reducible refine' Mine.w_div_365 ?hA ?hcc ?hx ?hb ?_; (case hcc => with_reducible rfl); (case hA => k_dflt (exact rfl)); (case hx => with_reducible assumption); (case hb => k_dflt omega); k_whole; intro z hz; (try dsimp only)))))
local macro_rules | `(tactic| walk_at "binaryOp Div int float") => `(tactic| (k_here; (with_reducible show wpAny _ _ (binaryOp _ (Value.int _ _) (Value.float _ _)) _ _ _); ((with_reducible refine' Mine.w_div_306001 ?hA ?hcc ?hb ?_; (case hcc => with_reducible rfl); (case hA => k_dflt (exact rfl)); (case hb => k_dflt omega); k_whole; intro z hz; (try dsimp only)))))
local macro_rules | `(tactic| walk_at "call builtin:math.floor") => `(tactic| (k_here; (with_reducible show wpAny _ _ (call _ [Value.float _ _]) _ _ _); (first
  | (with_reducible refine' Mine.w_floor_h ?hA ?hx ?_; (case hA => k_dflt (exact rfl)); (case hx => with_reducible assumption); k_whole; intro r hr; (try dsimp only))
  | (with_reducible refine' Mine.w_floor_n ?hA ?hx ?hb ?_; (case hA => k_dflt (exact rfl)); (case hx => with_reducible assumption); (case hb => k_dflt omega); k_whole; intro r hr; (try dsimp only))
  | (with_reducible refine' Mine.w_floor_q ?hA ?hx ?_; (case hA => k_dflt (exact rfl)); (case hx => with_reducible assumption); k_whole; intro r hr; (try dsimp only)))))
local macro_rules | `(tactic| walk_at "call builtin:math.trunc") => `(tactic| (k_here; (with_reducible show wpAny _ _ (call _ [Value.float _ _]) _ _ _); (first
  | (with_reducible refine' Mine.w_trunc_q ?hA ?hx ?_; (case hA => k_dflt (exact rfl)); (case hx => with_reducible assumption); k_whole; intro r hr; (try dsimp only))
  | (with_reducible refine' Mine.w_trunc_n ?hA ?hx ?hb ?_; (case hA => k_dflt (exact rfl)); (case hx => with_reducible assumption); (case hb => k_dflt omega); k_whole; intro r hr; (try dsimp only)))))
local macro_rules | `(tactic| walk_at "call type:int") => `(tactic| (k_here; (with_reducible show wpAny _ _ (call _ [Value.float _ _]) _ _ _); ((with_reducible refine' Mine.w_int_h ?hA ?hx ?hb ?_; (case hA => k_dflt (exact rfl)); (case hx => with_reducible assumption); (case hb => k_dflt omega); k_whole; intro r hr; (try dsimp only)))))
local macro_rules | `(tactic| walk_at "compareOp Eq float float") => `(tactic| (k_here; (with_reducible show wpAny _ _ (compareOp _ (Value.float _ _) (Value.float _ _)) _ _ _); ((with_reducible refine' Mine.w_eq_ff ?hx ?hy ?_; (case hx => with_reducible first | assumption | exact Mine.hf_epoch | exact Mine.hf_half | exact Mine.hf_1524 | exact Mine.hf_pos | exact Mine.hf_1_5); (case hy => with_reducible first | assumption | exact Mine.hf_epoch | exact Mine.hf_half | exact Mine.hf_1524 | exact Mine.hf_pos | exact Mine.hf_1_5); k_whole; skip; (try dsimp only)))))
local macro_rules | `(tactic| walk_at "compareOp NotEq float float") => `(tactic| (k_here; (with_reducible show wpAny _ _ (compareOp _ (Value.float _ _) (Value.float _ _)) _ _ _); ((with_reducible refine' Mine.w_ne_ff ?hx ?hy ?_; (case hx => with_reducible first | assumption | exact Mine.hf_epoch | exact Mine.hf_half | exact Mine.hf_1524 | exact Mine.hf_pos | exact Mine.hf_1_5); (case hy => with_reducible first | assumption | exact Mine.hf_epoch | exact Mine.hf_half | exact Mine.hf_1524 | exact Mine.hf_pos | exact Mine.hf_1_5); k_whole; skip; (try dsimp only)))))
local macro_rules | `(tactic| walk_at "compareOp GtE float float") => `(tactic| (k_here; (with_reducible show wpAny _ _ (compareOp _ (Value.float _ _) (Value.float _ _)) _ _ _); ((with_reducible refine' Mine.w_ge_ff ?hx ?hy ?_; (case hx => with_reducible first | assumption | exact Mine.hf_epoch | exact Mine.hf_half | exact Mine.hf_1524 | exact Mine.hf_pos | exact Mine.hf_1_5); (case hy => with_reducible first | assumption | exact Mine.hf_epoch | exact Mine.hf_half | exact Mine.hf_1524 | exact Mine.hf_pos | exact Mine.hf_1_5); k_whole; skip; (try dsimp only)))))
local macro_rules | `(tactic| walk_at "compareOp Lt float int") => `(tactic| (k_here; (with_reducible show wpAny _ _ (compareOp _ (Value.float _ _) (Value.int _ _)) _ _ _); ((with_reducible refine' Mine.w_lt_fi ?hx ?_; (case hx => with_reducible first | assumption | exact Mine.hf_epoch | exact Mine.hf_half | exact Mine.hf_1524 | exact Mine.hf_pos | exact Mine.hf_1_5); k_whole; skip; (try dsimp only)))))
local macro_rules | `(tactic| walk_at "ite") => `(tactic| (k_here; k_openite; first | (refine ite_pos (by with_reducible assumption) ?_; walk_say "PRUNED") | (refine ite_neg (by with_reducible assumption) ?_; walk_say "PRUNED") | (refine ite_isFalse (by with_reducible assumption) ?_; walk_say "PRUNED") | (refine ite_pos (by with_reducible (first | omega | (simp only [beq_iff_eq]; omega) | (simp only [decide_eq_true_eq]; omega) | (simp only [Bool.not_eq_true', decide_eq_false_iff_not]; omega) | (simp only [bne_iff_ne, ne_eq]; omega) | (simp only [Bool.not_eq_true', beq_eq_false_iff_ne, ne_eq]; omega) | (simp only [Bool.and_eq_true, Bool.or_eq_true, decide_eq_true_eq, beq_iff_eq, bne_iff_ne, Bool.not_eq_true', decide_eq_false_iff_not]; omega))) ?_; walk_say "PRUNED MINE") | (refine ite_neg (by with_reducible (first | omega | (simp only [beq_iff_eq]; omega) | (simp only [decide_eq_true_eq]; omega) | (simp only [Bool.not_eq_true', decide_eq_false_iff_not]; omega) | (simp only [bne_iff_ne, ne_eq]; omega) | (simp only [Bool.not_eq_true', beq_eq_false_iff_ne, ne_eq]; omega) | (simp only [Bool.and_eq_true, Bool.or_eq_true, decide_eq_true_eq, beq_iff_eq, bne_iff_ne, Bool.not_eq_true', decide_eq_false_iff_not]; omega))) ?_; walk_say "PRUNED MINE")))
local macro_rules | `(tactic| walk_at "ite") => `(tactic| (k_here; k_openite; first | (refine Mine.split_leap1 (by with_reducible assumption) (by with_reducible assumption) ?_) | (refine Mine.split_leap0 (by with_reducible assumption) (by with_reducible assumption) ?_) | (refine Mine.split_leap (by with_reducible assumption) ?_ ?_ <;> intro hl) | (refine Mine.split_jl (by with_reducible assumption) ?_ ?_ <;> intro hl)))
local macro_rules | `(tactic| walk_at "binaryOp Add int bool") => `(tactic| (k_here; with_reducible refine' Mine.w_add_ib ?k1 ?_; (case k1 => with_reducible assumption); k_whole; (try dsimp only)))
local macro_rules | `(tactic| walk_at "binaryOp Sub int bool") => `(tactic| (k_here; with_reducible refine' Mine.w_sub_ib ?k1 ?_; (case k1 => with_reducible assumption); k_whole; (try dsimp only)))
local macro_rules | `(tactic| walk_at "execs cons If") => `(tactic| (k_here; (with_reducible rename Mine.JMark _ _ => hj9); (with_reducible rename Fr _ _ _ _ => F0); (with_reducible rename News _ _ _ _ => N0); k_dflt (refine' Mine.join hj9 F0 N0 ?_ ?_; rotate_left; clear hj9; intro t9 h9 tk9 F9 N9; (try k_sweep); (try dsimp only); (try k_fold); rotate_left; clear hj9; (try dsimp only); (try k_fold))))
local macro_rules | `(tactic| walk_at "JEnd") => `(tactic| ((with_reducible rename Fr _ _ _ _ => F0); (with_reducible rename News _ _ _ _ => N0); k_dflt (first | (refine' Mine.jend_store F0 N0 ?_; k_whole) | (refine' Mine.jend_keep ?hm F0 N0 ?_; (case hm => rfl); k_whole)); first | assumption | omega | (unfold Mine.mlen; (repeat' split) <;> omega) | (unfold Mine.adj; (repeat' split) <;> omega) | tb_rel | tb_start))
local macro_rules | `(tactic| walk_at "execs cons If") => `(tactic| (k_here; (with_reducible rename Mine.JMark2 _ _ _ _ => hj9); (with_reducible rename Fr _ _ _ _ => F0); (with_reducible rename News _ _ _ _ => N0); k_dflt (refine' Mine.join2 hj9 F0 N0 ?_ ?_; rotate_left; clear hj9; intro t9 u9 h9 tk9 F9 N9; (try k_sweep); (try dsimp only); (try k_fold); rotate_left; clear hj9; (try dsimp only); (try k_fold))))
local macro_rules | `(tactic| walk_at "JEnd2") => `(tactic| ((with_reducible rename Fr _ _ _ _ => F0); (with_reducible rename News _ _ _ _ => N0); k_dflt (first | (refine' Mine.jend2_store F0 N0 ?_; k_whole) | (refine' Mine.jend2_keep ?hm ?hm2 F0 N0 ?_; (case hm => rfl); (case hm2 => rfl); k_whole)); (refine ⟨?_, ?_⟩) <;> (first | omega | (unfold Mine.yj; (repeat' split) <;> omega) | (unfold Mine.mj; (repeat' split) <;> omega))))
local macro_rules | `(tactic| walk_at "compareOp In int ref") => `(tactic| (k_here; k_dflt (refine' Mine.w_in30 ?k1 ?k2 ?k3 ?_; (case k1 => k_asm); (case k2 => k_asm); (case k3 => k_is))))
local macro_rules | `(tactic| walk_at "call ref") => `(tactic| (k_here; (with_reducible show wpAny _ _ (call (Value.ref 50) _) _ _ _); k_dflt (refine' Mine.Claim.use (Mine.c_isleap _ _ _) ?k1 ?k2 ?k3 ?k4 ?k5 ?k6 ?k7 ?k8 ?_; (case k1 => k_asm); (case k2 => k_asm); (case k3 => k_asm); (case k4 => k_asm); (case k5 => k_asm); (case k6 => first | exact rfl | assumption); (case k7 => ktr_room); (case k8 => ktr_units); k_whole; (try dsimp only [Mine.RetB, Mine.RetI, Mine.RetH, Mine.Ret2, Mine.Ret3]); intro v h9 tk9 e9 F9 N9; (try dsimp only); (try k_fold))))
local macro_rules | `(tactic| walk_at "call ref") => `(tactic| (k_here; (with_reducible show wpAny _ _ (call (Value.ref 57) _) _ _ _); k_dflt (refine' Mine.Claim.use (Mine.c_legal _ _ _ _ _ _ _ ?p1 ?p2) ?k1 ?k2 ?k3 ?k4 ?k5 ?k6 ?k7 ?k8 ?_; (case k1 => k_asm); (case k2 => k_asm); (case k3 => k_asm); (case k4 => k_asm); (case k5 => k_asm); (case k6 => first | exact rfl | assumption); (case k7 => ktr_room); (case k8 => ktr_units); (case p1 => omega); (case p2 => assumption); k_whole; (try dsimp only [Mine.RetB, Mine.RetI, Mine.RetH, Mine.Ret2, Mine.Ret3]); intro v h9 tk9 e9 F9 N9; subst e9; (try dsimp only); (try k_fold))))
local macro_rules | `(tactic| walk_at "call ref") => `(tactic| (k_here; (with_reducible show wpAny _ _ (call (Value.ref 71) _) _ _ _); k_dflt (refine' Mine.Claim.use (Mine.c_to_jd_gregorian _ _ _ _ _ _ _ ?p1 ?p2 ?p3) ?k1 ?k2 ?k3 ?k4 ?k5 ?k6 ?k7 ?k8 ?_; (case k1 => k_asm); (case k2 => k_asm); (case k3 => k_asm); (case k4 => k_asm); (case k5 => k_asm); (case k6 => first | exact rfl | assumption); (case k7 => ktr_room); (case k8 => ktr_units); (case p1 => omega); (case p2 => omega); (case p3 => first | assumption | omega); k_whole; (try dsimp only [Mine.RetB, Mine.RetI, Mine.RetH, Mine.Ret2, Mine.Ret3]); intro z q t9 h9 tk9 z9 e9 F9 N9; subst e9; (try dsimp only); (try k_fold))))
local macro_rules | `(tactic| walk_at "call ref") => `(tactic| (k_here; (with_reducible show wpAny _ _ (call (Value.ref 50) _) _ _ _); k_dflt (refine' Mine.Claim.use (Mine.c_isleap_at _ ?p1 ?p2) ?k1 ?k2 ?k3 ?k4 ?k5 ?k6 ?k7 ?k8 ?_; (case p1 => assumption); (case p2 => first | assumption | rfl); (case k1 => k_asm); (case k2 => k_asm); (case k3 => k_asm); (case k4 => k_asm); (case k5 => k_asm); (case k6 => first | exact rfl | assumption); (case k7 => ktr_room); (case k8 => ktr_units); k_whole; (try dsimp only [Mine.RetB, Mine.RetI, Mine.RetH, Mine.Ret2, Mine.Ret2E, Mine.Ret3, Mine.RetHE, Mine.RetBE]); intro v h9 tk9 e9 F9 N9; (try dsimp only); (try k_fold))))
local macro_rules | `(tactic| walk_at "call ref") => `(tactic| (k_here; (with_reducible show wpAny _ _ (call (Value.ref 71) _) _ _ _); k_dflt (refine' Mine.Claim.use (Mine.c_to_jd_at2 _ ?p1 ?p2 ?p3 ?p4 ?p5 ?p6) ?k1 ?k2 ?k3 ?k4 ?k5 ?k6 ?k7 ?k8 ?_; (case p1 => assumption); (case p2 => first | assumption | rfl); (case p3 => first | assumption | omega); (case p4 => exact rfl); (case p5 => assumption); (case p6 => omega); (case k1 => k_asm); (case k2 => k_asm); (case k3 => k_asm); (case k4 => k_asm); (case k5 => k_asm); (case k6 => first | exact rfl | assumption); (case k7 => ktr_room); (case k8 => ktr_units); k_whole; (try dsimp only [Mine.RetB, Mine.RetI, Mine.RetH, Mine.Ret2, Mine.Ret2E, Mine.Ret3, Mine.RetHE, Mine.RetBE]); intro z q t9 h9 tk9 ee9 z9 e9 F9 N9; subst e9; (try dsimp only); (try k_fold))))
local macro_rules | `(tactic| walk_at "call ref") => `(tactic| (k_here; (with_reducible show wpAny _ _ (call (Value.ref 71) _) _ _ _); k_dflt (refine' Mine.Claim.use (Mine.c_to_jd_at1 _ ?p1 ?p2 ?p3 ?p4 ?p5) ?k1 ?k2 ?k3 ?k4 ?k5 ?k6 ?k7 ?k8 ?_; (case p1 => assumption); (case p2 => first | assumption | rfl | tb_start); (case p3 => exact rfl); (case p4 => exact rfl); (case p5 => assumption); (case k1 => k_asm); (case k2 => k_asm); (case k3 => k_asm); (case k4 => k_asm); (case k5 => k_asm); (case k6 => first | exact rfl | assumption); (case k7 => ktr_room); (case k8 => ktr_units); k_whole; (try dsimp only [Mine.RetB, Mine.RetI, Mine.RetH, Mine.Ret2, Mine.Ret2E, Mine.Ret3, Mine.RetHE, Mine.RetBE]); intro z q t9 h9 tk9 ee9 z9 e9 F9 N9; subst e9; (try dsimp only); (try k_fold))))
local macro_rules | `(tactic| walk_at "call ref") => `(tactic| (k_here; (with_reducible show wpAny _ _ (call (Value.ref 78) _) _ _ _); k_dflt (refine' Mine.Claim.use (Mine.c_from_jd_gregorian _ _ _ _ _ _ _ ?p1 ?p2 ?p3 ?p4 ?p5) ?k1 ?k2 ?k3 ?k4 ?k5 ?k6 ?k7 ?k8 ?_; (case k1 => k_asm); (case k2 => k_asm); (case k3 => k_asm); (case k4 => k_asm); (case k5 => k_asm); (case k6 => first | exact rfl | assumption); (case k7 => ktr_room); (case k8 => ktr_units); (case p1 => assumption); (case p2 => omega); (case p3 => omega); (case p4 => assumption); (case p5 => omega); k_whole; (try dsimp only [Mine.RetB, Mine.RetI, Mine.RetH, Mine.Ret2, Mine.Ret3]); intro D9 a9 b9 c9 t1 t2 t3 k9 h9 tk9 e1 e2 e3 F9 N1 N2; subst e1; subst e2; subst e3; have N9 := Mine.news_cons N1 N2; clear N1 N2; (try dsimp only); (try k_fold))))
local macro_rules | `(tactic| walk_at "call ref") => `(tactic| (k_here; (with_reducible show wpAny _ _ (call (Value.ref 85) _) _ _ _); k_dflt (refine' Mine.Claim.use (Mine.c_to_jd_ordinal _ _ _ _ _ ?p1 ?p2) ?k1 ?k2 ?k3 ?k4 ?k5 ?k6 ?k7 ?k8 ?_; (case k1 => k_asm); (case k2 => k_asm); (case k3 => k_asm); (case k4 => k_asm); (case k5 => k_asm); (case k6 => first | exact rfl | assumption); (case k7 => ktr_room); (case k8 => ktr_units); (case p1 => omega); (case p2 => omega); k_whole; (try dsimp only [Mine.RetB, Mine.RetI, Mine.RetH, Mine.Ret2, Mine.Ret3]); intro z q t9 h9 tk9 z9 e9 F9 N9; subst e9; (try dsimp only); (try k_fold))))
local macro_rules | `(tactic| walk_at "call ref") => `(tactic| (k_here; (with_reducible show wpAny _ _ (call (Value.ref 92) _) _ _ _); k_dflt (refine' Mine.Claim.use (Mine.c_from_jd_ordinal _ _ _ _ _ _ _ ?p1 ?p2 ?p3 ?p4 ?p5) ?k1 ?k2 ?k3 ?k4 ?k5 ?k6 ?k7 ?k8 ?_; (case k1 => k_asm); (case k2 => k_asm); (case k3 => k_asm); (case k4 => k_asm); (case k5 => k_asm); (case k6 => first | exact rfl | assumption); (case k7 => ktr_room); (case k8 => ktr_units); (case p1 => assumption); (case p2 => omega); (case p3 => omega); (case p4 => assumption); (case p5 => omega); k_whole; (try dsimp only [Mine.RetB, Mine.RetI, Mine.RetH, Mine.Ret2, Mine.Ret3]); intro D9 a9 b9 t1 t2 k9 h9 tk9 e1 e2 F9 N1 N2; subst e1; subst e2; have N9 := Mine.news_cons N1 N2; clear N1 N2; (try dsimp only); (try k_fold))))
local macro_rules | `(tactic| walk_at "call ref") => `(tactic| (k_here; (with_reducible show wpAny _ _ (call (Value.ref 99) _) _ _ _); k_dflt (refine' Mine.Claim.use (Mine.c_from_gregorian_ordinal _ _ _ _ _ _ _ ?p1 ?p2) ?k1 ?k2 ?k3 ?k4 ?k5 ?k6 ?k7 ?k8 ?_; (case k1 => k_asm); (case k2 => k_asm); (case k3 => k_asm); (case k4 => k_asm); (case k5 => k_asm); (case k6 => first | exact rfl | assumption); (case k7 => ktr_room); (case k8 => ktr_units); (case p1 => omega); (case p2 => first | assumption | omega); k_whole; (try dsimp only [Mine.RetB, Mine.RetI, Mine.RetH, Mine.Ret2, Mine.Ret3]); intro D9 a9 b9 t1 t2 k9 h9 tk9 e1 e2 F9 N1 N2; subst e1; subst e2; have N9 := Mine.news_cons N1 N2; clear N1 N2; (try dsimp only); (try k_fold))))
local macro_rules | `(tactic| walk_at "call ref") => `(tactic| (k_here; (with_reducible show wpAny _ _ (call (Value.ref 99) _) _ _ _); k_dflt (refine' Mine.Claim.use (Mine.c_fgo_at _ ?p1 ?p2 ?p3 ?p4) ?k1 ?k2 ?k3 ?k4 ?k5 ?k6 ?k7 ?k8 ?_; (case p1 => assumption); (case p2 => first | assumption | omega); (case p3 => exact rfl); (case p4 => omega); (case k1 => k_asm); (case k2 => k_asm); (case k3 => k_asm); (case k4 => k_asm); (case k5 => k_asm); (case k6 => first | exact rfl | assumption); (case k7 => ktr_room); (case k8 => ktr_units); k_whole; (try dsimp only [Mine.RetB, Mine.RetI, Mine.RetH, Mine.Ret2, Mine.Ret2E, Mine.Ret3, Mine.RetHE, Mine.RetBE]); intro D9 a9 b9 t1 t2 k9 h9 tk9 ee9 e1 e2 F9 N1 N2; have N9 := Mine.news_cons N1 N2; clear N1 N2; (try dsimp only); (try k_fold))))
local macro_rules | `(tactic| walk_at "call ref") => `(tactic| (k_here; (with_reducible show wpAny _ _ (call (Value.ref 106) _) _ _ _); k_dflt (refine' Mine.Claim.use (Mine.c_to_gregorian_ordinal _ _ _ _ _ _ _ ?p1 ?p2 ?p3) ?k1 ?k2 ?k3 ?k4 ?k5 ?k6 ?k7 ?k8 ?_; (case k1 => k_asm); (case k2 => k_asm); (case k3 => k_asm); (case k4 => k_asm); (case k5 => k_asm); (case k6 => first | exact rfl | assumption); (case k7 => ktr_room); (case k8 => ktr_units); (case p1 => omega); (case p2 => first | assumption | omega); (case p3 => omega); k_whole; (try dsimp only [Mine.RetB, Mine.RetI, Mine.RetH, Mine.Ret2, Mine.Ret3]); intro D9 a9 b9 c9 t1 t2 t3 k9 h9 tk9 e1 e2 e3 F9 N1 N2; subst e1; subst e2; subst e3; have N9 := Mine.news_cons N1 N2; clear N1 N2; (try dsimp only); (try k_fold))))
local macro_rules | `(tactic| walk_at "call ref") => `(tactic| (k_here; (with_reducible show wpAny _ _ (call (Value.ref 64) _) _ _ _); k_dflt (refine' Mine.Claim.use (Mine.c_to_jd2 _ _ _ _ _ _ _ ?p1 ?p2 ?p3) ?k1 ?k2 ?k3 ?k4 ?k5 ?k6 ?k7 ?k8 ?_; (case k1 => k_asm); (case k2 => k_asm); (case k3 => k_asm); (case k4 => k_asm); (case k5 => k_asm); (case k6 => first | exact rfl | assumption); (case k7 => ktr_room); (case k8 => ktr_units); (case p1 => omega); (case p2 => omega); (case p3 => first | assumption | omega); k_whole; (try dsimp only [Mine.RetB, Mine.RetI, Mine.RetH, Mine.Ret2, Mine.Ret3]); intro z q t9 h9 tk9 z9 e9 F9 N9; subst e9; (try dsimp only); (try k_fold))))
local macro_rules | `(tactic| walk_at "call ref") => `(tactic| (k_here; (with_reducible show wpAny _ _ (call (Value.ref 114) _) _ _ _); k_dflt (refine' Mine.Claim.use (Mine.c_leapj _ _ _) ?k1 ?k2 ?k3 ?k4 ?k5 ?k6 ?k7 ?k8 ?_; (case k1 => k_asm); (case k2 => k_asm); (case k3 => k_asm); (case k4 => k_asm); (case k5 => k_asm); (case k6 => first | exact rfl | assumption); (case k7 => ktr_room); (case k8 => ktr_units); k_whole; (try dsimp only [Mine.RetB, Mine.RetI, Mine.RetH, Mine.Ret2, Mine.Ret3]); intro v h9 tk9 e9 F9 N9; (try dsimp only); (try k_fold))))
local macro_rules | `(tactic| walk_at "call ref") => `(tactic| (k_here; (with_reducible show wpAny _ _ (call (Value.ref 121) _) _ _ _); k_dflt (refine' Mine.Claim.use (Mine.c_month_length _ _ _ _ _) ?k1 ?k2 ?k3 ?k4 ?k5 ?k6 ?k7 ?k8 ?_; (case k1 => k_asm); (case k2 => k_asm); (case k3 => k_asm); (case k4 => k_asm); (case k5 => k_asm); (case k6 => first | exact rfl | assumption); (case k7 => ktr_room); (case k8 => ktr_units); k_whole; (try dsimp only [Mine.RetB, Mine.RetI, Mine.RetH, Mine.Ret2, Mine.Ret3]); intro v t9 h9 tk9 e9 F9 N9; subst e9; (try dsimp only); (try k_fold))))
local macro_rules | `(tactic| walk_at "call ref") => `(tactic| (k_here; (with_reducible show wpAny _ _ (call (Value.ref 128) _) _ _ _); k_dflt (refine' Mine.Claim.use (Mine.c_legalj _ _ _ _ _ _ _ ?p1) ?k1 ?k2 ?k3 ?k4 ?k5 ?k6 ?k7 ?k8 ?_; (case k1 => k_asm); (case k2 => k_asm); (case k3 => k_asm); (case k4 => k_asm); (case k5 => k_asm); (case k6 => first | exact rfl | assumption); (case k7 => ktr_room); (case k8 => ktr_units); (case p1 => first | assumption | omega); k_whole; (try dsimp only [Mine.RetB, Mine.RetI, Mine.RetH, Mine.Ret2, Mine.Ret3]); intro v h9 tk9 e9 F9 N9; subst e9; (try dsimp only); (try k_fold))))
local macro_rules | `(tactic| walk_at "call ref") => `(tactic| (k_here; (with_reducible show wpAny _ _ (call (Value.ref 142) _) _ _ _); k_dflt (refine' Mine.Claim.use (Mine.c_to_jd_julian _ _ _ _ _ _ _ ?p1 ?p2 ?p3) ?k1 ?k2 ?k3 ?k4 ?k5 ?k6 ?k7 ?k8 ?_; (case k1 => k_asm); (case k2 => k_asm); (case k3 => k_asm); (case k4 => k_asm); (case k5 => k_asm); (case k6 => first | exact rfl | assumption); (case k7 => ktr_room); (case k8 => ktr_units); (case p1 => omega); (case p2 => omega); (case p3 => first | assumption | omega); k_whole; (try dsimp only [Mine.RetB, Mine.RetI, Mine.RetH, Mine.Ret2, Mine.Ret3]); intro z q t9 h9 tk9 z9 e9 F9 N9; subst e9; (try dsimp only); (try k_fold))))
local macro_rules | `(tactic| walk_at "call ref") => `(tactic| (k_here; (with_reducible show wpAny _ _ (call (Value.ref 135) _) _ _ _); k_dflt (refine' Mine.Claim.use (Mine.c_from_jd_julian _ _ _ _ _ _ _ ?p1 ?p2 ?p3 ?p4 ?p5) ?k1 ?k2 ?k3 ?k4 ?k5 ?k6 ?k7 ?k8 ?_; (case k1 => k_asm); (case k2 => k_asm); (case k3 => k_asm); (case k4 => k_asm); (case k5 => k_asm); (case k6 => first | exact rfl | assumption); (case k7 => ktr_room); (case k8 => ktr_units); (case p1 => assumption); (case p2 => omega); (case p3 => omega); (case p4 => assumption); (case p5 => omega); k_whole; (try dsimp only [Mine.RetB, Mine.RetI, Mine.RetH, Mine.Ret2, Mine.Ret3]); intro D9 a9 b9 c9 t1 t2 t3 k9 h9 tk9 e1 e2 e3 F9 N1 N2; subst e1; subst e2; subst e3; have N9 := Mine.news_cons N1 N2; clear N1 N2; (try dsimp only); (try k_fold))))
local macro_rules | `(tactic| walk_at "call ref") => `(tactic| (k_here; (with_reducible show wpAny _ _ (call (Value.ref 240) _) _ _ _); k_dflt (refine' Mine.Claim.use (Mine.c_legalp _ _ _ _ _ _ _ _ ?p1 ?p2 ?p3 ?p4) ?k1 ?k2 ?k3 ?k4 ?k5 ?k6 ?k7 ?k8 ?_; (case k1 => k_asm); (case k2 => k_asm); (case k3 => k_asm); (case k4 => k_asm); (case k5 => k_asm); (case k6 => first | exact rfl | assumption); (case k7 => ktr_room); (case k8 => ktr_units); (case p1 => first | assumption | rfl); (case p2 => omega); (case p3 => omega); (case p4 => first | assumption | omega); k_whole; (try dsimp only [Mine.RetB, Mine.RetI, Mine.RetH, Mine.Ret2, Mine.Ret3]); intro v h9 tk9 e9 F9 N9; subst e9; (try dsimp only); (try k_fold))))
local macro_rules | `(tactic| walk_at "call ref") => `(tactic| (k_here; (with_reducible show wpAny _ _ (call (Value.ref 247) _) _ _ _); k_dflt (refine' Mine.Claim.use (Mine.c_to_jd_positivist _ _ _ _ _ _ _ _ ?p1 ?p2 ?p3 ?p4) ?k1 ?k2 ?k3 ?k4 ?k5 ?k6 ?k7 ?k8 ?_; (case k1 => k_asm); (case k2 => k_asm); (case k3 => k_asm); (case k4 => k_asm); (case k5 => k_asm); (case k6 => first | exact rfl | assumption); (case k7 => ktr_room); (case k8 => ktr_units); (case p1 => first | assumption | rfl); (case p2 => omega); (case p3 => omega); (case p4 => first | assumption | omega); k_whole; (try dsimp only [Mine.RetB, Mine.RetI, Mine.RetH, Mine.Ret2, Mine.Ret3]); intro z q t9 h9 tk9 z9 e9 F9 N9; subst e9; (try dsimp only); (try k_fold))))
local macro_rules | `(tactic| walk_at "call ref") => `(tactic| (k_here; (with_reducible show wpAny _ _ (call (Value.ref 254) _) _ _ _); k_dflt (refine' Mine.Claim.use (Mine.c_from_jd_positivist _ _ _ _ _ _ ?p1 ?p2 ?p3 ?p4 ?p5) ?k1 ?k2 ?k3 ?k4 ?k5 ?k6 ?k7 ?k8 ?_; (case k1 => k_asm); (case k2 => k_asm); (case k3 => k_asm); (case k4 => k_asm); (case k5 => k_asm); (case k6 => first | exact rfl | assumption); (case k7 => ktr_room); (case k8 => ktr_units); (case p1 => assumption); (case p2 => omega); (case p3 => first | assumption | omega); (case p4 => omega); (case p5 => first | assumption | omega); k_whole; (try dsimp only [Mine.RetB, Mine.RetI, Mine.RetH, Mine.Ret2, Mine.Ret3]); intro D9 a9 b9 c9 t1 t2 t3 k9 h9 tk9 e1 e2 e3 F9 N1 N2; subst e1; subst e2; subst e3; have N9 := Mine.news_cons N1 N2; clear N1 N2; (try dsimp only); (try k_fold))))
local macro_rules | `(tactic| walk_at "call ref") => `(tactic| (k_here; (with_reducible show wpAny _ _ (call (Value.ref 275) _) _ _ _); k_dflt (refine' Mine.Claim.use (Mine.c_law_first _ _ _) ?k1 ?k2 ?k3 ?k4 ?k5 ?k6 ?k7 ?k8 ?_; (case k1 => k_asm); (case k2 => k_asm); (case k3 => k_asm); (case k4 => k_asm); (case k5 => k_asm); (case k6 => first | exact rfl | assumption); (case k7 => ktr_room); (case k8 => ktr_units); k_whole; (try dsimp only [Mine.RetB, Mine.RetI, Mine.RetH, Mine.Ret2, Mine.Ret3]); intro v t9 h9 tk9 e9 F9 N9; (try dsimp only); (try k_fold))))
local macro_rules | `(tactic| walk_at "call ref") => `(tactic| (k_here; (with_reducible show wpAny _ _ (call (Value.ref 282) _) _ _ _); k_dflt (refine' Mine.Claim.use (Mine.c_law_walk _ _ _ _ _ _ _ _ _ _ _ ?p1 ?p2 ?p3 ?p4) ?k1 ?k2 ?k3 ?k4 ?k5 ?k6 ?k7 ?k8 ?_; (case k1 => k_asm); (case k2 => k_asm); (case k3 => k_asm); (case k4 => k_asm); (case k5 => k_asm); (case k6 => first | exact rfl | assumption); (case k7 => ktr_room); (case k8 => ktr_units); (case p1 => l_ints); (case p2 => omega); (case p3 => omega); (case p4 => omega); k_whole; (try dsimp only [Mine.RetB, Mine.RetI, Mine.RetH, Mine.Ret2, Mine.Ret3, Mine.RetW]); refine ⟨List.Mem.head _, ?_⟩; intro D9 a9 b9 c9 t1 t2 t3 k9 h9 tk9 e1 q1 q2 q3 F9 N1 N2; subst e1; have N9 := Mine.news_cons N1 N2; clear N1 N2; (try dsimp only); (try k_fold))))
theorem yr_succ (y : Int) : yr (y + 1) = yr y + 365 + lp y := by
  have h := lp_div y
  unfold yr
  rw [show y + 1 - 1 = y by omega]
  omega
theorem y0_facts {n q : Int} (hq : 146097 * q ≤ (n - 2451545) * 400 ∧ (n - 2451545) * 400 < 146097 * (q + 1)) :
    yr (2000 + q - 1) + 1 ≤ n ∧ n < yr (2000 + q + 2) + 1 := by
  obtain ⟨A, B, C, D, hy, hB, hC, hD⟩ := y_split (2000 + q)
  have hyr := yr_parts hy hB hC hD
  have s1 := yr_succ (2000 + q - 1)
  have s2 := yr_succ (2000 + q)
  have s3 := yr_succ (2000 + q + 1)
  have l1 := lp_01 (2000 + q - 1)
  have l2 := lp_01 (2000 + q)
  have l3 := lp_01 (2000 + q + 1)
  rw [show 2000 + q - 1 + 1 = 2000 + q by omega] at s1
  rw [show 2000 + q + 1 + 1 = 2000 + q + 2 by omega] at s3
  omega
theorem whl_dec {p : Prop} [Decidable p] {T F : Prop} (h1 : p → T) (h0 : ¬ p → F) : WhlIf (decide p) T F := by
  by_cases h : p
  · exact WhlIf.yes (by simpa using h) (h1 h)
  · exact WhlIf.no (by simpa using h) (h0 h)
theorem w_mod_ii {prog : Program} {w : World} {A : Around} {E : Value → Shared → Prop} {s : Shared} {Q : Value → Shared → Prop} {a b : Int} {t u : Tok} (hb : 0 < b) (h : ∀ r, r = a % b → Q (.int r s.toks) { s with toks := s.toks + 1 }) :
    wpAny (model prog w) A (binaryOp .Mod (.int a t) (.int b u)) Q E s := mod_int' (by omega) (by rw [Int.fmod_eq_emod_of_nonneg _ (by omega)]; exact h _ rfl)
theorem w_fdiv_ii {prog : Program} {w : World} {A : Around} {E : Value → Shared → Prop} {s : Shared} {Q : Value → Shared → Prop} {a b : Int} {t u : Tok} (hb : 0 < b) (hp : Builtin.divisionGoesByPylong a b = false) (h : ∀ r, r = a / b → Q (.int r s.toks) { s with toks := s.toks + 1 }) :
    wpAny (model prog w) A (binaryOp .FloorDiv (.int a t) (.int b u)) Q E s := floordiv_int (by omega) (by rw [Int.fdiv_eq_ediv_of_nonneg _ (by omega)]; exact h _ rfl) (Or.inl hp)
abbrev RetG (n : Int) : RetT := fun h₀ L m news s Q => ∀ (D : Addr) (a b c : Int) (t1 t2 t3 : Tok) (k : Nat) (h' : Heap) (tk' : Nat), (1 ≤ b ∧ b ≤ 12) → (1 ≤ c ∧ c ≤ mlen (lp a) b) → n = yr a + cum (lp a) b + c → Fr h₀ L h' m → News h₀ L h' [(D, Tup3 a b c t1 t2 t3 k)] → News h₀ L h' news → Q (.ref D) { s with heap := h', toks := tk' }
abbrev RetJ (n : Int) : RetT := fun h₀ L m news s Q => ∀ (D : Addr) (a b c : Int) (t1 t2 t3 : Tok) (k : Nat) (h' : Heap) (tk' : Nat), (1 ≤ b ∧ b ≤ 12) → (1 ≤ c ∧ c ≤ mlen (jl a) b) → n = jyr a + cum (jl a) b + c → Fr h₀ L h' m → News h₀ L h' [(D, Tup3 a b c t1 t2 t3 k)] → News h₀ L h' news → Q (.ref D) { s with heap := h', toks := tk' }
theorem c_law_walk_g (w : World) {l : Addr} {vs : List Value} {k0 : Nat} {b y c0 : Int} {t1 t2 : Tok} (hi : IntsAre vs (lens b)) (hb : b + 337 = yr (y + 1) + 1 - (yr y + 1)) (hc : 0 ≤ c0 ∧ c0 < yr (y + 1) + 1 - (yr y + 1)) :
    Claim w 282 1 [.int y t1, .int c0 t2, .ref l] (RetW l vs k0 (lp y) y c0) :=
  c_law_walk w l vs k0 (lp y) b y c0 t1 t2 hi (by have := yr_succ y; omega) (lp_01 y) (by have := yr_succ y; omega)
theorem c_law_walk_j (w : World) {l : Addr} {vs : List Value} {k0 : Nat} {b y c0 : Int} {t1 t2 : Tok} (hi : IntsAre vs (lens b)) (hb : (y % 4 = 0 ∧ b = 29) ∨ (y % 4 ≠ 0 ∧ b = 28)) (hc : 0 ≤ c0 ∧ (c0 ≤ 364 ∨ (y % 4 = 0 ∧ c0 ≤ 365))) :
    Claim w 282 1 [.int y t1, .int c0 t2, .ref l] (RetW l vs k0 (jl y) y c0) :=
  c_law_walk w l vs k0 (jl y) b y c0 t1 t2 hi (by have := jl_cases y; omega) (jl_01 y) (by have := jl_cases y; omega)
theorem useW {w : World} {L y c0 : Int} {l lA : Addr} {vs : List Value} {k0 : Nat} {t1 t2 : Tok} (cl' : Claim w 282 1 [.int y t1, .int c0 t2, .ref l] (RetW l vs k0 L y c0))
    {loose : List Str} {mean : ExcName → Option Value} {mg mb : Str → Option Value}
    {dp un : Nat} {gd : Option (List Code)} {cn : Str} {cs : Scope} {a : Addr} {ccd : Value} {cl : List (Str × Addr)} {outer : List Env} {A₀ : Around} {base h₀ : Heap} {m : Str → Option Value} {rest : List (Addr × Obj)} {s : Shared} {Q E : Value → Shared → Prop}
    (hB : Below A₀ base outer h₀) (hF : Fr h₀ lA s.heap m) (hK : (hd.heap_39 w.params).In h₀) (hN : News h₀ lA s.heap ((l, listOf vs.toArray k0) :: rest)) (hT : Top hd.view_39 loose mean mg mb h₀) (hk : cs.kind = .function)
    (hd : dp + 1 < recursionLimit) (hu : un + 8 * 1 < cLine)
    (hR : ∀ (D : Addr) (a b c : Int) (t1 t2 t3 : Tok) (k : Nat) (h' : Heap) (tk' : Nat), a = y → (1 ≤ b ∧ b ≤ 12) → (1 ≤ c ∧ c ≤ mlen L b) → c0 + 1 = cum L b + c → Fr h₀ lA h' m → News h₀ lA h' [(D, Tup3 a b c t1 t2 t3 k)] → News h₀ lA h' ((l, listOf vs.toArray k0) :: rest) → Q (.ref D) { s with heap := h', toks := tk' }) :
    wpAny (model PP w) (ktrTop dp un gd cn cs lA a ccd cl outer) (call (.ref 282) [.int y t1, .int c0 t2, .ref l]) Q E s :=
  cl' _ _ _ _ _ _ _ _ _ _ _ _ _ _ _ _ _ _ _ _ _ _ hB hF hK hN hT hk hd hu ⟨List.Mem.head _, hR⟩
theorem divmod_facts (n : Int) : n = 1461 * n.fdiv 1461 + n.fmod 1461 ∧ 0 ≤ n.fmod 1461 ∧ n.fmod 1461 < 1461 := by
  rw [Int.fdiv_eq_ediv_of_nonneg _ (by decide), Int.fmod_eq_emod_of_nonneg _ (by decide)]
  omega
local macro_rules | `(tactic| walk_at "exec While Compare cons nil") => `(tactic| (k_here; k_dflt (refine whl_start 100 ?_)))
local macro_rules | `(tactic| walk_at "WhlIf") => `(tactic| first | (refine WhlIf.yes (by with_reducible (simp only [decide_eq_true_eq]; omega)) ?_) | (refine WhlIf.no (by with_reducible (simp only [decide_eq_false_iff_not]; omega)) ?_) | (refine Mine.whl_dec ?_ ?_ <;> intro hw))
local macro_rules | `(tactic| walk_at "binaryOp Mod int int") => `(tactic| (k_here; with_reducible refine' Mine.w_mod_ii ?k1 ?_; (case k1 => k_dflt omega); k_whole; intro r hr; (try dsimp only)))
local macro_rules | `(tactic| walk_at "call ref") => `(tactic| (k_here; (with_reducible show wpAny _ _ (call (Value.ref 282) _) _ _ _); k_dflt (refine' Mine.useW (Mine.c_law_walk_g _ ?p1 ?p2 ?p3) ?k1 ?k2 ?k3 ?k4 ?k5 ?k6 ?k7 ?k8 ?_; (case k1 => k_asm); (case k2 => k_asm); (case k3 => k_asm); (case k4 => k_asm); (case k5 => k_asm); (case k6 => first | exact rfl | assumption); (case k7 => ktr_room); (case k8 => ktr_units); (case p1 => (unfold Mine.lens; repeat (first | exact IntsAre.nil | refine IntsAre.cons _ _ ?_))); (case p2 => omega); (case p3 => omega); k_whole; intro D9 a9 b9 c9 t1 t2 t3 k9 h9 tk9 e1 q1 q2 q3 F9 N1 N2; subst e1; have N9 := Mine.news_cons N1 N2; clear N1 N2; (try dsimp only); (try k_fold))))
theorem c_law_gregorian (w : World) (n : Int) (t : Tok) (hn : -13000000 ≤ n ∧ n ≤ 13000000) : Claim w 289 3 [.int n t] (RetG n) := by
  w_top off
  k_with_none
  have kfill : PySem.Challenge.rw_ak5020_01 = PySem.Challenge.rw_ak5020_01 ∧ hd.heap_39 = hd.heap_39 := by
    k_fill
    exact ⟨rfl, rfl⟩
  clear kfill
  have hy0 := y0_facts (n := n) (q := ((n - 2451545) * 400).fdiv 146097) (by rw [Int.fdiv_eq_ediv_of_nonneg _ (by decide)]; omega)
  have hR1 : yr (2000 + ((n - 2451545) * 400).fdiv 146097 - 1 + 1) = yr (2000 + ((n - 2451545) * 400).fdiv 146097) := by congr 1; omega
  have hR2 : yr (2000 + ((n - 2451545) * 400).fdiv 146097 + 1 + 1) = yr (2000 + ((n - 2451545) * 400).fdiv 146097 + 2) := by congr 1; omega
  all_goals dsimp only [Claim, RetB, RetI, RetH, Ret2, Ret3, RetG, RetJ]
  all_goals intros
  all_goals rename_i hret
  all_goals (try obtain ⟨hmem, hret⟩ := hret)
  all_goals refine wpAny_call ?_
  all_goals k_dflt cell_enter
  all_goals k_steps
  all_goals refine hret _ _ _ _ _ _ _ _ _ _ ?_ ?_ ?_ (by k_asm) (news_one (by k_asm) (.head _)) (by first | k_asm | exact news_drop (by k_asm) | exact news_drop (news_drop (by k_asm)) | exact news_drop (news_drop (news_drop (by k_asm))) | exact news_drop (news_drop (news_drop (news_drop (by k_asm)))))
  all_goals first | assumption | rfl | omega

local macro_rules | `(tactic| walk_at "call ref") => `(tactic| (k_here; (with_reducible show wpAny _ _ (call (Value.ref 289) _) _ _ _); k_dflt (refine' Mine.Claim.use (Mine.c_law_gregorian _ _ _ ?p1) ?k1 ?k2 ?k3 ?k4 ?k5 ?k6 ?k7 ?k8 ?_; (case k1 => k_asm); (case k2 => k_asm); (case k3 => k_asm); (case k4 => k_asm); (case k5 => k_asm); (case k6 => first | exact rfl | assumption); (case k7 => ktr_room); (case k8 => ktr_units); (case p1 => omega); k_whole; (try dsimp only [Mine.RetB, Mine.RetI, Mine.RetH, Mine.Ret2, Mine.Ret3, Mine.RetW, Mine.RetG, Mine.RetJ]); intro D9 a9 b9 c9 t1 t2 t3 k9 h9 tk9 q1 q2 q3 F9 N1 N2; have N9 := Mine.news_cons N1 N2; clear N1 N2; (try dsimp only); (try k_fold))))
local macro_rules | `(tactic| walk_at "call ref") => `(tactic| (k_here; (with_reducible show wpAny _ _ (call (Value.ref 282) _) _ _ _); k_dflt (refine' Mine.useW (Mine.c_law_walk_j _ ?p1 ?p2 ?p3) ?k1 ?k2 ?k3 ?k4 ?k5 ?k6 ?k7 ?k8 ?_; (case k1 => k_asm); (case k2 => k_asm); (case k3 => k_asm); (case k4 => k_asm); (case k5 => k_asm); (case k6 => first | exact rfl | assumption); (case k7 => ktr_room); (case k8 => ktr_units); (case p1 => (unfold Mine.lens; repeat (first | exact IntsAre.nil | refine IntsAre.cons _ _ ?_))); (case p2 => omega); (case p3 => omega); k_whole; intro D9 a9 b9 c9 t1 t2 t3 k9 h9 tk9 e1 q1 q2 q3 F9 N1 N2; subst e1; have N9 := Mine.news_cons N1 N2; clear N1 N2; (try dsimp only); (try k_fold))))
theorem c_law_julian (w : World) (n : Int) (t : Tok) (hn : -13000000 ≤ n ∧ n ≤ 13000000) : Claim w 296 3 [.int n t] (RetJ n) := by
  w_top off
  k_with_none
  have kfill : PySem.Challenge.rw_ak5020_01 = PySem.Challenge.rw_ak5020_01 ∧ hd.heap_39 = hd.heap_39 := by
    k_fill
    exact ⟨rfl, rfl⟩
  clear kfill
  have hdm := divmod_facts n
  all_goals dsimp only [Claim, RetB, RetI, RetH, Ret2, Ret3, RetG, RetJ]
  all_goals intros
  all_goals rename_i hret
  all_goals (try obtain ⟨hmem, hret⟩ := hret)
  all_goals refine wpAny_call ?_
  all_goals k_dflt cell_enter
  all_goals k_steps
  all_goals refine hret _ _ _ _ _ _ _ _ _ _ ?_ ?_ ?_ (by k_asm) (news_one (by k_asm) (.head _)) (by first | k_asm | exact news_drop (by k_asm) | exact news_drop (news_drop (by k_asm)) | exact news_drop (news_drop (news_drop (by k_asm))) | exact news_drop (news_drop (news_drop (news_drop (by k_asm)))))
  all_goals first | assumption | rfl | (unfold jyr; omega)

local macro_rules | `(tactic| walk_at "call ref") => `(tactic| (k_here; (with_reducible show wpAny _ _ (call (Value.ref 296) _) _ _ _); k_dflt (refine' Mine.Claim.use (Mine.c_law_julian _ _ _ ?p1) ?k1 ?k2 ?k3 ?k4 ?k5 ?k6 ?k7 ?k8 ?_; (case k1 => k_asm); (case k2 => k_asm); (case k3 => k_asm); (case k4 => k_asm); (case k5 => k_asm); (case k6 => first | exact rfl | assumption); (case k7 => ktr_room); (case k8 => ktr_units); (case p1 => omega); k_whole; (try dsimp only [Mine.RetB, Mine.RetI, Mine.RetH, Mine.Ret2, Mine.Ret3, Mine.RetW, Mine.RetG, Mine.RetJ]); intro D9 a9 b9 c9 t1 t2 t3 k9 h9 tk9 q1 q2 q3 F9 N1 N2; have N9 := Mine.news_cons N1 N2; clear N1 N2; (try dsimp only); (try k_fold))))
end Mine

namespace Mine
open PySem.Flt

theorem nums_bound (ns : List Int) : ∀ x ∈ List.map (fun k' : Int => if -10000000 < k' ∧ k' < 10000000 then k' else if -10000000 < k' ∧ ¬k' < 10000000 then k'.fmod 10000000 else k'.fmod 10000000) (List.take 6 ns) ++ [0, 0, 0, 0, 0, 0], -10000000 < x ∧ x < 10000000 := by
  intro x hx
  rcases List.mem_append.mp hx with hx | hx
  · obtain ⟨k, _, rfl⟩ := List.mem_map.mp hx
    have h1 : k.fmod 10000000 = k % 10000000 := Int.fmod_eq_emod_of_nonneg _ (by decide)
    simp only [h1]
    split
    · assumption
    · split <;> omega
  · simp at hx
    omega
abbrev numsE (ns : List Int) : List Int := List.map (fun k' : Int => if -10000000 < k' ∧ k' < 10000000 then k' else if -10000000 < k' ∧ ¬k' < 10000000 then k'.fmod 10000000 else k'.fmod 10000000) (List.take 6 ns) ++ [0, 0, 0, 0, 0, 0]
/-- one of the law's six numbers -/
def numAt (ns : List Int) (k : Int) : Int := (numsE ns).getD k.toNat 0
theorem w_num {prog : Program} {w : World} {A : Around} {E : Value → Shared → Prop} {s : Shared} {l : Addr} {vs : List Value} {ns : List Int} {k : Int} {u : Tok} {value slice : PySem.Expr} {Q : Value → Shared → Prop}
    (hl : s.heap.IsList l vs.toArray) (hi : IntsAre vs (numsE ns)) (hk : 0 ≤ k ∧ k < (numsE ns).length ∧ k < 9223372036854775808)
    (h : ∀ r t, r = numAt ns k → (-10000000 < r ∧ r < 10000000) → Q (.int r t) s)
    (hs : subscripted slice false (.ref l) (.int k u) = operate [.ref l, .int k u] (getItem (.ref l) (.int k u)) := by with_unfolding_all rfl) :
    wpAny (model prog w) A (subscriptTail value slice (.ref l) (.int k u)) Q E s := by
  refine item_anyK hl hi hk.1 hk.2.1 (by omega) (fun t => ?_) hs
  refine h _ _ rfl (nums_bound ns _ ?_)
  have hlt : k.toNat < (numsE ns).length := by omega
  show (numsE ns).getD k.toNat 0 ∈ numsE ns
  rw [List.getD_eq_getElem?_getD, List.getElem?_eq_getElem hlt]
  exact List.getElem_mem hlt

/-- a day's number and its Gregorian date -/
structure GD (n y m d : Int) : Prop where
  nb : -13000000 ≤ n ∧ n ≤ 13000000
  hm : 1 ≤ m ∧ m ≤ 12
  hd : 1 ≤ d ∧ d ≤ mlen (lp y) m
  he : n = yr y + cum (lp y) m + d
theorem GD.yb {n y m d : Int} (D : GD n y m d) : -50000 ≤ y ∧ y ≤ 50000 := by
  have h2 := yr_eq y; have hcr := cum_range (lp_01 y) D.hm D.hd; have hl01 := lp_01 y; have := D.nb; have := D.he; omega
theorem GD.place {n y m d : Int} (D : GD n y m d) : 1 ≤ n - yr y ∧ n - yr y ≤ 365 + lp y := by
  have hcr := cum_range (lp_01 y) D.hm D.hd; have := D.he; omega
/-- a day's number and its Julian date -/
structure JD (n y m d : Int) : Prop where
  nb : -13000000 ≤ n ∧ n ≤ 13000000
  hm : 1 ≤ m ∧ m ≤ 12
  hd : 1 ≤ d ∧ d ≤ mlen (jl y) m
  he : n = jyr y + cum (jl y) m + d
theorem JD.yb {n y m d : Int} (D : JD n y m d) : -50000 ≤ y ∧ y ≤ 50000 := by
  have hcr := cum_range (jl_01 y) D.hm D.hd; have hl01 := jl_01 y; have := D.nb; have h := D.he; unfold jyr at h; omega
section
variable {n y m d p c : Int} {x : UInt64} {t t1 t2 t3 : Tok}
theorem g_from_jd_gregorian (w : World) (D : GD n y m d) (hx : Hf x p) (hp : p = 2 * n - 1) : Claim w 78 4 [.float x t] (Ret3 y m d) := by
  subst hp; exact c_from_jd_gregorian w x n y m d t hx D.nb D.hm D.hd D.he
theorem g_from_jd_ordinal (w : World) (D : GD n y m d) (hx : Hf x p) (hp : p = 2 * n - 1) : Claim w 92 6 [.float x t] (Ret2 y (n - yr y)) := by
  subst hp; exact c_from_jd_ordinal w x n y m d t hx D.nb D.hm D.hd D.he
theorem g_to_jd_ordinal (w : World) (D : GD n y m d) (hc : c = n - yr y) : Claim w 85 4 [.int y t1, .int c t2] (RetH (2 * n - 1)) := by
  have h := c_to_jd_ordinal w y c t1 t2 D.yb (by have := D.place; have := lp_01 y; omega)
  have e : yr y + c = n := by omega
  rw [e] at h; exact h
theorem g_from_gregorian_ordinal (w : World) (D : GD n y m d) : Claim w 99 2 [.int y t1, .int m t2, .int d t3] (Ret2 y (n - yr y)) := by
  have h := c_from_gregorian_ordinal w y m d t1 t2 t3 D.hm D.hd
  have e : cum (lp y) m + d = n - yr y := by have := D.he; omega
  rw [e] at h; exact h
theorem g_to_gregorian_ordinal (w : World) (D : GD n y m d) (hc : c = n - yr y) : Claim w 106 4 [.int y t1, .int c t2] (Ret3 y m d) :=
  c_to_gregorian_ordinal w y m d c t1 t2 D.hm D.hd (by have := D.he; omega)
theorem g_to_jd2 (w : World) (D : GD n y m d) : Claim w 64 3 [.int y t1, .int m t2, .int d t3] (RetH (2 * n - 1)) := by
  have h := c_to_jd2 w y m d t1 t2 t3 D.yb D.hm D.hd
  rw [← D.he] at h; exact h
theorem g_to_jd_gregorian (w : World) (D : GD n y m d) : Claim w 71 3 [.int y t1, .int m t2, .int d t3] (RetH (2 * n - 1)) := by
  have h := c_to_jd_gregorian w y m d t1 t2 t3 D.yb D.hm D.hd
  rw [← D.he] at h; exact h
theorem g_to_jd_julian (w : World) (D : JD n y m d) : Claim w 142 4 [.int y t1, .int m t2, .int d t3] (RetH (2 * n - 1)) := by
  have h := c_to_jd_julian w y m d t1 t2 t3 D.yb D.hm D.hd
  rw [← D.he] at h; exact h
theorem g_from_jd_julian (w : World) (D : JD n y m d) (hx : Hf x p) (hp : p = 2 * n - 1) : Claim w 135 1 [.float x t] (Ret3 y m d) := by
  subst hp; exact c_from_jd_julian w x n y m d t hx D.nb D.hm D.hd D.he
theorem pos_year (D : GD n y m d) (h1 : 2374480 ≤ n) : 1789 ≤ y := by
  have hpl := D.place
  have hl := lp_01 y
  obtain ⟨A, B, C, E, hy, hB, hC, hD⟩ := y_split y
  have hyr := yr_parts hy hB hC hD
  omega
theorem g_to_jd_positivist {y' m' d' : Int} (w : World) (D : GD n y m d) (h1 : 2374480 ≤ n) (e : y' = y - 1788) (em : m' = (n - yr y - 1) / 28 + 1) (ed : d' = (n - yr y - 1) % 28 + 1) :
    Claim w 247 3 [.int y' t1, .int m' t2, .int d' t3] (RetH (2 * n - 1)) := by
  have hpl := D.place
  have hl := lp_01 y
  have hyb := D.yb
  have hyr := pos_year D h1
  have h := c_to_jd_positivist w y' m' d' y t1 t2 t3 (by omega) (by omega) (by omega) (by unfold plen; split <;> omega)
  have e2 : yr y + 28 * (m' - 1) + d' = n := by omega
  rw [e2] at h; exact h
theorem g_from_jd_positivist (w : World) (D : GD n y m d) (h1 : 2374480 ≤ n) (hex : y % 400 ≠ 0 ∨ n - (yr y + 1) < 365) (hx : Hf x p) (hp : p = 2 * n - 1) : Claim w 254 1 [.float x t] (Ret3 (y - 1788) ((n - (yr y + 1)) / 28 + 1) ((n - (yr y + 1)) % 28 + 1)) := by
  subst hp
  exact c_from_jd_positivist w x n y (n - (yr y + 1)) t hx ⟨h1, D.nb.2⟩ (by omega) (by have := D.place; omega) hex
end
/-- the law's end -/
def LawEnd (s1 : Shared) (f : Flow) (s' : Shared) : Prop := f = .ret (.bool true) ∧ ∃ h' tk' m', s' = { s1 with heap := h', toks := tk' } ∧ Fr s1.heap s1.heap.objs.size h' m'
theorem law_end {s1 : Shared} {h' : Heap} {tk' : Nat} {m' : Str → Option Value} {b : Bool} (F : Fr s1.heap s1.heap.objs.size h' m') (e : b = true) : LawEnd s1 (.ret (.bool b)) { s1 with heap := h', toks := tk' } := by
  subst e; exact ⟨rfl, h', tk', m', rfl, F⟩
/-- a date that the Positivist calendar has -/
structure Legal (y m d : Int) : Prop where
  hy : 1 ≤ y
  hm : 1 ≤ m ∧ m ≤ 14
  hd : 1 ≤ d ∧ d ≤ plen (lp (y + 1788)) m
structure Illegal (y m d : Int) : Prop where
  h : ¬ Legal y m d
theorem Illegal.cases {y m d : Int} (I : Illegal y m d) : y < 1 ∨ m < 1 ∨ 14 < m ∨ d < 1 ∨ plen (lp (y + 1788)) m < d := by
  have h := I.h
  by_cases h1 : y < 1
  · exact .inl h1
  by_cases h2 : m < 1
  · exact .inr (.inl h2)
  by_cases h3 : 14 < m
  · exact .inr (.inr (.inl h3))
  by_cases h4 : d < 1
  · exact .inr (.inr (.inr (.inl h4)))
  by_cases h5 : plen (lp (y + 1788)) m < d
  · exact .inr (.inr (.inr (.inr h5)))
  exact (h ⟨by omega, by omega, by omega⟩).elim
theorem legal_split {h₀ h : Heap} {L : Addr} {m : Str → Option Value} {y mo d : Int} {t1 t2 t3 : Tok} {P : Prop} (_F : Fr h₀ L h m) (hy : m (Str.ofString "year") = some (.int y t1)) (hm : m (Str.ofString "month") = some (.int mo t2)) (hd : m (Str.ofString "day") = some (.int d t3))
    (h1 : Legal y mo d → P) (h2 : Illegal y mo d → P) : P := (Classical.em (Legal y mo d)).elim h1 fun h => h2 ⟨h⟩
theorem plen_cases (l m : Int) : (m < 14 ∧ plen l m = 28) ∨ (14 ≤ m ∧ plen l m = 1 + l) := by unfold plen; split <;> omega
theorem Legal.all {y m d : Int} (I : Legal y m d) : 1 ≤ y ∧ (1 ≤ m ∧ m ≤ 14) ∧ 1 ≤ d ∧ d ≤ plen (lp (y + 1788)) m := ⟨I.hy, I.hm, I.hd⟩
theorem Legal.plen {y m d : Int} (_I : Legal y m d) : ((m < 14 ∧ Mine.plen (lp (y + 1788)) m = 28) ∨ (14 ≤ m ∧ Mine.plen (lp (y + 1788)) m = 1 + lp (y + 1788))) ∧ (lp (y + 1788) = 0 ∨ lp (y + 1788) = 1) := ⟨plen_cases _ _, lp_01 _⟩
theorem Illegal.plen {y m d : Int} (_I : Illegal y m d) : ((m < 14 ∧ Mine.plen (lp (y + 1788)) m = 28) ∨ (14 ≤ m ∧ Mine.plen (lp (y + 1788)) m = 1 + lp (y + 1788))) ∧ (lp (y + 1788) = 0 ∨ lp (y + 1788) = 1) := ⟨plen_cases _ _, lp_01 _⟩
theorem yr_next (y : Int) : yr (y + 1789) = yr (y + 1788) + 365 + lp (y + 1788) := by
  have h := yr_succ (y + 1788)
  rw [show y + 1788 + 1 = y + 1789 by omega] at h
  exact h
theorem Legal.next {y m d : Int} (_I : Legal y m d) : yr (y + 1789) = yr (y + 1788) + 365 + lp (y + 1788) := yr_next y
theorem Illegal.next {y m d : Int} (_I : Illegal y m d) : yr (y + 1789) = yr (y + 1788) + 365 + lp (y + 1788) := yr_next y
theorem Legal.yb {y m d : Int} (_I : Legal y m d) (h : -20000000 ≤ y ∧ y ≤ 20000000) : -80000000000 ≤ yr (y + 1788) ∧ yr (y + 1788) ≤ 80000000000 := by have := yr_eq (y + 1788); omega
/-- an if whose ways meet: a float is stored -/
def JEndF (h₀ : Heap) (L : Addr) (s : Shared) (m : Str → Option Value) (x : Str) (q : Int) (news : List (Addr × Obj)) (f : Flow) (s' : Shared) : Prop :=
  f = .next ∧ ∃ (z : UInt64) (t : Tok) (h' : Heap) (tk' : Nat), Hf z q ∧ s' = { s with heap := h', toks := tk' } ∧ Fr h₀ L h' (fun y => if y = x then some (.float z t) else m y) ∧ News h₀ L h' news
theorem joinF {M : Model} {A : Around} {E : Value → Shared → Prop} {s : Shared} {env : Env} {st : Stmt} {rest : List Stmt} {Q : Flow → Shared → Prop} {h₀ : Heap} {L : Addr} {m : Str → Option Value} {news : List (Addr × Obj)} {y mo d : Int}
    (_hJ : Legal y mo d) (F : Fr h₀ L s.heap m) (N : News h₀ L s.heap news) (h1 : wpAny M A (exec st env) (JEndF h₀ L s m (Str.ofString "due") (2 * (yr (y + 1788) + 28 * (mo - 1) + d) - 1) news) E s)
    (h2 : ∀ (z : UInt64) (t : Tok) (h' : Heap) (tk' : Nat), Hf z (2 * (yr (y + 1788) + 28 * (mo - 1) + d) - 1) → Fr h₀ L h' (fun y => if y = Str.ofString "due" then some (.float z t) else m y) → News h₀ L h' news → wpAny M A (execs rest env) Q E { s with heap := h', toks := tk' }) : wpAny M A (execs (st :: rest) env) Q E s :=
  wpAny_execs_cons (wpAny_mono h1 (fun f s' hj => by
    obtain ⟨rfl, z, t, h', tk', hz, rfl, F', N'⟩ := hj
    exact h2 z t h' tk' hz F' N') fun _ _ h => h)
theorem jendF {h₀ h' : Heap} {L : Addr} {s : Shared} {m : Str → Option Value} {x : Str} {q q' : Int} {z : UInt64} {t : Tok} {news news' : List (Addr × Obj)} {tk' : Nat}
    (F : Fr h₀ L h' (fun y => if y = x then some (.float z t) else m y)) (N : News h₀ L h' news') (hz : Hf z q') (e : q' = q) (hs : ∀ p ∈ news, p ∈ news') : JEndF h₀ L s m x q news .next { s with heap := h', toks := tk' } := by
  subst e
  exact ⟨rfl, z, t, h', tk', hz, rfl, F, fun p hp => N p (hs p hp)⟩
section
variable {prog : Program} {w : World} {A : Around} {E : Value → Shared → Prop} {s : Shared} {Q : Value → Shared → Prop} {x y : UInt64} {t u : Tok} {p q a b : Int}
theorem w_ne_ff0 (hx : Hf x p) (hy : Hf y q) (e : p = q) (h : Q (.bool false) s) : wpAny (model prog w) A (compareOp .NotEq (.float x t) (.float y u)) Q E s :=
  w_ne_ff hx hy (by rw [decide_eq_true e]; exact h)
theorem w_fdiv28 (h : ∀ r, r = a / 28 → Q (.int r s.toks) { s with toks := s.toks + 1 }) : wpAny (model prog w) A (binaryOp .FloorDiv (.int a t) (.int 28 u)) Q E s := w_fdiv_ii (by decide) (PyProof.noPylong_small (by decide)) h
end
/-- an if whose ways meet: nothing is stored -/
def JEnd0 (h₀ : Heap) (L : Addr) (s : Shared) (m : Str → Option Value) (news : List (Addr × Obj)) (f : Flow) (s' : Shared) : Prop :=
  f = .next ∧ ∃ (h' : Heap) (tk' : Nat), s' = { s with heap := h', toks := tk' } ∧ Fr h₀ L h' m ∧ News h₀ L h' news
theorem join0 {M : Model} {A : Around} {E : Value → Shared → Prop} {s : Shared} {env : Env} {st : Stmt} {rest : List Stmt} {Q : Flow → Shared → Prop} {h₀ : Heap} {L : Addr} {m : Str → Option Value} {news : List (Addr × Obj)}
    (F : Fr h₀ L s.heap m) (N : News h₀ L s.heap news) (h1 : wpAny M A (exec st env) (JEnd0 h₀ L s m news) E s)
    (h2 : ∀ (h' : Heap) (tk' : Nat), Fr h₀ L h' m → News h₀ L h' news → wpAny M A (execs rest env) Q E { s with heap := h', toks := tk' }) : wpAny M A (execs (st :: rest) env) Q E s :=
  wpAny_execs_cons (wpAny_mono h1 (fun f s' hj => by
    obtain ⟨rfl, h', tk', rfl, F', N'⟩ := hj
    exact h2 h' tk' F' N') fun _ _ h => h)
theorem jend0 {h₀ h' : Heap} {L : Addr} {s : Shared} {m : Str → Option Value} {news news' : List (Addr × Obj)} {tk' : Nat}
    (F : Fr h₀ L h' m) (N : News h₀ L h' news') (hs : ∀ p ∈ news, p ∈ news') : JEnd0 h₀ L s m news .next { s with heap := h', toks := tk' } :=
  ⟨rfl, h', tk', rfl, F, fun p hp => N p (hs p hp)⟩

abbrev ClaimL (w : World) (f : Addr) (vs : List Value) (R : RetT) : Prop :=
  ∀ (loose : List Str) (mean : ExcName → Option Value) (mg mb : Str → Option Value) (cn : Str) (cs : Scope) (a : Addr) (ccd : Value) (h₀ : Heap) (L : Addr) (m : Str → Option Value) (news : List (Addr × Obj)) (s : Shared) (Q E : Value → Shared → Prop),
    Below callerA h₀ [] h₀ → Fr h₀ L s.heap m → (hd.heap_39 w.params).In h₀ → News h₀ L s.heap news → Top hd.view_39 loose mean mg mb h₀ → cs.kind = .function → R h₀ L m news s Q →
      wpAny (model PP w) (callerA.deeper (envOf cn cs L a ccd)) (call (.ref f) vs) Q E s
theorem ClaimL.use {w : World} {f : Addr} {vs : List Value} {R : RetT} (c : ClaimL w f vs R)
    {loose : List Str} {mean : ExcName → Option Value} {mg mb : Str → Option Value} {cn : Str} {cs : Scope} {a : Addr} {ccd : Value} {h₀ : Heap} {L : Addr} {m : Str → Option Value} {news : List (Addr × Obj)} {s : Shared} {Q E : Value → Shared → Prop}
    (hB : Below callerA h₀ [] h₀) (hF : Fr h₀ L s.heap m) (hK : (hd.heap_39 w.params).In h₀) (hN : News h₀ L s.heap news) (hT : Top hd.view_39 loose mean mg mb h₀) (hk : cs.kind = .function) (hR : R h₀ L m news s Q) :
    wpAny (model PP w) (callerA.deeper (envOf cn cs L a ccd)) (call (.ref f) vs) Q E s := c _ _ _ _ _ _ _ _ _ _ _ _ _ _ _ hB hF hK hN hT hk hR
abbrev RetS (x : Str) : RetT := fun h₀ L m news s Q => ∀ (t : Tok) (h' : Heap) (tk' : Nat), Fr h₀ L h' m → News h₀ L h' news → Q (.str x t) { s with heap := h', toks := tk' }

abbrev ClaimX (w : World) (f : Addr) (need : Nat) (vs : List Value) (X : String) : Prop :=
  ∀ (loose : List Str) (mean : ExcName → Option Value) (mg mb : Str → Option Value)
    (dp un : Nat) (gd : Option (List Code)) (cn : Str) (cs : Scope) (a : Addr) (ccd : Value) (cl : List (Str × Addr)) (outer : List Env) (A₀ : Around) (base h₀ : Heap) (L : Addr) (m : Str → Option Value) (news : List (Addr × Obj)) (s : Shared) (Q E : Value → Shared → Prop),
    Below A₀ base outer h₀ → Fr h₀ L s.heap m → (hd.heap_39 w.params).In h₀ → (hd.heap_39 w.params).In base → News h₀ L s.heap news → Top hd.view_39 loose mean mg mb h₀ → Top hd.view_39 loose mean mg mb base → cs.kind = .function →
    dp + need < recursionLimit → un + 8 * need < cLine →
    (∀ (e : Addr) (g' h' : Heap) (tk' : Nat), Fr h₀ L g' m → RaisedSN base g' (envX cn cs L a ccd cl :: outer) e (.type X) news h' → g'.UpToSlots h' → E (.ref e) { s with heap := h', toks := tk' }) →
      wpAny (model PP w) (ktrTop dp un gd cn cs L a ccd cl outer) (call (.ref f) vs) Q E s
theorem ClaimX.use {w : World} {f : Addr} {need : Nat} {vs : List Value} {X : String} (c : ClaimX w f need vs X)
    {loose : List Str} {mean : ExcName → Option Value} {mg mb : Str → Option Value}
    {dp un : Nat} {gd : Option (List Code)} {cn : Str} {cs : Scope} {a : Addr} {ccd : Value} {cl : List (Str × Addr)} {outer : List Env} {A₀ : Around} {base h₀ : Heap} {L : Addr} {m : Str → Option Value} {news : List (Addr × Obj)} {s : Shared} {Q E : Value → Shared → Prop}
    (hB : Below A₀ base outer h₀) (hF : Fr h₀ L s.heap m) (hK : (hd.heap_39 w.params).In h₀) (hKB : (hd.heap_39 w.params).In base) (hN : News h₀ L s.heap news) (hT : Top hd.view_39 loose mean mg mb h₀) (hTB : Top hd.view_39 loose mean mg mb base) (hk : cs.kind = .function)
    (hd : dp + need < recursionLimit) (hu : un + 8 * need < cLine)
    (hR : ∀ (e : Addr) (g' h' : Heap) (tk' : Nat), Fr h₀ L g' m → RaisedSN base g' (envX cn cs L a ccd cl :: outer) e (.type X) news h' → g'.UpToSlots h' → E (.ref e) { s with heap := h', toks := tk' }) :
    wpAny (model PP w) (ktrTop dp un gd cn cs L a ccd cl outer) (call (.ref f) vs) Q E s :=
  c _ _ _ _ _ _ _ _ _ _ _ _ _ _ _ _ _ _ _ _ _ _ hB hF hK hKB hN hT hTB hk hd hu hR
end Mine

namespace Mine

theorem entry_unchain : entryFor table "proto.unchain" = some Builtin.«proto.unchain» := entryFor_of_tree (by kernel_rfl)
section
variable {prog : Program} {w : World} {A : Around} {E : Value → Shared → Prop} {s : Shared}
theorem raise_new {e e0 : Addr} {cls : Value} {vs vs0 : Array Value} {o0 : Obj} {d0 : Option Addr} {sl : Array (Option Value)} {Q : α → Shared → Prop} (hh : A.handled = some (.ref e0)) (hne : e ≠ e0) (he : s.heap.get? e = some { cls := cls, dict := d0, data := .fields vs, slots := sl }) (hz : 2 < vs.size)
    (he0 : s.heap.get? e0 = some o0) (hd0 : o0.data = .fields vs0) (hc0 : vs0[2]? = some .none)
    (h : ∀ h', (∀ b o, b ≠ e → s.heap.get? b = some o → h'.get? b = some o) → h'.get? e = some { cls := cls, dict := d0, data := .fields (vs.setIfInBounds 2 (.ref e0)), slots := sl } → E (.ref e) { s with heap := h' }) :
    wpAny (model prog w) A (raiseNew (.ref e)) Q E s := by
  unfold raiseNew
  refine wpAny_bind (wpAny_handled ?_)
  rw [hh]
  dsimp only
  rw [if_pos (by simp; exact fun q => hne q.symm)]
  refine wpAny_bind (wpAny_holding (wpAny_runValue (codeAny_builtin entry_unchain ?_)))
  unfold Builtin.«proto.unchain»
  refine wpAny_bind (wpAny_field he0 hd0 hc0 ?_)
  repeat wp_step
  exact h _ (fun b o hb ho => (Heap.get?_update_other _ _ (Ne.symm hb)).trans ho) (Heap.get?_update_self _ he rfl)
end
section
variable {prog : Program} {w : World} {A : Around} {E : Value → Shared → Prop} {s : Shared} {env : Env}

theorem raise_from {cls : String} (FR : ExcRaiseFacts cls) {x c : Sem Value} {e0 : Addr} {Q : Flow → Shared → Prop} (hh : A.handled = some (.ref e0))
    (h : wpAny (model prog w) A x (fun v s₁ => ∃ e t, v = .ref e ∧ s₁.heap.get? e = some { cls := .type cls, data := .fields #[.ref t, .none, .none, .none, .bool false, .none] } ∧ e ≠ e0 ∧
       wpAny (model prog w) A c (fun cv s₂ => cv = .ref e0 ∧ s₂ = s₁ ∧ ∃ o0 vs0 X0, s₁.heap.get? e0 = some o0 ∧ o0.cls = .type X0 ∧ isSubtype (.type X0) (.type "BaseException") = pure true ∧ o0.data = .fields vs0 ∧ vs0[2]? = some .none ∧
         ∀ h', (∀ b o, b ≠ e → s₁.heap.get? b = some o → h'.get? b = some o) → h'.get? e = some { cls := .type cls, data := .fields #[.ref t, .none, .ref e0, .ref e0, .bool true, .none] } → E (.ref e) { s₁ with heap := h' }) E s₁) E s) :
    wpAny (model prog w) A (raiseStmt env (some x) (some c)) Q E s := by
  unfold raiseStmt
  refine wpAny_bind (wpAny_mono h (fun v s₁ h₁ => ?_) fun _ _ x => x)
  obtain ⟨e, t, rfl, he, hne, h₁⟩ := h₁
  obtain ⟨hp, g, d, tk, os⟩ := s₁
  refine wpAny_bind (wpAny_holding (wpAny_mono h₁ (fun cv s₂ h₂ => ?_) fun _ _ x => x))
  obtain ⟨rfl, rfl, o0, vs0, X0, he0, hX0, hsub0, hd0, hc0, hE⟩ := h₂
  have hsub := FR.isExc
  have hmeta := FR.plainMeta
  obtain ⟨cls0, dict0, data0, slots0⟩ := o0
  obtain rfl : cls0 = .type X0 := hX0
  obtain rfl : data0 = .fields vs0 := hd0
  repeat (first | refine wpAny_loadPart he ?_ | refine wpAny_loadPart he0 ?_ | wp_step)
  have hg1 := Heap.get?_update_self (Obj.mapFields fun x => x.setIfInBounds 3 (Value.ref e0)) he rfl
  have hg2 := Heap.get?_update_self (Obj.mapFields fun x => x.setIfInBounds 4 (Value.bool true)) hg1 rfl
  refine raise_new (s := ⟨_, _, _, _, _⟩) hh hne hg2 (by simp) ((Heap.get?_update_other _ _ hne).trans ((Heap.get?_update_other _ _ hne).trans he0)) rfl hc0 fun h' k1 k2 => ?_
  exact hE h' (fun b o hb ho => k1 b o hb ((Heap.get?_update_other _ _ (Ne.symm hb)).trans ((Heap.get?_update_other _ _ (Ne.symm hb)).trans ho))) k2
end
end Mine

namespace Mine
section
variable {prog : Program} {w : World} {A : Around} {E : Value → Shared → Prop} {s : Shared} {env : Env}

theorem uts_update {h : Heap} {T : Addr} {oT : Obj} {ts : Array Value} {f : Obj → Obj} (hT : h.get? T = some oT) (hd : oT.data = .fields ts) : h.UpToSlots (h.update T f) := fun b o hb hn => by
  refine ⟨o.slots, (Heap.get?_update_other _ _ ?_).trans hb⟩
  intro q; subst q; rw [hT] at hb; cases hb; exact hn _ hd

/-- a new exception is told of its first frame, at any depth -/
theorem note_new {base : Heap} {outer : List Env} {L e : Addr} {oe : Obj} {vs : Array Value} {Q : Unit → Shared → Prop}
    (hfr : A.frames = some (env :: outer)) (hl : s.heap.FunFrames base (env :: outer)) (hf : env.frame = some L) (hkb : base.StaysIn s.heap)
    (he : s.heap.get? e = some oe) (hen : base.get? e = none) (hd : oe.data = .fields vs) (h1 : vs[1]? = some .none)
    (h : ∀ h' T oT ts, base.StaysIn h' → h'.FunFrames base (env :: outer) → s.heap.get? T = none → h'.get? e = some (oe.mapFields (·.setIfInBounds 1 (.ref T))) → h'.get? T = some oT → oT.data = .fields ts → ts[3]? = some (rawInt L) →
      s.heap.UpToSlots h' → Q () { s with heap := h' }) :
    wpAny (model prog w) A (noteFrame (.ref e) env) Q E s := by
  have fld : ∀ b o, s.heap.get? b = some o → (∀ xs, o.data ≠ .fields xs) → b ≠ e := fun b o hb hn q => by
    subst q; rw [he] at hb; cases hb; exact hn vs hd
  unfold noteFrame
  simp only [hf]
  refine wpAny_bind (wpAny_field he hd h1 ?_)
  rw [if_neg (by decide)]
  refine wpAny_bind (wpAny_frameOf_fun hfr hl hf fun g hg => ?_)
  obtain ⟨g1, g2, g3⟩ := hg
  have hge : g.get? e = some oe := (g2 e fun hm => by
    obtain ⟨_, o, ho, hn⟩ := hl.mem hm
    exact fld e o ho hn rfl).trans he
  have hgT : s.heap.get? g.objs.size = none := Heap.get?_none_of_le (by rw [g1]; exact Nat.le_refl _)
  have hTe : g.objs.size ≠ e := Nat.ne_of_gt (Heap.lt_size hge)
  refine wpAny_bind (wpAny_entryPlaceOf fun pl hpl => ?_)
  unfold EntryCells.newEntry newFields
  refine wpAny_bind (wpAny_newObj_type ?_ (hpl.sizeOk5 _ _ _ _ _))
  refine wpAny_setField (Heap.get?_push_of_some _ hge) hd (Array.getElem?_eq_some_iff.mp h1).1 ?_
  have put : ∀ b o, b ≠ e → g.get? b = some o → (Heap.update (g.push { cls := .type "traceback", dict := none, data := .fields ([Value.none, .ref L, .none, rawInt L, .none] ++ (if pl.isEmpty then List.replicate 6 Value.none else pl)).toArray }) e (Obj.mapFields (·.setIfInBounds 1 (Value.ref g.objs.size)))).get? b = some o :=
    fun b o hb ho => (Heap.get?_update_other _ _ (Ne.symm hb)).trans (Heap.get?_push_of_some _ ho)
  have slo : ∀ b o, s.heap.get? b = some o → (∀ xs, o.data ≠ .fields xs) → ∃ sl, (Heap.update (g.push { cls := .type "traceback", dict := none, data := .fields ([Value.none, .ref L, .none, rawInt L, .none] ++ (if pl.isEmpty then List.replicate 6 Value.none else pl)).toArray }) e (Obj.mapFields (·.setIfInBounds 1 (Value.ref g.objs.size)))).get? b = some { o with slots := sl } := fun b o hb hn => by
    obtain ⟨sl, hs⟩ := g3 b o hb
    exact ⟨sl, put b _ (fld b o hb hn) hs⟩
  refine h _ g.objs.size _ _ (fun b o hb => put b o (fun q => by rw [q, hen] at hb; cases hb) ((g2 b fun hm => by rw [(hl.mem hm).1] at hb; cases hb).trans (hkb b o hb)))
    (hl.of_keeps fun b o hb hn => by obtain ⟨sl, hs⟩ := slo b o hb hn; exact ⟨_, hs, rfl⟩) hgT (Heap.get?_update_self _ (Heap.get?_push_of_some _ hge) (Obj.isFreed_of_fields (Obj.data_mapFields hd _)))
    ((Heap.get?_update_other _ _ (Ne.symm hTe)).trans (Heap.get?_push_size g rfl)) rfl (by simp) slo
end
end Mine

namespace Mine
theorem news_keeps {h₀ h h' : Heap} {L : Addr} {news : List (Addr × Obj)} (N : News h₀ L h news) (k : ∀ b o, h.get? b = some o → h'.get? b = some o) : News h₀ L h' news := fun p hp => ⟨k _ _ (N p hp).1, (N p hp).2.1, (N p hp).2.2⟩
theorem fr_keeps {h₀ h h' : Heap} {L : Addr} {m : Str → Option Value} (F : Fr h₀ L h m) (k : ∀ b o, h.get? b = some o → h'.get? b = some o) : Fr h₀ L h' m :=
  ⟨let ⟨o, es, ep, e, r⟩ := F.ns; ⟨o, es, ep, k _ _ e, r⟩, fun b o e => k _ _ (F.keep b o e), F.above⟩
abbrev hidF (h : Heap) (l : List Env) : Heap := hideAll h (l.filterMap (·.frame))
theorem hid_none {h : Heap} {l : List Env} {b : Addr} (e : h.get? b = none) : (hidF h l).get? b = none := by
  cases q : (hidF h l).get? b with
  | none => rfl
  | some o => have := of_hideAll _ q; rw [e] at this; cases this
theorem hid_stays {h : Heap} {l : List Env} : (hidF h l).StaysIn h := fun b o q => of_hideAll _ q
section
variable {A₀ : Around} {base g h : Heap} {outer : List Env} {L a : Addr} {m : Str → Option Value} {name : Str} {scope : Scope} {cd : Value} {news : List (Addr × Obj)}
theorem hid_frames (K : Below A₀ base outer g) (F : Fr g L h m) (hk : scope.kind = .function) : h.FunFrames (hidF h (envOf name scope L a cd :: outer)) (envOf name scope L a cd :: outer) :=
  funFrames_hide (K.push (name := name) (a := a) (cd := cd) F hk).frames fun env he b hb => List.mem_filterMap.mpr ⟨env, he, hb⟩
theorem news_apart (K : Below A₀ base outer g) (N : News g L h news) : ∀ q ∈ news, q.1 ∉ (envOf name scope L a cd :: outer).filterMap (·.frame) := fun q hq hm => by
  rcases kts_mem hm with z | z
  · exact (N q hq).2.1 z
  · obtain ⟨_, o, ho, _⟩ := K.frames.mem z
    rw [(N q hq).2.2] at ho; cases ho
theorem none_below (F : Fr g L h m) {b : Addr} (e : h.get? b = none) : g.get? b = none := kts_none F.keep e

/-- an exception that its own frame has seen, ready to leave -/
def HeldSN (base g : Heap) (env : Env) (outer : List Env) (e : Addr) (cls : Value) (L : Addr) (news : List (Addr × Obj)) (h : Heap) : Prop :=
  ∃ B a0, base.StaysIn B ∧ (∀ b o, g.get? b = some o → b ∉ outer.filterMap (·.frame) → B.get? b = some o) ∧ (∀ q ∈ news, B.get? q.1 = some q.2 ∧ g.get? q.1 = none ∧ base.get? q.1 = none) ∧ Heap.HeldW B (env :: outer) e cls a0 L h
theorem leave_heldSN {M : Model} {E : Value → Shared → Prop} {s' : Shared} {e : Addr} {cls : Value} {Q : Unit → Shared → Prop} (R : HeldSN base g (envOf name scope L a cd) outer e cls L news s'.heap) (hu : g.UpToSlots s'.heap)
    (hQ : ∀ h', RaisedSN base g outer e cls news h' → g.UpToSlots h' → Q () { s' with heap := h' }) : wpAny M (A₀.deeper (envOf name scope L a cd)) (leaving (envOf name scope L a cd) (.ref e)) Q E s' := by
  obtain ⟨B, a0, hB, hg, hl, hh⟩ := R
  unfold leaving
  refine wpAny_bind (wpAny_noteFrame_againW rfl hh.2.2.2 ?_)
  refine wpAny_landsW hh fun h' hf hu' => ?_
  obtain ⟨k1, k2, ⟨_, _, k3⟩, k4⟩ := hf
  exact hQ h' ⟨B, a0, hB, hg, hl, k1, k2, k3, k4⟩ (hu.trans hu')
end
section
variable {prog : Program} {w : World} {A₀ : Around} {E : Value → Shared → Prop} {s' : Shared} {base g h : Heap} {outer : List Env} {L a e : Addr} {m : Str → Option Value} {name : Str} {scope : Scope} {cd : Value}
  {n : Str} {arg : Expr} {np np2 np3 cp rp pos : Pos} {rest : List ExceptHandler} {Q : Flow → Shared → Prop} {KF : Frag} {p : Program} {loose : List Str} {mean : ExcName → Option Value} {mg mb : Str → Option Value} {news : List (Addr × Obj)}

/-- a new exception, caught in its own frame, at any depth -/
theorem own_caught (K : Below A₀ base outer g) (F : Fr g L h m) (N : News g L h news) (hx : Heap.NewExc h s'.heap e "AssertionError") (XB : KF.In base) (TB : Top p loose mean mg mb base)
    (ex : nsIn KF mainGlobals "AssertionError" = some none)
    {b₀ : Stmt} {suite : List Stmt}
    (k : ∀ h' g' tk oe vs T oT ts, KtsTurn (outer.filterMap (·.frame)) g g' → Fr g' L h' (fun y => if y = n then some (.ref e) else m y) → News g' L h' ((e, oe) :: (T, oT) :: news) → oe.cls = .type "AssertionError" → oe.data = .fields vs → vs[1]? = some (.ref T) → vs[2]? = some .none → oT.data = .fields ts → 3 < ts.size →
      Below A₀ base outer g' → KF.In g' → Top p loose mean mg mb g' →
      wpAny (model prog w) ((A₀.deeper (envOf name scope L a cd)).mark (some (.ref e))) (execs (b₀ :: suite) (envOf name scope L a cd))
        (fun f s₄ => wpAny (model prog w) (A₀.deeper (envOf name scope L a cd)) (do bindName (envOf name scope L a cd) n .none; unbindBehindTheSuite (envOf name scope L a cd) n pos) (fun _ s₅ => Q f s₅) E s₄)
        (AsSuiteRaised (model prog w) ((A₀.deeper (envOf name scope L a cd)).mark (some (.ref e))) (envOf name scope L a cd) n pos (notedBy (model prog w) ((A₀.deeper (envOf name scope L a cd)).mark (some (.ref e))) (envOf name scope L a cd) (cameBackBy (model prog w) (A₀.deeper (envOf name scope L a cd)) (envOf name scope L a cd) E)))
        { s' with heap := h', toks := tk })
    (hk : scope.kind = .function := by rfl) (hlo : (envOf name scope L a cd).kindOf n = some .local := by rfl) (hxk : (envOf name scope L a cd).kindOf "AssertionError" = some .globalImplicit := by rfl) :
    wpAny (model prog w) (A₀.deeper (envOf name scope L a cd)) (noteFrame (.ref e) (envOf name scope L a cd))
      (fun _ s₂ => wpAny (model prog w) (A₀.deeper (envOf name scope L a cd)) (setFlight (.ref e) none) (fun _ s₃ =>
        wpAny (model prog w) (A₀.deeper (envOf name scope L a cd)) (handleBy (.ref e) (envOf name scope L a cd) (.ExceptHandler (some (.Name "AssertionError" np)) (some n) (b₀ :: suite) pos :: rest)) Q E s₃) E s₂) E s' := by
  obtain ⟨ob, tp, he, hcls, hd⟩ := hx.there
  have hge := none_below F hx.new
  have hBG : ∀ b o, h.get? b = some o → b ∉ (envOf name scope L a cd :: outer).filterMap (·.frame) → (hidF h (envOf name scope L a cd :: outer)).get? b = some o := fun b o q n => hideAll_get _ q n
  refine note_new (base := hidF h (envOf name scope L a cd :: outer)) (Around.frames_deeper K.stack) ((hid_frames K F hk).of_keeps fun b o q _ => ⟨o, hx.keeps b o q, rfl⟩) rfl (fun b o q => hx.keeps b o (hid_stays b o q)) he (hid_none hx.new) hd rfl
    fun h1 T oT ts st1 fr1 hT0 he1 hT1 hdT h3 u1 => ?_
  have hTe : T ≠ e := fun q => by rw [q, he] at hT0; cases hT0
  have hhT : h.get? T = none := kts_none hx.keeps hT0
  have hgT : g.get? T = none := none_below F hhT
  have hd1 := Obj.data_mapFields hd (·.setIfInBounds 1 (Value.ref T))
  have hz : 3 < ts.size := (Array.getElem?_eq_some_iff.mp h3).1
  have u01 : h.UpToSlots h1 := (Heap.UpToSlots.of_keeps hx.keeps).trans u1
  refine wpAny_setFlight_none he1 hd1 rfl hT1 hdT hz ?_
  have he2 := (Heap.get?_update_ne h1 _ _ (Obj.mapFields (·.setIfInBounds 3 Value.none)) hTe.symm).trans he1
  have hT2 := Heap.get?_update_self (Obj.mapFields (·.setIfInBounds 3 Value.none)) hT1 (Obj.isFreed_of_fields (Obj.data_mapFields hdT _))
  have hdT2 := Obj.data_mapFields hdT (·.setIfInBounds 3 Value.none)
  have u02 : h.UpToSlots (h1.update T (Obj.mapFields (·.setIfInBounds 3 Value.none))) := u01.trans (uts_update hT1 hdT)
  have st2 : (hidF h (envOf name scope L a cd :: outer)).StaysIn (h1.update T (Obj.mapFields (·.setIfInBounds 3 Value.none))) := fun b o q => (Heap.get?_update_other _ _ (fun z => by rw [← z, hid_none hhT] at q; cases q)).trans (st1 b o q)
  obtain ⟨g2, T2, F2, K2⟩ := kts_ground K F hBG st2 u02
  have X2 : KF.In g2 := XB.keeps K2.stays
  have P2 : TopRead p loose mg mb g2 := topRead_of (TB.keeps K2.stays)
  refine wpAny_handleBy_builtin_as (X := "AssertionError") (T := "AssertionError") (b := true) PySem.F.isExc_AssertionError PySem.F.notTuple_AssertionError PySem.F.self_AssertionError
    (name_B F2 X2 P2 ex PyProof.Rows.Boot.«AssertionError» (by decide) ⟨rfl, ⟨_, he2, by rw [Obj.cls_mapFields]; exact hcls⟩, ?_⟩ hk hxk)
  rw [if_pos rfl]
  refine wpAny_setFlight_none he2 hd1 rfl hT2 hdT2 (by simpa using hz) ?_
  have he3 := (Heap.get?_update_ne (h1.update T (Obj.mapFields (·.setIfInBounds 3 Value.none))) _ _ (Obj.mapFields (·.setIfInBounds 3 Value.none)) hTe.symm).trans he2
  have hT3 := Heap.get?_update_self (Obj.mapFields (·.setIfInBounds 3 Value.none)) hT2 (Obj.isFreed_of_fields (Obj.data_mapFields hdT2 _))
  have hdT3 := Obj.data_mapFields hdT2 (·.setIfInBounds 3 Value.none)
  have u03 := u02.trans (uts_update (f := Obj.mapFields (·.setIfInBounds 3 Value.none)) hT2 hdT2)
  have st3 : (hidF h (envOf name scope L a cd :: outer)).StaysIn _ := fun b o q => (Heap.get?_update_other (h1.update T (Obj.mapFields (·.setIfInBounds 3 Value.none))) (Obj.mapFields (·.setIfInBounds 3 Value.none)) (fun z => by rw [← z, hid_none hhT] at q; cases q)).trans (st2 b o q)
  obtain ⟨g3, T3, F3, K3⟩ := kts_ground K F hBG st3 u03
  have N0 : News g3 L _ news := fun q hq => ⟨st3 _ _ (hBG _ _ (N q hq).1 (news_apart K N q hq)), (N q hq).2.1, T3.none_ _ (N q hq).2.2⟩
  have N3 := News.more F3 (News.more F3 N0 hT3 (fun es n q => by rw [hdT3] at q; cases q) (T3.none_ _ hgT)) he3 (fun es n q => by rw [hd1] at q; cases q) (T3.none_ _ hge)
  refine stN F3 N3 (fun h4 F4 N4 => ?_) hk hlo
  exact k h4 g3 _ _ _ T _ _ T3 F4 N4 (by rw [Obj.cls_mapFields]; exact hcls) hd1 rfl rfl hdT3 (by simpa using hz) K3 (XB.keeps K3.stays) (TB.keeps K3.stays)
end
end Mine

namespace Mine
section
variable {prog : Program} {w : World} {A : Around} {E : Value → Shared → Prop} {s : Shared} {env : Env}
/-- «raise X(arg) from c» in a handler -/
theorem raise_call_from {cls newId initId : String} (FC : ExcCallFacts cls newId initId) (FR : ExcRaiseFacts cls) {x : Str} {np cpos pos : Pos} {arg c : Expr} {e0 : Addr} {Q : Flow → Shared → Prop} (hh : A.handled = some (.ref e0))
    (h : wpAny (model prog w) A (eval (.Name x np) env) (fun f s₁ => f = .type cls ∧ wpAny (model prog w) A (eval arg env)
      (fun v s₂ => ∀ h' e, Heap.MadeExc s₂.heap h' e cls [v] → e ≠ e0 ∧
        wpAny (model prog w) A (eval c env) (fun cv s₄ => cv = .ref e0 ∧ s₄ = { s₂ with heap := h' } ∧ ∃ o0 vs0 X0, h'.get? e0 = some o0 ∧ o0.cls = .type X0 ∧ isSubtype (.type X0) (.type "BaseException") = pure true ∧ o0.data = .fields vs0 ∧ vs0[2]? = some .none ∧
          ∀ h'' t, (∀ b o, b ≠ e → h'.get? b = some o → h''.get? b = some o) → h''.get? e = some { cls := .type cls, data := .fields #[.ref t, .none, .ref e0, .ref e0, .bool true, .none] } → E (.ref e) { s₂ with heap := h'' }) E { s₂ with heap := h' }) E s₁) E s)
    (he : starEach [arg] env = [(false, eval arg env)] := by rfl) :
    wpAny (model prog w) A (exec (.Raise (some (.Call (.Name x np) [arg] [] cpos)) (some c) pos) env) Q E s := by
  rw [arm_exec_Raise]
  show wpAny (model prog w) A (do standAt pos; raiseStmt env (some (do let v ← eval (.Call (.Name x np) [arg] [] cpos) env; standAt pos; pure v)) (some (do let v ← eval c env; standAt pos; pure v))) Q E s
  refine wpAny_bind (wpAny_standAt (raise_from FR hh (wpAny_bind ?_)))
  refine wpAny_Call_ofName (wpAny_mono h (fun f s₁ h₁ => ?_) fun _ _ y => y)
  obtain ⟨rfl, h₁⟩ := h₁
  refine callWith_excType (by rw [he]; rfl) ?_
  rw [he]
  refine Calls.evalArgs_plain ?_
  refine Calls.spliced_cons ?_
  rw [if_neg (by decide)]
  refine wpAny_mono h₁ (fun v s₂ h₂ => ?_) fun _ _ y => y
  refine Calls.spliced_nil ?_
  obtain ⟨hp, g, d, tk, os⟩ := s₂
  refine wpAny_call_exc FC (fun h' e hm => ?_) (by simp [sizeLine])
  obtain ⟨k1, k2⟩ := h₂ h' e hm
  obtain ⟨t, ht, _, _⟩ := hm.there
  refine wpAny_bind (wpAny_standAt (wpAny_pure ⟨e, t, rfl, ht, k1, ?_⟩))
  refine wpAny_bind (wpAny_mono k2 (fun cv s₄ h₄ => wpAny_bind (wpAny_standAt (wpAny_pure ?_))) fun _ _ y => y)
  obtain ⟨q1, q2, o0, vs0, X0, r1, r2, r3, r4, r5, r6⟩ := h₄
  exact ⟨q1, q2, o0, vs0, X0, r1, r2, r3, r4, r5, fun h'' z1 z2 => r6 h'' t z1 z2⟩
end
end Mine

namespace Mine
section
variable {M : Model} {A : Around} {E : Value → Shared → Prop} {s : Shared}
theorem setFlight_some {e T L : Addr} {oe oT : Obj} {vs ts : Array Value} {Q : Unit → Shared → Prop} (he : s.heap.get? e = some oe) (hd : oe.data = .fields vs) (h1 : vs[1]? = some (.ref T))
    (hT : s.heap.get? T = some oT) (hdT : oT.data = .fields ts) (hz : 3 < ts.size) (h : Q () { s with heap := s.heap.update T (Obj.mapFields (·.setIfInBounds 3 (rawInt L))) }) :
    wpAny M A (setFlight (.ref e) (some L)) Q E s := by
  unfold setFlight
  refine wpAny_bind (wpAny_field he hd h1 ?_)
  rw [if_pos (show (Value.ref T != Value.none) = true from by simp)]
  exact wpAny_setField hT hdT hz h
end
section
variable {prog : Program} {w : World} {A₀ : Around} {E : Value → Shared → Prop} {s' : Shared} {base g h : Heap} {outer : List Env} {L a e : Addr} {m : Str → Option Value} {name : Str} {scope : Scope} {cd : Value}
  {n : Str} {arg : Expr} {np np2 np3 cp rp pos : Pos} {rest : List ExceptHandler} {Q : Flow → Shared → Prop} {KF : Frag} {p : Program} {loose : List Str} {mean : ExcName → Option Value} {mg mb : Str → Option Value} {news : List (Addr × Obj)}

/-- a frame's end behind «raise .. from» in a handler: the exception's own way out of the suite -/
theorem suite_out {G : Heap} {e0 e2 : Addr} {oe : Obj} {vs : Array Value} {cls : Value} (K : Below A₀ base outer g) (F : Fr g L G m) (N : News g L G news) (hnew : G.get? e2 = none) (hk7 : ∀ b o, G.get? b = some o → s'.heap.get? b = some o)
    (he : s'.heap.get? e2 = some oe) (hcls : oe.cls = cls) (hd : oe.data = .fields vs) (h1 : vs[1]? = some .none) (hz : 1 < vs.size)
    (hE : ∀ h' tk, HeldSN base g (envOf name scope L a cd) outer e2 cls L news h' → (∀ b o, g.get? b = some o → ∃ sl, h'.get? b = some { o with slots := sl }) → E (.ref e2) { s' with heap := h', toks := tk })
    (hk : scope.kind = .function := by rfl) (hlo : (envOf name scope L a cd).kindOf n = some .local := by rfl) :
    AsSuiteRaised (model prog w) ((A₀.deeper (envOf name scope L a cd)).mark (some (.ref e0))) (envOf name scope L a cd) n pos (notedBy (model prog w) ((A₀.deeper (envOf name scope L a cd)).mark (some (.ref e0))) (envOf name scope L a cd) (cameBackBy (model prog w) (A₀.deeper (envOf name scope L a cd)) (envOf name scope L a cd) E)) (.ref e2) s' := by
  have hge := none_below F hnew
  have hBG : ∀ b o, G.get? b = some o → b ∉ (envOf name scope L a cd :: outer).filterMap (·.frame) → (hidF G (envOf name scope L a cd :: outer)).get? b = some o := fun b o q n => hideAll_get _ q n
  refine note_new (base := hidF G (envOf name scope L a cd :: outer)) (Around.frames_deeper K.stack) ((hid_frames K F hk).of_keeps fun b o q _ => ⟨o, hk7 b o q, rfl⟩) rfl (fun b o q => hk7 b o (hid_stays b o q)) he (hid_none hnew) hd h1
    fun h1' T oT ts st1 fr1 hT0 he1 hT1 hdT h3 u1 => ?_
  have hTe : T ≠ e2 := fun q => by rw [q, he] at hT0; cases hT0
  have hGT : G.get? T = none := kts_none hk7 hT0
  have hgT : g.get? T = none := none_below F hGT
  have hd1 := Obj.data_mapFields hd (·.setIfInBounds 1 (Value.ref T))
  obtain ⟨g8, T8, F8, K8⟩ := kts_ground K F hBG st1 ((Heap.UpToSlots.of_keeps hk7).trans u1)
  have N0 : News g8 L h1' news := fun q hq => ⟨st1 _ _ (hBG _ _ (N q hq).1 (news_apart K N q hq)), (N q hq).2.1, T8.none_ _ (N q hq).2.2⟩
  have N8 := News.more F8 (News.more F8 N0 hT1 (fun es n q => by rw [hdT] at q; cases q) (T8.none_ _ hgT)) he1 (fun es n q => by rw [hd1] at q; cases q) (T8.none_ _ hge)
  refine name_goes_keeps F8 N8 (fun h9 v F9 N9 => ?_) hk hlo
  have he9 := (N9 _ (.head _)).1
  have hT9 := (N9 _ (.tail _ (.head _))).1
  have h1v : (vs.setIfInBounds 1 (Value.ref T))[1]? = some (.ref T) := by rw [Array.getElem?_setIfInBounds_self_of_lt hz]
  have hz3 : 3 < ts.size := (Array.getElem?_eq_some_iff.mp h3).1
  have hne : (Value.ref T == Value.none) = false := by simp
  have hgT9 : g8.get? T = none := (N9 _ (.tail _ (.head _))).2.2
  have hge9 : g8.get? e2 = none := (N9 _ (.head _)).2.2
  unfold PySem.passOn
  refine wpAny_bind (wpAny_field he9 hd1 h1v ?_)
  rw [hne, if_neg (by decide)]
  refine wpAny_bind (setFlight_some (L := L) he9 hd1 h1v hT9 hdT hz3 ?_)
  refine wpAny_throw ?_
  have heA := (Heap.get?_update_ne h9 _ _ (Obj.mapFields (·.setIfInBounds 3 (rawInt L))) hTe.symm).trans he9
  have hTA := Heap.get?_update_self (Obj.mapFields (·.setIfInBounds 3 (rawInt L))) hT9 (Obj.isFreed_of_fields (Obj.data_mapFields hdT _))
  have hdA := Obj.data_mapFields hdT (·.setIfInBounds 3 (rawInt L))
  refine wpAny_noteFrame_inFlight rfl heA hd1 h1v hTA hdA (by rw [Array.getElem?_setIfInBounds_self_of_lt hz3]) ?_
  show wpAny _ _ (do
    if (← field (.ref e2) 1) == .none then unsupported "frame.own-activation:exception-without-traceback"
    setFlight (.ref e2) (some L)) _ _ _
  refine wpAny_bind (wpAny_field heA hd1 h1v ?_)
  rw [hne, if_neg (by decide)]
  refine setFlight_some (L := L) heA hd1 h1v hTA hdA (by simpa using hz3) ?_
  have heB := (Heap.get?_update_ne (h9.update T (Obj.mapFields (·.setIfInBounds 3 (rawInt L)))) _ _ (Obj.mapFields (·.setIfInBounds 3 (rawInt L))) hTe.symm).trans heA
  have hTB := Heap.get?_update_self (Obj.mapFields (·.setIfInBounds 3 (rawInt L))) hTA (Obj.isFreed_of_fields (Obj.data_mapFields hdA _))
  have hdB := Obj.data_mapFields hdA (·.setIfInBounds 3 (rawInt L))
  have hBk : ∀ b o, b ≠ T → h9.get? b = some o → ((h9.update T (Obj.mapFields (·.setIfInBounds 3 (rawInt L)))).update T (Obj.mapFields (·.setIfInBounds 3 (rawInt L)))).get? b = some o := fun b o q z =>
    (Heap.get?_update_other _ _ (Ne.symm q)).trans ((Heap.get?_update_other _ _ (Ne.symm q)).trans z)
  have hTg : ∀ b o, g8.get? b = some o → b ≠ T := fun b o z q => by rw [q, hgT9] at z; cases z
  have hgo : ∀ b o, g8.get? b = some o → ((h9.update T (Obj.mapFields (·.setIfInBounds 3 (rawInt L)))).update T (Obj.mapFields (·.setIfInBounds 3 (rawInt L)))).get? b = some o := fun b o z => hBk b o (hTg b o z) (F9.keep b o z)
  have hff : ((h9.update T (Obj.mapFields (·.setIfInBounds 3 (rawInt L)))).update T (Obj.mapFields (·.setIfInBounds 3 (rawInt L)))).FunFrames base (envOf name scope L a cd :: outer) :=
    (K8.push (name := name) (a := a) (cd := cd) F9 hk).frames.of_keeps fun b o z hn => ⟨o, hBk b o (fun q => by subst q; rw [hT9] at z; cases z; exact hn _ hdT) z, rfl⟩
  have hin : ∀ b, b ∉ (envOf name scope L a cd :: outer).filterMap (·.frame) → b ≠ e2 → b ≠ T → b ∉ e2 :: T :: (envOf name scope L a cd :: outer).filterMap (·.frame) := fun b x y z q => by
    rcases List.mem_cons.mp q with q | q
    · exact y q
    · rcases List.mem_cons.mp q with q | q
      · exact z q
      · exact x q
  have hfr : ∀ b o, g8.get? b = some o → b ∉ outer.filterMap (·.frame) → b ∉ (envOf name scope L a cd :: outer).filterMap (·.frame) := fun b o z nm q => by
    rcases kts_mem q with y | y
    · rw [y, kts_self F8] at z; cases z
    · exact nm y
  have heg : ∀ b o, g8.get? b = some o → b ≠ e2 := fun b o z q => by rw [q, hge9] at z; cases z
  refine hE _ _ ⟨hideAll ((h9.update T (Obj.mapFields (·.setIfInBounds 3 (rawInt L)))).update T (Obj.mapFields (·.setIfInBounds 3 (rawInt L)))) (e2 :: T :: (envOf name scope L a cd :: outer).filterMap (·.frame)), vs[0], ?_, ?_, ?_, ?_, ?_, ?_, ?_⟩ ?_
  · intro b o z
    have z8 := K8.stays b o z
    exact hideAll_get _ (hgo b o z8) (hin b (hfr b o z8 fun q => by rw [(K8.frames.mem q).1] at z; cases z) (heg b o z8) (hTg b o z8))
  · intro b o z nm
    have z8 := T8.other b o z nm
    exact hideAll_get _ (hgo b o z8) (hin b (hfr b o z8 nm) (heg b o z8) (hTg b o z8))
  · intro q hq
    have hG := (N q hq).1
    have n9 := (N9 q (.tail _ (.tail _ hq))).1
    have qe : q.1 ≠ e2 := fun z => by rw [z, hnew] at hG; cases hG
    have qT : q.1 ≠ T := fun z => by rw [z, hGT] at hG; cases hG
    exact ⟨hideAll_get _ (hBk _ _ qT n9) (hin _ (news_apart K N q hq) qe qT), (N q hq).2.2, kts_none K.stays (N q hq).2.2⟩
  · exact fun b o z => of_hideAll _ z
  · exact hideAll_none _ (.head _)
  · exact funFrames_hide hff fun env he b hb => .tail _ (.tail _ (List.mem_filterMap.mpr ⟨env, he, hb⟩))
  · exact ⟨_, _, T, _, _, heB, ⟨by rw [Obj.cls_mapFields]; exact hcls, by rw [Array.getElem?_setIfInBounds_ne (by decide)]; exact Array.getElem?_eq_getElem (Nat.lt_trans (by decide) hz)⟩, hd1, h1v, hideAll_none _ (.tail _ (.head _)), hTe, hTB, hdB, by rw [Array.getElem?_setIfInBounds_self_of_lt (by simpa using hz3)]⟩
  · intro b o z
    obtain ⟨sl, z8⟩ := T8.up z
    exact ⟨sl, hBk b _ (hTg b _ z8) (F9.keep b _ z8)⟩
end
end Mine

namespace Mine
/-- what an argument of a raise comes back to -/
def ArgRet (g' : Heap) (L : Addr) (m' : Str → Option Value) (l : List (Addr × Obj)) (s' : Shared) (Q' : Value → Shared → Prop) : Prop :=
  ∀ v h'' tk', Fr g' L h'' m' → News g' L h'' l → Q' v { s' with heap := h'', toks := tk' }
section
variable {prog : Program} {w : World} {A₀ : Around} {E : Value → Shared → Prop} {s' : Shared} {base g h : Heap} {outer : List Env} {L a e : Addr} {m : Str → Option Value} {name : Str} {scope : Scope} {cd : Value}
  {n : Str} {arg : Expr} {np np2 np3 cp rp pos : Pos} {rest : List ExceptHandler} {Q : Flow → Shared → Prop} {KF : Frag} {p : Program} {loose : List Str} {mean : ExcName → Option Value} {mg mb : Str → Option Value} {news : List (Addr × Obj)}

/-- «except AssertionError as n: raise ValueError(arg) from n», behind a new AssertionError of the frame's own, at any depth -/
theorem own_from (K : Below A₀ base outer g) (F : Fr g L h m) (N : News g L h news) (hx : Heap.NewExc h s'.heap e "AssertionError") (XB : KF.In base) (TB : Top p loose mean mg mb base)
    (ex : nsIn KF mainGlobals "AssertionError" = some none) (ex2 : nsIn KF mainGlobals "ValueError" = some none)
    (harg : ∀ (h' g' : Heap) (tk : Nat) (l : List (Addr × Obj)) (Q' E' : Value → Shared → Prop), Fr g' L h' (fun y => if y = n then some (.ref e) else m y) → News g' L h' l → Below A₀ base outer g' → KF.In g' → Top p loose mean mg mb g' →
      ArgRet g' L (fun y => if y = n then some (.ref e) else m y) l s' Q' →
      wpAny (model prog w) ((A₀.deeper (envOf name scope L a cd)).mark (some (.ref e))) (eval arg (envOf name scope L a cd)) Q' E' { s' with heap := h', toks := tk })
    (hE : ∀ e2 h' tk, HeldSN base g (envOf name scope L a cd) outer e2 (.type "ValueError") L news h' → g.UpToSlots h' → E (.ref e2) { s' with heap := h', toks := tk })
    (hk : scope.kind = .function := by rfl) (hlo : (envOf name scope L a cd).kindOf n = some .local := by rfl) (hxk : (envOf name scope L a cd).kindOf "AssertionError" = some .globalImplicit := by rfl)
    (hxk2 : (envOf name scope L a cd).kindOf "ValueError" = some .globalImplicit := by rfl) (hdb : (n == ("__debug__" : Str)) = false := by decide) (hst : starEach [arg] (envOf name scope L a cd) = [(false, eval arg (envOf name scope L a cd))] := by rfl) :
    wpAny (model prog w) (A₀.deeper (envOf name scope L a cd)) (noteFrame (.ref e) (envOf name scope L a cd))
      (fun _ s₂ => wpAny (model prog w) (A₀.deeper (envOf name scope L a cd)) (setFlight (.ref e) none) (fun _ s₃ =>
        wpAny (model prog w) (A₀.deeper (envOf name scope L a cd)) (handleBy (.ref e) (envOf name scope L a cd) (.ExceptHandler (some (.Name "AssertionError" np)) (some n) [.Raise (some (.Call (.Name "ValueError" np2) [arg] [] cp)) (some (.Name n np3)) rp] pos :: rest)) Q E s₃) E s₂) E s' := by
  refine own_caught K F N hx XB TB ex (fun h4 g4 tk oe vs T oT ts T4 F4 N4 hcls hd h1 h2 hdT hz K4 X4 P4 => ?_) hk hlo hxk
  refine wpAny_execs_cons ?_
  refine raise_call_from PySem.F.excCall_ValueError PySem.F.excRaise_ValueError rfl (name_B F4 X4 (topRead_of P4) ex2 PyProof.Rows.Boot.«ValueError» (by decide) ⟨rfl, ?_⟩ hk hxk2) hst
  refine harg h4 g4 tk _ _ _ F4 N4 K4 X4 P4 fun v h5 tk5 F5 N5 => ?_
  intro h6 e2 hm
  have he5 := (N5 _ (.head _)).1
  have hne : e2 ≠ e := fun q => by have := hm.new; rw [q, he5] at this; cases this
  refine ⟨hne, ?_⟩
  refine ld (fr_keeps F5 hm.keeps) (by rw [if_pos rfl]) ⟨rfl, rfl, oe, vs, "AssertionError", hm.keeps _ _ he5, hcls, PySem.F.isExc_AssertionError, hd, h2, fun h7 t z1 z2 => ?_⟩ hk hlo hdb
  refine suite_out K4 F5 (fun q hq => N5 q (.tail _ (.tail _ hq))) hm.new (fun b o q => z1 b o (fun z => by have := hm.new; rw [← z, q] at this; cases this) (hm.keeps b o q)) z2 rfl rfl rfl (by show 1 < 6; decide) (fun h8 tk8 R8 U8 => ?_) hk hlo
  obtain ⟨B, a0, r1, r2, r4, r3⟩ := R8
  refine hE e2 h8 tk8 ⟨B, a0, r1, fun b o q nm => r2 b o (T4.other b o q nm) nm, fun q hq => ⟨(r4 q hq).1, (N q hq).2.2, (r4 q hq).2.2⟩, r3⟩ fun b o q hn => ?_
  obtain ⟨sl, q4⟩ := T4.up q
  obtain ⟨sl2, q8⟩ := U8 b _ q4
  exact ⟨sl2, q8⟩
end
end Mine

namespace Mine
open PySem.Flt
local macro_rules | `(tactic| walk_at "eval Call") => `(tactic| (k_here; (with_reducible show wpAny _ _ (eval (Expr.Call (Expr.Name _ _) _ [] _) _) _ _ _); k_dflt (refine Call_ ?_)))
local macro_rules | `(tactic| walk_at "binaryOp Add float float") => `(tactic| (k_here; (with_reducible show wpAny _ _ (binaryOp _ (Value.float _ _) (Value.float _ _)) _ _ _); ((with_reducible refine' Mine.w_add_ff ?hx ?hy ?hb ?_; (case hx => with_reducible first | assumption | exact Mine.hf_epoch | exact Mine.hf_half | exact Mine.hf_1524 | exact Mine.hf_pos | exact Mine.hf_1_5); (case hy => with_reducible first | assumption | exact Mine.hf_epoch | exact Mine.hf_half | exact Mine.hf_1524 | exact Mine.hf_pos | exact Mine.hf_1_5); (case hb => k_dflt omega); k_whole; intro z hz; (try dsimp only)))))
local macro_rules | `(tactic| walk_at "inplaceOp Add float float") => `(tactic| (k_here; (with_reducible show wpAny _ _ (inplaceOp _ (Value.float _ _) (Value.float _ _)) _ _ _); ((with_reducible refine' Mine.w_iadd_ff ?hx ?hy ?hb ?_; (case hx => with_reducible first | assumption | exact Mine.hf_epoch | exact Mine.hf_half | exact Mine.hf_1524 | exact Mine.hf_pos | exact Mine.hf_1_5); (case hy => with_reducible first | assumption | exact Mine.hf_epoch | exact Mine.hf_half | exact Mine.hf_1524 | exact Mine.hf_pos | exact Mine.hf_1_5); (case hb => k_dflt omega); k_whole; intro z hz; (try dsimp only)))))
local macro_rules | `(tactic| walk_at "binaryOp Sub float float") => `(tactic| (k_here; (with_reducible show wpAny _ _ (binaryOp _ (Value.float _ _) (Value.float _ _)) _ _ _); ((with_reducible refine' Mine.w_sub_ff ?hx ?hy ?hb ?_; (case hx => with_reducible first | assumption | exact Mine.hf_epoch | exact Mine.hf_half | exact Mine.hf_1524 | exact Mine.hf_pos | exact Mine.hf_1_5); (case hy => with_reducible first | assumption | exact Mine.hf_epoch | exact Mine.hf_half | exact Mine.hf_1524 | exact Mine.hf_pos | exact Mine.hf_1_5); (case hb => k_dflt omega); k_whole; intro z hz; (try dsimp only)))))
local macro_rules | `(tactic| walk_at "binaryOp Add float int") => `(tactic| (k_here; (with_reducible show wpAny _ _ (binaryOp _ (Value.float _ _) (Value.int _ _)) _ _ _); (first
  | (with_reducible refine' Mine.w_add_fi ?hA ?hx ?hb ?_; (case hA => k_dflt (exact rfl)); (case hx => with_reducible first | assumption | exact Mine.hf_epoch | exact Mine.hf_half | exact Mine.hf_1524 | exact Mine.hf_pos | exact Mine.hf_1_5); (case hb => k_dflt omega); k_whole; intro z hz; (try dsimp only))
  | (with_reducible refine' Mine.w_addn_fi ?hA ?hx ?hb ?_; (case hA => k_dflt (exact rfl)); (case hx => with_reducible assumption); (case hb => k_dflt omega); k_whole; intro z hz; (try dsimp only)))))
local macro_rules | `(tactic| walk_at "binaryOp Sub float int") => `(tactic| (k_here; (with_reducible show wpAny _ _ (binaryOp _ (Value.float _ _) (Value.int _ _)) _ _ _); ((with_reducible refine' Mine.w_sub_fi ?hA ?hx ?hb ?_; (case hA => k_dflt (exact rfl)); (case hx => with_reducible first | assumption | exact Mine.hf_epoch | exact Mine.hf_half | exact Mine.hf_1524 | exact Mine.hf_pos | exact Mine.hf_1_5); (case hb => k_dflt omega); k_whole; intro z hz; (try dsimp only)))))
local macro_rules | `(tactic| walk_at "binaryOp Add int float") => `(tactic| (k_here; (with_reducible show wpAny _ _ (binaryOp _ (Value.int _ _) (Value.float _ _)) _ _ _); ((with_reducible refine' Mine.w_add_if ?hA ?hx ?hb ?_; (case hA => k_dflt (exact rfl)); (case hx => with_reducible first | assumption | exact Mine.hf_epoch | exact Mine.hf_half | exact Mine.hf_1524 | exact Mine.hf_pos | exact Mine.hf_1_5); (case hb => k_dflt omega); k_whole; intro z hz; (try dsimp only)))))
local macro_rules | `(tactic| walk_at "binaryOp Sub int float") => `(tactic| (k_here; (with_reducible show wpAny _ _ (binaryOp _ (Value.int _ _) (Value.float _ _)) _ _ _); (first
  | (with_reducible refine' Mine.w_sub_122 ?hA ?hcc ?hb ?_; (case hcc => with_reducible rfl); (case hA => k_dflt (exact rfl)); (case hb => k_dflt omega); k_whole; intro z hz; (try dsimp only))
  | (with_reducible refine' Mine.w_sub_if ?hA ?hx ?hb ?_; (case hA => k_dflt (exact rfl)); (case hx => with_reducible first | assumption | exact Mine.hf_epoch | exact Mine.hf_half | exact Mine.hf_1524 | exact Mine.hf_pos | exact Mine.hf_1_5); (case hb => k_dflt omega); k_whole; intro z hz; (try dsimp only)))))
local macro_rules | `(tactic| walk_at "binaryOp Mult float int") => `(tactic| (k_here; (with_reducible show wpAny _ _ (binaryOp _ (Value.float _ _) (Value.int _ _)) _ _ _); (first
  | (with_reducible refine' Mine.w_mul_365 ?hA ?hcc ?hb ?_; (case hcc => with_reducible rfl); (case hA => k_dflt (exact rfl)); (case hb => k_dflt omega); k_whole; intro z hz; (try dsimp only))
  | (with_reducible refine' Mine.w_mul_306001 ?hA ?hcc ?hb ?_; (case hcc => with_reducible rfl); (case hA => k_dflt (exact rfl)); (case hb => k_dflt omega); k_whole; intro z hz; (try dsimp only))
  | (with_reducible refine' Mine.w_mul_306 ?hA ?hcc ?hb ?_; (case hcc => with_reducible rfl); (case hA => k_dflt (exact rfl)); (case hb => k_dflt omega); k_whole; intro z hz; (try dsimp only))
  | (with_reducible refine' Mine.w_mul_fi ?hA ?hx ?hb ?_; (case hA => k_dflt (exact rfl)); (case hx => with_reducible first | assumption | exact Mine.hf_epoch | exact Mine.hf_half | exact Mine.hf_1524 | exact Mine.hf_pos | exact Mine.hf_1_5); (case hb => k_dflt omega); k_whole; intro z hz; (try dsimp only)))))
local macro_rules | `(tactic| walk_at "binaryOp Mod float int") => `(tactic| (k_here; (with_reducible show wpAny _ _ (binaryOp _ (Value.float _ _) (Value.int _ _)) _ _ _); ((with_reducible refine' Mine.w_mod_fi ?hA ?hx ?hb ?_; (case hA => k_dflt (exact rfl)); (case hx => with_reducible first | assumption | exact Mine.hf_epoch | exact Mine.hf_half | exact Mine.hf_1524 | exact Mine.hf_pos | exact Mine.hf_1_5); (case hb => k_dflt omega); k_whole; intro z r hr hz; (try dsimp only)))))
local macro_rules | `(tactic| walk_at "binaryOp Div float int") => `(tactic| (k_here; (with_reducible show wpAny _ _ (binaryOp _ (Value.float _ _) (Value.int _ _)) _ _ _); ((with_reducible refine' Mine.w_div_fi ?hA ?hx ?hb ?_; (case hA => k_dflt (exact rfl)); (case hx => with_reducible first | assumption | exact Mine.hf_epoch | exact Mine.hf_half | exact Mine.hf_1524 | exact Mine.hf_pos | exact Mine.hf_1_5); (case hb => k_dflt omega); k_whole; intro z hz; (try dsimp only)))))
local macro_rules | `(tactic| walk_at "binaryOp Div int int") => `(tactic| (k_here; (with_reducible show wpAny _ _ (binaryOp _ (Value.int _ _) (Value.int _ _)) _ _ _); ((with_reducible refine' Mine.w_div_ii ?hA ?hb ?_; (case hA => k_dflt (exact rfl)); (case hb => k_dflt omega); k_whole; intro z hz; (try dsimp only)))))
local macro_rules | `(tactic| walk_at "binaryOp Div float float") => `(tactic| (k_here; (with_reducible show wpAny _ _ (binaryOp _ (Value.float _ _) (Value.float _ _)) _ _ _); ((with_reducible refine' Mine.w_div_365 ?hA ?hcc ?hx ?hb ?_; (case hcc => with_reducible rfl); (case hA => k_dflt (exact rfl)); (case hx => with_reducible assumption); (case hb => k_dflt omega); k_whole; intro z hz; (try dsimp only)))))
local macro_rules | `(tactic| walk_at "binaryOp Div int float") => `(tactic| (k_here; (with_reducible show wpAny _ _ (binaryOp _ (Value.int _ _) (Value.float _ _)) _ _ _); ((with_reducible refine' Mine.w_div_306001 ?hA ?hcc ?hb ?_; (case hcc => with_reducible rfl); (case hA => k_dflt (exact rfl)); (case hb => k_dflt omega); k_whole; intro z hz; (try dsimp only)))))
local macro_rules | `(tactic| walk_at "call builtin:math.floor") => `(tactic| (k_here; (with_reducible show wpAny _ _ (call _ [Value.float _ _]) _ _ _); (first
  | (with_reducible refine' Mine.w_floor_h ?hA ?hx ?_; (case hA => k_dflt (exact rfl)); (case hx => with_reducible assumption); k_whole; intro r hr; (try dsimp only))
  | (with_reducible refine' Mine.w_floor_n ?hA ?hx ?hb ?_; (case hA => k_dflt (exact rfl)); (case hx => with_reducible assumption); (case hb => k_dflt omega); k_whole; intro r hr; (try dsimp only))
  | (with_reducible refine' Mine.w_floor_q ?hA ?hx ?_; (case hA => k_dflt (exact rfl)); (case hx => with_reducible assumption); k_whole; intro r hr; (try dsimp only)))))
local macro_rules | `(tactic| walk_at "call builtin:math.trunc") => `(tactic| (k_here; (with_reducible show wpAny _ _ (call _ [Value.float _ _]) _ _ _); (first
  | (with_reducible refine' Mine.w_trunc_q ?hA ?hx ?_; (case hA => k_dflt (exact rfl)); (case hx => with_reducible assumption); k_whole; intro r hr; (try dsimp only))
  | (with_reducible refine' Mine.w_trunc_n ?hA ?hx ?hb ?_; (case hA => k_dflt (exact rfl)); (case hx => with_reducible assumption); (case hb => k_dflt omega); k_whole; intro r hr; (try dsimp only)))))
local macro_rules | `(tactic| walk_at "call type:int") => `(tactic| (k_here; (with_reducible show wpAny _ _ (call _ [Value.float _ _]) _ _ _); ((with_reducible refine' Mine.w_int_h ?hA ?hx ?hb ?_; (case hA => k_dflt (exact rfl)); (case hx => with_reducible assumption); (case hb => k_dflt omega); k_whole; intro r hr; (try dsimp only)))))
local macro_rules | `(tactic| walk_at "compareOp Eq float float") => `(tactic| (k_here; (with_reducible show wpAny _ _ (compareOp _ (Value.float _ _) (Value.float _ _)) _ _ _); ((with_reducible refine' Mine.w_eq_ff ?hx ?hy ?_; (case hx => with_reducible first | assumption | exact Mine.hf_epoch | exact Mine.hf_half | exact Mine.hf_1524 | exact Mine.hf_pos | exact Mine.hf_1_5); (case hy => with_reducible first | assumption | exact Mine.hf_epoch | exact Mine.hf_half | exact Mine.hf_1524 | exact Mine.hf_pos | exact Mine.hf_1_5); k_whole; skip; (try dsimp only)))))
local macro_rules | `(tactic| walk_at "compareOp NotEq float float") => `(tactic| (k_here; (with_reducible show wpAny _ _ (compareOp _ (Value.float _ _) (Value.float _ _)) _ _ _); ((with_reducible refine' Mine.w_ne_ff ?hx ?hy ?_; (case hx => with_reducible first | assumption | exact Mine.hf_epoch | exact Mine.hf_half | exact Mine.hf_1524 | exact Mine.hf_pos | exact Mine.hf_1_5); (case hy => with_reducible first | assumption | exact Mine.hf_epoch | exact Mine.hf_half | exact Mine.hf_1524 | exact Mine.hf_pos | exact Mine.hf_1_5); k_whole; skip; (try dsimp only)))))
local macro_rules | `(tactic| walk_at "compareOp GtE float float") => `(tactic| (k_here; (with_reducible show wpAny _ _ (compareOp _ (Value.float _ _) (Value.float _ _)) _ _ _); ((with_reducible refine' Mine.w_ge_ff ?hx ?hy ?_; (case hx => with_reducible first | assumption | exact Mine.hf_epoch | exact Mine.hf_half | exact Mine.hf_1524 | exact Mine.hf_pos | exact Mine.hf_1_5); (case hy => with_reducible first | assumption | exact Mine.hf_epoch | exact Mine.hf_half | exact Mine.hf_1524 | exact Mine.hf_pos | exact Mine.hf_1_5); k_whole; skip; (try dsimp only)))))
local macro_rules | `(tactic| walk_at "compareOp Lt float int") => `(tactic| (k_here; (with_reducible show wpAny _ _ (compareOp _ (Value.float _ _) (Value.int _ _)) _ _ _); ((with_reducible refine' Mine.w_lt_fi ?hx ?_; (case hx => with_reducible first | assumption | exact Mine.hf_epoch | exact Mine.hf_half | exact Mine.hf_1524 | exact Mine.hf_pos | exact Mine.hf_1_5); k_whole; skip; (try dsimp only)))))
local macro_rules | `(tactic| walk_at "ite") => `(tactic| (k_here; k_openite; first | (refine ite_pos (by with_reducible assumption) ?_; walk_say "PRUNED") | (refine ite_neg (by with_reducible assumption) ?_; walk_say "PRUNED") | (refine ite_isFalse (by with_reducible assumption) ?_; walk_say "PRUNED") | (refine ite_pos (by with_reducible (first | omega | (simp only [beq_iff_eq]; omega) | (simp only [decide_eq_true_eq]; omega) | (simp only [Bool.not_eq_true', decide_eq_false_iff_not]; omega) | (simp only [bne_iff_ne, ne_eq]; omega) | (simp only [Bool.not_eq_true', beq_eq_false_iff_ne, ne_eq]; omega) | (simp only [Bool.and_eq_true, Bool.or_eq_true, decide_eq_true_eq, beq_iff_eq, bne_iff_ne, Bool.not_eq_true', decide_eq_false_iff_not]; omega))) ?_; walk_say "PRUNED MINE") | (refine ite_neg (by with_reducible (first | omega | (simp only [beq_iff_eq]; omega) | (simp only [decide_eq_true_eq]; omega) | (simp only [Bool.not_eq_true', decide_eq_false_iff_not]; omega) | (simp only [bne_iff_ne, ne_eq]; omega) | (simp only [Bool.not_eq_true', beq_eq_false_iff_ne, ne_eq]; omega) | (simp only [Bool.and_eq_true, Bool.or_eq_true, decide_eq_true_eq, beq_iff_eq, bne_iff_ne, Bool.not_eq_true', decide_eq_false_iff_not]; omega))) ?_; walk_say "PRUNED MINE")))
local macro_rules | `(tactic| walk_at "ite") => `(tactic| (k_here; k_openite; first | (refine Mine.split_leap1 (by with_reducible assumption) (by with_reducible assumption) ?_) | (refine Mine.split_leap0 (by with_reducible assumption) (by with_reducible assumption) ?_) | (refine Mine.split_leap (by with_reducible assumption) ?_ ?_ <;> intro hl) | (refine Mine.split_jl (by with_reducible assumption) ?_ ?_ <;> intro hl)))
local macro_rules | `(tactic| walk_at "binaryOp Add int bool") => `(tactic| (k_here; with_reducible refine' Mine.w_add_ib ?k1 ?_; (case k1 => with_reducible assumption); k_whole; (try dsimp only)))
local macro_rules | `(tactic| walk_at "binaryOp Sub int bool") => `(tactic| (k_here; with_reducible refine' Mine.w_sub_ib ?k1 ?_; (case k1 => with_reducible assumption); k_whole; (try dsimp only)))
local macro_rules | `(tactic| walk_at "execs cons If") => `(tactic| (k_here; (with_reducible rename Mine.JMark _ _ => hj9); (with_reducible rename Fr _ _ _ _ => F0); (with_reducible rename News _ _ _ _ => N0); k_dflt (refine' Mine.join hj9 F0 N0 ?_ ?_; rotate_left; clear hj9; intro t9 h9 tk9 F9 N9; (try k_sweep); (try dsimp only); (try k_fold); rotate_left; clear hj9; (try dsimp only); (try k_fold))))
local macro_rules | `(tactic| walk_at "JEnd") => `(tactic| ((with_reducible rename Fr _ _ _ _ => F0); (with_reducible rename News _ _ _ _ => N0); k_dflt (first | (refine' Mine.jend_store F0 N0 ?_; k_whole) | (refine' Mine.jend_keep ?hm F0 N0 ?_; (case hm => rfl); k_whole)); first | assumption | omega | (unfold Mine.mlen; (repeat' split) <;> omega) | (unfold Mine.adj; (repeat' split) <;> omega) | tb_rel | tb_start))
local macro_rules | `(tactic| walk_at "execs cons If") => `(tactic| (k_here; (with_reducible rename Mine.JMark2 _ _ _ _ => hj9); (with_reducible rename Fr _ _ _ _ => F0); (with_reducible rename News _ _ _ _ => N0); k_dflt (refine' Mine.join2 hj9 F0 N0 ?_ ?_; rotate_left; clear hj9; intro t9 u9 h9 tk9 F9 N9; (try k_sweep); (try dsimp only); (try k_fold); rotate_left; clear hj9; (try dsimp only); (try k_fold))))
local macro_rules | `(tactic| walk_at "JEnd2") => `(tactic| ((with_reducible rename Fr _ _ _ _ => F0); (with_reducible rename News _ _ _ _ => N0); k_dflt (first | (refine' Mine.jend2_store F0 N0 ?_; k_whole) | (refine' Mine.jend2_keep ?hm ?hm2 F0 N0 ?_; (case hm => rfl); (case hm2 => rfl); k_whole)); (refine ⟨?_, ?_⟩) <;> (first | omega | (unfold Mine.yj; (repeat' split) <;> omega) | (unfold Mine.mj; (repeat' split) <;> omega))))
local macro_rules | `(tactic| walk_at "compareOp In int ref") => `(tactic| (k_here; k_dflt (refine' Mine.w_in30 ?k1 ?k2 ?k3 ?_; (case k1 => k_asm); (case k2 => k_asm); (case k3 => k_is))))
local macro_rules | `(tactic| walk_at "call ref") => `(tactic| (k_here; (with_reducible show wpAny _ _ (call (Value.ref 50) _) _ _ _); k_dflt (refine' Mine.Claim.use (Mine.c_isleap _ _ _) ?k1 ?k2 ?k3 ?k4 ?k5 ?k6 ?k7 ?k8 ?_; (case k1 => k_asm); (case k2 => k_asm); (case k3 => k_asm); (case k4 => k_asm); (case k5 => k_asm); (case k6 => first | exact rfl | assumption); (case k7 => ktr_room); (case k8 => ktr_units); k_whole; (try dsimp only [Mine.RetB, Mine.RetI, Mine.RetH, Mine.Ret2, Mine.Ret3]); intro v h9 tk9 e9 F9 N9; (try dsimp only); (try k_fold))))
local macro_rules | `(tactic| walk_at "call ref") => `(tactic| (k_here; (with_reducible show wpAny _ _ (call (Value.ref 57) _) _ _ _); k_dflt (refine' Mine.Claim.use (Mine.c_legal _ _ _ _ _ _ _ ?p1 ?p2) ?k1 ?k2 ?k3 ?k4 ?k5 ?k6 ?k7 ?k8 ?_; (case k1 => k_asm); (case k2 => k_asm); (case k3 => k_asm); (case k4 => k_asm); (case k5 => k_asm); (case k6 => first | exact rfl | assumption); (case k7 => ktr_room); (case k8 => ktr_units); (case p1 => omega); (case p2 => assumption); k_whole; (try dsimp only [Mine.RetB, Mine.RetI, Mine.RetH, Mine.Ret2, Mine.Ret3]); intro v h9 tk9 e9 F9 N9; subst e9; (try dsimp only); (try k_fold))))
local macro_rules | `(tactic| walk_at "call ref") => `(tactic| (k_here; (with_reducible show wpAny _ _ (call (Value.ref 71) _) _ _ _); k_dflt (refine' Mine.Claim.use (Mine.c_to_jd_gregorian _ _ _ _ _ _ _ ?p1 ?p2 ?p3) ?k1 ?k2 ?k3 ?k4 ?k5 ?k6 ?k7 ?k8 ?_; (case k1 => k_asm); (case k2 => k_asm); (case k3 => k_asm); (case k4 => k_asm); (case k5 => k_asm); (case k6 => first | exact rfl | assumption); (case k7 => ktr_room); (case k8 => ktr_units); (case p1 => omega); (case p2 => omega); (case p3 => first | assumption | omega); k_whole; (try dsimp only [Mine.RetB, Mine.RetI, Mine.RetH, Mine.Ret2, Mine.Ret3]); intro z q t9 h9 tk9 z9 e9 F9 N9; subst e9; (try dsimp only); (try k_fold))))
local macro_rules | `(tactic| walk_at "call ref") => `(tactic| (k_here; (with_reducible show wpAny _ _ (call (Value.ref 50) _) _ _ _); k_dflt (refine' Mine.Claim.use (Mine.c_isleap_at _ ?p1 ?p2) ?k1 ?k2 ?k3 ?k4 ?k5 ?k6 ?k7 ?k8 ?_; (case p1 => assumption); (case p2 => first | assumption | rfl); (case k1 => k_asm); (case k2 => k_asm); (case k3 => k_asm); (case k4 => k_asm); (case k5 => k_asm); (case k6 => first | exact rfl | assumption); (case k7 => ktr_room); (case k8 => ktr_units); k_whole; (try dsimp only [Mine.RetB, Mine.RetI, Mine.RetH, Mine.Ret2, Mine.Ret2E, Mine.Ret3, Mine.RetHE, Mine.RetBE]); intro v h9 tk9 e9 F9 N9; (try dsimp only); (try k_fold))))
local macro_rules | `(tactic| walk_at "call ref") => `(tactic| (k_here; (with_reducible show wpAny _ _ (call (Value.ref 71) _) _ _ _); k_dflt (refine' Mine.Claim.use (Mine.c_to_jd_at2 _ ?p1 ?p2 ?p3 ?p4 ?p5 ?p6) ?k1 ?k2 ?k3 ?k4 ?k5 ?k6 ?k7 ?k8 ?_; (case p1 => assumption); (case p2 => first | assumption | rfl); (case p3 => first | assumption | omega); (case p4 => exact rfl); (case p5 => assumption); (case p6 => omega); (case k1 => k_asm); (case k2 => k_asm); (case k3 => k_asm); (case k4 => k_asm); (case k5 => k_asm); (case k6 => first | exact rfl | assumption); (case k7 => ktr_room); (case k8 => ktr_units); k_whole; (try dsimp only [Mine.RetB, Mine.RetI, Mine.RetH, Mine.Ret2, Mine.Ret2E, Mine.Ret3, Mine.RetHE, Mine.RetBE]); intro z q t9 h9 tk9 ee9 z9 e9 F9 N9; subst e9; (try dsimp only); (try k_fold))))
local macro_rules | `(tactic| walk_at "call ref") => `(tactic| (k_here; (with_reducible show wpAny _ _ (call (Value.ref 71) _) _ _ _); k_dflt (refine' Mine.Claim.use (Mine.c_to_jd_at1 _ ?p1 ?p2 ?p3 ?p4 ?p5) ?k1 ?k2 ?k3 ?k4 ?k5 ?k6 ?k7 ?k8 ?_; (case p1 => assumption); (case p2 => first | assumption | rfl | tb_start); (case p3 => exact rfl); (case p4 => exact rfl); (case p5 => assumption); (case k1 => k_asm); (case k2 => k_asm); (case k3 => k_asm); (case k4 => k_asm); (case k5 => k_asm); (case k6 => first | exact rfl | assumption); (case k7 => ktr_room); (case k8 => ktr_units); k_whole; (try dsimp only [Mine.RetB, Mine.RetI, Mine.RetH, Mine.Ret2, Mine.Ret2E, Mine.Ret3, Mine.RetHE, Mine.RetBE]); intro z q t9 h9 tk9 ee9 z9 e9 F9 N9; subst e9; (try dsimp only); (try k_fold))))
local macro_rules | `(tactic| walk_at "call ref") => `(tactic| (k_here; (with_reducible show wpAny _ _ (call (Value.ref 78) _) _ _ _); k_dflt (refine' Mine.Claim.use (Mine.c_from_jd_gregorian _ _ _ _ _ _ _ ?p1 ?p2 ?p3 ?p4 ?p5) ?k1 ?k2 ?k3 ?k4 ?k5 ?k6 ?k7 ?k8 ?_; (case k1 => k_asm); (case k2 => k_asm); (case k3 => k_asm); (case k4 => k_asm); (case k5 => k_asm); (case k6 => first | exact rfl | assumption); (case k7 => ktr_room); (case k8 => ktr_units); (case p1 => assumption); (case p2 => omega); (case p3 => omega); (case p4 => assumption); (case p5 => omega); k_whole; (try dsimp only [Mine.RetB, Mine.RetI, Mine.RetH, Mine.Ret2, Mine.Ret3]); intro D9 a9 b9 c9 t1 t2 t3 k9 h9 tk9 e1 e2 e3 F9 N1 N2; subst e1; subst e2; subst e3; have N9 := Mine.news_cons N1 N2; clear N1 N2; (try dsimp only); (try k_fold))))
local macro_rules | `(tactic| walk_at "call ref") => `(tactic| (k_here; (with_reducible show wpAny _ _ (call (Value.ref 85) _) _ _ _); k_dflt (refine' Mine.Claim.use (Mine.c_to_jd_ordinal _ _ _ _ _ ?p1 ?p2) ?k1 ?k2 ?k3 ?k4 ?k5 ?k6 ?k7 ?k8 ?_; (case k1 => k_asm); (case k2 => k_asm); (case k3 => k_asm); (case k4 => k_asm); (case k5 => k_asm); (case k6 => first | exact rfl | assumption); (case k7 => ktr_room); (case k8 => ktr_units); (case p1 => omega); (case p2 => omega); k_whole; (try dsimp only [Mine.RetB, Mine.RetI, Mine.RetH, Mine.Ret2, Mine.Ret3]); intro z q t9 h9 tk9 z9 e9 F9 N9; subst e9; (try dsimp only); (try k_fold))))
local macro_rules | `(tactic| walk_at "call ref") => `(tactic| (k_here; (with_reducible show wpAny _ _ (call (Value.ref 92) _) _ _ _); k_dflt (refine' Mine.Claim.use (Mine.c_from_jd_ordinal _ _ _ _ _ _ _ ?p1 ?p2 ?p3 ?p4 ?p5) ?k1 ?k2 ?k3 ?k4 ?k5 ?k6 ?k7 ?k8 ?_; (case k1 => k_asm); (case k2 => k_asm); (case k3 => k_asm); (case k4 => k_asm); (case k5 => k_asm); (case k6 => first | exact rfl | assumption); (case k7 => ktr_room); (case k8 => ktr_units); (case p1 => assumption); (case p2 => omega); (case p3 => omega); (case p4 => assumption); (case p5 => omega); k_whole; (try dsimp only [Mine.RetB, Mine.RetI, Mine.RetH, Mine.Ret2, Mine.Ret3]); intro D9 a9 b9 t1 t2 k9 h9 tk9 e1 e2 F9 N1 N2; subst e1; subst e2; have N9 := Mine.news_cons N1 N2; clear N1 N2; (try dsimp only); (try k_fold))))
local macro_rules | `(tactic| walk_at "call ref") => `(tactic| (k_here; (with_reducible show wpAny _ _ (call (Value.ref 99) _) _ _ _); k_dflt (refine' Mine.Claim.use (Mine.c_from_gregorian_ordinal _ _ _ _ _ _ _ ?p1 ?p2) ?k1 ?k2 ?k3 ?k4 ?k5 ?k6 ?k7 ?k8 ?_; (case k1 => k_asm); (case k2 => k_asm); (case k3 => k_asm); (case k4 => k_asm); (case k5 => k_asm); (case k6 => first | exact rfl | assumption); (case k7 => ktr_room); (case k8 => ktr_units); (case p1 => omega); (case p2 => first | assumption | omega); k_whole; (try dsimp only [Mine.RetB, Mine.RetI, Mine.RetH, Mine.Ret2, Mine.Ret3]); intro D9 a9 b9 t1 t2 k9 h9 tk9 e1 e2 F9 N1 N2; subst e1; subst e2; have N9 := Mine.news_cons N1 N2; clear N1 N2; (try dsimp only); (try k_fold))))
local macro_rules | `(tactic| walk_at "call ref") => `(tactic| (k_here; (with_reducible show wpAny _ _ (call (Value.ref 99) _) _ _ _); k_dflt (refine' Mine.Claim.use (Mine.c_fgo_at _ ?p1 ?p2 ?p3 ?p4) ?k1 ?k2 ?k3 ?k4 ?k5 ?k6 ?k7 ?k8 ?_; (case p1 => assumption); (case p2 => first | assumption | omega); (case p3 => exact rfl); (case p4 => omega); (case k1 => k_asm); (case k2 => k_asm); (case k3 => k_asm); (case k4 => k_asm); (case k5 => k_asm); (case k6 => first | exact rfl | assumption); (case k7 => ktr_room); (case k8 => ktr_units); k_whole; (try dsimp only [Mine.RetB, Mine.RetI, Mine.RetH, Mine.Ret2, Mine.Ret2E, Mine.Ret3, Mine.RetHE, Mine.RetBE]); intro D9 a9 b9 t1 t2 k9 h9 tk9 ee9 e1 e2 F9 N1 N2; have N9 := Mine.news_cons N1 N2; clear N1 N2; (try dsimp only); (try k_fold))))
local macro_rules | `(tactic| walk_at "call ref") => `(tactic| (k_here; (with_reducible show wpAny _ _ (call (Value.ref 106) _) _ _ _); k_dflt (refine' Mine.Claim.use (Mine.c_to_gregorian_ordinal _ _ _ _ _ _ _ ?p1 ?p2 ?p3) ?k1 ?k2 ?k3 ?k4 ?k5 ?k6 ?k7 ?k8 ?_; (case k1 => k_asm); (case k2 => k_asm); (case k3 => k_asm); (case k4 => k_asm); (case k5 => k_asm); (case k6 => first | exact rfl | assumption); (case k7 => ktr_room); (case k8 => ktr_units); (case p1 => omega); (case p2 => first | assumption | omega); (case p3 => omega); k_whole; (try dsimp only [Mine.RetB, Mine.RetI, Mine.RetH, Mine.Ret2, Mine.Ret3]); intro D9 a9 b9 c9 t1 t2 t3 k9 h9 tk9 e1 e2 e3 F9 N1 N2; subst e1; subst e2; subst e3; have N9 := Mine.news_cons N1 N2; clear N1 N2; (try dsimp only); (try k_fold))))
local macro_rules | `(tactic| walk_at "call ref") => `(tactic| (k_here; (with_reducible show wpAny _ _ (call (Value.ref 64) _) _ _ _); k_dflt (refine' Mine.Claim.use (Mine.c_to_jd2 _ _ _ _ _ _ _ ?p1 ?p2 ?p3) ?k1 ?k2 ?k3 ?k4 ?k5 ?k6 ?k7 ?k8 ?_; (case k1 => k_asm); (case k2 => k_asm); (case k3 => k_asm); (case k4 => k_asm); (case k5 => k_asm); (case k6 => first | exact rfl | assumption); (case k7 => ktr_room); (case k8 => ktr_units); (case p1 => omega); (case p2 => omega); (case p3 => first | assumption | omega); k_whole; (try dsimp only [Mine.RetB, Mine.RetI, Mine.RetH, Mine.Ret2, Mine.Ret3]); intro z q t9 h9 tk9 z9 e9 F9 N9; subst e9; (try dsimp only); (try k_fold))))
local macro_rules | `(tactic| walk_at "call ref") => `(tactic| (k_here; (with_reducible show wpAny _ _ (call (Value.ref 114) _) _ _ _); k_dflt (refine' Mine.Claim.use (Mine.c_leapj _ _ _) ?k1 ?k2 ?k3 ?k4 ?k5 ?k6 ?k7 ?k8 ?_; (case k1 => k_asm); (case k2 => k_asm); (case k3 => k_asm); (case k4 => k_asm); (case k5 => k_asm); (case k6 => first | exact rfl | assumption); (case k7 => ktr_room); (case k8 => ktr_units); k_whole; (try dsimp only [Mine.RetB, Mine.RetI, Mine.RetH, Mine.Ret2, Mine.Ret3]); intro v h9 tk9 e9 F9 N9; (try dsimp only); (try k_fold))))
local macro_rules | `(tactic| walk_at "call ref") => `(tactic| (k_here; (with_reducible show wpAny _ _ (call (Value.ref 121) _) _ _ _); k_dflt (refine' Mine.Claim.use (Mine.c_month_length _ _ _ _ _) ?k1 ?k2 ?k3 ?k4 ?k5 ?k6 ?k7 ?k8 ?_; (case k1 => k_asm); (case k2 => k_asm); (case k3 => k_asm); (case k4 => k_asm); (case k5 => k_asm); (case k6 => first | exact rfl | assumption); (case k7 => ktr_room); (case k8 => ktr_units); k_whole; (try dsimp only [Mine.RetB, Mine.RetI, Mine.RetH, Mine.Ret2, Mine.Ret3]); intro v t9 h9 tk9 e9 F9 N9; subst e9; (try dsimp only); (try k_fold))))
local macro_rules | `(tactic| walk_at "call ref") => `(tactic| (k_here; (with_reducible show wpAny _ _ (call (Value.ref 128) _) _ _ _); k_dflt (refine' Mine.Claim.use (Mine.c_legalj _ _ _ _ _ _ _ ?p1) ?k1 ?k2 ?k3 ?k4 ?k5 ?k6 ?k7 ?k8 ?_; (case k1 => k_asm); (case k2 => k_asm); (case k3 => k_asm); (case k4 => k_asm); (case k5 => k_asm); (case k6 => first | exact rfl | assumption); (case k7 => ktr_room); (case k8 => ktr_units); (case p1 => first | assumption | omega); k_whole; (try dsimp only [Mine.RetB, Mine.RetI, Mine.RetH, Mine.Ret2, Mine.Ret3]); intro v h9 tk9 e9 F9 N9; subst e9; (try dsimp only); (try k_fold))))
local macro_rules | `(tactic| walk_at "call ref") => `(tactic| (k_here; (with_reducible show wpAny _ _ (call (Value.ref 142) _) _ _ _); k_dflt (refine' Mine.Claim.use (Mine.c_to_jd_julian _ _ _ _ _ _ _ ?p1 ?p2 ?p3) ?k1 ?k2 ?k3 ?k4 ?k5 ?k6 ?k7 ?k8 ?_; (case k1 => k_asm); (case k2 => k_asm); (case k3 => k_asm); (case k4 => k_asm); (case k5 => k_asm); (case k6 => first | exact rfl | assumption); (case k7 => ktr_room); (case k8 => ktr_units); (case p1 => omega); (case p2 => omega); (case p3 => first | assumption | omega); k_whole; (try dsimp only [Mine.RetB, Mine.RetI, Mine.RetH, Mine.Ret2, Mine.Ret3]); intro z q t9 h9 tk9 z9 e9 F9 N9; subst e9; (try dsimp only); (try k_fold))))
local macro_rules | `(tactic| walk_at "call ref") => `(tactic| (k_here; (with_reducible show wpAny _ _ (call (Value.ref 135) _) _ _ _); k_dflt (refine' Mine.Claim.use (Mine.c_from_jd_julian _ _ _ _ _ _ _ ?p1 ?p2 ?p3 ?p4 ?p5) ?k1 ?k2 ?k3 ?k4 ?k5 ?k6 ?k7 ?k8 ?_; (case k1 => k_asm); (case k2 => k_asm); (case k3 => k_asm); (case k4 => k_asm); (case k5 => k_asm); (case k6 => first | exact rfl | assumption); (case k7 => ktr_room); (case k8 => ktr_units); (case p1 => assumption); (case p2 => omega); (case p3 => omega); (case p4 => assumption); (case p5 => omega); k_whole; (try dsimp only [Mine.RetB, Mine.RetI, Mine.RetH, Mine.Ret2, Mine.Ret3]); intro D9 a9 b9 c9 t1 t2 t3 k9 h9 tk9 e1 e2 e3 F9 N1 N2; subst e1; subst e2; subst e3; have N9 := Mine.news_cons N1 N2; clear N1 N2; (try dsimp only); (try k_fold))))
local macro_rules | `(tactic| walk_at "call ref") => `(tactic| (k_here; (with_reducible show wpAny _ _ (call (Value.ref 240) _) _ _ _); k_dflt (refine' Mine.Claim.use (Mine.c_legalp _ _ _ _ _ _ _ _ ?p1 ?p2 ?p3 ?p4) ?k1 ?k2 ?k3 ?k4 ?k5 ?k6 ?k7 ?k8 ?_; (case k1 => k_asm); (case k2 => k_asm); (case k3 => k_asm); (case k4 => k_asm); (case k5 => k_asm); (case k6 => first | exact rfl | assumption); (case k7 => ktr_room); (case k8 => ktr_units); (case p1 => first | assumption | rfl); (case p2 => omega); (case p3 => omega); (case p4 => first | assumption | omega); k_whole; (try dsimp only [Mine.RetB, Mine.RetI, Mine.RetH, Mine.Ret2, Mine.Ret3]); intro v h9 tk9 e9 F9 N9; subst e9; (try dsimp only); (try k_fold))))
local macro_rules | `(tactic| walk_at "call ref") => `(tactic| (k_here; (with_reducible show wpAny _ _ (call (Value.ref 247) _) _ _ _); k_dflt (refine' Mine.Claim.use (Mine.c_to_jd_positivist _ _ _ _ _ _ _ _ ?p1 ?p2 ?p3 ?p4) ?k1 ?k2 ?k3 ?k4 ?k5 ?k6 ?k7 ?k8 ?_; (case k1 => k_asm); (case k2 => k_asm); (case k3 => k_asm); (case k4 => k_asm); (case k5 => k_asm); (case k6 => first | exact rfl | assumption); (case k7 => ktr_room); (case k8 => ktr_units); (case p1 => first | assumption | rfl); (case p2 => omega); (case p3 => omega); (case p4 => first | assumption | omega); k_whole; (try dsimp only [Mine.RetB, Mine.RetI, Mine.RetH, Mine.Ret2, Mine.Ret3]); intro z q t9 h9 tk9 z9 e9 F9 N9; subst e9; (try dsimp only); (try k_fold))))
local macro_rules | `(tactic| walk_at "call ref") => `(tactic| (k_here; (with_reducible show wpAny _ _ (call (Value.ref 254) _) _ _ _); k_dflt (refine' Mine.Claim.use (Mine.c_from_jd_positivist _ _ _ _ _ _ ?p1 ?p2 ?p3 ?p4 ?p5) ?k1 ?k2 ?k3 ?k4 ?k5 ?k6 ?k7 ?k8 ?_; (case k1 => k_asm); (case k2 => k_asm); (case k3 => k_asm); (case k4 => k_asm); (case k5 => k_asm); (case k6 => first | exact rfl | assumption); (case k7 => ktr_room); (case k8 => ktr_units); (case p1 => assumption); (case p2 => omega); (case p3 => first | assumption | omega); (case p4 => omega); (case p5 => first | assumption | omega); k_whole; (try dsimp only [Mine.RetB, Mine.RetI, Mine.RetH, Mine.Ret2, Mine.Ret3]); intro D9 a9 b9 c9 t1 t2 t3 k9 h9 tk9 e1 e2 e3 F9 N1 N2; subst e1; subst e2; subst e3; have N9 := Mine.news_cons N1 N2; clear N1 N2; (try dsimp only); (try k_fold))))
local macro_rules | `(tactic| walk_at "call ref") => `(tactic| (k_here; (with_reducible show wpAny _ _ (call (Value.ref 275) _) _ _ _); k_dflt (refine' Mine.Claim.use (Mine.c_law_first _ _ _) ?k1 ?k2 ?k3 ?k4 ?k5 ?k6 ?k7 ?k8 ?_; (case k1 => k_asm); (case k2 => k_asm); (case k3 => k_asm); (case k4 => k_asm); (case k5 => k_asm); (case k6 => first | exact rfl | assumption); (case k7 => ktr_room); (case k8 => ktr_units); k_whole; (try dsimp only [Mine.RetB, Mine.RetI, Mine.RetH, Mine.Ret2, Mine.Ret3]); intro v t9 h9 tk9 e9 F9 N9; (try dsimp only); (try k_fold))))
local macro_rules | `(tactic| walk_at "call ref") => `(tactic| (k_here; (with_reducible show wpAny _ _ (call (Value.ref 282) _) _ _ _); k_dflt (refine' Mine.Claim.use (Mine.c_law_walk _ _ _ _ _ _ _ _ _ _ _ ?p1 ?p2 ?p3 ?p4) ?k1 ?k2 ?k3 ?k4 ?k5 ?k6 ?k7 ?k8 ?_; (case k1 => k_asm); (case k2 => k_asm); (case k3 => k_asm); (case k4 => k_asm); (case k5 => k_asm); (case k6 => first | exact rfl | assumption); (case k7 => ktr_room); (case k8 => ktr_units); (case p1 => l_ints); (case p2 => omega); (case p3 => omega); (case p4 => omega); k_whole; (try dsimp only [Mine.RetB, Mine.RetI, Mine.RetH, Mine.Ret2, Mine.Ret3, Mine.RetW]); refine ⟨List.Mem.head _, ?_⟩; intro D9 a9 b9 c9 t1 t2 t3 k9 h9 tk9 e1 q1 q2 q3 F9 N1 N2; subst e1; have N9 := Mine.news_cons N1 N2; clear N1 N2; (try dsimp only); (try k_fold))))
local macro_rules | `(tactic| walk_at "call ref") => `(tactic| (k_here; (with_reducible show wpAny _ _ (call (Value.ref 289) _) _ _ _); k_dflt (refine' Mine.Claim.use (Mine.c_law_gregorian _ _ _ ?p1) ?k1 ?k2 ?k3 ?k4 ?k5 ?k6 ?k7 ?k8 ?_; (case k1 => k_asm); (case k2 => k_asm); (case k3 => k_asm); (case k4 => k_asm); (case k5 => k_asm); (case k6 => first | exact rfl | assumption); (case k7 => ktr_room); (case k8 => ktr_units); (case p1 => omega); k_whole; (try dsimp only [Mine.RetB, Mine.RetI, Mine.RetH, Mine.Ret2, Mine.Ret3, Mine.RetW, Mine.RetG, Mine.RetJ]); intro D9 a9 b9 c9 t1 t2 t3 k9 h9 tk9 q1 q2 q3 F9 N1 N2; have N9 := Mine.news_cons N1 N2; clear N1 N2; (try dsimp only); (try k_fold))))
local macro_rules | `(tactic| walk_at "call ref") => `(tactic| (k_here; (with_reducible show wpAny _ _ (call (Value.ref 296) _) _ _ _); k_dflt (refine' Mine.Claim.use (Mine.c_law_julian _ _ _ ?p1) ?k1 ?k2 ?k3 ?k4 ?k5 ?k6 ?k7 ?k8 ?_; (case k1 => k_asm); (case k2 => k_asm); (case k3 => k_asm); (case k4 => k_asm); (case k5 => k_asm); (case k6 => first | exact rfl | assumption); (case k7 => ktr_room); (case k8 => ktr_units); (case p1 => omega); k_whole; (try dsimp only [Mine.RetB, Mine.RetI, Mine.RetH, Mine.Ret2, Mine.Ret3, Mine.RetW, Mine.RetG, Mine.RetJ]); intro D9 a9 b9 c9 t1 t2 t3 k9 h9 tk9 q1 q2 q3 F9 N1 N2; have N9 := Mine.news_cons N1 N2; clear N1 N2; (try dsimp only); (try k_fold))))

local macro_rules | `(tactic| walk_at "noteFrame ref") => `(tactic| (k_here; (with_reducible rename Heap.NewExc _ _ _ _ => hx9); k_dflt (refine' Mine.own_from (n := Str.ofString "err") ?K ?F ?N hx9 ?XB ?TB ?ex ?ex2 ?_ ?_ ?hk ?hlo ?hxk ?hxk2 ?hdb ?hst; (case K => assumption); (case F => assumption); (case N => assumption); (case XB => assumption); (case TB => assumption); (case ex => k_is); (case ex2 => k_is); (case hk => exact rfl); (case hlo => exact rfl); (case hxk => exact rfl); (case hxk2 => exact rfl); (case hdb => decide); (case hst => exact rfl); k_whole); rotate_left; intro e9 h9 tk9 R9 U9; (try dsimp only); rotate_left; intro h9 g9 tk9 l9 Q9 E9 F9 N9 B9 X9 T9 hq9; (try dsimp only); (try k_lift B9); (try k_sweep); (try k_fold)))
local macro_rules | `(tactic| walk_at "leaving ref") => `(tactic| (k_here; (with_reducible rename Mine.HeldSN _ _ _ _ _ _ _ _ _ => R9); k_dflt (refine' Mine.leave_heldSN R9 ?U ?_; (case U => assumption)); clear R9; intro h9 R9 U9; (try dsimp only)))
local macro_rules | `(tactic| walk_at "leaving ref") => `(tactic| (k_here; (with_reducible rename RaisedSN _ _ _ _ _ _ _ => R9); k_dflt (refine' leave_onSN ?K ?F R9 ?U ?_; (case K => assumption); (case F => assumption); (case U => assumption)); clear R9; intro h9 R9 _ U9; (try dsimp only)))

theorem x_from_jd (w : World) (x : UInt64) (p : Int) (t : Tok) (hx : Hf x p) (hp : p < 4748959) : ClaimX w 254 1 [.float x t] "ValueError" := by
  w_top off
  k_with_none
  have kfill : PySem.Challenge.rw_ak5020_01 = PySem.Challenge.rw_ak5020_01 ∧ hd.heap_39 = hd.heap_39 := by
    k_fill
    exact ⟨rfl, rfl⟩
  clear kfill
  all_goals dsimp only [ClaimX]
  all_goals intros
  all_goals rename_i hret
  all_goals refine wpAny_call ?_
  all_goals k_dflt cell_enter
  all_goals k_steps
  all_goals first | exact hret _ _ _ _ (by assumption) (by assumption) (by assumption) | ((with_reducible rename Mine.ArgRet _ _ _ _ _ _ => hq9); exact hq9 _ _ _ (by k_asm) (by k_asm))

theorem nat_text_len {n : Nat} (h : (n : Int) < 10000000000) : (toString n).length ≤ 10 := by
  have h1 := toString_length_le (v := (n : Int)) (k := 10) (Int.natCast_nonneg n) (by decide) h
  rw [PySem.ofString_length] at h1
  exact h1
theorem int_text_len {v : Int} (h : -1000000000 < v ∧ v < 1000000000) : (Str.ofString (toString v)).length ≤ 11 := by
  rw [PySem.ofString_length]
  rcases v with n | n
  · have h1 := nat_text_len (n := n) (by have h2 : ((n : Nat) : Int) < 1000000000 := h.2; omega)
    exact Nat.le_trans h1 (by decide)
  · have h1 := nat_text_len (n := n + 1) (by have h2 := h.1; rw [Int.negSucc_eq] at h2; omega)
    show ("-" ++ toString (n + 1)).length ≤ 11
    rw [String.length_append]
    have h3 : "-".length = 1 := rfl
    omega
local macro_rules | `(tactic| kfm_len) => `(tactic| exact Mine.int_text_len (by omega))

theorem x_legal (w : World) (y m d : Int) (t1 t2 t3 : Tok) (hI : Illegal y m d) (hy : -20000000 ≤ y ∧ y ≤ 20000000) (hm : -100 ≤ m ∧ m ≤ 100) (hdd : -100 ≤ d ∧ d ≤ 100) : ClaimX w 240 2 [.int y t1, .int m t2, .int d t3] "ValueError" := by
  have hI2 := Mine.Illegal.cases hI
  have hP := Mine.Illegal.plen hI
  have hlg : lp (y + 1789 - 1) = lp (y + 1788) := by congr 1; omega
  w_top off
  k_with_none
  have kfill : PySem.Challenge.rw_ak5020_01 = PySem.Challenge.rw_ak5020_01 ∧ hd.heap_39 = hd.heap_39 := by
    k_fill
    exact ⟨rfl, rfl⟩
  clear kfill
  all_goals dsimp only [ClaimX]
  all_goals intros
  all_goals rename_i hret
  all_goals refine wpAny_call ?_
  all_goals k_dflt cell_enter
  all_goals k_steps
  all_goals first | exact hret _ _ _ _ (by assumption) (by assumption) (by assumption) | ((with_reducible rename Mine.ArgRet _ _ _ _ _ _ => hq9); exact hq9 _ _ _ (by k_asm) (by k_asm))
local macro_rules | `(tactic| walk_at "call ref") => `(tactic| (k_here; (with_reducible show wpAny _ _ (call (Value.ref 240) _) _ _ _); k_dflt (refine' Mine.ClaimX.use (Mine.x_legal _ _ _ _ _ _ _ ?p1 ?p2 ?p3 ?p4) ?k1 ?k2 ?k3 ?kB ?k4 ?k5 ?kT ?k6 ?k7 ?k8 ?_; (case p1 => assumption); (case p2 => omega); (case p3 => omega); (case p4 => omega); (case k1 => k_asm); (case k2 => k_asm); (case k3 => k_asm); (case kB => assumption); (case k4 => k_asm); (case k5 => k_asm); (case kT => assumption); (case k6 => first | exact rfl | assumption); (case k7 => ktr_room); (case k8 => ktr_units); k_whole; intro e9 g9 h9 tk9 F9 R9 U9; (try dsimp only))))

theorem x_to_jd (w : World) (y m d : Int) (t1 t2 t3 : Tok) (hI : Illegal y m d) (hy : -20000000 ≤ y ∧ y ≤ 20000000) (hm : -100 ≤ m ∧ m ≤ 100) (hdd : -100 ≤ d ∧ d ≤ 100) : ClaimX w 247 3 [.int y t1, .int m t2, .int d t3] "ValueError" := by
  w_top off
  k_with_none
  have kfill : PySem.Challenge.rw_ak5020_01 = PySem.Challenge.rw_ak5020_01 ∧ hd.heap_39 = hd.heap_39 := by
    k_fill
    exact ⟨rfl, rfl⟩
  clear kfill
  all_goals dsimp only [ClaimX]
  all_goals intros
  all_goals rename_i hret
  all_goals refine wpAny_call ?_
  all_goals k_dflt cell_enter
  all_goals k_steps
  all_goals first | exact hret _ _ _ _ (by assumption) (by assumption) (by assumption) | ((with_reducible rename Mine.ArgRet _ _ _ _ _ _ => hq9); exact hq9 _ _ _ (by k_asm) (by k_asm))

end Mine

namespace Mine
open PySem.Flt
local macro_rules | `(tactic| walk_at "eval Call") => `(tactic| (k_here; (with_reducible show wpAny _ _ (eval (Expr.Call (Expr.Name _ _) _ [] _) _) _ _ _); k_dflt (refine Call_ ?_)))
local macro_rules | `(tactic| walk_at "binaryOp Add float float") => `(tactic| (k_here; (with_reducible show wpAny _ _ (binaryOp _ (Value.float _ _) (Value.float _ _)) _ _ _); ((with_reducible refine' Mine.w_add_ff ?hx ?hy ?hb ?_; (case hx => with_reducible first | assumption | exact Mine.hf_epoch | exact Mine.hf_half | exact Mine.hf_1524 | exact Mine.hf_pos | exact Mine.hf_1_5); (case hy => with_reducible first | assumption | exact Mine.hf_epoch | exact Mine.hf_half | exact Mine.hf_1524 | exact Mine.hf_pos | exact Mine.hf_1_5); (case hb => k_dflt omega); k_whole; intro z hz; (try dsimp only)))))
local macro_rules | `(tactic| walk_at "inplaceOp Add float float") => `(tactic| (k_here; (with_reducible show wpAny _ _ (inplaceOp _ (Value.float _ _) (Value.float _ _)) _ _ _); ((with_reducible refine' Mine.w_iadd_ff ?hx ?hy ?hb ?_; (case hx => with_reducible first | assumption | exact Mine.hf_epoch | exact Mine.hf_half | exact Mine.hf_1524 | exact Mine.hf_pos | exact Mine.hf_1_5); (case hy => with_reducible first | assumption | exact Mine.hf_epoch | exact Mine.hf_half | exact Mine.hf_1524 | exact Mine.hf_pos | exact Mine.hf_1_5); (case hb => k_dflt omega); k_whole; intro z hz; (try dsimp only)))))
local macro_rules | `(tactic| walk_at "binaryOp Sub float float") => `(tactic| (k_here; (with_reducible show wpAny _ _ (binaryOp _ (Value.float _ _) (Value.float _ _)) _ _ _); ((with_reducible refine' Mine.w_sub_ff ?hx ?hy ?hb ?_; (case hx => with_reducible first | assumption | exact Mine.hf_epoch | exact Mine.hf_half | exact Mine.hf_1524 | exact Mine.hf_pos | exact Mine.hf_1_5); (case hy => with_reducible first | assumption | exact Mine.hf_epoch | exact Mine.hf_half | exact Mine.hf_1524 | exact Mine.hf_pos | exact Mine.hf_1_5); (case hb => k_dflt omega); k_whole; intro z hz; (try dsimp only)))))
local macro_rules | `(tactic| walk_at "binaryOp Add float int") => `(tactic| (k_here; (with_reducible show wpAny _ _ (binaryOp _ (Value.float _ _) (Value.int _ _)) _ _ _); (first
  | (with_reducible refine' Mine.w_add_fi ?hA ?hx ?hb ?_; (case hA => k_dflt (exact rfl)); (case hx => with_reducible first | assumption | exact Mine.hf_epoch | exact Mine.hf_half | exact Mine.hf_1524 | exact Mine.hf_pos | exact Mine.hf_1_5); (case hb => k_dflt omega); k_whole; intro z hz; (try dsimp only))
  | (with_reducible refine' Mine.w_addn_fi ?hA ?hx ?hb ?_; (case hA => k_dflt (exact rfl)); (case hx => with_reducible assumption); (case hb => k_dflt omega); k_whole; intro z hz; (try dsimp only)))))
local macro_rules | `(tactic| walk_at "binaryOp Sub float int") => `(tactic| (k_here; (with_reducible show wpAny _ _ (binaryOp _ (Value.float _ _) (Value.int _ _)) _ _ _); ((with_reducible refine' Mine.w_sub_fi ?hA ?hx ?hb ?_; (case hA => k_dflt (exact rfl)); (case hx => with_reducible first | assumption | exact Mine.hf_epoch | exact Mine.hf_half | exact Mine.hf_1524 | exact Mine.hf_pos | exact Mine.hf_1_5); (case hb => k_dflt omega); k_whole; intro z hz; (try dsimp only)))))
local macro_rules | `(tactic| walk_at "binaryOp Add int float") => `(tactic| (k_here; (with_reducible show wpAny _ _ (binaryOp _ (Value.int _ _) (Value.float _ _)) _ _ _); ((with_reducible refine' Mine.w_add_if ?hA ?hx ?hb ?_; (case hA => k_dflt (exact rfl)); (case hx => with_reducible first | assumption | exact Mine.hf_epoch | exact Mine.hf_half | exact Mine.hf_1524 | exact Mine.hf_pos | exact Mine.hf_1_5); (case hb => k_dflt omega); k_whole; intro z hz; (try dsimp only)))))
local macro_rules | `(tactic| walk_at "binaryOp Sub int float") => `(tactic| (k_here; (with_reducible show wpAny _ _ (binaryOp _ (Value.int _ _) (Value.float _ _)) _ _ _); (first
  | (with_reducible refine' Mine.w_sub_122 ?hA ?hcc ?hb ?_; (case hcc => with_reducible rfl); (case hA => k_dflt (exact rfl)); (case hb => k_dflt omega); k_whole; intro z hz; (try dsimp only))
  | (with_reducible refine' Mine.w_sub_if ?hA ?hx ?hb ?_; (case hA => k_dflt (exact rfl)); (case hx => with_reducible first | assumption | exact Mine.hf_epoch | exact Mine.hf_half | exact Mine.hf_1524 | exact Mine.hf_pos | exact Mine.hf_1_5); (case hb => k_dflt omega); k_whole; intro z hz; (try dsimp only)))))
local macro_rules | `(tactic| walk_at "binaryOp Mult float int") => `(tactic| (k_here; (with_reducible show wpAny _ _ (binaryOp _ (Value.float _ _) (Value.int _ _)) _ _ _); (first
  | (with_reducible refine' Mine.w_mul_365 ?hA ?hcc ?hb ?_; (case hcc => with_reducible rfl); (case hA => k_dflt (exact rfl)); (case hb => k_dflt omega); k_whole; intro z hz; (try dsimp only))
  | (with_reducible refine' Mine.w_mul_306001 ?hA ?hcc ?hb ?_; (case hcc => with_reducible rfl); (case hA => k_dflt (exact rfl)); (case hb => k_dflt omega); k_whole; intro z hz; (try dsimp only))
  | (with_reducible refine' Mine.w_mul_306 ?hA ?hcc ?hb ?_; (case hcc => with_reducible rfl); (case hA => k_dflt (exact rfl)); (case hb => k_dflt omega); k_whole; intro z hz; (try dsimp only))
  | (with_reducible refine' Mine.w_mul_fi ?hA ?hx ?hb ?_; (case hA => k_dflt (exact rfl)); (case hx => with_reducible first | assumption | exact Mine.hf_epoch | exact Mine.hf_half | exact Mine.hf_1524 | exact Mine.hf_pos | exact Mine.hf_1_5); (case hb => k_dflt omega); k_whole; intro z hz; (try dsimp only)))))
local macro_rules | `(tactic| walk_at "binaryOp Mod float int") => `(tactic| (k_here; (with_reducible show wpAny _ _ (binaryOp _ (Value.float _ _) (Value.int _ _)) _ _ _); ((with_reducible refine' Mine.w_mod_fi ?hA ?hx ?hb ?_; (case hA => k_dflt (exact rfl)); (case hx => with_reducible first | assumption | exact Mine.hf_epoch | exact Mine.hf_half | exact Mine.hf_1524 | exact Mine.hf_pos | exact Mine.hf_1_5); (case hb => k_dflt omega); k_whole; intro z r hr hz; (try dsimp only)))))
local macro_rules | `(tactic| walk_at "binaryOp Div float int") => `(tactic| (k_here; (with_reducible show wpAny _ _ (binaryOp _ (Value.float _ _) (Value.int _ _)) _ _ _); ((with_reducible refine' Mine.w_div_fi ?hA ?hx ?hb ?_; (case hA => k_dflt (exact rfl)); (case hx => with_reducible first | assumption | exact Mine.hf_epoch | exact Mine.hf_half | exact Mine.hf_1524 | exact Mine.hf_pos | exact Mine.hf_1_5); (case hb => k_dflt omega); k_whole; intro z hz; (try dsimp only)))))
local macro_rules | `(tactic| walk_at "binaryOp Div int int") => `(tactic| (k_here; (with_reducible show wpAny _ _ (binaryOp _ (Value.int _ _) (Value.int _ _)) _ _ _); ((with_reducible refine' Mine.w_div_ii ?hA ?hb ?_; (case hA => k_dflt (exact rfl)); (case hb => k_dflt omega); k_whole; intro z hz; (try dsimp only)))))
local macro_rules | `(tactic| walk_at "binaryOp Div float float") => `(tactic| (k_here; (with_reducible show wpAny _ _ (binaryOp _ (Value.float _ _) (Value.float _ _)) _ _ _); ((with_reducible refine' Mine.w_div_365 ?hA ?hcc ?hx ?hb ?_; (case hcc => with_reducible rfl); (case hA => k_dflt (exact rfl)); (case hx => with_reducible assumption); (case hb => k_dflt omega); k_whole; intro z hz; (try dsimp only)))))
local macro_rules | `(tactic| walk_at "binaryOp Div int float") => `(tactic| (k_here; (with_reducible show wpAny _ _ (binaryOp _ (Value.int _ _) (Value.float _ _)) _ _ _); ((with_reducible refine' Mine.w_div_306001 ?hA ?hcc ?hb ?_; (case hcc => with_reducible rfl); (case hA => k_dflt (exact rfl)); (case hb => k_dflt omega); k_whole; intro z hz; (try dsimp only)))))
local macro_rules | `(tactic| walk_at "call builtin:math.floor") => `(tactic| (k_here; (with_reducible show wpAny _ _ (call _ [Value.float _ _]) _ _ _); (first
  | (with_reducible refine' Mine.w_floor_h ?hA ?hx ?_; (case hA => k_dflt (exact rfl)); (case hx => with_reducible assumption); k_whole; intro r hr; (try dsimp only))
  | (with_reducible refine' Mine.w_floor_n ?hA ?hx ?hb ?_; (case hA => k_dflt (exact rfl)); (case hx => with_reducible assumption); (case hb => k_dflt omega); k_whole; intro r hr; (try dsimp only))
  | (with_reducible refine' Mine.w_floor_q ?hA ?hx ?_; (case hA => k_dflt (exact rfl)); (case hx => with_reducible assumption); k_whole; intro r hr; (try dsimp only)))))
local macro_rules | `(tactic| walk_at "call builtin:math.trunc") => `(tactic| (k_here; (with_reducible show wpAny _ _ (call _ [Value.float _ _]) _ _ _); (first
  | (with_reducible refine' Mine.w_trunc_q ?hA ?hx ?_; (case hA => k_dflt (exact rfl)); (case hx => with_reducible assumption); k_whole; intro r hr; (try dsimp only))
  | (with_reducible refine' Mine.w_trunc_n ?hA ?hx ?hb ?_; (case hA => k_dflt (exact rfl)); (case hx => with_reducible assumption); (case hb => k_dflt omega); k_whole; intro r hr; (try dsimp only)))))
local macro_rules | `(tactic| walk_at "call type:int") => `(tactic| (k_here; (with_reducible show wpAny _ _ (call _ [Value.float _ _]) _ _ _); ((with_reducible refine' Mine.w_int_h ?hA ?hx ?hb ?_; (case hA => k_dflt (exact rfl)); (case hx => with_reducible assumption); (case hb => k_dflt omega); k_whole; intro r hr; (try dsimp only)))))
local macro_rules | `(tactic| walk_at "compareOp Eq float float") => `(tactic| (k_here; (with_reducible show wpAny _ _ (compareOp _ (Value.float _ _) (Value.float _ _)) _ _ _); ((with_reducible refine' Mine.w_eq_ff ?hx ?hy ?_; (case hx => with_reducible first | assumption | exact Mine.hf_epoch | exact Mine.hf_half | exact Mine.hf_1524 | exact Mine.hf_pos | exact Mine.hf_1_5); (case hy => with_reducible first | assumption | exact Mine.hf_epoch | exact Mine.hf_half | exact Mine.hf_1524 | exact Mine.hf_pos | exact Mine.hf_1_5); k_whole; skip; (try dsimp only)))))
local macro_rules | `(tactic| walk_at "compareOp NotEq float float") => `(tactic| (k_here; (with_reducible show wpAny _ _ (compareOp _ (Value.float _ _) (Value.float _ _)) _ _ _); ((with_reducible refine' Mine.w_ne_ff ?hx ?hy ?_; (case hx => with_reducible first | assumption | exact Mine.hf_epoch | exact Mine.hf_half | exact Mine.hf_1524 | exact Mine.hf_pos | exact Mine.hf_1_5); (case hy => with_reducible first | assumption | exact Mine.hf_epoch | exact Mine.hf_half | exact Mine.hf_1524 | exact Mine.hf_pos | exact Mine.hf_1_5); k_whole; skip; (try dsimp only)))))
local macro_rules | `(tactic| walk_at "compareOp GtE float float") => `(tactic| (k_here; (with_reducible show wpAny _ _ (compareOp _ (Value.float _ _) (Value.float _ _)) _ _ _); ((with_reducible refine' Mine.w_ge_ff ?hx ?hy ?_; (case hx => with_reducible first | assumption | exact Mine.hf_epoch | exact Mine.hf_half | exact Mine.hf_1524 | exact Mine.hf_pos | exact Mine.hf_1_5); (case hy => with_reducible first | assumption | exact Mine.hf_epoch | exact Mine.hf_half | exact Mine.hf_1524 | exact Mine.hf_pos | exact Mine.hf_1_5); k_whole; skip; (try dsimp only)))))
local macro_rules | `(tactic| walk_at "compareOp Lt float int") => `(tactic| (k_here; (with_reducible show wpAny _ _ (compareOp _ (Value.float _ _) (Value.int _ _)) _ _ _); ((with_reducible refine' Mine.w_lt_fi ?hx ?_; (case hx => with_reducible first | assumption | exact Mine.hf_epoch | exact Mine.hf_half | exact Mine.hf_1524 | exact Mine.hf_pos | exact Mine.hf_1_5); k_whole; skip; (try dsimp only)))))
local macro_rules | `(tactic| walk_at "ite") => `(tactic| (k_here; k_openite; first | (refine ite_pos (by with_reducible assumption) ?_; walk_say "PRUNED") | (refine ite_neg (by with_reducible assumption) ?_; walk_say "PRUNED") | (refine ite_isFalse (by with_reducible assumption) ?_; walk_say "PRUNED") | (refine ite_pos (by with_reducible (first | omega | (simp only [beq_iff_eq]; omega) | (simp only [decide_eq_true_eq]; omega) | (simp only [Bool.not_eq_true', decide_eq_false_iff_not]; omega) | (simp only [bne_iff_ne, ne_eq]; omega) | (simp only [Bool.not_eq_true', beq_eq_false_iff_ne, ne_eq]; omega) | (simp only [Bool.and_eq_true, Bool.or_eq_true, decide_eq_true_eq, beq_iff_eq, bne_iff_ne, Bool.not_eq_true', decide_eq_false_iff_not]; omega))) ?_; walk_say "PRUNED MINE") | (refine ite_neg (by with_reducible (first | omega | (simp only [beq_iff_eq]; omega) | (simp only [decide_eq_true_eq]; omega) | (simp only [Bool.not_eq_true', decide_eq_false_iff_not]; omega) | (simp only [bne_iff_ne, ne_eq]; omega) | (simp only [Bool.not_eq_true', beq_eq_false_iff_ne, ne_eq]; omega) | (simp only [Bool.and_eq_true, Bool.or_eq_true, decide_eq_true_eq, beq_iff_eq, bne_iff_ne, Bool.not_eq_true', decide_eq_false_iff_not]; omega))) ?_; walk_say "PRUNED MINE")))
local macro_rules | `(tactic| walk_at "ite") => `(tactic| (k_here; k_openite; first | (refine Mine.split_leap1 (by with_reducible assumption) (by with_reducible assumption) ?_) | (refine Mine.split_leap0 (by with_reducible assumption) (by with_reducible assumption) ?_) | (refine Mine.split_leap (by with_reducible assumption) ?_ ?_ <;> intro hl) | (refine Mine.split_jl (by with_reducible assumption) ?_ ?_ <;> intro hl)))
local macro_rules | `(tactic| walk_at "binaryOp Add int bool") => `(tactic| (k_here; with_reducible refine' Mine.w_add_ib ?k1 ?_; (case k1 => with_reducible assumption); k_whole; (try dsimp only)))
local macro_rules | `(tactic| walk_at "binaryOp Sub int bool") => `(tactic| (k_here; with_reducible refine' Mine.w_sub_ib ?k1 ?_; (case k1 => with_reducible assumption); k_whole; (try dsimp only)))
local macro_rules | `(tactic| walk_at "execs cons If") => `(tactic| (k_here; (with_reducible rename Mine.JMark _ _ => hj9); (with_reducible rename Fr _ _ _ _ => F0); (with_reducible rename News _ _ _ _ => N0); k_dflt (refine' Mine.join hj9 F0 N0 ?_ ?_; rotate_left; clear hj9; intro t9 h9 tk9 F9 N9; (try k_sweep); (try dsimp only); (try k_fold); rotate_left; clear hj9; (try dsimp only); (try k_fold))))
local macro_rules | `(tactic| walk_at "JEnd") => `(tactic| ((with_reducible rename Fr _ _ _ _ => F0); (with_reducible rename News _ _ _ _ => N0); k_dflt (first | (refine' Mine.jend_store F0 N0 ?_; k_whole) | (refine' Mine.jend_keep ?hm F0 N0 ?_; (case hm => rfl); k_whole)); first | assumption | omega | (unfold Mine.mlen; (repeat' split) <;> omega) | (unfold Mine.adj; (repeat' split) <;> omega) | tb_rel | tb_start))
local macro_rules | `(tactic| walk_at "execs cons If") => `(tactic| (k_here; (with_reducible rename Mine.JMark2 _ _ _ _ => hj9); (with_reducible rename Fr _ _ _ _ => F0); (with_reducible rename News _ _ _ _ => N0); k_dflt (refine' Mine.join2 hj9 F0 N0 ?_ ?_; rotate_left; clear hj9; intro t9 u9 h9 tk9 F9 N9; (try k_sweep); (try dsimp only); (try k_fold); rotate_left; clear hj9; (try dsimp only); (try k_fold))))
local macro_rules | `(tactic| walk_at "JEnd2") => `(tactic| ((with_reducible rename Fr _ _ _ _ => F0); (with_reducible rename News _ _ _ _ => N0); k_dflt (first | (refine' Mine.jend2_store F0 N0 ?_; k_whole) | (refine' Mine.jend2_keep ?hm ?hm2 F0 N0 ?_; (case hm => rfl); (case hm2 => rfl); k_whole)); (refine ⟨?_, ?_⟩) <;> (first | omega | (unfold Mine.yj; (repeat' split) <;> omega) | (unfold Mine.mj; (repeat' split) <;> omega))))
local macro_rules | `(tactic| walk_at "compareOp In int ref") => `(tactic| (k_here; k_dflt (refine' Mine.w_in30 ?k1 ?k2 ?k3 ?_; (case k1 => k_asm); (case k2 => k_asm); (case k3 => k_is))))
local macro_rules | `(tactic| walk_at "call ref") => `(tactic| (k_here; (with_reducible show wpAny _ _ (call (Value.ref 50) _) _ _ _); k_dflt (refine' Mine.Claim.use (Mine.c_isleap _ _ _) ?k1 ?k2 ?k3 ?k4 ?k5 ?k6 ?k7 ?k8 ?_; (case k1 => k_asm); (case k2 => k_asm); (case k3 => k_asm); (case k4 => k_asm); (case k5 => k_asm); (case k6 => first | exact rfl | assumption); (case k7 => ktr_room); (case k8 => ktr_units); k_whole; (try dsimp only [Mine.RetB, Mine.RetI, Mine.RetH, Mine.Ret2, Mine.Ret3]); intro v h9 tk9 e9 F9 N9; (try dsimp only); (try k_fold))))
local macro_rules | `(tactic| walk_at "call ref") => `(tactic| (k_here; (with_reducible show wpAny _ _ (call (Value.ref 57) _) _ _ _); k_dflt (refine' Mine.Claim.use (Mine.c_legal _ _ _ _ _ _ _ ?p1 ?p2) ?k1 ?k2 ?k3 ?k4 ?k5 ?k6 ?k7 ?k8 ?_; (case k1 => k_asm); (case k2 => k_asm); (case k3 => k_asm); (case k4 => k_asm); (case k5 => k_asm); (case k6 => first | exact rfl | assumption); (case k7 => ktr_room); (case k8 => ktr_units); (case p1 => omega); (case p2 => assumption); k_whole; (try dsimp only [Mine.RetB, Mine.RetI, Mine.RetH, Mine.Ret2, Mine.Ret3]); intro v h9 tk9 e9 F9 N9; subst e9; (try dsimp only); (try k_fold))))
local macro_rules | `(tactic| walk_at "call ref") => `(tactic| (k_here; (with_reducible show wpAny _ _ (call (Value.ref 71) _) _ _ _); k_dflt (refine' Mine.Claim.use (Mine.c_to_jd_gregorian _ _ _ _ _ _ _ ?p1 ?p2 ?p3) ?k1 ?k2 ?k3 ?k4 ?k5 ?k6 ?k7 ?k8 ?_; (case k1 => k_asm); (case k2 => k_asm); (case k3 => k_asm); (case k4 => k_asm); (case k5 => k_asm); (case k6 => first | exact rfl | assumption); (case k7 => ktr_room); (case k8 => ktr_units); (case p1 => omega); (case p2 => omega); (case p3 => first | assumption | omega); k_whole; (try dsimp only [Mine.RetB, Mine.RetI, Mine.RetH, Mine.Ret2, Mine.Ret3]); intro z q t9 h9 tk9 z9 e9 F9 N9; subst e9; (try dsimp only); (try k_fold))))
local macro_rules | `(tactic| walk_at "call ref") => `(tactic| (k_here; (with_reducible show wpAny _ _ (call (Value.ref 50) _) _ _ _); k_dflt (refine' Mine.Claim.use (Mine.c_isleap_at _ ?p1 ?p2) ?k1 ?k2 ?k3 ?k4 ?k5 ?k6 ?k7 ?k8 ?_; (case p1 => assumption); (case p2 => first | assumption | rfl); (case k1 => k_asm); (case k2 => k_asm); (case k3 => k_asm); (case k4 => k_asm); (case k5 => k_asm); (case k6 => first | exact rfl | assumption); (case k7 => ktr_room); (case k8 => ktr_units); k_whole; (try dsimp only [Mine.RetB, Mine.RetI, Mine.RetH, Mine.Ret2, Mine.Ret2E, Mine.Ret3, Mine.RetHE, Mine.RetBE]); intro v h9 tk9 e9 F9 N9; (try dsimp only); (try k_fold))))
local macro_rules | `(tactic| walk_at "call ref") => `(tactic| (k_here; (with_reducible show wpAny _ _ (call (Value.ref 71) _) _ _ _); k_dflt (refine' Mine.Claim.use (Mine.c_to_jd_at2 _ ?p1 ?p2 ?p3 ?p4 ?p5 ?p6) ?k1 ?k2 ?k3 ?k4 ?k5 ?k6 ?k7 ?k8 ?_; (case p1 => assumption); (case p2 => first | assumption | rfl); (case p3 => first | assumption | omega); (case p4 => exact rfl); (case p5 => assumption); (case p6 => omega); (case k1 => k_asm); (case k2 => k_asm); (case k3 => k_asm); (case k4 => k_asm); (case k5 => k_asm); (case k6 => first | exact rfl | assumption); (case k7 => ktr_room); (case k8 => ktr_units); k_whole; (try dsimp only [Mine.RetB, Mine.RetI, Mine.RetH, Mine.Ret2, Mine.Ret2E, Mine.Ret3, Mine.RetHE, Mine.RetBE]); intro z q t9 h9 tk9 ee9 z9 e9 F9 N9; subst e9; (try dsimp only); (try k_fold))))
local macro_rules | `(tactic| walk_at "call ref") => `(tactic| (k_here; (with_reducible show wpAny _ _ (call (Value.ref 71) _) _ _ _); k_dflt (refine' Mine.Claim.use (Mine.c_to_jd_at1 _ ?p1 ?p2 ?p3 ?p4 ?p5) ?k1 ?k2 ?k3 ?k4 ?k5 ?k6 ?k7 ?k8 ?_; (case p1 => assumption); (case p2 => first | assumption | rfl | tb_start); (case p3 => exact rfl); (case p4 => exact rfl); (case p5 => assumption); (case k1 => k_asm); (case k2 => k_asm); (case k3 => k_asm); (case k4 => k_asm); (case k5 => k_asm); (case k6 => first | exact rfl | assumption); (case k7 => ktr_room); (case k8 => ktr_units); k_whole; (try dsimp only [Mine.RetB, Mine.RetI, Mine.RetH, Mine.Ret2, Mine.Ret2E, Mine.Ret3, Mine.RetHE, Mine.RetBE]); intro z q t9 h9 tk9 ee9 z9 e9 F9 N9; subst e9; (try dsimp only); (try k_fold))))
local macro_rules | `(tactic| walk_at "call ref") => `(tactic| (k_here; (with_reducible show wpAny _ _ (call (Value.ref 78) _) _ _ _); k_dflt (refine' Mine.Claim.use (Mine.c_from_jd_gregorian _ _ _ _ _ _ _ ?p1 ?p2 ?p3 ?p4 ?p5) ?k1 ?k2 ?k3 ?k4 ?k5 ?k6 ?k7 ?k8 ?_; (case k1 => k_asm); (case k2 => k_asm); (case k3 => k_asm); (case k4 => k_asm); (case k5 => k_asm); (case k6 => first | exact rfl | assumption); (case k7 => ktr_room); (case k8 => ktr_units); (case p1 => assumption); (case p2 => omega); (case p3 => omega); (case p4 => assumption); (case p5 => omega); k_whole; (try dsimp only [Mine.RetB, Mine.RetI, Mine.RetH, Mine.Ret2, Mine.Ret3]); intro D9 a9 b9 c9 t1 t2 t3 k9 h9 tk9 e1 e2 e3 F9 N1 N2; subst e1; subst e2; subst e3; have N9 := Mine.news_cons N1 N2; clear N1 N2; (try dsimp only); (try k_fold))))
local macro_rules | `(tactic| walk_at "call ref") => `(tactic| (k_here; (with_reducible show wpAny _ _ (call (Value.ref 85) _) _ _ _); k_dflt (refine' Mine.Claim.use (Mine.c_to_jd_ordinal _ _ _ _ _ ?p1 ?p2) ?k1 ?k2 ?k3 ?k4 ?k5 ?k6 ?k7 ?k8 ?_; (case k1 => k_asm); (case k2 => k_asm); (case k3 => k_asm); (case k4 => k_asm); (case k5 => k_asm); (case k6 => first | exact rfl | assumption); (case k7 => ktr_room); (case k8 => ktr_units); (case p1 => omega); (case p2 => omega); k_whole; (try dsimp only [Mine.RetB, Mine.RetI, Mine.RetH, Mine.Ret2, Mine.Ret3]); intro z q t9 h9 tk9 z9 e9 F9 N9; subst e9; (try dsimp only); (try k_fold))))
local macro_rules | `(tactic| walk_at "call ref") => `(tactic| (k_here; (with_reducible show wpAny _ _ (call (Value.ref 92) _) _ _ _); k_dflt (refine' Mine.Claim.use (Mine.c_from_jd_ordinal _ _ _ _ _ _ _ ?p1 ?p2 ?p3 ?p4 ?p5) ?k1 ?k2 ?k3 ?k4 ?k5 ?k6 ?k7 ?k8 ?_; (case k1 => k_asm); (case k2 => k_asm); (case k3 => k_asm); (case k4 => k_asm); (case k5 => k_asm); (case k6 => first | exact rfl | assumption); (case k7 => ktr_room); (case k8 => ktr_units); (case p1 => assumption); (case p2 => omega); (case p3 => omega); (case p4 => assumption); (case p5 => omega); k_whole; (try dsimp only [Mine.RetB, Mine.RetI, Mine.RetH, Mine.Ret2, Mine.Ret3]); intro D9 a9 b9 t1 t2 k9 h9 tk9 e1 e2 F9 N1 N2; subst e1; subst e2; have N9 := Mine.news_cons N1 N2; clear N1 N2; (try dsimp only); (try k_fold))))
local macro_rules | `(tactic| walk_at "call ref") => `(tactic| (k_here; (with_reducible show wpAny _ _ (call (Value.ref 99) _) _ _ _); k_dflt (refine' Mine.Claim.use (Mine.c_from_gregorian_ordinal _ _ _ _ _ _ _ ?p1 ?p2) ?k1 ?k2 ?k3 ?k4 ?k5 ?k6 ?k7 ?k8 ?_; (case k1 => k_asm); (case k2 => k_asm); (case k3 => k_asm); (case k4 => k_asm); (case k5 => k_asm); (case k6 => first | exact rfl | assumption); (case k7 => ktr_room); (case k8 => ktr_units); (case p1 => omega); (case p2 => first | assumption | omega); k_whole; (try dsimp only [Mine.RetB, Mine.RetI, Mine.RetH, Mine.Ret2, Mine.Ret3]); intro D9 a9 b9 t1 t2 k9 h9 tk9 e1 e2 F9 N1 N2; subst e1; subst e2; have N9 := Mine.news_cons N1 N2; clear N1 N2; (try dsimp only); (try k_fold))))
local macro_rules | `(tactic| walk_at "call ref") => `(tactic| (k_here; (with_reducible show wpAny _ _ (call (Value.ref 99) _) _ _ _); k_dflt (refine' Mine.Claim.use (Mine.c_fgo_at _ ?p1 ?p2 ?p3 ?p4) ?k1 ?k2 ?k3 ?k4 ?k5 ?k6 ?k7 ?k8 ?_; (case p1 => assumption); (case p2 => first | assumption | omega); (case p3 => exact rfl); (case p4 => omega); (case k1 => k_asm); (case k2 => k_asm); (case k3 => k_asm); (case k4 => k_asm); (case k5 => k_asm); (case k6 => first | exact rfl | assumption); (case k7 => ktr_room); (case k8 => ktr_units); k_whole; (try dsimp only [Mine.RetB, Mine.RetI, Mine.RetH, Mine.Ret2, Mine.Ret2E, Mine.Ret3, Mine.RetHE, Mine.RetBE]); intro D9 a9 b9 t1 t2 k9 h9 tk9 ee9 e1 e2 F9 N1 N2; have N9 := Mine.news_cons N1 N2; clear N1 N2; (try dsimp only); (try k_fold))))
local macro_rules | `(tactic| walk_at "call ref") => `(tactic| (k_here; (with_reducible show wpAny _ _ (call (Value.ref 106) _) _ _ _); k_dflt (refine' Mine.Claim.use (Mine.c_to_gregorian_ordinal _ _ _ _ _ _ _ ?p1 ?p2 ?p3) ?k1 ?k2 ?k3 ?k4 ?k5 ?k6 ?k7 ?k8 ?_; (case k1 => k_asm); (case k2 => k_asm); (case k3 => k_asm); (case k4 => k_asm); (case k5 => k_asm); (case k6 => first | exact rfl | assumption); (case k7 => ktr_room); (case k8 => ktr_units); (case p1 => omega); (case p2 => first | assumption | omega); (case p3 => omega); k_whole; (try dsimp only [Mine.RetB, Mine.RetI, Mine.RetH, Mine.Ret2, Mine.Ret3]); intro D9 a9 b9 c9 t1 t2 t3 k9 h9 tk9 e1 e2 e3 F9 N1 N2; subst e1; subst e2; subst e3; have N9 := Mine.news_cons N1 N2; clear N1 N2; (try dsimp only); (try k_fold))))
local macro_rules | `(tactic| walk_at "call ref") => `(tactic| (k_here; (with_reducible show wpAny _ _ (call (Value.ref 64) _) _ _ _); k_dflt (refine' Mine.Claim.use (Mine.c_to_jd2 _ _ _ _ _ _ _ ?p1 ?p2 ?p3) ?k1 ?k2 ?k3 ?k4 ?k5 ?k6 ?k7 ?k8 ?_; (case k1 => k_asm); (case k2 => k_asm); (case k3 => k_asm); (case k4 => k_asm); (case k5 => k_asm); (case k6 => first | exact rfl | assumption); (case k7 => ktr_room); (case k8 => ktr_units); (case p1 => omega); (case p2 => omega); (case p3 => first | assumption | omega); k_whole; (try dsimp only [Mine.RetB, Mine.RetI, Mine.RetH, Mine.Ret2, Mine.Ret3]); intro z q t9 h9 tk9 z9 e9 F9 N9; subst e9; (try dsimp only); (try k_fold))))
local macro_rules | `(tactic| walk_at "call ref") => `(tactic| (k_here; (with_reducible show wpAny _ _ (call (Value.ref 114) _) _ _ _); k_dflt (refine' Mine.Claim.use (Mine.c_leapj _ _ _) ?k1 ?k2 ?k3 ?k4 ?k5 ?k6 ?k7 ?k8 ?_; (case k1 => k_asm); (case k2 => k_asm); (case k3 => k_asm); (case k4 => k_asm); (case k5 => k_asm); (case k6 => first | exact rfl | assumption); (case k7 => ktr_room); (case k8 => ktr_units); k_whole; (try dsimp only [Mine.RetB, Mine.RetI, Mine.RetH, Mine.Ret2, Mine.Ret3]); intro v h9 tk9 e9 F9 N9; (try dsimp only); (try k_fold))))
local macro_rules | `(tactic| walk_at "call ref") => `(tactic| (k_here; (with_reducible show wpAny _ _ (call (Value.ref 121) _) _ _ _); k_dflt (refine' Mine.Claim.use (Mine.c_month_length _ _ _ _ _) ?k1 ?k2 ?k3 ?k4 ?k5 ?k6 ?k7 ?k8 ?_; (case k1 => k_asm); (case k2 => k_asm); (case k3 => k_asm); (case k4 => k_asm); (case k5 => k_asm); (case k6 => first | exact rfl | assumption); (case k7 => ktr_room); (case k8 => ktr_units); k_whole; (try dsimp only [Mine.RetB, Mine.RetI, Mine.RetH, Mine.Ret2, Mine.Ret3]); intro v t9 h9 tk9 e9 F9 N9; subst e9; (try dsimp only); (try k_fold))))
local macro_rules | `(tactic| walk_at "call ref") => `(tactic| (k_here; (with_reducible show wpAny _ _ (call (Value.ref 128) _) _ _ _); k_dflt (refine' Mine.Claim.use (Mine.c_legalj _ _ _ _ _ _ _ ?p1) ?k1 ?k2 ?k3 ?k4 ?k5 ?k6 ?k7 ?k8 ?_; (case k1 => k_asm); (case k2 => k_asm); (case k3 => k_asm); (case k4 => k_asm); (case k5 => k_asm); (case k6 => first | exact rfl | assumption); (case k7 => ktr_room); (case k8 => ktr_units); (case p1 => first | assumption | omega); k_whole; (try dsimp only [Mine.RetB, Mine.RetI, Mine.RetH, Mine.Ret2, Mine.Ret3]); intro v h9 tk9 e9 F9 N9; subst e9; (try dsimp only); (try k_fold))))
local macro_rules | `(tactic| walk_at "call ref") => `(tactic| (k_here; (with_reducible show wpAny _ _ (call (Value.ref 142) _) _ _ _); k_dflt (refine' Mine.Claim.use (Mine.c_to_jd_julian _ _ _ _ _ _ _ ?p1 ?p2 ?p3) ?k1 ?k2 ?k3 ?k4 ?k5 ?k6 ?k7 ?k8 ?_; (case k1 => k_asm); (case k2 => k_asm); (case k3 => k_asm); (case k4 => k_asm); (case k5 => k_asm); (case k6 => first | exact rfl | assumption); (case k7 => ktr_room); (case k8 => ktr_units); (case p1 => omega); (case p2 => omega); (case p3 => first | assumption | omega); k_whole; (try dsimp only [Mine.RetB, Mine.RetI, Mine.RetH, Mine.Ret2, Mine.Ret3]); intro z q t9 h9 tk9 z9 e9 F9 N9; subst e9; (try dsimp only); (try k_fold))))
local macro_rules | `(tactic| walk_at "call ref") => `(tactic| (k_here; (with_reducible show wpAny _ _ (call (Value.ref 135) _) _ _ _); k_dflt (refine' Mine.Claim.use (Mine.c_from_jd_julian _ _ _ _ _ _ _ ?p1 ?p2 ?p3 ?p4 ?p5) ?k1 ?k2 ?k3 ?k4 ?k5 ?k6 ?k7 ?k8 ?_; (case k1 => k_asm); (case k2 => k_asm); (case k3 => k_asm); (case k4 => k_asm); (case k5 => k_asm); (case k6 => first | exact rfl | assumption); (case k7 => ktr_room); (case k8 => ktr_units); (case p1 => assumption); (case p2 => omega); (case p3 => omega); (case p4 => assumption); (case p5 => omega); k_whole; (try dsimp only [Mine.RetB, Mine.RetI, Mine.RetH, Mine.Ret2, Mine.Ret3]); intro D9 a9 b9 c9 t1 t2 t3 k9 h9 tk9 e1 e2 e3 F9 N1 N2; subst e1; subst e2; subst e3; have N9 := Mine.news_cons N1 N2; clear N1 N2; (try dsimp only); (try k_fold))))
local macro_rules | `(tactic| walk_at "call ref") => `(tactic| (k_here; (with_reducible show wpAny _ _ (call (Value.ref 240) _) _ _ _); k_dflt (refine' Mine.Claim.use (Mine.c_legalp _ _ _ _ _ _ _ _ ?p1 ?p2 ?p3 ?p4) ?k1 ?k2 ?k3 ?k4 ?k5 ?k6 ?k7 ?k8 ?_; (case k1 => k_asm); (case k2 => k_asm); (case k3 => k_asm); (case k4 => k_asm); (case k5 => k_asm); (case k6 => first | exact rfl | assumption); (case k7 => ktr_room); (case k8 => ktr_units); (case p1 => first | assumption | rfl); (case p2 => omega); (case p3 => omega); (case p4 => first | assumption | omega); k_whole; (try dsimp only [Mine.RetB, Mine.RetI, Mine.RetH, Mine.Ret2, Mine.Ret3]); intro v h9 tk9 e9 F9 N9; subst e9; (try dsimp only); (try k_fold))))
local macro_rules | `(tactic| walk_at "call ref") => `(tactic| (k_here; (with_reducible show wpAny _ _ (call (Value.ref 247) _) _ _ _); k_dflt (refine' Mine.Claim.use (Mine.c_to_jd_positivist _ _ _ _ _ _ _ _ ?p1 ?p2 ?p3 ?p4) ?k1 ?k2 ?k3 ?k4 ?k5 ?k6 ?k7 ?k8 ?_; (case k1 => k_asm); (case k2 => k_asm); (case k3 => k_asm); (case k4 => k_asm); (case k5 => k_asm); (case k6 => first | exact rfl | assumption); (case k7 => ktr_room); (case k8 => ktr_units); (case p1 => first | assumption | rfl); (case p2 => omega); (case p3 => omega); (case p4 => first | assumption | omega); k_whole; (try dsimp only [Mine.RetB, Mine.RetI, Mine.RetH, Mine.Ret2, Mine.Ret3]); intro z q t9 h9 tk9 z9 e9 F9 N9; subst e9; (try dsimp only); (try k_fold))))
local macro_rules | `(tactic| walk_at "call ref") => `(tactic| (k_here; (with_reducible show wpAny _ _ (call (Value.ref 254) _) _ _ _); k_dflt (refine' Mine.Claim.use (Mine.c_from_jd_positivist _ _ _ _ _ _ ?p1 ?p2 ?p3 ?p4 ?p5) ?k1 ?k2 ?k3 ?k4 ?k5 ?k6 ?k7 ?k8 ?_; (case k1 => k_asm); (case k2 => k_asm); (case k3 => k_asm); (case k4 => k_asm); (case k5 => k_asm); (case k6 => first | exact rfl | assumption); (case k7 => ktr_room); (case k8 => ktr_units); (case p1 => assumption); (case p2 => omega); (case p3 => first | assumption | omega); (case p4 => omega); (case p5 => first | assumption | omega); k_whole; (try dsimp only [Mine.RetB, Mine.RetI, Mine.RetH, Mine.Ret2, Mine.Ret3]); intro D9 a9 b9 c9 t1 t2 t3 k9 h9 tk9 e1 e2 e3 F9 N1 N2; subst e1; subst e2; subst e3; have N9 := Mine.news_cons N1 N2; clear N1 N2; (try dsimp only); (try k_fold))))
local macro_rules | `(tactic| walk_at "call ref") => `(tactic| (k_here; (with_reducible show wpAny _ _ (call (Value.ref 275) _) _ _ _); k_dflt (refine' Mine.Claim.use (Mine.c_law_first _ _ _) ?k1 ?k2 ?k3 ?k4 ?k5 ?k6 ?k7 ?k8 ?_; (case k1 => k_asm); (case k2 => k_asm); (case k3 => k_asm); (case k4 => k_asm); (case k5 => k_asm); (case k6 => first | exact rfl | assumption); (case k7 => ktr_room); (case k8 => ktr_units); k_whole; (try dsimp only [Mine.RetB, Mine.RetI, Mine.RetH, Mine.Ret2, Mine.Ret3]); intro v t9 h9 tk9 e9 F9 N9; (try dsimp only); (try k_fold))))
local macro_rules | `(tactic| walk_at "call ref") => `(tactic| (k_here; (with_reducible show wpAny _ _ (call (Value.ref 282) _) _ _ _); k_dflt (refine' Mine.Claim.use (Mine.c_law_walk _ _ _ _ _ _ _ _ _ _ _ ?p1 ?p2 ?p3 ?p4) ?k1 ?k2 ?k3 ?k4 ?k5 ?k6 ?k7 ?k8 ?_; (case k1 => k_asm); (case k2 => k_asm); (case k3 => k_asm); (case k4 => k_asm); (case k5 => k_asm); (case k6 => first | exact rfl | assumption); (case k7 => ktr_room); (case k8 => ktr_units); (case p1 => l_ints); (case p2 => omega); (case p3 => omega); (case p4 => omega); k_whole; (try dsimp only [Mine.RetB, Mine.RetI, Mine.RetH, Mine.Ret2, Mine.Ret3, Mine.RetW]); refine ⟨List.Mem.head _, ?_⟩; intro D9 a9 b9 c9 t1 t2 t3 k9 h9 tk9 e1 q1 q2 q3 F9 N1 N2; subst e1; have N9 := Mine.news_cons N1 N2; clear N1 N2; (try dsimp only); (try k_fold))))
local macro_rules | `(tactic| walk_at "call ref") => `(tactic| (k_here; (with_reducible show wpAny _ _ (call (Value.ref 289) _) _ _ _); k_dflt (refine' Mine.Claim.use (Mine.c_law_gregorian _ _ _ ?p1) ?k1 ?k2 ?k3 ?k4 ?k5 ?k6 ?k7 ?k8 ?_; (case k1 => k_asm); (case k2 => k_asm); (case k3 => k_asm); (case k4 => k_asm); (case k5 => k_asm); (case k6 => first | exact rfl | assumption); (case k7 => ktr_room); (case k8 => ktr_units); (case p1 => omega); k_whole; (try dsimp only [Mine.RetB, Mine.RetI, Mine.RetH, Mine.Ret2, Mine.Ret3, Mine.RetW, Mine.RetG, Mine.RetJ]); intro D9 a9 b9 c9 t1 t2 t3 k9 h9 tk9 q1 q2 q3 F9 N1 N2; have N9 := Mine.news_cons N1 N2; clear N1 N2; (try dsimp only); (try k_fold))))
local macro_rules | `(tactic| walk_at "call ref") => `(tactic| (k_here; (with_reducible show wpAny _ _ (call (Value.ref 296) _) _ _ _); k_dflt (refine' Mine.Claim.use (Mine.c_law_julian _ _ _ ?p1) ?k1 ?k2 ?k3 ?k4 ?k5 ?k6 ?k7 ?k8 ?_; (case k1 => k_asm); (case k2 => k_asm); (case k3 => k_asm); (case k4 => k_asm); (case k5 => k_asm); (case k6 => first | exact rfl | assumption); (case k7 => ktr_room); (case k8 => ktr_units); (case p1 => omega); k_whole; (try dsimp only [Mine.RetB, Mine.RetI, Mine.RetH, Mine.Ret2, Mine.Ret3, Mine.RetW, Mine.RetG, Mine.RetJ]); intro D9 a9 b9 c9 t1 t2 t3 k9 h9 tk9 q1 q2 q3 F9 N1 N2; have N9 := Mine.news_cons N1 N2; clear N1 N2; (try dsimp only); (try k_fold))))

local macro_rules | `(tactic| walk_at "noteFrame ref") => `(tactic| (k_here; (with_reducible rename Heap.NewExc _ _ _ _ => hx9); k_dflt (refine' Mine.own_from (n := Str.ofString "err") ?K ?F ?N hx9 ?XB ?TB ?ex ?ex2 ?_ ?_ ?hk ?hlo ?hxk ?hxk2 ?hdb ?hst; (case K => assumption); (case F => assumption); (case N => assumption); (case XB => assumption); (case TB => assumption); (case ex => k_is); (case ex2 => k_is); (case hk => exact rfl); (case hlo => exact rfl); (case hxk => exact rfl); (case hxk2 => exact rfl); (case hdb => decide); (case hst => exact rfl); k_whole); rotate_left; intro e9 h9 tk9 R9 U9; (try dsimp only); rotate_left; intro h9 g9 tk9 l9 Q9 E9 F9 N9 B9 X9 T9 hq9; (try dsimp only); (try k_lift B9); (try k_sweep); (try k_fold)))
local macro_rules | `(tactic| walk_at "leaving ref") => `(tactic| (k_here; (with_reducible rename Mine.HeldSN _ _ _ _ _ _ _ _ _ => R9); k_dflt (refine' Mine.leave_heldSN R9 ?U ?_; (case U => assumption)); clear R9; intro h9 R9 U9; (try dsimp only)))
local macro_rules | `(tactic| walk_at "leaving ref") => `(tactic| (k_here; (with_reducible rename RaisedSN _ _ _ _ _ _ _ => R9); k_dflt (refine' leave_onSN ?K ?F R9 ?U ?_; (case K => assumption); (case F => assumption); (case U => assumption)); clear R9; intro h9 R9 _ U9; (try dsimp only)))
local macro_rules | `(tactic| walk_at "call ref") => `(tactic| (k_here; (with_reducible show wpAny _ _ (call (Value.ref 254) _) _ _ _); k_dflt (refine' Mine.ClaimX.use (Mine.x_from_jd _ _ _ _ ?p1 ?p2) ?k1 ?k2 ?k3 ?kB ?k4 ?k5 ?kT ?k6 ?k7 ?k8 ?_; (case p1 => assumption); (case p2 => omega); (case k1 => k_asm); (case k2 => k_asm); (case k3 => k_asm); (case kB => assumption); (case k4 => k_asm); (case k5 => k_asm); (case kT => assumption); (case k6 => first | exact rfl | assumption); (case k7 => ktr_room); (case k8 => ktr_units); k_whole; intro e9 g9 h9 tk9 F9 R9 U9; (try dsimp only))))
local macro_rules | `(tactic| walk_at "call ref") => `(tactic| (k_here; (with_reducible show wpAny _ _ (call (Value.ref 247) _) _ _ _); k_dflt (refine' Mine.ClaimX.use (Mine.x_to_jd _ _ _ _ _ _ _ ?p1 ?p2 ?p3 ?p4) ?k1 ?k2 ?k3 ?kB ?k4 ?k5 ?kT ?k6 ?k7 ?k8 ?_; (case p1 => assumption); (case p2 => omega); (case p3 => omega); (case p4 => omega); (case k1 => k_asm); (case k2 => k_asm); (case k3 => k_asm); (case kB => assumption); (case k4 => k_asm); (case k5 => k_asm); (case kT => assumption); (case k6 => first | exact rfl | assumption); (case k7 => ktr_room); (case k8 => ktr_units); k_whole; intro e9 g9 h9 tk9 F9 R9 U9; (try dsimp only))))
theorem asked0 (w : World) (x : UInt64) (p : Int) (t0 t t1 t2 : Tok) (hx : Hf x p) (hp : p < 4748959) : ClaimL w 303 [.int 0 t0, .float x t, .int 0 t1, .int 0 t2] (RetS (Str.ofString "refused")) := by
  w_top off
  k_with_none
  have kfill : PySem.Challenge.rw_ak5020_01 = PySem.Challenge.rw_ak5020_01 ∧ hd.heap_39 = hd.heap_39 := by
    k_fill
    exact ⟨rfl, rfl⟩
  clear kfill
  all_goals dsimp only [ClaimL, RetS, RetH]
  all_goals intros
  all_goals rename_i hret
  all_goals refine wpAny_call ?_
  all_goals k_dflt (refine' code_defS0 ?k1 ?k2 ?k3 ?k4 ?k5 ?kA ?k6 ?k7 ?k8 ?k9 ?kB ?_ ?cK ?c2 ?c3 ?c4 ?c5; (case kA => exact rfl); (case k2 => k_asm); (case k1 => k_asm); (case k3 => k_asm); (case k4 => k_asm); (case k5 => k_asm); (case k6 => k_is); (case k7 => k_is); (case k8 => k_room); (case k9 => exact BindsTo.of_eq rfl); (case kB => exact locs rfl); (case cK => assumption); (case c2 => exact rfl); (case c3 => exact rfl); (case c4 => exact rfl); (case c5 => decide); k_whole; intro g' L' h' FG' F' N' B' X' T' D'; (try dsimp only); (try k_lift B'); (try k_fold))
  all_goals k_steps
  all_goals exact hret _ _ _ (by k_asm) (by first | k_asm | exact news_drop (by k_asm) | exact news_drop (news_drop (by k_asm)))

theorem asked1 (w : World) (y m d : Int) (t0 t t1 t2 : Tok) (hI : Illegal y m d) (hy : -20000000 ≤ y ∧ y ≤ 20000000) (hm : -100 ≤ m ∧ m ≤ 100) (hdd : -100 ≤ d ∧ d ≤ 100) : ClaimL w 303 [.int 1 t0, .int y t, .int m t1, .int d t2] (RetS (Str.ofString "refused")) := by
  w_top off
  k_with_none
  have kfill : PySem.Challenge.rw_ak5020_01 = PySem.Challenge.rw_ak5020_01 ∧ hd.heap_39 = hd.heap_39 := by
    k_fill
    exact ⟨rfl, rfl⟩
  clear kfill
  all_goals dsimp only [ClaimL, RetS, RetH]
  all_goals intros
  all_goals rename_i hret
  all_goals refine wpAny_call ?_
  all_goals k_dflt (refine' code_defS0 ?k1 ?k2 ?k3 ?k4 ?k5 ?kA ?k6 ?k7 ?k8 ?k9 ?kB ?_ ?cK ?c2 ?c3 ?c4 ?c5; (case kA => exact rfl); (case k2 => k_asm); (case k1 => k_asm); (case k3 => k_asm); (case k4 => k_asm); (case k5 => k_asm); (case k6 => k_is); (case k7 => k_is); (case k8 => k_room); (case k9 => exact BindsTo.of_eq rfl); (case kB => exact locs rfl); (case cK => assumption); (case c2 => exact rfl); (case c3 => exact rfl); (case c4 => exact rfl); (case c5 => decide); k_whole; intro g' L' h' FG' F' N' B' X' T' D'; (try dsimp only); (try k_lift B'); (try k_fold))
  all_goals k_steps
  all_goals exact hret _ _ _ (by k_asm) (by first | k_asm | exact news_drop (by k_asm) | exact news_drop (news_drop (by k_asm)))

theorem askedL (w : World) (y m d : Int) (t0 t t1 t2 : Tok) (hL : Legal y m d) (hy : y ≤ 10000001) : ClaimL w 303 [.int 1 t0, .int y t, .int m t1, .int d t2] (RetH (2 * (yr (y + 1788) + 28 * (m - 1) + d) - 1)) := by
  have hI2 := Mine.Legal.all hL
  w_top off
  k_with_none
  have kfill : PySem.Challenge.rw_ak5020_01 = PySem.Challenge.rw_ak5020_01 ∧ hd.heap_39 = hd.heap_39 := by
    k_fill
    exact ⟨rfl, rfl⟩
  clear kfill
  all_goals dsimp only [ClaimL, RetS, RetH]
  all_goals intros
  all_goals rename_i hret
  all_goals refine wpAny_call ?_
  all_goals k_dflt (refine' code_defS0 ?k1 ?k2 ?k3 ?k4 ?k5 ?kA ?k6 ?k7 ?k8 ?k9 ?kB ?_ ?cK ?c2 ?c3 ?c4 ?c5; (case kA => exact rfl); (case k2 => k_asm); (case k1 => k_asm); (case k3 => k_asm); (case k4 => k_asm); (case k5 => k_asm); (case k6 => k_is); (case k7 => k_is); (case k8 => k_room); (case k9 => exact BindsTo.of_eq rfl); (case kB => exact locs rfl); (case cK => assumption); (case c2 => exact rfl); (case c3 => exact rfl); (case c4 => exact rfl); (case c5 => decide); k_whole; intro g' L' h' FG' F' N' B' X' T' D'; (try dsimp only); (try k_lift B'); (try k_fold))
  all_goals k_steps
  all_goals refine hret _ _ _ _ _ (by assumption) ?_ (by k_asm) (by first | k_asm | exact news_drop (by k_asm) | exact news_drop (news_drop (by k_asm)))
  all_goals omega


end Mine

namespace Mine
open PySem.Flt
local macro_rules | `(tactic| walk_at "eval Call") => `(tactic| (k_here; (with_reducible show wpAny _ _ (eval (Expr.Call (Expr.Name _ _) _ [] _) _) _ _ _); k_dflt (refine Call_ ?_)))
local macro_rules | `(tactic| walk_at "binaryOp Add float float") => `(tactic| (k_here; (with_reducible show wpAny _ _ (binaryOp _ (Value.float _ _) (Value.float _ _)) _ _ _); ((with_reducible refine' Mine.w_add_ff ?hx ?hy ?hb ?_; (case hx => with_reducible first | assumption | exact Mine.hf_epoch | exact Mine.hf_half | exact Mine.hf_1524 | exact Mine.hf_pos | exact Mine.hf_1_5); (case hy => with_reducible first | assumption | exact Mine.hf_epoch | exact Mine.hf_half | exact Mine.hf_1524 | exact Mine.hf_pos | exact Mine.hf_1_5); (case hb => k_dflt omega); k_whole; intro z hz; (try dsimp only)))))
local macro_rules | `(tactic| walk_at "inplaceOp Add float float") => `(tactic| (k_here; (with_reducible show wpAny _ _ (inplaceOp _ (Value.float _ _) (Value.float _ _)) _ _ _); ((with_reducible refine' Mine.w_iadd_ff ?hx ?hy ?hb ?_; (case hx => with_reducible first | assumption | exact Mine.hf_epoch | exact Mine.hf_half | exact Mine.hf_1524 | exact Mine.hf_pos | exact Mine.hf_1_5); (case hy => with_reducible first | assumption | exact Mine.hf_epoch | exact Mine.hf_half | exact Mine.hf_1524 | exact Mine.hf_pos | exact Mine.hf_1_5); (case hb => k_dflt omega); k_whole; intro z hz; (try dsimp only)))))
local macro_rules | `(tactic| walk_at "binaryOp Sub float float") => `(tactic| (k_here; (with_reducible show wpAny _ _ (binaryOp _ (Value.float _ _) (Value.float _ _)) _ _ _); ((with_reducible refine' Mine.w_sub_ff ?hx ?hy ?hb ?_; (case hx => with_reducible first | assumption | exact Mine.hf_epoch | exact Mine.hf_half | exact Mine.hf_1524 | exact Mine.hf_pos | exact Mine.hf_1_5); (case hy => with_reducible first | assumption | exact Mine.hf_epoch | exact Mine.hf_half | exact Mine.hf_1524 | exact Mine.hf_pos | exact Mine.hf_1_5); (case hb => k_dflt omega); k_whole; intro z hz; (try dsimp only)))))
local macro_rules | `(tactic| walk_at "binaryOp Add float int") => `(tactic| (k_here; (with_reducible show wpAny _ _ (binaryOp _ (Value.float _ _) (Value.int _ _)) _ _ _); (first
  | (with_reducible refine' Mine.w_add_fi ?hA ?hx ?hb ?_; (case hA => k_dflt (exact rfl)); (case hx => with_reducible first | assumption | exact Mine.hf_epoch | exact Mine.hf_half | exact Mine.hf_1524 | exact Mine.hf_pos | exact Mine.hf_1_5); (case hb => k_dflt omega); k_whole; intro z hz; (try dsimp only))
  | (with_reducible refine' Mine.w_addn_fi ?hA ?hx ?hb ?_; (case hA => k_dflt (exact rfl)); (case hx => with_reducible assumption); (case hb => k_dflt omega); k_whole; intro z hz; (try dsimp only)))))
local macro_rules | `(tactic| walk_at "binaryOp Sub float int") => `(tactic| (k_here; (with_reducible show wpAny _ _ (binaryOp _ (Value.float _ _) (Value.int _ _)) _ _ _); ((with_reducible refine' Mine.w_sub_fi ?hA ?hx ?hb ?_; (case hA => k_dflt (exact rfl)); (case hx => with_reducible first | assumption | exact Mine.hf_epoch | exact Mine.hf_half | exact Mine.hf_1524 | exact Mine.hf_pos | exact Mine.hf_1_5); (case hb => k_dflt omega); k_whole; intro z hz; (try dsimp only)))))
local macro_rules | `(tactic| walk_at "binaryOp Add int float") => `(tactic| (k_here; (with_reducible show wpAny _ _ (binaryOp _ (Value.int _ _) (Value.float _ _)) _ _ _); ((with_reducible refine' Mine.w_add_if ?hA ?hx ?hb ?_; (case hA => k_dflt (exact rfl)); (case hx => with_reducible first | assumption | exact Mine.hf_epoch | exact Mine.hf_half | exact Mine.hf_1524 | exact Mine.hf_pos | exact Mine.hf_1_5); (case hb => k_dflt omega); k_whole; intro z hz; (try dsimp only)))))
local macro_rules | `(tactic| walk_at "binaryOp Sub int float") => `(tactic| (k_here; (with_reducible show wpAny _ _ (binaryOp _ (Value.int _ _) (Value.float _ _)) _ _ _); (first
  | (with_reducible refine' Mine.w_sub_122 ?hA ?hcc ?hb ?_; (case hcc => with_reducible rfl); (case hA => k_dflt (exact rfl)); (case hb => k_dflt omega); k_whole; intro z hz; (try dsimp only))
  | (with_reducible refine' Mine.w_sub_if ?hA ?hx ?hb ?_; (case hA => k_dflt (exact rfl)); (case hx => with_reducible first | assumption | exact Mine.hf_epoch | exact Mine.hf_half | exact Mine.hf_1524 | exact Mine.hf_pos | exact Mine.hf_1_5); (case hb => k_dflt omega); k_whole; intro z hz; (try dsimp only)))))
local macro_rules | `(tactic| walk_at "binaryOp Mult float int") => `(tactic| (k_here; (with_reducible show wpAny _ _ (binaryOp _ (Value.float _ _) (Value.int _ _)) _ _ _); (first
  | (with_reducible refine' Mine.w_mul_365 ?hA ?hcc ?hb ?_; (case hcc => with_reducible rfl); (case hA => k_dflt (exact rfl)); (case hb => k_dflt omega); k_whole; intro z hz; (try dsimp only))
  | (with_reducible refine' Mine.w_mul_306001 ?hA ?hcc ?hb ?_; (case hcc => with_reducible rfl); (case hA => k_dflt (exact rfl)); (case hb => k_dflt omega); k_whole; intro z hz; (try dsimp only))
  | (with_reducible refine' Mine.w_mul_306 ?hA ?hcc ?hb ?_; (case hcc => with_reducible rfl); (case hA => k_dflt (exact rfl)); (case hb => k_dflt omega); k_whole; intro z hz; (try dsimp only))
  | (with_reducible refine' Mine.w_mul_fi ?hA ?hx ?hb ?_; (case hA => k_dflt (exact rfl)); (case hx => with_reducible first | assumption | exact Mine.hf_epoch | exact Mine.hf_half | exact Mine.hf_1524 | exact Mine.hf_pos | exact Mine.hf_1_5); (case hb => k_dflt omega); k_whole; intro z hz; (try dsimp only)))))
local macro_rules | `(tactic| walk_at "binaryOp Mod float int") => `(tactic| (k_here; (with_reducible show wpAny _ _ (binaryOp _ (Value.float _ _) (Value.int _ _)) _ _ _); ((with_reducible refine' Mine.w_mod_fi ?hA ?hx ?hb ?_; (case hA => k_dflt (exact rfl)); (case hx => with_reducible first | assumption | exact Mine.hf_epoch | exact Mine.hf_half | exact Mine.hf_1524 | exact Mine.hf_pos | exact Mine.hf_1_5); (case hb => k_dflt omega); k_whole; intro z r hr hz; (try dsimp only)))))
local macro_rules | `(tactic| walk_at "binaryOp Div float int") => `(tactic| (k_here; (with_reducible show wpAny _ _ (binaryOp _ (Value.float _ _) (Value.int _ _)) _ _ _); ((with_reducible refine' Mine.w_div_fi ?hA ?hx ?hb ?_; (case hA => k_dflt (exact rfl)); (case hx => with_reducible first | assumption | exact Mine.hf_epoch | exact Mine.hf_half | exact Mine.hf_1524 | exact Mine.hf_pos | exact Mine.hf_1_5); (case hb => k_dflt omega); k_whole; intro z hz; (try dsimp only)))))
local macro_rules | `(tactic| walk_at "binaryOp Div int int") => `(tactic| (k_here; (with_reducible show wpAny _ _ (binaryOp _ (Value.int _ _) (Value.int _ _)) _ _ _); ((with_reducible refine' Mine.w_div_ii ?hA ?hb ?_; (case hA => k_dflt (exact rfl)); (case hb => k_dflt omega); k_whole; intro z hz; (try dsimp only)))))
local macro_rules | `(tactic| walk_at "binaryOp Div float float") => `(tactic| (k_here; (with_reducible show wpAny _ _ (binaryOp _ (Value.float _ _) (Value.float _ _)) _ _ _); ((with_reducible refine' Mine.w_div_365 ?hA ?hcc ?hx ?hb ?_; (case hcc => with_reducible rfl); (case hA => k_dflt (exact rfl)); (case hx => with_reducible assumption); (case hb => k_dflt omega); k_whole; intro z hz; (try dsimp only)))))
local macro_rules | `(tactic| walk_at "binaryOp Div int float") => `(tactic| (k_here; (with_reducible show wpAny _ _ (binaryOp _ (Value.int _ _) (Value.float _ _)) _ _ _); ((with_reducible refine' Mine.w_div_306001 ?hA ?hcc ?hb ?_; (case hcc => with_reducible rfl); (case hA => k_dflt (exact rfl)); (case hb => k_dflt omega); k_whole; intro z hz; (try dsimp only)))))
local macro_rules | `(tactic| walk_at "call builtin:math.floor") => `(tactic| (k_here; (with_reducible show wpAny _ _ (call _ [Value.float _ _]) _ _ _); (first
  | (with_reducible refine' Mine.w_floor_h ?hA ?hx ?_; (case hA => k_dflt (exact rfl)); (case hx => with_reducible assumption); k_whole; intro r hr; (try dsimp only))
  | (with_reducible refine' Mine.w_floor_n ?hA ?hx ?hb ?_; (case hA => k_dflt (exact rfl)); (case hx => with_reducible assumption); (case hb => k_dflt omega); k_whole; intro r hr; (try dsimp only))
  | (with_reducible refine' Mine.w_floor_q ?hA ?hx ?_; (case hA => k_dflt (exact rfl)); (case hx => with_reducible assumption); k_whole; intro r hr; (try dsimp only)))))
local macro_rules | `(tactic| walk_at "call builtin:math.trunc") => `(tactic| (k_here; (with_reducible show wpAny _ _ (call _ [Value.float _ _]) _ _ _); (first
  | (with_reducible refine' Mine.w_trunc_q ?hA ?hx ?_; (case hA => k_dflt (exact rfl)); (case hx => with_reducible assumption); k_whole; intro r hr; (try dsimp only))
  | (with_reducible refine' Mine.w_trunc_n ?hA ?hx ?hb ?_; (case hA => k_dflt (exact rfl)); (case hx => with_reducible assumption); (case hb => k_dflt omega); k_whole; intro r hr; (try dsimp only)))))
local macro_rules | `(tactic| walk_at "call type:int") => `(tactic| (k_here; (with_reducible show wpAny _ _ (call _ [Value.float _ _]) _ _ _); ((with_reducible refine' Mine.w_int_h ?hA ?hx ?hb ?_; (case hA => k_dflt (exact rfl)); (case hx => with_reducible assumption); (case hb => k_dflt omega); k_whole; intro r hr; (try dsimp only)))))
local macro_rules | `(tactic| walk_at "compareOp Eq float float") => `(tactic| (k_here; (with_reducible show wpAny _ _ (compareOp _ (Value.float _ _) (Value.float _ _)) _ _ _); ((with_reducible refine' Mine.w_eq_ff ?hx ?hy ?_; (case hx => with_reducible first | assumption | exact Mine.hf_epoch | exact Mine.hf_half | exact Mine.hf_1524 | exact Mine.hf_pos | exact Mine.hf_1_5); (case hy => with_reducible first | assumption | exact Mine.hf_epoch | exact Mine.hf_half | exact Mine.hf_1524 | exact Mine.hf_pos | exact Mine.hf_1_5); k_whole; skip; (try dsimp only)))))
local macro_rules | `(tactic| walk_at "compareOp NotEq float float") => `(tactic| (k_here; (with_reducible show wpAny _ _ (compareOp _ (Value.float _ _) (Value.float _ _)) _ _ _); ((with_reducible refine' Mine.w_ne_ff ?hx ?hy ?_; (case hx => with_reducible first | assumption | exact Mine.hf_epoch | exact Mine.hf_half | exact Mine.hf_1524 | exact Mine.hf_pos | exact Mine.hf_1_5); (case hy => with_reducible first | assumption | exact Mine.hf_epoch | exact Mine.hf_half | exact Mine.hf_1524 | exact Mine.hf_pos | exact Mine.hf_1_5); k_whole; skip; (try dsimp only)))))
local macro_rules | `(tactic| walk_at "compareOp GtE float float") => `(tactic| (k_here; (with_reducible show wpAny _ _ (compareOp _ (Value.float _ _) (Value.float _ _)) _ _ _); ((with_reducible refine' Mine.w_ge_ff ?hx ?hy ?_; (case hx => with_reducible first | assumption | exact Mine.hf_epoch | exact Mine.hf_half | exact Mine.hf_1524 | exact Mine.hf_pos | exact Mine.hf_1_5); (case hy => with_reducible first | assumption | exact Mine.hf_epoch | exact Mine.hf_half | exact Mine.hf_1524 | exact Mine.hf_pos | exact Mine.hf_1_5); k_whole; skip; (try dsimp only)))))
local macro_rules | `(tactic| walk_at "compareOp Lt float int") => `(tactic| (k_here; (with_reducible show wpAny _ _ (compareOp _ (Value.float _ _) (Value.int _ _)) _ _ _); ((with_reducible refine' Mine.w_lt_fi ?hx ?_; (case hx => with_reducible first | assumption | exact Mine.hf_epoch | exact Mine.hf_half | exact Mine.hf_1524 | exact Mine.hf_pos | exact Mine.hf_1_5); k_whole; skip; (try dsimp only)))))
local macro_rules | `(tactic| walk_at "ite") => `(tactic| (k_here; k_openite; first | (refine ite_pos (by with_reducible assumption) ?_; walk_say "PRUNED") | (refine ite_neg (by with_reducible assumption) ?_; walk_say "PRUNED") | (refine ite_isFalse (by with_reducible assumption) ?_; walk_say "PRUNED") | (refine ite_pos (by with_reducible (first | omega | (simp only [beq_iff_eq]; omega) | (simp only [decide_eq_true_eq]; omega) | (simp only [Bool.not_eq_true', decide_eq_false_iff_not]; omega) | (simp only [bne_iff_ne, ne_eq]; omega) | (simp only [Bool.not_eq_true', beq_eq_false_iff_ne, ne_eq]; omega) | (simp only [Bool.and_eq_true, Bool.or_eq_true, decide_eq_true_eq, beq_iff_eq, bne_iff_ne, Bool.not_eq_true', decide_eq_false_iff_not]; omega))) ?_; walk_say "PRUNED MINE") | (refine ite_neg (by with_reducible (first | omega | (simp only [beq_iff_eq]; omega) | (simp only [decide_eq_true_eq]; omega) | (simp only [Bool.not_eq_true', decide_eq_false_iff_not]; omega) | (simp only [bne_iff_ne, ne_eq]; omega) | (simp only [Bool.not_eq_true', beq_eq_false_iff_ne, ne_eq]; omega) | (simp only [Bool.and_eq_true, Bool.or_eq_true, decide_eq_true_eq, beq_iff_eq, bne_iff_ne, Bool.not_eq_true', decide_eq_false_iff_not]; omega))) ?_; walk_say "PRUNED MINE")))
local macro_rules | `(tactic| walk_at "ite") => `(tactic| (k_here; k_openite; first | (refine Mine.split_leap1 (by with_reducible assumption) (by with_reducible assumption) ?_) | (refine Mine.split_leap0 (by with_reducible assumption) (by with_reducible assumption) ?_) | (refine Mine.split_leap (by with_reducible assumption) ?_ ?_ <;> intro hl) | (refine Mine.split_jl (by with_reducible assumption) ?_ ?_ <;> intro hl)))
local macro_rules | `(tactic| walk_at "binaryOp Add int bool") => `(tactic| (k_here; with_reducible refine' Mine.w_add_ib ?k1 ?_; (case k1 => with_reducible assumption); k_whole; (try dsimp only)))
local macro_rules | `(tactic| walk_at "binaryOp Sub int bool") => `(tactic| (k_here; with_reducible refine' Mine.w_sub_ib ?k1 ?_; (case k1 => with_reducible assumption); k_whole; (try dsimp only)))
local macro_rules | `(tactic| walk_at "execs cons If") => `(tactic| (k_here; (with_reducible rename Mine.JMark _ _ => hj9); (with_reducible rename Fr _ _ _ _ => F0); (with_reducible rename News _ _ _ _ => N0); k_dflt (refine' Mine.join hj9 F0 N0 ?_ ?_; rotate_left; clear hj9; intro t9 h9 tk9 F9 N9; (try k_sweep); (try dsimp only); (try k_fold); rotate_left; clear hj9; (try dsimp only); (try k_fold))))
local macro_rules | `(tactic| walk_at "JEnd") => `(tactic| ((with_reducible rename Fr _ _ _ _ => F0); (with_reducible rename News _ _ _ _ => N0); k_dflt (first | (refine' Mine.jend_store F0 N0 ?_; k_whole) | (refine' Mine.jend_keep ?hm F0 N0 ?_; (case hm => rfl); k_whole)); first | assumption | omega | (unfold Mine.mlen; (repeat' split) <;> omega) | (unfold Mine.adj; (repeat' split) <;> omega) | tb_rel | tb_start))
local macro_rules | `(tactic| walk_at "execs cons If") => `(tactic| (k_here; (with_reducible rename Mine.JMark2 _ _ _ _ => hj9); (with_reducible rename Fr _ _ _ _ => F0); (with_reducible rename News _ _ _ _ => N0); k_dflt (refine' Mine.join2 hj9 F0 N0 ?_ ?_; rotate_left; clear hj9; intro t9 u9 h9 tk9 F9 N9; (try k_sweep); (try dsimp only); (try k_fold); rotate_left; clear hj9; (try dsimp only); (try k_fold))))
local macro_rules | `(tactic| walk_at "JEnd2") => `(tactic| ((with_reducible rename Fr _ _ _ _ => F0); (with_reducible rename News _ _ _ _ => N0); k_dflt (first | (refine' Mine.jend2_store F0 N0 ?_; k_whole) | (refine' Mine.jend2_keep ?hm ?hm2 F0 N0 ?_; (case hm => rfl); (case hm2 => rfl); k_whole)); (refine ⟨?_, ?_⟩) <;> (first | omega | (unfold Mine.yj; (repeat' split) <;> omega) | (unfold Mine.mj; (repeat' split) <;> omega))))
local macro_rules | `(tactic| walk_at "compareOp In int ref") => `(tactic| (k_here; k_dflt (refine' Mine.w_in30 ?k1 ?k2 ?k3 ?_; (case k1 => k_asm); (case k2 => k_asm); (case k3 => k_is))))
local macro_rules | `(tactic| walk_at "subscriptTail Name Constant ref int") => `(tactic| (k_here; (with_reducible show wpAny _ _ (subscriptTail _ _ (Value.ref _) (Value.int _ _)) _ _ _); k_dflt (refine' Mine.w_num ?k1 ?k2 ?k4 ?_; (case k1 => is_list); (case k2 => l_ints); (case k4 => (simp; omega)); k_whole; intro r t hn hr)))

/-- the law's own text, from a statement on, and its scope -/
def lawDef : Option Stmt := (PySem.Challenge.pw_ak5020_01.main.body.drop 67).head?
def lawRest (k : Nat) : List Stmt := match lawDef with
  | some (.FunctionDef _ _ b _ _ _ _ _ _ _) => b.drop k
  | _ => []
def lawScope : Scope := match lawDef with
  | some (.FunctionDef _ _ _ _ _ _ sc _ _ _) => sc
  | _ => PySem.Challenge.pw_ak5020_01.main.scope
abbrev lawEnv (s1 : Shared) (fa : Addr) (cdv : Value) : Env := envOf (Str.ofString "law") lawScope s1.heap.objs.size fa cdv
theorem fr_name {h₀ h : Heap} {L : Addr} {m : Str → Option Value} {x : Str} {v : Value} (F : Fr h₀ L h m) (hm : m x = some v) : Fr h₀ L h (fun y => if y = x then some v else m y) := by
  have e : (fun y => if y = x then some v else m y) = m := by
    funext z
    by_cases h : z = x
    · subst h; rw [if_pos rfl]; exact hm.symm
    · rw [if_neg h]
  rw [e]; exact F
theorem name_behind {m : Str → Option Value} {x y : Str} {v w : Value} (hm : m x = some v) (hn : x ≠ y) : (fun z => if z = y then some w else m z) x = some v := by
  show (if x = y then some w else m x) = some v
  rw [if_neg hn]; exact hm
local macro_rules | `(tactic| walk_at "call ref") => `(tactic| (k_here; (with_reducible show wpAny _ _ (call (Value.ref 78) _) _ _ _); k_dflt (refine' Mine.Claim.use (Mine.g_from_jd_gregorian _ ?p1 ?p2 ?p3) ?k1 ?k2 ?k3 ?k4 ?k5 ?k6 ?k7 ?k8 ?_; (case p1 => assumption); (case p2 => assumption); (case p3 => omega); (case k1 => k_asm); (case k2 => k_asm); (case k3 => k_asm); (case k4 => k_asm); (case k5 => k_asm); (case k6 => first | exact rfl | assumption); (case k7 => ktr_room); (case k8 => ktr_units); k_whole; (try dsimp only [Mine.RetB, Mine.RetI, Mine.RetH, Mine.Ret2, Mine.Ret2E, Mine.Ret3, Mine.RetHE, Mine.RetBE]); intro D9 a9 b9 c9 t1 t2 t3 k9 h9 tk9 e1 e2 e3 F9 N1 N2; subst e1; subst e2; subst e3; have N9 := Mine.news_cons N1 N2; clear N1 N2; (try dsimp only); (try k_fold))))
local macro_rules | `(tactic| walk_at "call ref") => `(tactic| (k_here; (with_reducible show wpAny _ _ (call (Value.ref 92) _) _ _ _); k_dflt (refine' Mine.Claim.use (Mine.g_from_jd_ordinal _ ?p1 ?p2 ?p3) ?k1 ?k2 ?k3 ?k4 ?k5 ?k6 ?k7 ?k8 ?_; (case p1 => assumption); (case p2 => assumption); (case p3 => omega); (case k1 => k_asm); (case k2 => k_asm); (case k3 => k_asm); (case k4 => k_asm); (case k5 => k_asm); (case k6 => first | exact rfl | assumption); (case k7 => ktr_room); (case k8 => ktr_units); k_whole; (try dsimp only [Mine.RetB, Mine.RetI, Mine.RetH, Mine.Ret2, Mine.Ret2E, Mine.Ret3, Mine.RetHE, Mine.RetBE]); intro D9 a9 b9 t1 t2 k9 h9 tk9 e1 e2 F9 N1 N2; subst e1; subst e2; have N9 := Mine.news_cons N1 N2; clear N1 N2; (try dsimp only); (try k_fold))))
local macro_rules | `(tactic| walk_at "call ref") => `(tactic| (k_here; (with_reducible show wpAny _ _ (call (Value.ref 85) _) _ _ _); k_dflt (refine' Mine.Claim.use (Mine.g_to_jd_ordinal _ ?p1 ?p2) ?k1 ?k2 ?k3 ?k4 ?k5 ?k6 ?k7 ?k8 ?_; (case p1 => assumption); (case p2 => omega); (case k1 => k_asm); (case k2 => k_asm); (case k3 => k_asm); (case k4 => k_asm); (case k5 => k_asm); (case k6 => first | exact rfl | assumption); (case k7 => ktr_room); (case k8 => ktr_units); k_whole; (try dsimp only [Mine.RetB, Mine.RetI, Mine.RetH, Mine.Ret2, Mine.Ret2E, Mine.Ret3, Mine.RetHE, Mine.RetBE]); intro z q t9 h9 tk9 z9 e9 F9 N9; subst e9; (try dsimp only); (try k_fold))))
local macro_rules | `(tactic| walk_at "call ref") => `(tactic| (k_here; (with_reducible show wpAny _ _ (call (Value.ref 99) _) _ _ _); k_dflt (refine' Mine.Claim.use (Mine.g_from_gregorian_ordinal _ ?p1) ?k1 ?k2 ?k3 ?k4 ?k5 ?k6 ?k7 ?k8 ?_; (case p1 => assumption); (case k1 => k_asm); (case k2 => k_asm); (case k3 => k_asm); (case k4 => k_asm); (case k5 => k_asm); (case k6 => first | exact rfl | assumption); (case k7 => ktr_room); (case k8 => ktr_units); k_whole; (try dsimp only [Mine.RetB, Mine.RetI, Mine.RetH, Mine.Ret2, Mine.Ret2E, Mine.Ret3, Mine.RetHE, Mine.RetBE]); intro D9 a9 b9 t1 t2 k9 h9 tk9 e1 e2 F9 N1 N2; subst e1; subst e2; have N9 := Mine.news_cons N1 N2; clear N1 N2; (try dsimp only); (try k_fold))))
local macro_rules | `(tactic| walk_at "call ref") => `(tactic| (k_here; (with_reducible show wpAny _ _ (call (Value.ref 106) _) _ _ _); k_dflt (refine' Mine.Claim.use (Mine.g_to_gregorian_ordinal _ ?p1 ?p2) ?k1 ?k2 ?k3 ?k4 ?k5 ?k6 ?k7 ?k8 ?_; (case p1 => assumption); (case p2 => omega); (case k1 => k_asm); (case k2 => k_asm); (case k3 => k_asm); (case k4 => k_asm); (case k5 => k_asm); (case k6 => first | exact rfl | assumption); (case k7 => ktr_room); (case k8 => ktr_units); k_whole; (try dsimp only [Mine.RetB, Mine.RetI, Mine.RetH, Mine.Ret2, Mine.Ret2E, Mine.Ret3, Mine.RetHE, Mine.RetBE]); intro D9 a9 b9 c9 t1 t2 t3 k9 h9 tk9 e1 e2 e3 F9 N1 N2; subst e1; subst e2; subst e3; have N9 := Mine.news_cons N1 N2; clear N1 N2; (try dsimp only); (try k_fold))))
local macro_rules | `(tactic| walk_at "call ref") => `(tactic| (k_here; (with_reducible show wpAny _ _ (call (Value.ref 64) _) _ _ _); k_dflt (refine' Mine.Claim.use (Mine.g_to_jd2 _ ?p1) ?k1 ?k2 ?k3 ?k4 ?k5 ?k6 ?k7 ?k8 ?_; (case p1 => assumption); (case k1 => k_asm); (case k2 => k_asm); (case k3 => k_asm); (case k4 => k_asm); (case k5 => k_asm); (case k6 => first | exact rfl | assumption); (case k7 => ktr_room); (case k8 => ktr_units); k_whole; (try dsimp only [Mine.RetB, Mine.RetI, Mine.RetH, Mine.Ret2, Mine.Ret2E, Mine.Ret3, Mine.RetHE, Mine.RetBE]); intro z q t9 h9 tk9 z9 e9 F9 N9; subst e9; (try dsimp only); (try k_fold))))
local macro_rules | `(tactic| walk_at "call ref") => `(tactic| (k_here; (with_reducible show wpAny _ _ (call (Value.ref 71) _) _ _ _); k_dflt (refine' Mine.Claim.use (Mine.g_to_jd_gregorian _ ?p1) ?k1 ?k2 ?k3 ?k4 ?k5 ?k6 ?k7 ?k8 ?_; (case p1 => assumption); (case k1 => k_asm); (case k2 => k_asm); (case k3 => k_asm); (case k4 => k_asm); (case k5 => k_asm); (case k6 => first | exact rfl | assumption); (case k7 => ktr_room); (case k8 => ktr_units); k_whole; (try dsimp only [Mine.RetB, Mine.RetI, Mine.RetH, Mine.Ret2, Mine.Ret2E, Mine.Ret3, Mine.RetHE, Mine.RetBE]); intro z q t9 h9 tk9 z9 e9 F9 N9; subst e9; (try dsimp only); (try k_fold))))
local macro_rules | `(tactic| walk_at "call ref") => `(tactic| (k_here; (with_reducible show wpAny _ _ (call (Value.ref 142) _) _ _ _); k_dflt (refine' Mine.Claim.use (Mine.g_to_jd_julian _ ?p1) ?k1 ?k2 ?k3 ?k4 ?k5 ?k6 ?k7 ?k8 ?_; (case p1 => assumption); (case k1 => k_asm); (case k2 => k_asm); (case k3 => k_asm); (case k4 => k_asm); (case k5 => k_asm); (case k6 => first | exact rfl | assumption); (case k7 => ktr_room); (case k8 => ktr_units); k_whole; (try dsimp only [Mine.RetB, Mine.RetI, Mine.RetH, Mine.Ret2, Mine.Ret2E, Mine.Ret3, Mine.RetHE, Mine.RetBE]); intro z q t9 h9 tk9 z9 e9 F9 N9; subst e9; (try dsimp only); (try k_fold))))
local macro_rules | `(tactic| walk_at "call ref") => `(tactic| (k_here; (with_reducible show wpAny _ _ (call (Value.ref 135) _) _ _ _); k_dflt (refine' Mine.Claim.use (Mine.g_from_jd_julian _ ?p1 ?p2 ?p3) ?k1 ?k2 ?k3 ?k4 ?k5 ?k6 ?k7 ?k8 ?_; (case p1 => assumption); (case p2 => assumption); (case p3 => omega); (case k1 => k_asm); (case k2 => k_asm); (case k3 => k_asm); (case k4 => k_asm); (case k5 => k_asm); (case k6 => first | exact rfl | assumption); (case k7 => ktr_room); (case k8 => ktr_units); k_whole; (try dsimp only [Mine.RetB, Mine.RetI, Mine.RetH, Mine.Ret2, Mine.Ret2E, Mine.Ret3, Mine.RetHE, Mine.RetBE]); intro D9 a9 b9 c9 t1 t2 t3 k9 h9 tk9 e1 e2 e3 F9 N1 N2; subst e1; subst e2; subst e3; have N9 := Mine.news_cons N1 N2; clear N1 N2; (try dsimp only); (try k_fold))))
local macro_rules | `(tactic| walk_at "call ref") => `(tactic| (k_here; (with_reducible show wpAny _ _ (call (Value.ref 247) _) _ _ _); k_dflt (refine' Mine.Claim.use (Mine.g_to_jd_positivist _ ?p1 ?p2 ?p3 ?p4 ?p5) ?k1 ?k2 ?k3 ?k4 ?k5 ?k6 ?k7 ?k8 ?_; (case p1 => assumption); (case p2 => omega); (case p3 => omega); (case p4 => omega); (case p5 => omega); (case k1 => k_asm); (case k2 => k_asm); (case k3 => k_asm); (case k4 => k_asm); (case k5 => k_asm); (case k6 => first | exact rfl | assumption); (case k7 => ktr_room); (case k8 => ktr_units); k_whole; (try dsimp only [Mine.RetB, Mine.RetI, Mine.RetH, Mine.Ret2, Mine.Ret2E, Mine.Ret3, Mine.RetHE, Mine.RetBE]); intro z q t9 h9 tk9 z9 e9 F9 N9; subst e9; (try dsimp only); (try k_fold))))
local macro_rules | `(tactic| walk_at "call ref") => `(tactic| (k_here; (with_reducible show wpAny _ _ (call (Value.ref 254) _) _ _ _); k_dflt (refine' Mine.Claim.use (Mine.g_from_jd_positivist _ ?p1 ?p2 ?p3 ?p4 ?p5) ?k1 ?k2 ?k3 ?k4 ?k5 ?k6 ?k7 ?k8 ?_; (case p1 => assumption); (case p2 => omega); (case p3 => first | assumption | omega); (case p4 => assumption); (case p5 => omega); (case k1 => k_asm); (case k2 => k_asm); (case k3 => k_asm); (case k4 => k_asm); (case k5 => k_asm); (case k6 => first | exact rfl | assumption); (case k7 => ktr_room); (case k8 => ktr_units); k_whole; (try dsimp only [Mine.RetB, Mine.RetI, Mine.RetH, Mine.Ret2, Mine.Ret2E, Mine.Ret3, Mine.RetHE, Mine.RetBE]); intro D9 a9 b9 c9 t1 t2 t3 k9 h9 tk9 e1 e2 e3 F9 N1 N2; subst e1; subst e2; subst e3; have N9 := Mine.news_cons N1 N2; clear N1 N2; (try dsimp only); (try k_fold))))
local macro_rules | `(tactic| walk_at "call ref") => `(tactic| (k_here; (with_reducible show wpAny _ _ (call (Value.ref 275) _) _ _ _); k_dflt (refine' Mine.Claim.use (Mine.c_law_first _ _ _) ?k1 ?k2 ?k3 ?k4 ?k5 ?k6 ?k7 ?k8 ?_; (case k1 => k_asm); (case k2 => k_asm); (case k3 => k_asm); (case k4 => k_asm); (case k5 => k_asm); (case k6 => first | exact rfl | assumption); (case k7 => ktr_room); (case k8 => ktr_units); k_whole; (try dsimp only [Mine.RetB, Mine.RetI, Mine.RetH, Mine.Ret2, Mine.Ret2E, Mine.Ret3, Mine.RetHE, Mine.RetBE]); intro v t9 h9 tk9 e9 F9 N9; subst e9; (try dsimp only); (try k_fold))))
local macro_rules | `(tactic| walk_at "call ref") => `(tactic| (k_here; (with_reducible show wpAny _ _ (call (Value.ref 289) _) _ _ _); k_dflt (refine' Mine.Claim.use (Mine.c_law_gregorian _ _ _ ?p1) ?k1 ?k2 ?k3 ?k4 ?k5 ?k6 ?k7 ?k8 ?_; (case p1 => omega); (case k1 => k_asm); (case k2 => k_asm); (case k3 => k_asm); (case k4 => k_asm); (case k5 => k_asm); (case k6 => first | exact rfl | assumption); (case k7 => ktr_room); (case k8 => ktr_units); k_whole; (try dsimp only [Mine.RetB, Mine.RetI, Mine.RetH, Mine.Ret2, Mine.Ret2E, Mine.Ret3, Mine.RetHE, Mine.RetBE]); (try dsimp only [Mine.RetG]); intro D9 a9 b9 c9 t1 t2 t3 k9 h9 tk9 q1 q2 q3 F9 N1 N2; have N9 := Mine.news_cons N1 N2; clear N1 N2; (try clear hGD hpl); have hGD := Mine.GD.mk (by omega) q1 q2 q3; have hpl := Mine.GD.place hGD; clear q1 q2 q3; (try dsimp only); (try k_fold))))
local macro_rules | `(tactic| walk_at "call ref") => `(tactic| (k_here; (with_reducible show wpAny _ _ (call (Value.ref 296) _) _ _ _); k_dflt (refine' Mine.Claim.use (Mine.c_law_julian _ _ _ ?p1) ?k1 ?k2 ?k3 ?k4 ?k5 ?k6 ?k7 ?k8 ?_; (case p1 => omega); (case k1 => k_asm); (case k2 => k_asm); (case k3 => k_asm); (case k4 => k_asm); (case k5 => k_asm); (case k6 => first | exact rfl | assumption); (case k7 => ktr_room); (case k8 => ktr_units); k_whole; (try dsimp only [Mine.RetB, Mine.RetI, Mine.RetH, Mine.Ret2, Mine.Ret2E, Mine.Ret3, Mine.RetHE, Mine.RetBE]); (try dsimp only [Mine.RetJ]); intro D9 a9 b9 c9 t1 t2 t3 k9 h9 tk9 q1 q2 q3 F9 N1 N2; have N9 := Mine.news_cons N1 N2; clear N1 N2; have hJD := Mine.JD.mk (by omega) q1 q2 q3; clear q1 q2 q3; (try dsimp only); (try k_fold))))
local macro_rules | `(tactic| walk_at "execs cons If") => `(tactic| (k_here; (with_reducible show wpAny _ _ (execs (Stmt.If (Expr.BoolOp BoolOp.Or _ _) _ _ _ :: _) _) _ _ _); (with_reducible rename Fr _ _ _ _ => F0); (with_reducible rename News _ _ _ _ => N0); k_dflt (refine' Mine.join0 F0 N0 ?_ ?_; rotate_left; intro h9 tk9 F9 N9; (try k_sweep); (try dsimp only); (try k_fold); rotate_left; (try dsimp only); (try k_fold))))
local macro_rules | `(tactic| walk_at "JEnd0") => `(tactic| ((with_reducible rename Fr _ _ _ _ => F0); (with_reducible rename News _ _ _ _ => N0); k_dflt (refine' Mine.jend0 F0 N0 ?_); (intro p hp; first | exact hp | exact .tail _ hp | exact .tail _ (.tail _ hp) | exact .tail _ (.tail _ (.tail _ hp)) | exact .tail _ (.tail _ (.tail _ (.tail _ hp))) | exact .tail _ (.tail _ (.tail _ (.tail _ (.tail _ hp)))) | exact .tail _ (.tail _ (.tail _ (.tail _ (.tail _ (.tail _ hp))))))))
local macro_rules | `(tactic| walk_at "compareOp NotEq float float") => `(tactic| (k_here; (with_reducible show wpAny _ _ (compareOp _ (Value.float _ _) (Value.float _ _)) _ _ _); (with_reducible refine' Mine.w_ne_ff0 ?hx ?hy ?he ?_; (case hx => with_reducible first | assumption | exact Mine.hf_epoch | exact Mine.hf_half | exact Mine.hf_1524 | exact Mine.hf_pos | exact Mine.hf_1_5); (case hy => with_reducible first | assumption | exact Mine.hf_epoch | exact Mine.hf_half | exact Mine.hf_1524 | exact Mine.hf_pos | exact Mine.hf_1_5); (case he => k_dflt omega); k_whole; (try dsimp only))))
local macro_rules | `(tactic| walk_at "binaryOp FloorDiv int int") => `(tactic| (k_here; (with_reducible show wpAny _ _ (binaryOp _ (Value.int _ _) (Value.int 28 _)) _ _ _); with_reducible refine' Mine.w_fdiv28 ?_; k_whole; intro r hr; (try dsimp only)))
local macro_rules | `(tactic| walk_at "binaryOp Mod int int") => `(tactic| (k_here; (with_reducible show wpAny _ _ (binaryOp _ (Value.int _ _) (Value.int 28 _)) _ _ _); with_reducible refine' Mine.w_mod_ii ?k1 ?_; (case k1 => decide); k_whole; intro r hr; (try dsimp only)))
local macro_rules | `(tactic| walk_at "binaryOp Mod int int") => `(tactic| (k_here; (with_reducible show wpAny _ _ (binaryOp _ (Value.int _ _) (Value.int 17 _)) _ _ _); with_reducible refine' Mine.w_mod_ii ?k1 ?_; (case k1 => decide); k_whole; intro r hr; (try dsimp only)))
local macro_rules | `(tactic| walk_at "binaryOp Mod int int") => `(tactic| (k_here; (with_reducible show wpAny _ _ (binaryOp _ (Value.int _ _) (Value.int 31 _)) _ _ _); with_reducible refine' Mine.w_mod_ii ?k1 ?_; (case k1 => decide); k_whole; intro r hr; (try dsimp only)))
local macro_rules | `(tactic| walk_at "binaryOp Mod int int") => `(tactic| (k_here; (with_reducible show wpAny _ _ (binaryOp _ (Value.int _ _) (Value.int 400 _)) _ _ _); with_reducible refine' Mine.w_mod_ii ?k1 ?_; (case k1 => decide); k_whole; intro r hr; (try dsimp only)))
local macro_rules | `(tactic| walk_at "execs cons If") => `(tactic| (k_here; (with_reducible show wpAny _ _ (execs (Stmt.If (Expr.BoolOp BoolOp.And _ _) _ _ _ :: _) _) _ _ _); (with_reducible rename Fr _ _ _ _ => F0); k_dflt (refine' Mine.legal_split F0 ?hy ?hm ?hd ?_ ?_; (case hy => rfl); (case hm => rfl); (case hd => rfl); rotate_left; (intro hI; have hI2 := Mine.Illegal.cases hI; have hP := Mine.Illegal.plen hI; have hN := Mine.Illegal.next hI); rotate_left; (intro hI; have hI2 := Mine.Legal.all hI; have hP := Mine.Legal.plen hI; have hN := Mine.Legal.next hI; have hY := Mine.Legal.yb hI (by omega)))))
local macro_rules | `(tactic| walk_at "execs cons If") => `(tactic| (k_here; (with_reducible show wpAny _ _ (execs (Stmt.If (Expr.BoolOp BoolOp.And _ _) _ _ _ :: _) _) _ _ _); (with_reducible rename Mine.Illegal _ _ _ => hI9); (with_reducible rename Fr _ _ _ _ => F0); (with_reducible rename News _ _ _ _ => N0); k_dflt (refine' Mine.join0 F0 N0 ?_ ?_; rotate_left; intro h9 tk9 F9 N9; (try k_sweep); (try dsimp only); (try k_fold); rotate_left; (try dsimp only); (try k_fold))))
local macro_rules | `(tactic| walk_at "execs cons If") => `(tactic| (k_here; (with_reducible show wpAny _ _ (execs (Stmt.If (Expr.BoolOp BoolOp.And _ _) _ _ _ :: _) _) _ _ _); (with_reducible rename Mine.Legal _ _ _ => hL9); (with_reducible rename Fr _ _ _ _ => F0); (with_reducible rename News _ _ _ _ => N0); k_dflt (refine' Mine.joinF hL9 F0 N0 ?_ ?_; rotate_left; intro z9 t9 h9 tk9 hz9 F9 N9; (try k_sweep); (try dsimp only); (try k_fold); rotate_left; (try dsimp only); (try k_fold))))
local macro_rules | `(tactic| walk_at "JEndF") => `(tactic| ((with_reducible rename Fr _ _ _ _ => F0); (with_reducible rename News _ _ _ _ => N0); k_dflt (refine' Mine.jendF F0 N0 ?hz ?he ?_; (case hz => with_reducible assumption)); (case he => omega); (intro p hp; first | exact hp | exact .tail _ hp | exact .tail _ (.tail _ hp) | exact .tail _ (.tail _ (.tail _ hp)) | exact .tail _ (.tail _ (.tail _ (.tail _ hp))) | exact .tail _ (.tail _ (.tail _ (.tail _ (.tail _ hp)))) | exact .tail _ (.tail _ (.tail _ (.tail _ (.tail _ (.tail _ hp))))))))
local macro_rules | `(tactic| walk_at "LawEnd") => `(tactic| ((with_reducible rename Fr _ _ _ _ => F0); exact Mine.law_end F0 (by first | rfl | decide)))
local macro_rules | `(tactic| walk_at "call ref") => `(tactic| (k_here; (with_reducible show wpAny _ _ (call (Value.ref 303) _) _ _ _); k_dflt (refine' Mine.ClaimL.use (Mine.asked0 _ _ _ _ _ _ _ ?p1 ?p2) ?k1 ?k2 ?k3 ?k4 ?k5 ?k7 ?_; (case p1 => assumption); (case p2 => omega); (case k1 => assumption); (case k2 => k_asm); (case k3 => k_asm); (case k4 => k_asm); (case k5 => k_asm); (case k7 => first | exact rfl | assumption); k_whole; (try dsimp only [Mine.RetH, Mine.RetS]); intro t9 h9 tk9 F9 N9; (try dsimp only); (try k_fold))))
local macro_rules | `(tactic| walk_at "call ref") => `(tactic| (k_here; (with_reducible show wpAny _ _ (call (Value.ref 303) _) _ _ _); k_dflt (refine' Mine.ClaimL.use (Mine.asked1 _ _ _ _ _ _ _ _ ?p1 ?p2 ?p3 ?p4) ?k1 ?k2 ?k3 ?k4 ?k5 ?k7 ?_; (case p1 => assumption); (case p2 => omega); (case p3 => omega); (case p4 => omega); (case k1 => assumption); (case k2 => k_asm); (case k3 => k_asm); (case k4 => k_asm); (case k5 => k_asm); (case k7 => first | exact rfl | assumption); k_whole; (try dsimp only [Mine.RetH, Mine.RetS]); intro t9 h9 tk9 F9 N9; (try dsimp only); (try k_fold))))
local macro_rules | `(tactic| walk_at "call ref") => `(tactic| (k_here; (with_reducible show wpAny _ _ (call (Value.ref 303) _) _ _ _); k_dflt (refine' Mine.ClaimL.use (Mine.askedL _ _ _ _ _ _ _ _ ?p1 ?p2) ?k1 ?k2 ?k3 ?k4 ?k5 ?k7 ?_; (case p1 => assumption); (case p2 => omega); (case k1 => assumption); (case k2 => k_asm); (case k3 => k_asm); (case k4 => k_asm); (case k5 => k_asm); (case k7 => first | exact rfl | assumption); k_whole; (try dsimp only [Mine.RetH, Mine.RetS]); intro z q t9 h9 tk9 z9 e9 F9 N9; subst e9; (try dsimp only); (try k_fold))))

theorem law_C (w : World) {loose : List Str} {mean : ExcName → Option Value} {mg mb : Str → Option Value} {s1 : Shared} {fa : Addr} {cdv : Value} {h : Heap} {tk : Nat} {m0 : Str → Option Value} {l' : Addr} {ws : List Value} {ns : List Int}
    (KX : (hd.heap_39 w.params).In s1.heap) (T : Top hd.view_39 loose mean mg mb s1.heap) (K1 : Below callerA s1.heap [] s1.heap) (hi : IntsAre ws (numsE ns))
    (F : Fr s1.heap s1.heap.objs.size h (fun y => if y = Str.ofString "numbers" then some (.ref l') else m0 y)) (N : News s1.heap s1.heap.objs.size h [(l', listOf ws.toArray 0)]) :
    wpAny (model PP w) (callerA.deeper (lawEnv s1 fa cdv)) (execs (lawRest 15) (lawEnv s1 fa cdv)) (LawEnd s1) (fun _ _ => False) { s1 with heap := h, toks := tk } := by
  w_top off
  k_with_none
  have kfill : PySem.Challenge.rw_ak5020_01 = PySem.Challenge.rw_ak5020_01 ∧ hd.heap_39 = hd.heap_39 := by
    k_fill
    exact ⟨rfl, rfl⟩
  clear kfill
  dsimp only [lawEnv]
  conv in (execs _ _) => arg 1; whnf
  conv in (occs := *) lawScope => all_goals whnf
  all_goals (try k_fold)
  all_goals k_steps
theorem law_C_cut (w : World) {loose : List Str} {mean : ExcName → Option Value} {mg mb : Str → Option Value} {s1 : Shared} {fa : Addr} {cdv : Value} {h : Heap} {tk : Nat} {m0 : Str → Option Value} {l' : Addr} {ws : List Value} {ns : List Int} {news : List (Addr × Obj)}
    (KX : (hd.heap_39 w.params).In s1.heap) (T : Top hd.view_39 loose mean mg mb s1.heap) (K1 : Below callerA s1.heap [] s1.heap)
    (F : Fr s1.heap s1.heap.objs.size h m0) (N : News s1.heap s1.heap.objs.size h news) (hm : m0 (Str.ofString "numbers") = some (.ref l')) (hN : (l', listOf ws.toArray 0) ∈ news) (hi : IntsAre ws (numsE ns)) :
    wpAny (model PP w) (callerA.deeper (lawEnv s1 fa cdv)) (execs (lawRest 15) (lawEnv s1 fa cdv)) (LawEnd s1) (fun _ _ => False) { s1 with heap := h, toks := tk } :=
  law_C w KX T K1 hi (fr_name F hm) (news_one N hN)
end Mine

namespace Mine
open PySem.Flt
local macro_rules | `(tactic| walk_at "eval Call") => `(tactic| (k_here; (with_reducible show wpAny _ _ (eval (Expr.Call (Expr.Name _ _) _ [] _) _) _ _ _); k_dflt (refine Call_ ?_)))
local macro_rules | `(tactic| walk_at "binaryOp Add float float") => `(tactic| (k_here; (with_reducible show wpAny _ _ (binaryOp _ (Value.float _ _) (Value.float _ _)) _ _ _); ((with_reducible refine' Mine.w_add_ff ?hx ?hy ?hb ?_; (case hx => with_reducible first | assumption | exact Mine.hf_epoch | exact Mine.hf_half | exact Mine.hf_1524 | exact Mine.hf_pos | exact Mine.hf_1_5); (case hy => with_reducible first | assumption | exact Mine.hf_epoch | exact Mine.hf_half | exact Mine.hf_1524 | exact Mine.hf_pos | exact Mine.hf_1_5); (case hb => k_dflt omega); k_whole; intro z hz; (try dsimp only)))))
local macro_rules | `(tactic| walk_at "inplaceOp Add float float") => `(tactic| (k_here; (with_reducible show wpAny _ _ (inplaceOp _ (Value.float _ _) (Value.float _ _)) _ _ _); ((with_reducible refine' Mine.w_iadd_ff ?hx ?hy ?hb ?_; (case hx => with_reducible first | assumption | exact Mine.hf_epoch | exact Mine.hf_half | exact Mine.hf_1524 | exact Mine.hf_pos | exact Mine.hf_1_5); (case hy => with_reducible first | assumption | exact Mine.hf_epoch | exact Mine.hf_half | exact Mine.hf_1524 | exact Mine.hf_pos | exact Mine.hf_1_5); (case hb => k_dflt omega); k_whole; intro z hz; (try dsimp only)))))
local macro_rules | `(tactic| walk_at "binaryOp Sub float float") => `(tactic| (k_here; (with_reducible show wpAny _ _ (binaryOp _ (Value.float _ _) (Value.float _ _)) _ _ _); ((with_reducible refine' Mine.w_sub_ff ?hx ?hy ?hb ?_; (case hx => with_reducible first | assumption | exact Mine.hf_epoch | exact Mine.hf_half | exact Mine.hf_1524 | exact Mine.hf_pos | exact Mine.hf_1_5); (case hy => with_reducible first | assumption | exact Mine.hf_epoch | exact Mine.hf_half | exact Mine.hf_1524 | exact Mine.hf_pos | exact Mine.hf_1_5); (case hb => k_dflt omega); k_whole; intro z hz; (try dsimp only)))))
local macro_rules | `(tactic| walk_at "binaryOp Add float int") => `(tactic| (k_here; (with_reducible show wpAny _ _ (binaryOp _ (Value.float _ _) (Value.int _ _)) _ _ _); (first
  | (with_reducible refine' Mine.w_add_fi ?hA ?hx ?hb ?_; (case hA => k_dflt (exact rfl)); (case hx => with_reducible first | assumption | exact Mine.hf_epoch | exact Mine.hf_half | exact Mine.hf_1524 | exact Mine.hf_pos | exact Mine.hf_1_5); (case hb => k_dflt omega); k_whole; intro z hz; (try dsimp only))
  | (with_reducible refine' Mine.w_addn_fi ?hA ?hx ?hb ?_; (case hA => k_dflt (exact rfl)); (case hx => with_reducible assumption); (case hb => k_dflt omega); k_whole; intro z hz; (try dsimp only)))))
local macro_rules | `(tactic| walk_at "binaryOp Sub float int") => `(tactic| (k_here; (with_reducible show wpAny _ _ (binaryOp _ (Value.float _ _) (Value.int _ _)) _ _ _); ((with_reducible refine' Mine.w_sub_fi ?hA ?hx ?hb ?_; (case hA => k_dflt (exact rfl)); (case hx => with_reducible first | assumption | exact Mine.hf_epoch | exact Mine.hf_half | exact Mine.hf_1524 | exact Mine.hf_pos | exact Mine.hf_1_5); (case hb => k_dflt omega); k_whole; intro z hz; (try dsimp only)))))
local macro_rules | `(tactic| walk_at "binaryOp Add int float") => `(tactic| (k_here; (with_reducible show wpAny _ _ (binaryOp _ (Value.int _ _) (Value.float _ _)) _ _ _); ((with_reducible refine' Mine.w_add_if ?hA ?hx ?hb ?_; (case hA => k_dflt (exact rfl)); (case hx => with_reducible first | assumption | exact Mine.hf_epoch | exact Mine.hf_half | exact Mine.hf_1524 | exact Mine.hf_pos | exact Mine.hf_1_5); (case hb => k_dflt omega); k_whole; intro z hz; (try dsimp only)))))
local macro_rules | `(tactic| walk_at "binaryOp Sub int float") => `(tactic| (k_here; (with_reducible show wpAny _ _ (binaryOp _ (Value.int _ _) (Value.float _ _)) _ _ _); (first
  | (with_reducible refine' Mine.w_sub_122 ?hA ?hcc ?hb ?_; (case hcc => with_reducible rfl); (case hA => k_dflt (exact rfl)); (case hb => k_dflt omega); k_whole; intro z hz; (try dsimp only))
  | (with_reducible refine' Mine.w_sub_if ?hA ?hx ?hb ?_; (case hA => k_dflt (exact rfl)); (case hx => with_reducible first | assumption | exact Mine.hf_epoch | exact Mine.hf_half | exact Mine.hf_1524 | exact Mine.hf_pos | exact Mine.hf_1_5); (case hb => k_dflt omega); k_whole; intro z hz; (try dsimp only)))))
local macro_rules | `(tactic| walk_at "binaryOp Mult float int") => `(tactic| (k_here; (with_reducible show wpAny _ _ (binaryOp _ (Value.float _ _) (Value.int _ _)) _ _ _); (first
  | (with_reducible refine' Mine.w_mul_365 ?hA ?hcc ?hb ?_; (case hcc => with_reducible rfl); (case hA => k_dflt (exact rfl)); (case hb => k_dflt omega); k_whole; intro z hz; (try dsimp only))
  | (with_reducible refine' Mine.w_mul_306001 ?hA ?hcc ?hb ?_; (case hcc => with_reducible rfl); (case hA => k_dflt (exact rfl)); (case hb => k_dflt omega); k_whole; intro z hz; (try dsimp only))
  | (with_reducible refine' Mine.w_mul_306 ?hA ?hcc ?hb ?_; (case hcc => with_reducible rfl); (case hA => k_dflt (exact rfl)); (case hb => k_dflt omega); k_whole; intro z hz; (try dsimp only))
  | (with_reducible refine' Mine.w_mul_fi ?hA ?hx ?hb ?_; (case hA => k_dflt (exact rfl)); (case hx => with_reducible first | assumption | exact Mine.hf_epoch | exact Mine.hf_half | exact Mine.hf_1524 | exact Mine.hf_pos | exact Mine.hf_1_5); (case hb => k_dflt omega); k_whole; intro z hz; (try dsimp only)))))
local macro_rules | `(tactic| walk_at "binaryOp Mod float int") => `(tactic| (k_here; (with_reducible show wpAny _ _ (binaryOp _ (Value.float _ _) (Value.int _ _)) _ _ _); ((with_reducible refine' Mine.w_mod_fi ?hA ?hx ?hb ?_; (case hA => k_dflt (exact rfl)); (case hx => with_reducible first | assumption | exact Mine.hf_epoch | exact Mine.hf_half | exact Mine.hf_1524 | exact Mine.hf_pos | exact Mine.hf_1_5); (case hb => k_dflt omega); k_whole; intro z r hr hz; (try dsimp only)))))
local macro_rules | `(tactic| walk_at "binaryOp Div float int") => `(tactic| (k_here; (with_reducible show wpAny _ _ (binaryOp _ (Value.float _ _) (Value.int _ _)) _ _ _); ((with_reducible refine' Mine.w_div_fi ?hA ?hx ?hb ?_; (case hA => k_dflt (exact rfl)); (case hx => with_reducible first | assumption | exact Mine.hf_epoch | exact Mine.hf_half | exact Mine.hf_1524 | exact Mine.hf_pos | exact Mine.hf_1_5); (case hb => k_dflt omega); k_whole; intro z hz; (try dsimp only)))))
local macro_rules | `(tactic| walk_at "binaryOp Div int int") => `(tactic| (k_here; (with_reducible show wpAny _ _ (binaryOp _ (Value.int _ _) (Value.int _ _)) _ _ _); ((with_reducible refine' Mine.w_div_ii ?hA ?hb ?_; (case hA => k_dflt (exact rfl)); (case hb => k_dflt omega); k_whole; intro z hz; (try dsimp only)))))
local macro_rules | `(tactic| walk_at "binaryOp Div float float") => `(tactic| (k_here; (with_reducible show wpAny _ _ (binaryOp _ (Value.float _ _) (Value.float _ _)) _ _ _); ((with_reducible refine' Mine.w_div_365 ?hA ?hcc ?hx ?hb ?_; (case hcc => with_reducible rfl); (case hA => k_dflt (exact rfl)); (case hx => with_reducible assumption); (case hb => k_dflt omega); k_whole; intro z hz; (try dsimp only)))))
local macro_rules | `(tactic| walk_at "binaryOp Div int float") => `(tactic| (k_here; (with_reducible show wpAny _ _ (binaryOp _ (Value.int _ _) (Value.float _ _)) _ _ _); ((with_reducible refine' Mine.w_div_306001 ?hA ?hcc ?hb ?_; (case hcc => with_reducible rfl); (case hA => k_dflt (exact rfl)); (case hb => k_dflt omega); k_whole; intro z hz; (try dsimp only)))))
local macro_rules | `(tactic| walk_at "call builtin:math.floor") => `(tactic| (k_here; (with_reducible show wpAny _ _ (call _ [Value.float _ _]) _ _ _); (first
  | (with_reducible refine' Mine.w_floor_h ?hA ?hx ?_; (case hA => k_dflt (exact rfl)); (case hx => with_reducible assumption); k_whole; intro r hr; (try dsimp only))
  | (with_reducible refine' Mine.w_floor_n ?hA ?hx ?hb ?_; (case hA => k_dflt (exact rfl)); (case hx => with_reducible assumption); (case hb => k_dflt omega); k_whole; intro r hr; (try dsimp only))
  | (with_reducible refine' Mine.w_floor_q ?hA ?hx ?_; (case hA => k_dflt (exact rfl)); (case hx => with_reducible assumption); k_whole; intro r hr; (try dsimp only)))))
local macro_rules | `(tactic| walk_at "call builtin:math.trunc") => `(tactic| (k_here; (with_reducible show wpAny _ _ (call _ [Value.float _ _]) _ _ _); (first
  | (with_reducible refine' Mine.w_trunc_q ?hA ?hx ?_; (case hA => k_dflt (exact rfl)); (case hx => with_reducible assumption); k_whole; intro r hr; (try dsimp only))
  | (with_reducible refine' Mine.w_trunc_n ?hA ?hx ?hb ?_; (case hA => k_dflt (exact rfl)); (case hx => with_reducible assumption); (case hb => k_dflt omega); k_whole; intro r hr; (try dsimp only)))))
local macro_rules | `(tactic| walk_at "call type:int") => `(tactic| (k_here; (with_reducible show wpAny _ _ (call _ [Value.float _ _]) _ _ _); ((with_reducible refine' Mine.w_int_h ?hA ?hx ?hb ?_; (case hA => k_dflt (exact rfl)); (case hx => with_reducible assumption); (case hb => k_dflt omega); k_whole; intro r hr; (try dsimp only)))))
local macro_rules | `(tactic| walk_at "compareOp Eq float float") => `(tactic| (k_here; (with_reducible show wpAny _ _ (compareOp _ (Value.float _ _) (Value.float _ _)) _ _ _); ((with_reducible refine' Mine.w_eq_ff ?hx ?hy ?_; (case hx => with_reducible first | assumption | exact Mine.hf_epoch | exact Mine.hf_half | exact Mine.hf_1524 | exact Mine.hf_pos | exact Mine.hf_1_5); (case hy => with_reducible first | assumption | exact Mine.hf_epoch | exact Mine.hf_half | exact Mine.hf_1524 | exact Mine.hf_pos | exact Mine.hf_1_5); k_whole; skip; (try dsimp only)))))
local macro_rules | `(tactic| walk_at "compareOp NotEq float float") => `(tactic| (k_here; (with_reducible show wpAny _ _ (compareOp _ (Value.float _ _) (Value.float _ _)) _ _ _); ((with_reducible refine' Mine.w_ne_ff ?hx ?hy ?_; (case hx => with_reducible first | assumption | exact Mine.hf_epoch | exact Mine.hf_half | exact Mine.hf_1524 | exact Mine.hf_pos | exact Mine.hf_1_5); (case hy => with_reducible first | assumption | exact Mine.hf_epoch | exact Mine.hf_half | exact Mine.hf_1524 | exact Mine.hf_pos | exact Mine.hf_1_5); k_whole; skip; (try dsimp only)))))
local macro_rules | `(tactic| walk_at "compareOp GtE float float") => `(tactic| (k_here; (with_reducible show wpAny _ _ (compareOp _ (Value.float _ _) (Value.float _ _)) _ _ _); ((with_reducible refine' Mine.w_ge_ff ?hx ?hy ?_; (case hx => with_reducible first | assumption | exact Mine.hf_epoch | exact Mine.hf_half | exact Mine.hf_1524 | exact Mine.hf_pos | exact Mine.hf_1_5); (case hy => with_reducible first | assumption | exact Mine.hf_epoch | exact Mine.hf_half | exact Mine.hf_1524 | exact Mine.hf_pos | exact Mine.hf_1_5); k_whole; skip; (try dsimp only)))))
local macro_rules | `(tactic| walk_at "compareOp Lt float int") => `(tactic| (k_here; (with_reducible show wpAny _ _ (compareOp _ (Value.float _ _) (Value.int _ _)) _ _ _); ((with_reducible refine' Mine.w_lt_fi ?hx ?_; (case hx => with_reducible first | assumption | exact Mine.hf_epoch | exact Mine.hf_half | exact Mine.hf_1524 | exact Mine.hf_pos | exact Mine.hf_1_5); k_whole; skip; (try dsimp only)))))
local macro_rules | `(tactic| walk_at "ite") => `(tactic| (k_here; k_openite; first | (refine ite_pos (by with_reducible assumption) ?_; walk_say "PRUNED") | (refine ite_neg (by with_reducible assumption) ?_; walk_say "PRUNED") | (refine ite_isFalse (by with_reducible assumption) ?_; walk_say "PRUNED") | (refine ite_pos (by with_reducible (first | omega | (simp only [beq_iff_eq]; omega) | (simp only [decide_eq_true_eq]; omega) | (simp only [Bool.not_eq_true', decide_eq_false_iff_not]; omega) | (simp only [bne_iff_ne, ne_eq]; omega) | (simp only [Bool.not_eq_true', beq_eq_false_iff_ne, ne_eq]; omega) | (simp only [Bool.and_eq_true, Bool.or_eq_true, decide_eq_true_eq, beq_iff_eq, bne_iff_ne, Bool.not_eq_true', decide_eq_false_iff_not]; omega))) ?_; walk_say "PRUNED MINE") | (refine ite_neg (by with_reducible (first | omega | (simp only [beq_iff_eq]; omega) | (simp only [decide_eq_true_eq]; omega) | (simp only [Bool.not_eq_true', decide_eq_false_iff_not]; omega) | (simp only [bne_iff_ne, ne_eq]; omega) | (simp only [Bool.not_eq_true', beq_eq_false_iff_ne, ne_eq]; omega) | (simp only [Bool.and_eq_true, Bool.or_eq_true, decide_eq_true_eq, beq_iff_eq, bne_iff_ne, Bool.not_eq_true', decide_eq_false_iff_not]; omega))) ?_; walk_say "PRUNED MINE")))
local macro_rules | `(tactic| walk_at "ite") => `(tactic| (k_here; k_openite; first | (refine Mine.split_leap1 (by with_reducible assumption) (by with_reducible assumption) ?_) | (refine Mine.split_leap0 (by with_reducible assumption) (by with_reducible assumption) ?_) | (refine Mine.split_leap (by with_reducible assumption) ?_ ?_ <;> intro hl) | (refine Mine.split_jl (by with_reducible assumption) ?_ ?_ <;> intro hl)))
local macro_rules | `(tactic| walk_at "binaryOp Add int bool") => `(tactic| (k_here; with_reducible refine' Mine.w_add_ib ?k1 ?_; (case k1 => with_reducible assumption); k_whole; (try dsimp only)))
local macro_rules | `(tactic| walk_at "binaryOp Sub int bool") => `(tactic| (k_here; with_reducible refine' Mine.w_sub_ib ?k1 ?_; (case k1 => with_reducible assumption); k_whole; (try dsimp only)))
local macro_rules | `(tactic| walk_at "execs cons If") => `(tactic| (k_here; (with_reducible rename Mine.JMark _ _ => hj9); (with_reducible rename Fr _ _ _ _ => F0); (with_reducible rename News _ _ _ _ => N0); k_dflt (refine' Mine.join hj9 F0 N0 ?_ ?_; rotate_left; clear hj9; intro t9 h9 tk9 F9 N9; (try k_sweep); (try dsimp only); (try k_fold); rotate_left; clear hj9; (try dsimp only); (try k_fold))))
local macro_rules | `(tactic| walk_at "JEnd") => `(tactic| ((with_reducible rename Fr _ _ _ _ => F0); (with_reducible rename News _ _ _ _ => N0); k_dflt (first | (refine' Mine.jend_store F0 N0 ?_; k_whole) | (refine' Mine.jend_keep ?hm F0 N0 ?_; (case hm => rfl); k_whole)); first | assumption | omega | (unfold Mine.mlen; (repeat' split) <;> omega) | (unfold Mine.adj; (repeat' split) <;> omega) | tb_rel | tb_start))
local macro_rules | `(tactic| walk_at "execs cons If") => `(tactic| (k_here; (with_reducible rename Mine.JMark2 _ _ _ _ => hj9); (with_reducible rename Fr _ _ _ _ => F0); (with_reducible rename News _ _ _ _ => N0); k_dflt (refine' Mine.join2 hj9 F0 N0 ?_ ?_; rotate_left; clear hj9; intro t9 u9 h9 tk9 F9 N9; (try k_sweep); (try dsimp only); (try k_fold); rotate_left; clear hj9; (try dsimp only); (try k_fold))))
local macro_rules | `(tactic| walk_at "JEnd2") => `(tactic| ((with_reducible rename Fr _ _ _ _ => F0); (with_reducible rename News _ _ _ _ => N0); k_dflt (first | (refine' Mine.jend2_store F0 N0 ?_; k_whole) | (refine' Mine.jend2_keep ?hm ?hm2 F0 N0 ?_; (case hm => rfl); (case hm2 => rfl); k_whole)); (refine ⟨?_, ?_⟩) <;> (first | omega | (unfold Mine.yj; (repeat' split) <;> omega) | (unfold Mine.mj; (repeat' split) <;> omega))))
local macro_rules | `(tactic| walk_at "compareOp In int ref") => `(tactic| (k_here; k_dflt (refine' Mine.w_in30 ?k1 ?k2 ?k3 ?_; (case k1 => k_asm); (case k2 => k_asm); (case k3 => k_is))))
local macro_rules | `(tactic| walk_at "subscriptTail Name Constant ref int") => `(tactic| (k_here; (with_reducible show wpAny _ _ (subscriptTail _ _ (Value.ref _) (Value.int _ _)) _ _ _); k_dflt (refine' Mine.w_num ?k1 ?k2 ?k4 ?_; (case k1 => is_list); (case k2 => l_ints); (case k4 => (simp; omega)); k_whole; intro r t hn hr)))
local macro_rules | `(tactic| walk_at "call ref") => `(tactic| (k_here; (with_reducible show wpAny _ _ (call (Value.ref 78) _) _ _ _); k_dflt (refine' Mine.Claim.use (Mine.g_from_jd_gregorian _ ?p1 ?p2 ?p3) ?k1 ?k2 ?k3 ?k4 ?k5 ?k6 ?k7 ?k8 ?_; (case p1 => assumption); (case p2 => assumption); (case p3 => omega); (case k1 => k_asm); (case k2 => k_asm); (case k3 => k_asm); (case k4 => k_asm); (case k5 => k_asm); (case k6 => first | exact rfl | assumption); (case k7 => ktr_room); (case k8 => ktr_units); k_whole; (try dsimp only [Mine.RetB, Mine.RetI, Mine.RetH, Mine.Ret2, Mine.Ret2E, Mine.Ret3, Mine.RetHE, Mine.RetBE]); intro D9 a9 b9 c9 t1 t2 t3 k9 h9 tk9 e1 e2 e3 F9 N1 N2; subst e1; subst e2; subst e3; have N9 := Mine.news_cons N1 N2; clear N1 N2; (try dsimp only); (try k_fold))))
local macro_rules | `(tactic| walk_at "call ref") => `(tactic| (k_here; (with_reducible show wpAny _ _ (call (Value.ref 92) _) _ _ _); k_dflt (refine' Mine.Claim.use (Mine.g_from_jd_ordinal _ ?p1 ?p2 ?p3) ?k1 ?k2 ?k3 ?k4 ?k5 ?k6 ?k7 ?k8 ?_; (case p1 => assumption); (case p2 => assumption); (case p3 => omega); (case k1 => k_asm); (case k2 => k_asm); (case k3 => k_asm); (case k4 => k_asm); (case k5 => k_asm); (case k6 => first | exact rfl | assumption); (case k7 => ktr_room); (case k8 => ktr_units); k_whole; (try dsimp only [Mine.RetB, Mine.RetI, Mine.RetH, Mine.Ret2, Mine.Ret2E, Mine.Ret3, Mine.RetHE, Mine.RetBE]); intro D9 a9 b9 t1 t2 k9 h9 tk9 e1 e2 F9 N1 N2; subst e1; subst e2; have N9 := Mine.news_cons N1 N2; clear N1 N2; (try dsimp only); (try k_fold))))
local macro_rules | `(tactic| walk_at "call ref") => `(tactic| (k_here; (with_reducible show wpAny _ _ (call (Value.ref 85) _) _ _ _); k_dflt (refine' Mine.Claim.use (Mine.g_to_jd_ordinal _ ?p1 ?p2) ?k1 ?k2 ?k3 ?k4 ?k5 ?k6 ?k7 ?k8 ?_; (case p1 => assumption); (case p2 => omega); (case k1 => k_asm); (case k2 => k_asm); (case k3 => k_asm); (case k4 => k_asm); (case k5 => k_asm); (case k6 => first | exact rfl | assumption); (case k7 => ktr_room); (case k8 => ktr_units); k_whole; (try dsimp only [Mine.RetB, Mine.RetI, Mine.RetH, Mine.Ret2, Mine.Ret2E, Mine.Ret3, Mine.RetHE, Mine.RetBE]); intro z q t9 h9 tk9 z9 e9 F9 N9; subst e9; (try dsimp only); (try k_fold))))
local macro_rules | `(tactic| walk_at "call ref") => `(tactic| (k_here; (with_reducible show wpAny _ _ (call (Value.ref 99) _) _ _ _); k_dflt (refine' Mine.Claim.use (Mine.g_from_gregorian_ordinal _ ?p1) ?k1 ?k2 ?k3 ?k4 ?k5 ?k6 ?k7 ?k8 ?_; (case p1 => assumption); (case k1 => k_asm); (case k2 => k_asm); (case k3 => k_asm); (case k4 => k_asm); (case k5 => k_asm); (case k6 => first | exact rfl | assumption); (case k7 => ktr_room); (case k8 => ktr_units); k_whole; (try dsimp only [Mine.RetB, Mine.RetI, Mine.RetH, Mine.Ret2, Mine.Ret2E, Mine.Ret3, Mine.RetHE, Mine.RetBE]); intro D9 a9 b9 t1 t2 k9 h9 tk9 e1 e2 F9 N1 N2; subst e1; subst e2; have N9 := Mine.news_cons N1 N2; clear N1 N2; (try dsimp only); (try k_fold))))
local macro_rules | `(tactic| walk_at "call ref") => `(tactic| (k_here; (with_reducible show wpAny _ _ (call (Value.ref 106) _) _ _ _); k_dflt (refine' Mine.Claim.use (Mine.g_to_gregorian_ordinal _ ?p1 ?p2) ?k1 ?k2 ?k3 ?k4 ?k5 ?k6 ?k7 ?k8 ?_; (case p1 => assumption); (case p2 => omega); (case k1 => k_asm); (case k2 => k_asm); (case k3 => k_asm); (case k4 => k_asm); (case k5 => k_asm); (case k6 => first | exact rfl | assumption); (case k7 => ktr_room); (case k8 => ktr_units); k_whole; (try dsimp only [Mine.RetB, Mine.RetI, Mine.RetH, Mine.Ret2, Mine.Ret2E, Mine.Ret3, Mine.RetHE, Mine.RetBE]); intro D9 a9 b9 c9 t1 t2 t3 k9 h9 tk9 e1 e2 e3 F9 N1 N2; subst e1; subst e2; subst e3; have N9 := Mine.news_cons N1 N2; clear N1 N2; (try dsimp only); (try k_fold))))
local macro_rules | `(tactic| walk_at "call ref") => `(tactic| (k_here; (with_reducible show wpAny _ _ (call (Value.ref 64) _) _ _ _); k_dflt (refine' Mine.Claim.use (Mine.g_to_jd2 _ ?p1) ?k1 ?k2 ?k3 ?k4 ?k5 ?k6 ?k7 ?k8 ?_; (case p1 => assumption); (case k1 => k_asm); (case k2 => k_asm); (case k3 => k_asm); (case k4 => k_asm); (case k5 => k_asm); (case k6 => first | exact rfl | assumption); (case k7 => ktr_room); (case k8 => ktr_units); k_whole; (try dsimp only [Mine.RetB, Mine.RetI, Mine.RetH, Mine.Ret2, Mine.Ret2E, Mine.Ret3, Mine.RetHE, Mine.RetBE]); intro z q t9 h9 tk9 z9 e9 F9 N9; subst e9; (try dsimp only); (try k_fold))))
local macro_rules | `(tactic| walk_at "call ref") => `(tactic| (k_here; (with_reducible show wpAny _ _ (call (Value.ref 71) _) _ _ _); k_dflt (refine' Mine.Claim.use (Mine.g_to_jd_gregorian _ ?p1) ?k1 ?k2 ?k3 ?k4 ?k5 ?k6 ?k7 ?k8 ?_; (case p1 => assumption); (case k1 => k_asm); (case k2 => k_asm); (case k3 => k_asm); (case k4 => k_asm); (case k5 => k_asm); (case k6 => first | exact rfl | assumption); (case k7 => ktr_room); (case k8 => ktr_units); k_whole; (try dsimp only [Mine.RetB, Mine.RetI, Mine.RetH, Mine.Ret2, Mine.Ret2E, Mine.Ret3, Mine.RetHE, Mine.RetBE]); intro z q t9 h9 tk9 z9 e9 F9 N9; subst e9; (try dsimp only); (try k_fold))))
local macro_rules | `(tactic| walk_at "call ref") => `(tactic| (k_here; (with_reducible show wpAny _ _ (call (Value.ref 142) _) _ _ _); k_dflt (refine' Mine.Claim.use (Mine.g_to_jd_julian _ ?p1) ?k1 ?k2 ?k3 ?k4 ?k5 ?k6 ?k7 ?k8 ?_; (case p1 => assumption); (case k1 => k_asm); (case k2 => k_asm); (case k3 => k_asm); (case k4 => k_asm); (case k5 => k_asm); (case k6 => first | exact rfl | assumption); (case k7 => ktr_room); (case k8 => ktr_units); k_whole; (try dsimp only [Mine.RetB, Mine.RetI, Mine.RetH, Mine.Ret2, Mine.Ret2E, Mine.Ret3, Mine.RetHE, Mine.RetBE]); intro z q t9 h9 tk9 z9 e9 F9 N9; subst e9; (try dsimp only); (try k_fold))))
local macro_rules | `(tactic| walk_at "call ref") => `(tactic| (k_here; (with_reducible show wpAny _ _ (call (Value.ref 135) _) _ _ _); k_dflt (refine' Mine.Claim.use (Mine.g_from_jd_julian _ ?p1 ?p2 ?p3) ?k1 ?k2 ?k3 ?k4 ?k5 ?k6 ?k7 ?k8 ?_; (case p1 => assumption); (case p2 => assumption); (case p3 => omega); (case k1 => k_asm); (case k2 => k_asm); (case k3 => k_asm); (case k4 => k_asm); (case k5 => k_asm); (case k6 => first | exact rfl | assumption); (case k7 => ktr_room); (case k8 => ktr_units); k_whole; (try dsimp only [Mine.RetB, Mine.RetI, Mine.RetH, Mine.Ret2, Mine.Ret2E, Mine.Ret3, Mine.RetHE, Mine.RetBE]); intro D9 a9 b9 c9 t1 t2 t3 k9 h9 tk9 e1 e2 e3 F9 N1 N2; subst e1; subst e2; subst e3; have N9 := Mine.news_cons N1 N2; clear N1 N2; (try dsimp only); (try k_fold))))
local macro_rules | `(tactic| walk_at "call ref") => `(tactic| (k_here; (with_reducible show wpAny _ _ (call (Value.ref 247) _) _ _ _); k_dflt (refine' Mine.Claim.use (Mine.g_to_jd_positivist _ ?p1 ?p2 ?p3 ?p4 ?p5) ?k1 ?k2 ?k3 ?k4 ?k5 ?k6 ?k7 ?k8 ?_; (case p1 => assumption); (case p2 => omega); (case p3 => omega); (case p4 => omega); (case p5 => omega); (case k1 => k_asm); (case k2 => k_asm); (case k3 => k_asm); (case k4 => k_asm); (case k5 => k_asm); (case k6 => first | exact rfl | assumption); (case k7 => ktr_room); (case k8 => ktr_units); k_whole; (try dsimp only [Mine.RetB, Mine.RetI, Mine.RetH, Mine.Ret2, Mine.Ret2E, Mine.Ret3, Mine.RetHE, Mine.RetBE]); intro z q t9 h9 tk9 z9 e9 F9 N9; subst e9; (try dsimp only); (try k_fold))))
local macro_rules | `(tactic| walk_at "call ref") => `(tactic| (k_here; (with_reducible show wpAny _ _ (call (Value.ref 254) _) _ _ _); k_dflt (refine' Mine.Claim.use (Mine.g_from_jd_positivist _ ?p1 ?p2 ?p3 ?p4 ?p5) ?k1 ?k2 ?k3 ?k4 ?k5 ?k6 ?k7 ?k8 ?_; (case p1 => assumption); (case p2 => omega); (case p3 => first | assumption | omega); (case p4 => assumption); (case p5 => omega); (case k1 => k_asm); (case k2 => k_asm); (case k3 => k_asm); (case k4 => k_asm); (case k5 => k_asm); (case k6 => first | exact rfl | assumption); (case k7 => ktr_room); (case k8 => ktr_units); k_whole; (try dsimp only [Mine.RetB, Mine.RetI, Mine.RetH, Mine.Ret2, Mine.Ret2E, Mine.Ret3, Mine.RetHE, Mine.RetBE]); intro D9 a9 b9 c9 t1 t2 t3 k9 h9 tk9 e1 e2 e3 F9 N1 N2; subst e1; subst e2; subst e3; have N9 := Mine.news_cons N1 N2; clear N1 N2; (try dsimp only); (try k_fold))))
local macro_rules | `(tactic| walk_at "call ref") => `(tactic| (k_here; (with_reducible show wpAny _ _ (call (Value.ref 275) _) _ _ _); k_dflt (refine' Mine.Claim.use (Mine.c_law_first _ _ _) ?k1 ?k2 ?k3 ?k4 ?k5 ?k6 ?k7 ?k8 ?_; (case k1 => k_asm); (case k2 => k_asm); (case k3 => k_asm); (case k4 => k_asm); (case k5 => k_asm); (case k6 => first | exact rfl | assumption); (case k7 => ktr_room); (case k8 => ktr_units); k_whole; (try dsimp only [Mine.RetB, Mine.RetI, Mine.RetH, Mine.Ret2, Mine.Ret2E, Mine.Ret3, Mine.RetHE, Mine.RetBE]); intro v t9 h9 tk9 e9 F9 N9; subst e9; (try dsimp only); (try k_fold))))
local macro_rules | `(tactic| walk_at "call ref") => `(tactic| (k_here; (with_reducible show wpAny _ _ (call (Value.ref 289) _) _ _ _); k_dflt (refine' Mine.Claim.use (Mine.c_law_gregorian _ _ _ ?p1) ?k1 ?k2 ?k3 ?k4 ?k5 ?k6 ?k7 ?k8 ?_; (case p1 => omega); (case k1 => k_asm); (case k2 => k_asm); (case k3 => k_asm); (case k4 => k_asm); (case k5 => k_asm); (case k6 => first | exact rfl | assumption); (case k7 => ktr_room); (case k8 => ktr_units); k_whole; (try dsimp only [Mine.RetB, Mine.RetI, Mine.RetH, Mine.Ret2, Mine.Ret2E, Mine.Ret3, Mine.RetHE, Mine.RetBE]); (try dsimp only [Mine.RetG]); intro D9 a9 b9 c9 t1 t2 t3 k9 h9 tk9 q1 q2 q3 F9 N1 N2; have N9 := Mine.news_cons N1 N2; clear N1 N2; (try clear hGD hpl); have hGD := Mine.GD.mk (by omega) q1 q2 q3; have hpl := Mine.GD.place hGD; clear q1 q2 q3; (try dsimp only); (try k_fold))))
local macro_rules | `(tactic| walk_at "call ref") => `(tactic| (k_here; (with_reducible show wpAny _ _ (call (Value.ref 296) _) _ _ _); k_dflt (refine' Mine.Claim.use (Mine.c_law_julian _ _ _ ?p1) ?k1 ?k2 ?k3 ?k4 ?k5 ?k6 ?k7 ?k8 ?_; (case p1 => omega); (case k1 => k_asm); (case k2 => k_asm); (case k3 => k_asm); (case k4 => k_asm); (case k5 => k_asm); (case k6 => first | exact rfl | assumption); (case k7 => ktr_room); (case k8 => ktr_units); k_whole; (try dsimp only [Mine.RetB, Mine.RetI, Mine.RetH, Mine.Ret2, Mine.Ret2E, Mine.Ret3, Mine.RetHE, Mine.RetBE]); (try dsimp only [Mine.RetJ]); intro D9 a9 b9 c9 t1 t2 t3 k9 h9 tk9 q1 q2 q3 F9 N1 N2; have N9 := Mine.news_cons N1 N2; clear N1 N2; have hJD := Mine.JD.mk (by omega) q1 q2 q3; clear q1 q2 q3; (try dsimp only); (try k_fold))))
local macro_rules | `(tactic| walk_at "execs cons If") => `(tactic| (k_here; (with_reducible show wpAny _ _ (execs (Stmt.If (Expr.BoolOp BoolOp.Or _ _) _ _ _ :: _) _) _ _ _); (with_reducible rename Fr _ _ _ _ => F0); (with_reducible rename News _ _ _ _ => N0); k_dflt (refine' Mine.join0 F0 N0 ?_ ?_; rotate_left; intro h9 tk9 F9 N9; (try k_sweep); (try dsimp only); (try k_fold); rotate_left; (try dsimp only); (try k_fold))))
local macro_rules | `(tactic| walk_at "JEnd0") => `(tactic| ((with_reducible rename Fr _ _ _ _ => F0); (with_reducible rename News _ _ _ _ => N0); k_dflt (refine' Mine.jend0 F0 N0 ?_); (intro p hp; first | exact hp | exact .tail _ hp | exact .tail _ (.tail _ hp) | exact .tail _ (.tail _ (.tail _ hp)) | exact .tail _ (.tail _ (.tail _ (.tail _ hp))) | exact .tail _ (.tail _ (.tail _ (.tail _ (.tail _ hp)))) | exact .tail _ (.tail _ (.tail _ (.tail _ (.tail _ (.tail _ hp))))))))
local macro_rules | `(tactic| walk_at "compareOp NotEq float float") => `(tactic| (k_here; (with_reducible show wpAny _ _ (compareOp _ (Value.float _ _) (Value.float _ _)) _ _ _); (with_reducible refine' Mine.w_ne_ff0 ?hx ?hy ?he ?_; (case hx => with_reducible first | assumption | exact Mine.hf_epoch | exact Mine.hf_half | exact Mine.hf_1524 | exact Mine.hf_pos | exact Mine.hf_1_5); (case hy => with_reducible first | assumption | exact Mine.hf_epoch | exact Mine.hf_half | exact Mine.hf_1524 | exact Mine.hf_pos | exact Mine.hf_1_5); (case he => k_dflt omega); k_whole; (try dsimp only))))
local macro_rules | `(tactic| walk_at "binaryOp FloorDiv int int") => `(tactic| (k_here; (with_reducible show wpAny _ _ (binaryOp _ (Value.int _ _) (Value.int 28 _)) _ _ _); with_reducible refine' Mine.w_fdiv28 ?_; k_whole; intro r hr; (try dsimp only)))
local macro_rules | `(tactic| walk_at "binaryOp Mod int int") => `(tactic| (k_here; (with_reducible show wpAny _ _ (binaryOp _ (Value.int _ _) (Value.int 28 _)) _ _ _); with_reducible refine' Mine.w_mod_ii ?k1 ?_; (case k1 => decide); k_whole; intro r hr; (try dsimp only)))
local macro_rules | `(tactic| walk_at "binaryOp Mod int int") => `(tactic| (k_here; (with_reducible show wpAny _ _ (binaryOp _ (Value.int _ _) (Value.int 17 _)) _ _ _); with_reducible refine' Mine.w_mod_ii ?k1 ?_; (case k1 => decide); k_whole; intro r hr; (try dsimp only)))
local macro_rules | `(tactic| walk_at "binaryOp Mod int int") => `(tactic| (k_here; (with_reducible show wpAny _ _ (binaryOp _ (Value.int _ _) (Value.int 31 _)) _ _ _); with_reducible refine' Mine.w_mod_ii ?k1 ?_; (case k1 => decide); k_whole; intro r hr; (try dsimp only)))
local macro_rules | `(tactic| walk_at "binaryOp Mod int int") => `(tactic| (k_here; (with_reducible show wpAny _ _ (binaryOp _ (Value.int _ _) (Value.int 400 _)) _ _ _); with_reducible refine' Mine.w_mod_ii ?k1 ?_; (case k1 => decide); k_whole; intro r hr; (try dsimp only)))
local macro_rules | `(tactic| walk_at "execs cons If") => `(tactic| (k_here; (with_reducible show wpAny _ _ (execs (Stmt.If (Expr.BoolOp BoolOp.And _ _) _ _ _ :: _) _) _ _ _); (with_reducible rename Fr _ _ _ _ => F0); k_dflt (refine' Mine.legal_split F0 ?hy ?hm ?hd ?_ ?_; (case hy => rfl); (case hm => rfl); (case hd => rfl); rotate_left; (intro hI; have hI2 := Mine.Illegal.cases hI; have hP := Mine.Illegal.plen hI; have hN := Mine.Illegal.next hI); rotate_left; (intro hI; have hI2 := Mine.Legal.all hI; have hP := Mine.Legal.plen hI; have hN := Mine.Legal.next hI; have hY := Mine.Legal.yb hI (by omega)))))
local macro_rules | `(tactic| walk_at "execs cons If") => `(tactic| (k_here; (with_reducible show wpAny _ _ (execs (Stmt.If (Expr.BoolOp BoolOp.And _ _) _ _ _ :: _) _) _ _ _); (with_reducible rename Mine.Illegal _ _ _ => hI9); (with_reducible rename Fr _ _ _ _ => F0); (with_reducible rename News _ _ _ _ => N0); k_dflt (refine' Mine.join0 F0 N0 ?_ ?_; rotate_left; intro h9 tk9 F9 N9; (try k_sweep); (try dsimp only); (try k_fold); rotate_left; (try dsimp only); (try k_fold))))
local macro_rules | `(tactic| walk_at "execs cons If") => `(tactic| (k_here; (with_reducible show wpAny _ _ (execs (Stmt.If (Expr.BoolOp BoolOp.And _ _) _ _ _ :: _) _) _ _ _); (with_reducible rename Mine.Legal _ _ _ => hL9); (with_reducible rename Fr _ _ _ _ => F0); (with_reducible rename News _ _ _ _ => N0); k_dflt (refine' Mine.joinF hL9 F0 N0 ?_ ?_; rotate_left; intro z9 t9 h9 tk9 hz9 F9 N9; (try k_sweep); (try dsimp only); (try k_fold); rotate_left; (try dsimp only); (try k_fold))))
local macro_rules | `(tactic| walk_at "JEndF") => `(tactic| ((with_reducible rename Fr _ _ _ _ => F0); (with_reducible rename News _ _ _ _ => N0); k_dflt (refine' Mine.jendF F0 N0 ?hz ?he ?_; (case hz => with_reducible assumption)); (case he => omega); (intro p hp; first | exact hp | exact .tail _ hp | exact .tail _ (.tail _ hp) | exact .tail _ (.tail _ (.tail _ hp)) | exact .tail _ (.tail _ (.tail _ (.tail _ hp))) | exact .tail _ (.tail _ (.tail _ (.tail _ (.tail _ hp)))) | exact .tail _ (.tail _ (.tail _ (.tail _ (.tail _ (.tail _ hp))))))))
local macro_rules | `(tactic| walk_at "LawEnd") => `(tactic| ((with_reducible rename Fr _ _ _ _ => F0); exact Mine.law_end F0 (by first | rfl | decide)))
local macro_rules | `(tactic| walk_at "call ref") => `(tactic| (k_here; (with_reducible show wpAny _ _ (call (Value.ref 303) _) _ _ _); k_dflt (refine' Mine.ClaimL.use (Mine.asked0 _ _ _ _ _ _ _ ?p1 ?p2) ?k1 ?k2 ?k3 ?k4 ?k5 ?k7 ?_; (case p1 => assumption); (case p2 => omega); (case k1 => assumption); (case k2 => k_asm); (case k3 => k_asm); (case k4 => k_asm); (case k5 => k_asm); (case k7 => first | exact rfl | assumption); k_whole; (try dsimp only [Mine.RetH, Mine.RetS]); intro t9 h9 tk9 F9 N9; (try dsimp only); (try k_fold))))
local macro_rules | `(tactic| walk_at "call ref") => `(tactic| (k_here; (with_reducible show wpAny _ _ (call (Value.ref 303) _) _ _ _); k_dflt (refine' Mine.ClaimL.use (Mine.asked1 _ _ _ _ _ _ _ _ ?p1 ?p2 ?p3 ?p4) ?k1 ?k2 ?k3 ?k4 ?k5 ?k7 ?_; (case p1 => assumption); (case p2 => omega); (case p3 => omega); (case p4 => omega); (case k1 => assumption); (case k2 => k_asm); (case k3 => k_asm); (case k4 => k_asm); (case k5 => k_asm); (case k7 => first | exact rfl | assumption); k_whole; (try dsimp only [Mine.RetH, Mine.RetS]); intro t9 h9 tk9 F9 N9; (try dsimp only); (try k_fold))))
local macro_rules | `(tactic| walk_at "call ref") => `(tactic| (k_here; (with_reducible show wpAny _ _ (call (Value.ref 303) _) _ _ _); k_dflt (refine' Mine.ClaimL.use (Mine.askedL _ _ _ _ _ _ _ _ ?p1 ?p2) ?k1 ?k2 ?k3 ?k4 ?k5 ?k7 ?_; (case p1 => assumption); (case p2 => omega); (case k1 => assumption); (case k2 => k_asm); (case k3 => k_asm); (case k4 => k_asm); (case k5 => k_asm); (case k7 => first | exact rfl | assumption); k_whole; (try dsimp only [Mine.RetH, Mine.RetS]); intro z q t9 h9 tk9 z9 e9 F9 N9; subst e9; (try dsimp only); (try k_fold))))
local macro_rules | `(tactic| walk_at "execs cons") => `(tactic| (k_here; (with_reducible show wpAny _ _ (execs (Stmt.Assign _ (Expr.BinOp (Expr.Constant (Const.int 2374480) _ _) _ _ _) _ :: _) _) _ _ _); (with_reducible rename Fr _ _ _ _ => F0); (with_reducible rename News _ _ _ _ => N0); k_dflt (refine' Mine.law_C_cut _ ?k1 ?k2 ?k3 F0 N0 ?k4 ?k5 ?k6; (case k1 => assumption); (case k2 => assumption); (case k3 => assumption); (case k4 => rfl); (case k5 => (repeat (first | exact List.Mem.head _ | refine List.Mem.tail _ ?_))); (case k6 => l_ints))))

theorem law_B (w : World) {loose : List Str} {mean : ExcName → Option Value} {mg mb : Str → Option Value} {s1 : Shared} {fa : Addr} {cdv : Value} {h : Heap} {tk : Nat} {m0 : Str → Option Value} {l' l2 : Addr} {ws : List Value} {ns : List Int}
    {n y mo d a b c : Int} {z : UInt64} {t1 t2 t3 t4 u1 u2 u3 : Tok} {k : Nat}
    (KX : (hd.heap_39 w.params).In s1.heap) (T : Top hd.view_39 loose mean mg mb s1.heap) (K1 : Below callerA s1.heap [] s1.heap) (hi : IntsAre ws (numsE ns)) (hG : GD n y mo d) (hJ : JD n a b c) (hz : Hf z (2 * n - 1)) (hnb : -13000000 ≤ n ∧ n ≤ 13000000)
    (F : Fr s1.heap s1.heap.objs.size h (fun x => if x = Str.ofString "numbers" then some (.ref l') else if x = Str.ofString "old" then some (.ref l2) else if x = Str.ofString "night" then some (.float z t4) else if x = Str.ofString "year" then some (.int y t1)
      else if x = Str.ofString "month" then some (.int mo t2) else if x = Str.ofString "day" then some (.int d t3) else m0 x)) (N : News s1.heap s1.heap.objs.size h [(l2, Tup3 a b c u1 u2 u3 k), (l', listOf ws.toArray 0)]) :
    wpAny (model PP w) (callerA.deeper (lawEnv s1 fa cdv)) (execs (lawRest 10) (lawEnv s1 fa cdv)) (LawEnd s1) (fun _ _ => False) { s1 with heap := h, toks := tk } := by
  w_top off
  k_with_none
  have kfill : PySem.Challenge.rw_ak5020_01 = PySem.Challenge.rw_ak5020_01 ∧ hd.heap_39 = hd.heap_39 := by
    k_fill
    exact ⟨rfl, rfl⟩
  clear kfill
  dsimp only [lawEnv]
  conv in (execs _ _) => arg 1; whnf
  conv in (occs := *) lawScope => all_goals whnf
  all_goals (try k_fold)
  all_goals k_steps
theorem law_B_cut (w : World) {loose : List Str} {mean : ExcName → Option Value} {mg mb : Str → Option Value} {s1 : Shared} {fa : Addr} {cdv : Value} {h : Heap} {tk : Nat} {m0 : Str → Option Value} {l' l2 : Addr} {ws : List Value} {ns : List Int} {news : List (Addr × Obj)}
    {n y mo d a b c : Int} {z : UInt64} {t1 t2 t3 t4 u1 u2 u3 : Tok} {k : Nat}
    (KX : (hd.heap_39 w.params).In s1.heap) (T : Top hd.view_39 loose mean mg mb s1.heap) (K1 : Below callerA s1.heap [] s1.heap)
    (F : Fr s1.heap s1.heap.objs.size h m0) (N : News s1.heap s1.heap.objs.size h news) (h1 : m0 (Str.ofString "numbers") = some (.ref l')) (h2 : m0 (Str.ofString "old") = some (.ref l2)) (h3 : m0 (Str.ofString "night") = some (.float z t4))
    (h4 : m0 (Str.ofString "year") = some (.int y t1)) (h5 : m0 (Str.ofString "month") = some (.int mo t2)) (h6 : m0 (Str.ofString "day") = some (.int d t3))
    (hG : GD n y mo d) (hJ : JD n a b c) (hz : Hf z (2 * n - 1)) (hN2 : (l2, Tup3 a b c u1 u2 u3 k) ∈ news) (hN : (l', listOf ws.toArray 0) ∈ news) (hi : IntsAre ws (numsE ns)) :
    wpAny (model PP w) (callerA.deeper (lawEnv s1 fa cdv)) (execs (lawRest 10) (lawEnv s1 fa cdv)) (LawEnd s1) (fun _ _ => False) { s1 with heap := h, toks := tk } := by
  have F1 := fr_name F h6
  have F2 := fr_name (x := Str.ofString "month") F1 h5
  have F3 := fr_name (x := Str.ofString "year") F2 h4
  have F4 := fr_name (x := Str.ofString "night") F3 h3
  have F5 := fr_name (x := Str.ofString "old") F4 h2
  have F6 := fr_name (x := Str.ofString "numbers") F5 h1
  exact law_B w KX T K1 hi hG hJ hz hG.nb F6 (news_cons (news_one N hN2) (news_one N hN))
end Mine

namespace Mine
open PySem.Flt
local macro_rules | `(tactic| walk_at "eval Call") => `(tactic| (k_here; (with_reducible show wpAny _ _ (eval (Expr.Call (Expr.Name _ _) _ [] _) _) _ _ _); k_dflt (refine Call_ ?_)))
local macro_rules | `(tactic| walk_at "binaryOp Add float float") => `(tactic| (k_here; (with_reducible show wpAny _ _ (binaryOp _ (Value.float _ _) (Value.float _ _)) _ _ _); ((with_reducible refine' Mine.w_add_ff ?hx ?hy ?hb ?_; (case hx => with_reducible first | assumption | exact Mine.hf_epoch | exact Mine.hf_half | exact Mine.hf_1524 | exact Mine.hf_pos | exact Mine.hf_1_5); (case hy => with_reducible first | assumption | exact Mine.hf_epoch | exact Mine.hf_half | exact Mine.hf_1524 | exact Mine.hf_pos | exact Mine.hf_1_5); (case hb => k_dflt omega); k_whole; intro z hz; (try dsimp only)))))
local macro_rules | `(tactic| walk_at "inplaceOp Add float float") => `(tactic| (k_here; (with_reducible show wpAny _ _ (inplaceOp _ (Value.float _ _) (Value.float _ _)) _ _ _); ((with_reducible refine' Mine.w_iadd_ff ?hx ?hy ?hb ?_; (case hx => with_reducible first | assumption | exact Mine.hf_epoch | exact Mine.hf_half | exact Mine.hf_1524 | exact Mine.hf_pos | exact Mine.hf_1_5); (case hy => with_reducible first | assumption | exact Mine.hf_epoch | exact Mine.hf_half | exact Mine.hf_1524 | exact Mine.hf_pos | exact Mine.hf_1_5); (case hb => k_dflt omega); k_whole; intro z hz; (try dsimp only)))))
local macro_rules | `(tactic| walk_at "binaryOp Sub float float") => `(tactic| (k_here; (with_reducible show wpAny _ _ (binaryOp _ (Value.float _ _) (Value.float _ _)) _ _ _); ((with_reducible refine' Mine.w_sub_ff ?hx ?hy ?hb ?_; (case hx => with_reducible first | assumption | exact Mine.hf_epoch | exact Mine.hf_half | exact Mine.hf_1524 | exact Mine.hf_pos | exact Mine.hf_1_5); (case hy => with_reducible first | assumption | exact Mine.hf_epoch | exact Mine.hf_half | exact Mine.hf_1524 | exact Mine.hf_pos | exact Mine.hf_1_5); (case hb => k_dflt omega); k_whole; intro z hz; (try dsimp only)))))
local macro_rules | `(tactic| walk_at "binaryOp Add float int") => `(tactic| (k_here; (with_reducible show wpAny _ _ (binaryOp _ (Value.float _ _) (Value.int _ _)) _ _ _); (first
  | (with_reducible refine' Mine.w_add_fi ?hA ?hx ?hb ?_; (case hA => k_dflt (exact rfl)); (case hx => with_reducible first | assumption | exact Mine.hf_epoch | exact Mine.hf_half | exact Mine.hf_1524 | exact Mine.hf_pos | exact Mine.hf_1_5); (case hb => k_dflt omega); k_whole; intro z hz; (try dsimp only))
  | (with_reducible refine' Mine.w_addn_fi ?hA ?hx ?hb ?_; (case hA => k_dflt (exact rfl)); (case hx => with_reducible assumption); (case hb => k_dflt omega); k_whole; intro z hz; (try dsimp only)))))
local macro_rules | `(tactic| walk_at "binaryOp Sub float int") => `(tactic| (k_here; (with_reducible show wpAny _ _ (binaryOp _ (Value.float _ _) (Value.int _ _)) _ _ _); ((with_reducible refine' Mine.w_sub_fi ?hA ?hx ?hb ?_; (case hA => k_dflt (exact rfl)); (case hx => with_reducible first | assumption | exact Mine.hf_epoch | exact Mine.hf_half | exact Mine.hf_1524 | exact Mine.hf_pos | exact Mine.hf_1_5); (case hb => k_dflt omega); k_whole; intro z hz; (try dsimp only)))))
local macro_rules | `(tactic| walk_at "binaryOp Add int float") => `(tactic| (k_here; (with_reducible show wpAny _ _ (binaryOp _ (Value.int _ _) (Value.float _ _)) _ _ _); ((with_reducible refine' Mine.w_add_if ?hA ?hx ?hb ?_; (case hA => k_dflt (exact rfl)); (case hx => with_reducible first | assumption | exact Mine.hf_epoch | exact Mine.hf_half | exact Mine.hf_1524 | exact Mine.hf_pos | exact Mine.hf_1_5); (case hb => k_dflt omega); k_whole; intro z hz; (try dsimp only)))))
local macro_rules | `(tactic| walk_at "binaryOp Sub int float") => `(tactic| (k_here; (with_reducible show wpAny _ _ (binaryOp _ (Value.int _ _) (Value.float _ _)) _ _ _); (first
  | (with_reducible refine' Mine.w_sub_122 ?hA ?hcc ?hb ?_; (case hcc => with_reducible rfl); (case hA => k_dflt (exact rfl)); (case hb => k_dflt omega); k_whole; intro z hz; (try dsimp only))
  | (with_reducible refine' Mine.w_sub_if ?hA ?hx ?hb ?_; (case hA => k_dflt (exact rfl)); (case hx => with_reducible first | assumption | exact Mine.hf_epoch | exact Mine.hf_half | exact Mine.hf_1524 | exact Mine.hf_pos | exact Mine.hf_1_5); (case hb => k_dflt omega); k_whole; intro z hz; (try dsimp only)))))
local macro_rules | `(tactic| walk_at "binaryOp Mult float int") => `(tactic| (k_here; (with_reducible show wpAny _ _ (binaryOp _ (Value.float _ _) (Value.int _ _)) _ _ _); (first
  | (with_reducible refine' Mine.w_mul_365 ?hA ?hcc ?hb ?_; (case hcc => with_reducible rfl); (case hA => k_dflt (exact rfl)); (case hb => k_dflt omega); k_whole; intro z hz; (try dsimp only))
  | (with_reducible refine' Mine.w_mul_306001 ?hA ?hcc ?hb ?_; (case hcc => with_reducible rfl); (case hA => k_dflt (exact rfl)); (case hb => k_dflt omega); k_whole; intro z hz; (try dsimp only))
  | (with_reducible refine' Mine.w_mul_306 ?hA ?hcc ?hb ?_; (case hcc => with_reducible rfl); (case hA => k_dflt (exact rfl)); (case hb => k_dflt omega); k_whole; intro z hz; (try dsimp only))
  | (with_reducible refine' Mine.w_mul_fi ?hA ?hx ?hb ?_; (case hA => k_dflt (exact rfl)); (case hx => with_reducible first | assumption | exact Mine.hf_epoch | exact Mine.hf_half | exact Mine.hf_1524 | exact Mine.hf_pos | exact Mine.hf_1_5); (case hb => k_dflt omega); k_whole; intro z hz; (try dsimp only)))))
local macro_rules | `(tactic| walk_at "binaryOp Mod float int") => `(tactic| (k_here; (with_reducible show wpAny _ _ (binaryOp _ (Value.float _ _) (Value.int _ _)) _ _ _); ((with_reducible refine' Mine.w_mod_fi ?hA ?hx ?hb ?_; (case hA => k_dflt (exact rfl)); (case hx => with_reducible first | assumption | exact Mine.hf_epoch | exact Mine.hf_half | exact Mine.hf_1524 | exact Mine.hf_pos | exact Mine.hf_1_5); (case hb => k_dflt omega); k_whole; intro z r hr hz; (try dsimp only)))))
local macro_rules | `(tactic| walk_at "binaryOp Div float int") => `(tactic| (k_here; (with_reducible show wpAny _ _ (binaryOp _ (Value.float _ _) (Value.int _ _)) _ _ _); ((with_reducible refine' Mine.w_div_fi ?hA ?hx ?hb ?_; (case hA => k_dflt (exact rfl)); (case hx => with_reducible first | assumption | exact Mine.hf_epoch | exact Mine.hf_half | exact Mine.hf_1524 | exact Mine.hf_pos | exact Mine.hf_1_5); (case hb => k_dflt omega); k_whole; intro z hz; (try dsimp only)))))
local macro_rules | `(tactic| walk_at "binaryOp Div int int") => `(tactic| (k_here; (with_reducible show wpAny _ _ (binaryOp _ (Value.int _ _) (Value.int _ _)) _ _ _); ((with_reducible refine' Mine.w_div_ii ?hA ?hb ?_; (case hA => k_dflt (exact rfl)); (case hb => k_dflt omega); k_whole; intro z hz; (try dsimp only)))))
local macro_rules | `(tactic| walk_at "binaryOp Div float float") => `(tactic| (k_here; (with_reducible show wpAny _ _ (binaryOp _ (Value.float _ _) (Value.float _ _)) _ _ _); ((with_reducible refine' Mine.w_div_365 ?hA ?hcc ?hx ?hb ?_; (case hcc => with_reducible rfl); (case hA => k_dflt (exact rfl)); (case hx => with_reducible assumption); (case hb => k_dflt omega); k_whole; intro z hz; (try dsimp only)))))
local macro_rules | `(tactic| walk_at "binaryOp Div int float") => `(tactic| (k_here; (with_reducible show wpAny _ _ (binaryOp _ (Value.int _ _) (Value.float _ _)) _ _ _); ((with_reducible refine' Mine.w_div_306001 ?hA ?hcc ?hb ?_; (case hcc => with_reducible rfl); (case hA => k_dflt (exact rfl)); (case hb => k_dflt omega); k_whole; intro z hz; (try dsimp only)))))
local macro_rules | `(tactic| walk_at "call builtin:math.floor") => `(tactic| (k_here; (with_reducible show wpAny _ _ (call _ [Value.float _ _]) _ _ _); (first
  | (with_reducible refine' Mine.w_floor_h ?hA ?hx ?_; (case hA => k_dflt (exact rfl)); (case hx => with_reducible assumption); k_whole; intro r hr; (try dsimp only))
  | (with_reducible refine' Mine.w_floor_n ?hA ?hx ?hb ?_; (case hA => k_dflt (exact rfl)); (case hx => with_reducible assumption); (case hb => k_dflt omega); k_whole; intro r hr; (try dsimp only))
  | (with_reducible refine' Mine.w_floor_q ?hA ?hx ?_; (case hA => k_dflt (exact rfl)); (case hx => with_reducible assumption); k_whole; intro r hr; (try dsimp only)))))
local macro_rules | `(tactic| walk_at "call builtin:math.trunc") => `(tactic| (k_here; (with_reducible show wpAny _ _ (call _ [Value.float _ _]) _ _ _); (first
  | (with_reducible refine' Mine.w_trunc_q ?hA ?hx ?_; (case hA => k_dflt (exact rfl)); (case hx => with_reducible assumption); k_whole; intro r hr; (try dsimp only))
  | (with_reducible refine' Mine.w_trunc_n ?hA ?hx ?hb ?_; (case hA => k_dflt (exact rfl)); (case hx => with_reducible assumption); (case hb => k_dflt omega); k_whole; intro r hr; (try dsimp only)))))
local macro_rules | `(tactic| walk_at "call type:int") => `(tactic| (k_here; (with_reducible show wpAny _ _ (call _ [Value.float _ _]) _ _ _); ((with_reducible refine' Mine.w_int_h ?hA ?hx ?hb ?_; (case hA => k_dflt (exact rfl)); (case hx => with_reducible assumption); (case hb => k_dflt omega); k_whole; intro r hr; (try dsimp only)))))
local macro_rules | `(tactic| walk_at "compareOp Eq float float") => `(tactic| (k_here; (with_reducible show wpAny _ _ (compareOp _ (Value.float _ _) (Value.float _ _)) _ _ _); ((with_reducible refine' Mine.w_eq_ff ?hx ?hy ?_; (case hx => with_reducible first | assumption | exact Mine.hf_epoch | exact Mine.hf_half | exact Mine.hf_1524 | exact Mine.hf_pos | exact Mine.hf_1_5); (case hy => with_reducible first | assumption | exact Mine.hf_epoch | exact Mine.hf_half | exact Mine.hf_1524 | exact Mine.hf_pos | exact Mine.hf_1_5); k_whole; skip; (try dsimp only)))))
local macro_rules | `(tactic| walk_at "compareOp NotEq float float") => `(tactic| (k_here; (with_reducible show wpAny _ _ (compareOp _ (Value.float _ _) (Value.float _ _)) _ _ _); ((with_reducible refine' Mine.w_ne_ff ?hx ?hy ?_; (case hx => with_reducible first | assumption | exact Mine.hf_epoch | exact Mine.hf_half | exact Mine.hf_1524 | exact Mine.hf_pos | exact Mine.hf_1_5); (case hy => with_reducible first | assumption | exact Mine.hf_epoch | exact Mine.hf_half | exact Mine.hf_1524 | exact Mine.hf_pos | exact Mine.hf_1_5); k_whole; skip; (try dsimp only)))))
local macro_rules | `(tactic| walk_at "compareOp GtE float float") => `(tactic| (k_here; (with_reducible show wpAny _ _ (compareOp _ (Value.float _ _) (Value.float _ _)) _ _ _); ((with_reducible refine' Mine.w_ge_ff ?hx ?hy ?_; (case hx => with_reducible first | assumption | exact Mine.hf_epoch | exact Mine.hf_half | exact Mine.hf_1524 | exact Mine.hf_pos | exact Mine.hf_1_5); (case hy => with_reducible first | assumption | exact Mine.hf_epoch | exact Mine.hf_half | exact Mine.hf_1524 | exact Mine.hf_pos | exact Mine.hf_1_5); k_whole; skip; (try dsimp only)))))
local macro_rules | `(tactic| walk_at "compareOp Lt float int") => `(tactic| (k_here; (with_reducible show wpAny _ _ (compareOp _ (Value.float _ _) (Value.int _ _)) _ _ _); ((with_reducible refine' Mine.w_lt_fi ?hx ?_; (case hx => with_reducible first | assumption | exact Mine.hf_epoch | exact Mine.hf_half | exact Mine.hf_1524 | exact Mine.hf_pos | exact Mine.hf_1_5); k_whole; skip; (try dsimp only)))))
local macro_rules | `(tactic| walk_at "ite") => `(tactic| (k_here; k_openite; first | (refine ite_pos (by with_reducible assumption) ?_; walk_say "PRUNED") | (refine ite_neg (by with_reducible assumption) ?_; walk_say "PRUNED") | (refine ite_isFalse (by with_reducible assumption) ?_; walk_say "PRUNED") | (refine ite_pos (by with_reducible (first | omega | (simp only [beq_iff_eq]; omega) | (simp only [decide_eq_true_eq]; omega) | (simp only [Bool.not_eq_true', decide_eq_false_iff_not]; omega) | (simp only [bne_iff_ne, ne_eq]; omega) | (simp only [Bool.not_eq_true', beq_eq_false_iff_ne, ne_eq]; omega) | (simp only [Bool.and_eq_true, Bool.or_eq_true, decide_eq_true_eq, beq_iff_eq, bne_iff_ne, Bool.not_eq_true', decide_eq_false_iff_not]; omega))) ?_; walk_say "PRUNED MINE") | (refine ite_neg (by with_reducible (first | omega | (simp only [beq_iff_eq]; omega) | (simp only [decide_eq_true_eq]; omega) | (simp only [Bool.not_eq_true', decide_eq_false_iff_not]; omega) | (simp only [bne_iff_ne, ne_eq]; omega) | (simp only [Bool.not_eq_true', beq_eq_false_iff_ne, ne_eq]; omega) | (simp only [Bool.and_eq_true, Bool.or_eq_true, decide_eq_true_eq, beq_iff_eq, bne_iff_ne, Bool.not_eq_true', decide_eq_false_iff_not]; omega))) ?_; walk_say "PRUNED MINE")))
local macro_rules | `(tactic| walk_at "ite") => `(tactic| (k_here; k_openite; first | (refine Mine.split_leap1 (by with_reducible assumption) (by with_reducible assumption) ?_) | (refine Mine.split_leap0 (by with_reducible assumption) (by with_reducible assumption) ?_) | (refine Mine.split_leap (by with_reducible assumption) ?_ ?_ <;> intro hl) | (refine Mine.split_jl (by with_reducible assumption) ?_ ?_ <;> intro hl)))
local macro_rules | `(tactic| walk_at "binaryOp Add int bool") => `(tactic| (k_here; with_reducible refine' Mine.w_add_ib ?k1 ?_; (case k1 => with_reducible assumption); k_whole; (try dsimp only)))
local macro_rules | `(tactic| walk_at "binaryOp Sub int bool") => `(tactic| (k_here; with_reducible refine' Mine.w_sub_ib ?k1 ?_; (case k1 => with_reducible assumption); k_whole; (try dsimp only)))
local macro_rules | `(tactic| walk_at "execs cons If") => `(tactic| (k_here; (with_reducible rename Mine.JMark _ _ => hj9); (with_reducible rename Fr _ _ _ _ => F0); (with_reducible rename News _ _ _ _ => N0); k_dflt (refine' Mine.join hj9 F0 N0 ?_ ?_; rotate_left; clear hj9; intro t9 h9 tk9 F9 N9; (try k_sweep); (try dsimp only); (try k_fold); rotate_left; clear hj9; (try dsimp only); (try k_fold))))
local macro_rules | `(tactic| walk_at "JEnd") => `(tactic| ((with_reducible rename Fr _ _ _ _ => F0); (with_reducible rename News _ _ _ _ => N0); k_dflt (first | (refine' Mine.jend_store F0 N0 ?_; k_whole) | (refine' Mine.jend_keep ?hm F0 N0 ?_; (case hm => rfl); k_whole)); first | assumption | omega | (unfold Mine.mlen; (repeat' split) <;> omega) | (unfold Mine.adj; (repeat' split) <;> omega) | tb_rel | tb_start))
local macro_rules | `(tactic| walk_at "execs cons If") => `(tactic| (k_here; (with_reducible rename Mine.JMark2 _ _ _ _ => hj9); (with_reducible rename Fr _ _ _ _ => F0); (with_reducible rename News _ _ _ _ => N0); k_dflt (refine' Mine.join2 hj9 F0 N0 ?_ ?_; rotate_left; clear hj9; intro t9 u9 h9 tk9 F9 N9; (try k_sweep); (try dsimp only); (try k_fold); rotate_left; clear hj9; (try dsimp only); (try k_fold))))
local macro_rules | `(tactic| walk_at "JEnd2") => `(tactic| ((with_reducible rename Fr _ _ _ _ => F0); (with_reducible rename News _ _ _ _ => N0); k_dflt (first | (refine' Mine.jend2_store F0 N0 ?_; k_whole) | (refine' Mine.jend2_keep ?hm ?hm2 F0 N0 ?_; (case hm => rfl); (case hm2 => rfl); k_whole)); (refine ⟨?_, ?_⟩) <;> (first | omega | (unfold Mine.yj; (repeat' split) <;> omega) | (unfold Mine.mj; (repeat' split) <;> omega))))
local macro_rules | `(tactic| walk_at "compareOp In int ref") => `(tactic| (k_here; k_dflt (refine' Mine.w_in30 ?k1 ?k2 ?k3 ?_; (case k1 => k_asm); (case k2 => k_asm); (case k3 => k_is))))
local macro_rules | `(tactic| walk_at "pad") => `(tactic| fail)
local macro_rules | `(tactic| walk_at "subscriptTail Name Constant ref int") => `(tactic| (k_here; (with_reducible show wpAny _ _ (subscriptTail _ _ (Value.ref _) (Value.int _ _)) _ _ _); k_dflt (refine' Mine.w_num ?k1 ?k2 ?k4 ?_; (case k1 => is_list); (case k2 => l_ints); (case k4 => (simp; omega)); k_whole; intro r t hn hr)))
local macro_rules | `(tactic| walk_at "call ref") => `(tactic| (k_here; (with_reducible show wpAny _ _ (call (Value.ref 78) _) _ _ _); k_dflt (refine' Mine.Claim.use (Mine.g_from_jd_gregorian _ ?p1 ?p2 ?p3) ?k1 ?k2 ?k3 ?k4 ?k5 ?k6 ?k7 ?k8 ?_; (case p1 => assumption); (case p2 => assumption); (case p3 => omega); (case k1 => k_asm); (case k2 => k_asm); (case k3 => k_asm); (case k4 => k_asm); (case k5 => k_asm); (case k6 => first | exact rfl | assumption); (case k7 => ktr_room); (case k8 => ktr_units); k_whole; (try dsimp only [Mine.RetB, Mine.RetI, Mine.RetH, Mine.Ret2, Mine.Ret2E, Mine.Ret3, Mine.RetHE, Mine.RetBE]); intro D9 a9 b9 c9 t1 t2 t3 k9 h9 tk9 e1 e2 e3 F9 N1 N2; subst e1; subst e2; subst e3; have N9 := Mine.news_cons N1 N2; clear N1 N2; (try dsimp only); (try k_fold))))
local macro_rules | `(tactic| walk_at "call ref") => `(tactic| (k_here; (with_reducible show wpAny _ _ (call (Value.ref 92) _) _ _ _); k_dflt (refine' Mine.Claim.use (Mine.g_from_jd_ordinal _ ?p1 ?p2 ?p3) ?k1 ?k2 ?k3 ?k4 ?k5 ?k6 ?k7 ?k8 ?_; (case p1 => assumption); (case p2 => assumption); (case p3 => omega); (case k1 => k_asm); (case k2 => k_asm); (case k3 => k_asm); (case k4 => k_asm); (case k5 => k_asm); (case k6 => first | exact rfl | assumption); (case k7 => ktr_room); (case k8 => ktr_units); k_whole; (try dsimp only [Mine.RetB, Mine.RetI, Mine.RetH, Mine.Ret2, Mine.Ret2E, Mine.Ret3, Mine.RetHE, Mine.RetBE]); intro D9 a9 b9 t1 t2 k9 h9 tk9 e1 e2 F9 N1 N2; subst e1; subst e2; have N9 := Mine.news_cons N1 N2; clear N1 N2; (try dsimp only); (try k_fold))))
local macro_rules | `(tactic| walk_at "call ref") => `(tactic| (k_here; (with_reducible show wpAny _ _ (call (Value.ref 85) _) _ _ _); k_dflt (refine' Mine.Claim.use (Mine.g_to_jd_ordinal _ ?p1 ?p2) ?k1 ?k2 ?k3 ?k4 ?k5 ?k6 ?k7 ?k8 ?_; (case p1 => assumption); (case p2 => omega); (case k1 => k_asm); (case k2 => k_asm); (case k3 => k_asm); (case k4 => k_asm); (case k5 => k_asm); (case k6 => first | exact rfl | assumption); (case k7 => ktr_room); (case k8 => ktr_units); k_whole; (try dsimp only [Mine.RetB, Mine.RetI, Mine.RetH, Mine.Ret2, Mine.Ret2E, Mine.Ret3, Mine.RetHE, Mine.RetBE]); intro z q t9 h9 tk9 z9 e9 F9 N9; subst e9; (try dsimp only); (try k_fold))))
local macro_rules | `(tactic| walk_at "call ref") => `(tactic| (k_here; (with_reducible show wpAny _ _ (call (Value.ref 99) _) _ _ _); k_dflt (refine' Mine.Claim.use (Mine.g_from_gregorian_ordinal _ ?p1) ?k1 ?k2 ?k3 ?k4 ?k5 ?k6 ?k7 ?k8 ?_; (case p1 => assumption); (case k1 => k_asm); (case k2 => k_asm); (case k3 => k_asm); (case k4 => k_asm); (case k5 => k_asm); (case k6 => first | exact rfl | assumption); (case k7 => ktr_room); (case k8 => ktr_units); k_whole; (try dsimp only [Mine.RetB, Mine.RetI, Mine.RetH, Mine.Ret2, Mine.Ret2E, Mine.Ret3, Mine.RetHE, Mine.RetBE]); intro D9 a9 b9 t1 t2 k9 h9 tk9 e1 e2 F9 N1 N2; subst e1; subst e2; have N9 := Mine.news_cons N1 N2; clear N1 N2; (try dsimp only); (try k_fold))))
local macro_rules | `(tactic| walk_at "call ref") => `(tactic| (k_here; (with_reducible show wpAny _ _ (call (Value.ref 106) _) _ _ _); k_dflt (refine' Mine.Claim.use (Mine.g_to_gregorian_ordinal _ ?p1 ?p2) ?k1 ?k2 ?k3 ?k4 ?k5 ?k6 ?k7 ?k8 ?_; (case p1 => assumption); (case p2 => omega); (case k1 => k_asm); (case k2 => k_asm); (case k3 => k_asm); (case k4 => k_asm); (case k5 => k_asm); (case k6 => first | exact rfl | assumption); (case k7 => ktr_room); (case k8 => ktr_units); k_whole; (try dsimp only [Mine.RetB, Mine.RetI, Mine.RetH, Mine.Ret2, Mine.Ret2E, Mine.Ret3, Mine.RetHE, Mine.RetBE]); intro D9 a9 b9 c9 t1 t2 t3 k9 h9 tk9 e1 e2 e3 F9 N1 N2; subst e1; subst e2; subst e3; have N9 := Mine.news_cons N1 N2; clear N1 N2; (try dsimp only); (try k_fold))))
local macro_rules | `(tactic| walk_at "call ref") => `(tactic| (k_here; (with_reducible show wpAny _ _ (call (Value.ref 64) _) _ _ _); k_dflt (refine' Mine.Claim.use (Mine.g_to_jd2 _ ?p1) ?k1 ?k2 ?k3 ?k4 ?k5 ?k6 ?k7 ?k8 ?_; (case p1 => assumption); (case k1 => k_asm); (case k2 => k_asm); (case k3 => k_asm); (case k4 => k_asm); (case k5 => k_asm); (case k6 => first | exact rfl | assumption); (case k7 => ktr_room); (case k8 => ktr_units); k_whole; (try dsimp only [Mine.RetB, Mine.RetI, Mine.RetH, Mine.Ret2, Mine.Ret2E, Mine.Ret3, Mine.RetHE, Mine.RetBE]); intro z q t9 h9 tk9 z9 e9 F9 N9; subst e9; (try dsimp only); (try k_fold))))
local macro_rules | `(tactic| walk_at "call ref") => `(tactic| (k_here; (with_reducible show wpAny _ _ (call (Value.ref 71) _) _ _ _); k_dflt (refine' Mine.Claim.use (Mine.g_to_jd_gregorian _ ?p1) ?k1 ?k2 ?k3 ?k4 ?k5 ?k6 ?k7 ?k8 ?_; (case p1 => assumption); (case k1 => k_asm); (case k2 => k_asm); (case k3 => k_asm); (case k4 => k_asm); (case k5 => k_asm); (case k6 => first | exact rfl | assumption); (case k7 => ktr_room); (case k8 => ktr_units); k_whole; (try dsimp only [Mine.RetB, Mine.RetI, Mine.RetH, Mine.Ret2, Mine.Ret2E, Mine.Ret3, Mine.RetHE, Mine.RetBE]); intro z q t9 h9 tk9 z9 e9 F9 N9; subst e9; (try dsimp only); (try k_fold))))
local macro_rules | `(tactic| walk_at "call ref") => `(tactic| (k_here; (with_reducible show wpAny _ _ (call (Value.ref 142) _) _ _ _); k_dflt (refine' Mine.Claim.use (Mine.g_to_jd_julian _ ?p1) ?k1 ?k2 ?k3 ?k4 ?k5 ?k6 ?k7 ?k8 ?_; (case p1 => assumption); (case k1 => k_asm); (case k2 => k_asm); (case k3 => k_asm); (case k4 => k_asm); (case k5 => k_asm); (case k6 => first | exact rfl | assumption); (case k7 => ktr_room); (case k8 => ktr_units); k_whole; (try dsimp only [Mine.RetB, Mine.RetI, Mine.RetH, Mine.Ret2, Mine.Ret2E, Mine.Ret3, Mine.RetHE, Mine.RetBE]); intro z q t9 h9 tk9 z9 e9 F9 N9; subst e9; (try dsimp only); (try k_fold))))
local macro_rules | `(tactic| walk_at "call ref") => `(tactic| (k_here; (with_reducible show wpAny _ _ (call (Value.ref 135) _) _ _ _); k_dflt (refine' Mine.Claim.use (Mine.g_from_jd_julian _ ?p1 ?p2 ?p3) ?k1 ?k2 ?k3 ?k4 ?k5 ?k6 ?k7 ?k8 ?_; (case p1 => assumption); (case p2 => assumption); (case p3 => omega); (case k1 => k_asm); (case k2 => k_asm); (case k3 => k_asm); (case k4 => k_asm); (case k5 => k_asm); (case k6 => first | exact rfl | assumption); (case k7 => ktr_room); (case k8 => ktr_units); k_whole; (try dsimp only [Mine.RetB, Mine.RetI, Mine.RetH, Mine.Ret2, Mine.Ret2E, Mine.Ret3, Mine.RetHE, Mine.RetBE]); intro D9 a9 b9 c9 t1 t2 t3 k9 h9 tk9 e1 e2 e3 F9 N1 N2; subst e1; subst e2; subst e3; have N9 := Mine.news_cons N1 N2; clear N1 N2; (try dsimp only); (try k_fold))))
local macro_rules | `(tactic| walk_at "call ref") => `(tactic| (k_here; (with_reducible show wpAny _ _ (call (Value.ref 247) _) _ _ _); k_dflt (refine' Mine.Claim.use (Mine.g_to_jd_positivist _ ?p1 ?p2 ?p3 ?p4 ?p5) ?k1 ?k2 ?k3 ?k4 ?k5 ?k6 ?k7 ?k8 ?_; (case p1 => assumption); (case p2 => omega); (case p3 => omega); (case p4 => omega); (case p5 => omega); (case k1 => k_asm); (case k2 => k_asm); (case k3 => k_asm); (case k4 => k_asm); (case k5 => k_asm); (case k6 => first | exact rfl | assumption); (case k7 => ktr_room); (case k8 => ktr_units); k_whole; (try dsimp only [Mine.RetB, Mine.RetI, Mine.RetH, Mine.Ret2, Mine.Ret2E, Mine.Ret3, Mine.RetHE, Mine.RetBE]); intro z q t9 h9 tk9 z9 e9 F9 N9; subst e9; (try dsimp only); (try k_fold))))
local macro_rules | `(tactic| walk_at "call ref") => `(tactic| (k_here; (with_reducible show wpAny _ _ (call (Value.ref 254) _) _ _ _); k_dflt (refine' Mine.Claim.use (Mine.g_from_jd_positivist _ ?p1 ?p2 ?p3 ?p4 ?p5) ?k1 ?k2 ?k3 ?k4 ?k5 ?k6 ?k7 ?k8 ?_; (case p1 => assumption); (case p2 => omega); (case p3 => first | assumption | omega); (case p4 => assumption); (case p5 => omega); (case k1 => k_asm); (case k2 => k_asm); (case k3 => k_asm); (case k4 => k_asm); (case k5 => k_asm); (case k6 => first | exact rfl | assumption); (case k7 => ktr_room); (case k8 => ktr_units); k_whole; (try dsimp only [Mine.RetB, Mine.RetI, Mine.RetH, Mine.Ret2, Mine.Ret2E, Mine.Ret3, Mine.RetHE, Mine.RetBE]); intro D9 a9 b9 c9 t1 t2 t3 k9 h9 tk9 e1 e2 e3 F9 N1 N2; subst e1; subst e2; subst e3; have N9 := Mine.news_cons N1 N2; clear N1 N2; (try dsimp only); (try k_fold))))
local macro_rules | `(tactic| walk_at "call ref") => `(tactic| (k_here; (with_reducible show wpAny _ _ (call (Value.ref 275) _) _ _ _); k_dflt (refine' Mine.Claim.use (Mine.c_law_first _ _ _) ?k1 ?k2 ?k3 ?k4 ?k5 ?k6 ?k7 ?k8 ?_; (case k1 => k_asm); (case k2 => k_asm); (case k3 => k_asm); (case k4 => k_asm); (case k5 => k_asm); (case k6 => first | exact rfl | assumption); (case k7 => ktr_room); (case k8 => ktr_units); k_whole; (try dsimp only [Mine.RetB, Mine.RetI, Mine.RetH, Mine.Ret2, Mine.Ret2E, Mine.Ret3, Mine.RetHE, Mine.RetBE]); intro v t9 h9 tk9 e9 F9 N9; subst e9; (try dsimp only); (try k_fold))))
local macro_rules | `(tactic| walk_at "call ref") => `(tactic| (k_here; (with_reducible show wpAny _ _ (call (Value.ref 289) _) _ _ _); k_dflt (refine' Mine.Claim.use (Mine.c_law_gregorian _ _ _ ?p1) ?k1 ?k2 ?k3 ?k4 ?k5 ?k6 ?k7 ?k8 ?_; (case p1 => omega); (case k1 => k_asm); (case k2 => k_asm); (case k3 => k_asm); (case k4 => k_asm); (case k5 => k_asm); (case k6 => first | exact rfl | assumption); (case k7 => ktr_room); (case k8 => ktr_units); k_whole; (try dsimp only [Mine.RetB, Mine.RetI, Mine.RetH, Mine.Ret2, Mine.Ret2E, Mine.Ret3, Mine.RetHE, Mine.RetBE]); (try dsimp only [Mine.RetG]); intro D9 a9 b9 c9 t1 t2 t3 k9 h9 tk9 q1 q2 q3 F9 N1 N2; have N9 := Mine.news_cons N1 N2; clear N1 N2; (try clear hGD hpl); have hGD := Mine.GD.mk (by omega) q1 q2 q3; have hpl := Mine.GD.place hGD; clear q1 q2 q3; (try dsimp only); (try k_fold))))
local macro_rules | `(tactic| walk_at "call ref") => `(tactic| (k_here; (with_reducible show wpAny _ _ (call (Value.ref 296) _) _ _ _); k_dflt (refine' Mine.Claim.use (Mine.c_law_julian _ _ _ ?p1) ?k1 ?k2 ?k3 ?k4 ?k5 ?k6 ?k7 ?k8 ?_; (case p1 => omega); (case k1 => k_asm); (case k2 => k_asm); (case k3 => k_asm); (case k4 => k_asm); (case k5 => k_asm); (case k6 => first | exact rfl | assumption); (case k7 => ktr_room); (case k8 => ktr_units); k_whole; (try dsimp only [Mine.RetB, Mine.RetI, Mine.RetH, Mine.Ret2, Mine.Ret2E, Mine.Ret3, Mine.RetHE, Mine.RetBE]); (try dsimp only [Mine.RetJ]); intro D9 a9 b9 c9 t1 t2 t3 k9 h9 tk9 q1 q2 q3 F9 N1 N2; have N9 := Mine.news_cons N1 N2; clear N1 N2; have hJD := Mine.JD.mk (by omega) q1 q2 q3; clear q1 q2 q3; (try dsimp only); (try k_fold))))
local macro_rules | `(tactic| walk_at "execs cons If") => `(tactic| (k_here; (with_reducible show wpAny _ _ (execs (Stmt.If (Expr.BoolOp BoolOp.Or _ _) _ _ _ :: _) _) _ _ _); (with_reducible rename Fr _ _ _ _ => F0); (with_reducible rename News _ _ _ _ => N0); k_dflt (refine' Mine.join0 F0 N0 ?_ ?_; rotate_left; intro h9 tk9 F9 N9; (try k_sweep); (try dsimp only); (try k_fold); rotate_left; (try dsimp only); (try k_fold))))
local macro_rules | `(tactic| walk_at "JEnd0") => `(tactic| ((with_reducible rename Fr _ _ _ _ => F0); (with_reducible rename News _ _ _ _ => N0); k_dflt (refine' Mine.jend0 F0 N0 ?_); (intro p hp; first | exact hp | exact .tail _ hp | exact .tail _ (.tail _ hp) | exact .tail _ (.tail _ (.tail _ hp)) | exact .tail _ (.tail _ (.tail _ (.tail _ hp))) | exact .tail _ (.tail _ (.tail _ (.tail _ (.tail _ hp)))) | exact .tail _ (.tail _ (.tail _ (.tail _ (.tail _ (.tail _ hp))))))))
local macro_rules | `(tactic| walk_at "compareOp NotEq float float") => `(tactic| (k_here; (with_reducible show wpAny _ _ (compareOp _ (Value.float _ _) (Value.float _ _)) _ _ _); (with_reducible refine' Mine.w_ne_ff0 ?hx ?hy ?he ?_; (case hx => with_reducible first | assumption | exact Mine.hf_epoch | exact Mine.hf_half | exact Mine.hf_1524 | exact Mine.hf_pos | exact Mine.hf_1_5); (case hy => with_reducible first | assumption | exact Mine.hf_epoch | exact Mine.hf_half | exact Mine.hf_1524 | exact Mine.hf_pos | exact Mine.hf_1_5); (case he => k_dflt omega); k_whole; (try dsimp only))))
local macro_rules | `(tactic| walk_at "binaryOp FloorDiv int int") => `(tactic| (k_here; (with_reducible show wpAny _ _ (binaryOp _ (Value.int _ _) (Value.int 28 _)) _ _ _); with_reducible refine' Mine.w_fdiv28 ?_; k_whole; intro r hr; (try dsimp only)))
local macro_rules | `(tactic| walk_at "binaryOp Mod int int") => `(tactic| (k_here; (with_reducible show wpAny _ _ (binaryOp _ (Value.int _ _) (Value.int 28 _)) _ _ _); with_reducible refine' Mine.w_mod_ii ?k1 ?_; (case k1 => decide); k_whole; intro r hr; (try dsimp only)))
local macro_rules | `(tactic| walk_at "binaryOp Mod int int") => `(tactic| (k_here; (with_reducible show wpAny _ _ (binaryOp _ (Value.int _ _) (Value.int 17 _)) _ _ _); with_reducible refine' Mine.w_mod_ii ?k1 ?_; (case k1 => decide); k_whole; intro r hr; (try dsimp only)))
local macro_rules | `(tactic| walk_at "binaryOp Mod int int") => `(tactic| (k_here; (with_reducible show wpAny _ _ (binaryOp _ (Value.int _ _) (Value.int 31 _)) _ _ _); with_reducible refine' Mine.w_mod_ii ?k1 ?_; (case k1 => decide); k_whole; intro r hr; (try dsimp only)))
local macro_rules | `(tactic| walk_at "binaryOp Mod int int") => `(tactic| (k_here; (with_reducible show wpAny _ _ (binaryOp _ (Value.int _ _) (Value.int 400 _)) _ _ _); with_reducible refine' Mine.w_mod_ii ?k1 ?_; (case k1 => decide); k_whole; intro r hr; (try dsimp only)))
local macro_rules | `(tactic| walk_at "execs cons If") => `(tactic| (k_here; (with_reducible show wpAny _ _ (execs (Stmt.If (Expr.BoolOp BoolOp.And _ _) _ _ _ :: _) _) _ _ _); (with_reducible rename Fr _ _ _ _ => F0); k_dflt (refine' Mine.legal_split F0 ?hy ?hm ?hd ?_ ?_; (case hy => rfl); (case hm => rfl); (case hd => rfl); rotate_left; (intro hI; have hI2 := Mine.Illegal.cases hI; have hP := Mine.Illegal.plen hI; have hN := Mine.Illegal.next hI); rotate_left; (intro hI; have hI2 := Mine.Legal.all hI; have hP := Mine.Legal.plen hI; have hN := Mine.Legal.next hI; have hY := Mine.Legal.yb hI (by omega)))))
local macro_rules | `(tactic| walk_at "execs cons If") => `(tactic| (k_here; (with_reducible show wpAny _ _ (execs (Stmt.If (Expr.BoolOp BoolOp.And _ _) _ _ _ :: _) _) _ _ _); (with_reducible rename Mine.Illegal _ _ _ => hI9); (with_reducible rename Fr _ _ _ _ => F0); (with_reducible rename News _ _ _ _ => N0); k_dflt (refine' Mine.join0 F0 N0 ?_ ?_; rotate_left; intro h9 tk9 F9 N9; (try k_sweep); (try dsimp only); (try k_fold); rotate_left; (try dsimp only); (try k_fold))))
local macro_rules | `(tactic| walk_at "execs cons If") => `(tactic| (k_here; (with_reducible show wpAny _ _ (execs (Stmt.If (Expr.BoolOp BoolOp.And _ _) _ _ _ :: _) _) _ _ _); (with_reducible rename Mine.Legal _ _ _ => hL9); (with_reducible rename Fr _ _ _ _ => F0); (with_reducible rename News _ _ _ _ => N0); k_dflt (refine' Mine.joinF hL9 F0 N0 ?_ ?_; rotate_left; intro z9 t9 h9 tk9 hz9 F9 N9; (try k_sweep); (try dsimp only); (try k_fold); rotate_left; (try dsimp only); (try k_fold))))
local macro_rules | `(tactic| walk_at "JEndF") => `(tactic| ((with_reducible rename Fr _ _ _ _ => F0); (with_reducible rename News _ _ _ _ => N0); k_dflt (refine' Mine.jendF F0 N0 ?hz ?he ?_; (case hz => with_reducible assumption)); (case he => omega); (intro p hp; first | exact hp | exact .tail _ hp | exact .tail _ (.tail _ hp) | exact .tail _ (.tail _ (.tail _ hp)) | exact .tail _ (.tail _ (.tail _ (.tail _ hp))) | exact .tail _ (.tail _ (.tail _ (.tail _ (.tail _ hp)))) | exact .tail _ (.tail _ (.tail _ (.tail _ (.tail _ (.tail _ hp))))))))
local macro_rules | `(tactic| walk_at "LawEnd") => `(tactic| ((with_reducible rename Fr _ _ _ _ => F0); exact Mine.law_end F0 (by first | rfl | decide)))
local macro_rules | `(tactic| walk_at "call ref") => `(tactic| (k_here; (with_reducible show wpAny _ _ (call (Value.ref 303) _) _ _ _); k_dflt (refine' Mine.ClaimL.use (Mine.asked0 _ _ _ _ _ _ _ ?p1 ?p2) ?k1 ?k2 ?k3 ?k4 ?k5 ?k7 ?_; (case p1 => assumption); (case p2 => omega); (case k1 => assumption); (case k2 => k_asm); (case k3 => k_asm); (case k4 => k_asm); (case k5 => k_asm); (case k7 => first | exact rfl | assumption); k_whole; (try dsimp only [Mine.RetH, Mine.RetS]); intro t9 h9 tk9 F9 N9; (try dsimp only); (try k_fold))))
local macro_rules | `(tactic| walk_at "call ref") => `(tactic| (k_here; (with_reducible show wpAny _ _ (call (Value.ref 303) _) _ _ _); k_dflt (refine' Mine.ClaimL.use (Mine.asked1 _ _ _ _ _ _ _ _ ?p1 ?p2 ?p3 ?p4) ?k1 ?k2 ?k3 ?k4 ?k5 ?k7 ?_; (case p1 => assumption); (case p2 => omega); (case p3 => omega); (case p4 => omega); (case k1 => assumption); (case k2 => k_asm); (case k3 => k_asm); (case k4 => k_asm); (case k5 => k_asm); (case k7 => first | exact rfl | assumption); k_whole; (try dsimp only [Mine.RetH, Mine.RetS]); intro t9 h9 tk9 F9 N9; (try dsimp only); (try k_fold))))
local macro_rules | `(tactic| walk_at "call ref") => `(tactic| (k_here; (with_reducible show wpAny _ _ (call (Value.ref 303) _) _ _ _); k_dflt (refine' Mine.ClaimL.use (Mine.askedL _ _ _ _ _ _ _ _ ?p1 ?p2) ?k1 ?k2 ?k3 ?k4 ?k5 ?k7 ?_; (case p1 => assumption); (case p2 => omega); (case k1 => assumption); (case k2 => k_asm); (case k3 => k_asm); (case k4 => k_asm); (case k5 => k_asm); (case k7 => first | exact rfl | assumption); k_whole; (try dsimp only [Mine.RetH, Mine.RetS]); intro z q t9 h9 tk9 z9 e9 F9 N9; subst e9; (try dsimp only); (try k_fold))))
local macro_rules | `(tactic| walk_at "execs cons") => `(tactic| (k_here; (with_reducible show wpAny _ _ (execs (Stmt.Assign _ (Expr.Subscript _ (Expr.Constant (Const.int 1) _ _) _) _ :: _) _) _ _ _); (with_reducible rename Fr _ _ _ _ => F0); (with_reducible rename News _ _ _ _ => N0); (with_reducible rename Mine.GD _ _ _ _ => hG0); (with_reducible rename Mine.JD _ _ _ _ => hJ0); k_dflt (refine' Mine.law_B_cut _ ?k1 ?k2 ?k3 F0 N0 ?h1 ?h2 ?h3 ?h4 ?h5 ?h6 hG0 hJ0 ?hz ?k7 ?k5 ?k6; (case k1 => assumption); (case k2 => assumption); (case k3 => assumption); (case h1 => rfl); (case h2 => rfl); (case h3 => rfl); (case h4 => rfl); (case h5 => rfl); (case h6 => rfl); (case hz => assumption); (case k7 => (repeat (first | exact List.Mem.head _ | refine List.Mem.tail _ ?_))); (case k5 => (repeat (first | exact List.Mem.head _ | refine List.Mem.tail _ ?_))); (case k6 => l_ints))))

open PySem.Challenge in
theorem law_holds : PySem.Challenge.rw_ak5020_01.Holds := hd (by
  w_top off
  k_with_none
  k_go0
  dsimp only
  rename_i w s0 s1 mg mb G Y fa o pm doc kV ho hg KX X V GL T B TE TW w9 w8 M w7 w6 hcd ns hs hlay0 hL1 hr1 hl2 w4 w3 l vs w0 hL ra w1 r0 hI hr hc63 hct K0 hD h1 F N0
  have K1 : Below callerA s1.heap [] s1.heap := K0
  refine (wpAny_mono ?_ (fun f s' (h9 : LawEnd s1 f s') => ?_) (fun e s' (h : False) => h.elim))
  rotate_left
  · obtain ⟨rfl, h', tk', m', rfl, F9⟩ := h9
    clear F N0
    dsimp only
    k_steps
  clear K0 hcd TW TE V Y hD X B M G ho hs hL1 hlay0 hr1 hl2 ra w1 r0 hr hct w4 w3 w0 w9 w8 hg kV doc pm o
  dsimp only at F
  all_goals (try k_fold)
  all_goals k_steps
)
end Mine

theorem PySem.Challenge.cw_ak5020_01_holds : PySem.Challenge.rw_ak5020_01.Holds := by
  exact Mine.law_holds

