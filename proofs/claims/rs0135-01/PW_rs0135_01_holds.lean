import PyProof.Rows.All
import Wide.All
import OpenK.AllK
import Wide.FinOn
import PySem.Challenge.RW_rs0135_01
set_option Elab.async false

namespace Mine
open PySem PySem.Float64

/-- one sixteenth, in units of 2^-1074 -/
theorem U_ex : ∃ n : Nat, n = 2 ^ 1070 := ⟨_, rfl⟩
noncomputable def U : Nat := U_ex.choose
theorem U_eq : U = 2 ^ 1070 := U_ex.choose_spec
theorem U_pos : 0 < U := by rw [U_eq]; exact Nat.two_pow_pos _
theorem U16 : 2 ^ 1074 = 16 * U := by rw [U_eq]; decide +kernel

/-- x is a finite float of value k/16 -/
def Fv (x : UInt64) (k : Int) : Prop := (∃ a m e, decode x = .fin a m e) ∧ val x = k * (U : Int)

theorem V_hit {c : Nat} (hc : c < 2 ^ 53) : ∃ t, V t = c * U := by
  by_cases h0 : c = 0
  · exact ⟨0, by rw [V_zero, h0, Nat.zero_mul]⟩
  · have hl : c.log2 < 53 := (Nat.log2_lt h0).mpr hc
    refine ⟨(1070 - (52 - c.log2)) * 2 ^ 52 + c * 2 ^ (52 - c.log2), ?_⟩
    have h1 : 2 ^ c.log2 ≤ c := Nat.log2_self_le h0
    have h2 : c < 2 ^ (c.log2 + 1) := Nat.lt_log2_self
    have e1 : 2 ^ 52 = 2 ^ c.log2 * 2 ^ (52 - c.log2) := by rw [← Nat.pow_add]; congr 1; omega
    have e2 : 2 ^ 53 = 2 ^ (c.log2 + 1) * 2 ^ (52 - c.log2) := by rw [← Nat.pow_add]; congr 1; omega
    rw [V_at (by rw [e2]; exact Nat.mul_le_mul_right _ (Nat.le_of_lt h2)) (.inl (by rw [e1]; exact Nat.mul_le_mul_right _ h1))]
    have e3 : U = 2 ^ (52 - c.log2) * 2 ^ (1070 - (52 - c.log2)) := by
      rw [U_eq]
      rw [← Nat.pow_add]
      congr 1
      omega
    rw [e3, Nat.mul_assoc]

theorem U_small {c : Nat} (hc : c < 2 ^ 53) : ¬ (2 ^ 54 - 1) * 2 ^ 2045 ≤ 2 * (c * U) := by
  have h : 2 * (c * U) ≤ 2 * (2 ^ 53 * U) := Nat.mul_le_mul_left _ (Nat.mul_le_mul_right _ (Nat.le_of_lt hc))
  have h2 : 2 * (2 ^ 53 * U) < (2 ^ 54 - 1) * 2 ^ 2045 := by rw [U_eq]; decide +kernel
  omega

theorem right_exact {r : UInt64} {neg : Bool} {D c : Nat} (hD : 0 < D) (hc : c < 2 ^ 53) (h : Right r neg (D * (c * U)) D) : (∃ a m e, decode r = .fin a m e) ∧ val r = sgn neg (c * U) := by
  obtain ⟨t, rfl, ht, h1, h2⟩ := h
  have hn : t ≠ infMag := by
    intro e
    have := h1.mp e
    rw [Nat.mul_left_comm 2] at this
    exact U_small hc (Nat.le_of_mul_le_mul_left this hD)
  have hlt : t < infMag := by omega
  obtain ⟨t₀, h₀⟩ := V_hit hc
  have h3 := (h2 hlt t₀).1
  rw [h₀] at h3
  have hv : V t = c * U := by
    unfold dist at h3
    have : D * V t = D * (c * U) := by omega
    exact Nat.eq_of_mul_eq_mul_left hD this
  obtain ⟨m, e, hd, _⟩ := decode_pack neg hlt
  exact ⟨⟨_, _, _, hd⟩, by rw [val_pack neg hlt, hv]⟩

theorem sgn_decide (z : Int) (K : Nat) (hK : 0 < K) : sgn (decide (z * (K : Int) < 0)) (z.natAbs * K) = z * (K : Int) := by
  rw [sgn_mul]
  congr 1
  have hK' : (0 : Int) < K := by omega
  unfold sgn
  by_cases h : z < 0
  · rw [decide_eq_true (Int.mul_neg_of_neg_of_pos h hK')]; simp; omega
  · have : ¬ z * (K : Int) < 0 := by have := Int.mul_nonneg (show 0 ≤ z by omega) (Int.le_of_lt hK'); omega
    rw [decide_eq_false this]; simp; omega

theorem Fv.zero (b : Bool) : Fv (zero b) 0 := by
  obtain ⟨m, e, hd, hv⟩ := decode_pack b (t := 0) (by decide)
  exact ⟨⟨_, _, _, hd⟩, by unfold Float64.zero; rw [val_pack b (by decide), V_zero]; unfold sgn; cases b <;> simp⟩

theorem Fv.addR {x y r : UInt64} {sa sb : Bool} {k : Int} (hxy : ∀ (K : Int), K = val x + val y → (K = 0 → r = Float64.zero (sa && sb)) ∧ (K ≠ 0 → Right r (decide (K < 0)) K.natAbs 1)) (hv : val x + val y = k * (U : Int)) (hk : k.natAbs < 2 ^ 53) : Fv r k := by
  have h := hxy _ hv.symm
  by_cases h0 : k = 0
  · subst h0
    rw [h.1 (by simp)]
    exact Fv.zero _
  · have hne : k * (U : Int) ≠ 0 := Int.mul_ne_zero h0 (by have := U_pos; omega)
    have h2 := h.2 hne
    rw [Int.natAbs_mul, Int.natAbs_natCast, ← Nat.one_mul (k.natAbs * U)] at h2
    have h3 := right_exact (by decide) hk h2
    exact ⟨h3.1, by rw [h3.2, sgn_decide _ _ U_pos]⟩

theorem Fv.add {x y : UInt64} {a b : Int} (hx : Fv x a) (hy : Fv y b) (h : (a + b).natAbs < 2 ^ 53) : Fv (add x y) (a + b) := by
  obtain ⟨⟨sa, m, e, dx⟩, vx⟩ := hx
  obtain ⟨⟨sb, n, f, dy⟩, vy⟩ := hy
  exact Fv.addR (x := x) (y := y) (sa := sa) (sb := sb) (fun K hK => hK ▸ add_right dx dy) (by rw [vx, vy, Int.add_mul]) h
theorem Fv.neg {x : UInt64} {a : Int} (hx : Fv x a) : Fv (neg x) (-a) := by
  obtain ⟨⟨sa, m, e, dx⟩, vx⟩ := hx
  exact ⟨⟨_, _, _, neg_decode dx⟩, by rw [neg_val dx, vx, Int.neg_mul]⟩
theorem Fv.sub {x y : UInt64} {a b : Int} (hx : Fv x a) (hy : Fv y b) (h : (a - b).natAbs < 2 ^ 53) : Fv (Float64.sub x y) (a - b) := by
  have := Fv.add hx hy.neg (by rw [← Int.sub_eq_add_neg]; exact h)
  rw [← Int.sub_eq_add_neg] at this
  unfold Float64.sub
  exact this

theorem sgn_ne (sa sb : Bool) (m n : Nat) : sgn (sa != sb) (m * n) = sgn sa m * sgn sb n := by
  unfold sgn
  cases sa <;> cases sb <;> simp [Int.neg_mul, Int.mul_neg, Int.natCast_mul]

theorem signs {sa sb : Bool} {x y : UInt64} {m n : Nat} {e f : Int} {a b c : Int} (dx : decode x = .fin sa m e) (dy : decode y = .fin sb n f) (vx : val x = a * (U : Int)) (vy : val y = b * (U : Int)) (hc : 0 ≤ a * b * c) (hz : c ≠ 0 → a ≠ 0 ∧ b ≠ 0) : sgn (sa != sb) (c.natAbs * U) = c * (U : Int) := by
  rw [sgn_mul]
  congr 1
  by_cases h0 : c = 0
  · subst h0; unfold sgn; cases (sa != sb) <;> rfl
  · obtain ⟨ha, hb⟩ := hz h0
    have hU : (0 : Int) < U := by have := U_pos; omega
    have key : ∀ (s : Bool) (M : Nat) (z : Int), sgn s M = z * (U : Int) → z ≠ 0 → s = decide (z < 0) := by
      intro s M z h hz
      unfold sgn at h
      cases s
      · by_cases q : z < 0
        · have := Int.mul_neg_of_neg_of_pos q hU
          simp at h; omega
        · simp [q]
      · by_cases q : z < 0
        · simp [q]
        · have := Int.mul_pos (show 0 < z by omega) hU
          simp at h; omega
    have h1 := key _ _ _ ((val_eq dx).symm.trans vx) ha
    have h2 := key _ _ _ ((val_eq dy).symm.trans vy) hb
    have hab : a * b ≠ 0 := Int.mul_ne_zero ha hb
    have h3 : (c < 0) ↔ (a * b < 0) := by
      constructor
      · intro q
        by_cases r : a * b < 0
        · exact r
        · have := Int.mul_neg_of_pos_of_neg (show 0 < a * b by omega) q; omega
      · intro q
        by_cases r : c < 0
        · exact r
        · have := Int.mul_neg_of_neg_of_pos q (show 0 < c by omega); omega
    have h4 : (a * b < 0) ↔ ((decide (a < 0) != decide (b < 0)) = true) := by
      by_cases p : a < 0 <;> by_cases q : b < 0
      · have := Int.mul_pos_of_neg_of_neg p q; simp [p, q]; omega
      · have := Int.mul_neg_of_neg_of_pos p (show 0 < b by omega); simp [p, q]; omega
      · have := Int.mul_neg_of_pos_of_neg (show 0 < a by omega) q; simp [p, q]; omega
      · have := Int.mul_pos (show 0 < a by omega) (show 0 < b by omega); simp [p, q]; omega
    rw [h1, h2]
    unfold sgn
    by_cases q : c < 0
    · rw [if_pos (h4.mp (h3.mp q))]; omega
    · rw [if_neg (fun r => q (h3.mpr (h4.mpr r)))]; omega

theorem Fv.mul {x y : UInt64} {a b c : Int} (hx : Fv x a) (hy : Fv y b) (h : a * b = 16 * c) (hc : c.natAbs < 2 ^ 53) : Fv (mul x y) c := by
  obtain ⟨⟨sa, m, e, dx⟩, vx⟩ := hx
  obtain ⟨⟨sb, n, f, dy⟩, vy⟩ := hy
  have hR := mul_right dx dy
  rw [vx, vy, Int.natAbs_mul, Int.natAbs_mul, Int.natAbs_natCast, U16] at hR
  have hn : a.natAbs * b.natAbs = 16 * c.natAbs := by rw [← Int.natAbs_mul, h, Int.natAbs_mul]; rfl
  have e1 : a.natAbs * U * (b.natAbs * U) = 16 * U * (c.natAbs * U) := by
    calc a.natAbs * U * (b.natAbs * U) = (a.natAbs * b.natAbs) * (U * U) := by ac_rfl
      _ = 16 * c.natAbs * (U * U) := by rw [hn]
      _ = _ := by ac_rfl
  rw [e1] at hR
  have h3 := right_exact (Nat.mul_pos (by decide) U_pos) hc hR
  refine ⟨h3.1, h3.2.trans (signs dx dy vx vy ?_ ?_)⟩
  · rw [h, Int.mul_assoc]
    have : 0 ≤ c * c := by
      rcases Int.le_total 0 c with q | q
      · exact Int.mul_nonneg q q
      · exact Int.mul_nonneg_of_nonpos_of_nonpos q q
    omega
  · intro q
    constructor <;> (rintro rfl; simp at h; omega)

theorem Fv.div {x y : UInt64} {a b c : Int} (hx : Fv x a) (hy : Fv y b) (hb : b ≠ 0) (h : 16 * a = b * c) (hc : c.natAbs < 2 ^ 53) : Fv (div x y) c := by
  obtain ⟨⟨sa, m, e, dx⟩, vx⟩ := hx
  obtain ⟨⟨sb, n, f, dy⟩, vy⟩ := hy
  have hn0 : n ≠ 0 := by
    rintro rfl
    have h0 := val_natAbs dy
    rw [vy, Int.natAbs_mul, Int.natAbs_natCast, Nat.zero_mul] at h0
    have hU := U_pos
    rcases Nat.mul_eq_zero.mp h0 with q | q <;> omega
  have hR := div_right dx dy hn0
  rw [vx, vy, Int.natAbs_mul, Int.natAbs_mul, Int.natAbs_natCast, U16] at hR
  have hn : 16 * a.natAbs = b.natAbs * c.natAbs := by rw [← Int.natAbs_mul, ← h, Int.natAbs_mul]; rfl
  have e1 : a.natAbs * U * (16 * U) = b.natAbs * U * (c.natAbs * U) := by
    calc a.natAbs * U * (16 * U) = (16 * a.natAbs) * (U * U) := by ac_rfl
      _ = b.natAbs * c.natAbs * (U * U) := by rw [hn]
      _ = _ := by ac_rfl
  rw [e1] at hR
  have h3 := right_exact (Nat.mul_pos (by omega) U_pos) hc hR
  refine ⟨h3.1, h3.2.trans (signs dx dy vx vy ?_ ?_)⟩
  · rw [Int.mul_assoc, ← h]
    have : 0 ≤ a * a := by
      rcases Int.le_total 0 a with q | q
      · exact Int.mul_nonneg q q
      · exact Int.mul_nonneg_of_nonpos_of_nonpos q q
    rw [Int.mul_left_comm]; omega
  · intro q
    refine ⟨?_, hb⟩
    intro ha
    rw [ha, Int.mul_zero] at h
    rcases Int.mul_eq_zero.mp h.symm with r | r <;> contradiction

theorem Fv.ofInt {i : Int} (h : (16 * i).natAbs < 2 ^ 53) : Fv (ofInt i) (16 * i) := by
  have hR := ofInt_right i
  have e : i.natAbs * 2 ^ 1074 = 1 * ((16 * i).natAbs * U) := by rw [U16, Int.natAbs_mul]; show i.natAbs * (16 * U) = 1 * (16 * i.natAbs * U); rw [Nat.one_mul]; ac_rfl
  rw [e] at hR
  have h3 := right_exact (by decide) h hR
  refine ⟨h3.1, ?_⟩
  have e2 : decide (i < 0) = decide (16 * i * (U : Int) < 0) := by
    have hU : (0 : Int) < U := by have := U_pos; omega
    by_cases q : i < 0
    · have := Int.mul_neg_of_neg_of_pos (show 16 * i < 0 by omega) hU; simp [q, this]
    · have := Int.mul_nonneg (show 0 ≤ 16 * i by omega) (Int.le_of_lt hU)
      rw [decide_eq_false q, decide_eq_false (by omega)]
  rw [h3.2, e2, sgn_decide _ _ U_pos]

theorem Fv.cmp {x y : UInt64} {a b : Int} (hx : Fv x a) (hy : Fv y b) : Float64.cmp x y = some (compare a b) := by
  obtain ⟨⟨sa, m, e, dx⟩, vx⟩ := hx
  obtain ⟨⟨sb, n, f, dy⟩, vy⟩ := hy
  rw [cmp_right dx dy, vx, vy]
  have hU : (0 : Int) < U := by have := U_pos; omega
  congr 1
  rcases Int.lt_trichotomy a b with h | h | h
  · rw [Int.compare_eq_lt.mpr h, Int.compare_eq_lt.mpr (Int.mul_lt_mul_of_pos_right h hU)]
  · subst h; simp
  · rw [Int.compare_eq_gt.mpr h, Int.compare_eq_gt.mpr (Int.mul_lt_mul_of_pos_right h hU)]
theorem Fv.fin {x : UInt64} {a : Int} (hx : Fv x a) : isFinite x = true := by
  obtain ⟨⟨sa, m, e, dx⟩, vx⟩ := hx
  unfold isFinite; rw [dx]
theorem Fv.notInf {x : UInt64} {a : Int} (hx : Fv x a) : isInf x = false := by
  obtain ⟨⟨sa, m, e, dx⟩, vx⟩ := hx
  unfold isInf; rw [dx]
theorem Fv.notNaN {x : UInt64} {a : Int} (hx : Fv x a) : isNaN x = false := by
  obtain ⟨⟨sa, m, e, dx⟩, vx⟩ := hx
  unfold isNaN; rw [dx]
theorem Fv.isZero {x : UInt64} {a : Int} (hx : Fv x a) : isZero x = decide (a = 0) := by
  obtain ⟨⟨sa, m, e, dx⟩, vx⟩ := hx
  have h := val_natAbs dx
  rw [vx, Int.natAbs_mul, Int.natAbs_natCast] at h
  have hU := U_pos
  unfold Float64.isZero
  rw [dx]
  cases m with
  | zero =>
    rw [Nat.zero_mul] at h
    have ha : a = 0 := by rcases Nat.mul_eq_zero.mp h with q | q <;> omega
    rw [decide_eq_true ha]
    rfl
  | succ m =>
    have : a ≠ 0 := by
      intro ha
      rw [ha] at h
      have h2 : (m + 1) * 2 ^ (e + 1074).toNat = 0 := by rw [← h]; simp
      rcases Nat.mul_eq_zero.mp h2 with q | q
      · omega
      · exact absurd q (Nat.ne_of_gt (Nat.two_pow_pos _))
    rw [decide_eq_false this]
    rfl

theorem fma_zero {x y z : UInt64} {a b c : Int} (hx : Fv x a) (hy : Fv y b) (hz : Fv z (-c)) (h : a * b = 16 * c) : Fv (fma x y z) 0 := by
  obtain ⟨⟨sa, m, e, dx⟩, vx⟩ := hx
  obtain ⟨⟨sb, k, f, dy⟩, vy⟩ := hy
  obtain ⟨⟨sc, n, g, dz⟩, vz⟩ := hz
  have he := decode_ge dx
  have hf := decode_ge dy
  have hg := decode_ge dz
  have hfma : fma x y z = (if sgn (sa != sb) (m * k * 2 ^ (e + f - min (e + f) g).toNat) + sgn sc (n * 2 ^ (g - min (e + f) g).toNat) == 0 then Float64.zero (if m * k == 0 && n == 0 then (sa != sb) && sc else false) else ofBin (decide (sgn (sa != sb) (m * k * 2 ^ (e + f - min (e + f) g).toNat) + sgn sc (n * 2 ^ (g - min (e + f) g).toNat) < 0)) (sgn (sa != sb) (m * k * 2 ^ (e + f - min (e + f) g).toNat) + sgn sc (n * 2 ^ (g - min (e + f) g).toNat)).natAbs (min (e + f) g)) := by
    unfold fma
    rw [dx, dy, dz]
    rfl
  have hp : sgn (sa != sb) (m * k * 2 ^ (e + f - min (e + f) g).toNat) * ((2 ^ (min (e + f) g + 2148).toNat : Nat) : Int) = val x * val y := by
    rw [val_eq dx, val_eq dy, ← sgn_ne, ← sgn_mul]
    congr 1
    have e1 : (e + f - min (e + f) g).toNat + (min (e + f) g + 2148).toNat = (e + 1074).toNat + (f + 1074).toNat := by omega
    rw [Nat.mul_assoc, ← Nat.pow_add, e1, Nat.pow_add]
    ac_rfl
  have hq : sgn sc (n * 2 ^ (g - min (e + f) g).toNat) * ((2 ^ (min (e + f) g + 2148).toNat : Nat) : Int) = val z * ((2 ^ 1074 : Nat) : Int) := by
    have e1 : (g - min (e + f) g).toNat + (min (e + f) g + 2148).toNat = (g + 1074).toNat + 1074 := by omega
    rw [val_eq dz, ← sgn_mul, Nat.mul_assoc, ← Nat.pow_add, e1, Nat.pow_add, ← Nat.mul_assoc]
    exact sgn_mul _ _ _
  rw [U16] at hq
  generalize sgn (sa != sb) (m * k * 2 ^ (e + f - min (e + f) g).toNat) = P at *
  generalize sgn sc (n * 2 ^ (g - min (e + f) g).toNat) = R at *
  have hpos : (0 : Int) < ((2 ^ (min (e + f) g + 2148).toNat : Nat) : Int) := Int.ofNat_lt.mpr (Nat.two_pow_pos _)
  have hs : P + R = 0 := by
    have h1 : (P + R) * ((2 ^ (min (e + f) g + 2148).toNat : Nat) : Int) = 0 := by
      rw [Int.add_mul, hp, hq, vx, vy, vz]
      have e2 : a * (U : Int) * (b * (U : Int)) = a * b * ((U : Int) * (U : Int)) := by ac_rfl
      rw [e2, h, Int.natCast_mul, Int.neg_mul, Int.neg_mul]
      have e3 : c * (U : Int) * (((16 : Nat) : Int) * (U : Int)) = 16 * c * ((U : Int) * (U : Int)) := by
        show c * (U : Int) * (16 * (U : Int)) = _
        ac_rfl
      rw [e3]
      omega
    rcases Int.mul_eq_zero.mp h1 with q | q
    · exact q
    · omega
  rw [hfma, hs]
  exact Fv.zero _

open PySem.Builtin.Math in
theorem dlSum_v {x y : UInt64} {a b : Int} (hx : Fv x a) (hy : Fv y b) (ha : a.natAbs < 2 ^ 50) (hb : b.natAbs < 2 ^ 50) : Fv (dlSum x y).1 (a + b) ∧ Fv (dlSum x y).2 0 := by
  have h1 := Fv.add hx hy (by omega)
  have h2 := Fv.sub h1 hx (by omega)
  have h3 := Fv.sub h1 h2 (by omega)
  have h4 := Fv.sub hx h3 (by omega)
  have h5 := Fv.sub hy h2 (by omega)
  have h6 := Fv.add h4 h5 (by omega)
  refine ⟨h1, ?_⟩
  have e : a - (a + b - (a + b - a)) + (b - (a + b - a)) = 0 := by omega
  rw [e] at h6
  exact h6
open PySem.Builtin.Math in
theorem dlMul_v {x y : UInt64} {a b c : Int} (hx : Fv x a) (hy : Fv y b) (h : a * b = 16 * c) (hc : c.natAbs < 2 ^ 50) : Fv (dlMul x y).1 c ∧ Fv (dlMul x y).2 0 := by
  have h1 := Fv.mul hx hy h (by omega)
  exact ⟨h1, fma_zero hx hy h1.neg h⟩
/-- three floats that stand for k/16 -/
def Tv (t : UInt64 × UInt64 × UInt64) (k : Int) : Prop := Fv t.1 k ∧ Fv t.2.1 0 ∧ Fv t.2.2 0
open PySem.Builtin.Math in
theorem tlFma_v {x y : UInt64} {t : UInt64 × UInt64 × UInt64} {a b c k : Int} (hx : Fv x a) (hy : Fv y b) (ht : Tv t k) (h : a * b = 16 * c) (hc : c.natAbs < 2 ^ 49) (hk : k.natAbs < 2 ^ 49) : Tv (tlFma x y t) (k + c) := by
  obtain ⟨t1, t2, t3⟩ := ht
  have p := dlMul_v hx hy h (by omega)
  have s := dlSum_v t1 p.1 (by omega) (by omega)
  have r1 := dlSum_v t2 p.2 (by decide) (by decide)
  have r2 := dlSum_v r1.1 s.2 (by decide) (by decide)
  exact ⟨s.1, r2.1, Fv.add (Fv.add t3 r1.2 (by decide)) r2.2 (by decide)⟩
open PySem.Builtin.Math in
theorem tlToFloat_v {t : UInt64 × UInt64 × UInt64} {k : Int} (ht : Tv t k) (hk : k.natAbs < 2 ^ 49) : Fv (tlToFloat t) k := by
  obtain ⟨t1, t2, t3⟩ := ht
  have l := dlSum_v t2 t1 (by decide) (by omega)
  have := Fv.add (Fv.add t3 l.2 (by decide)) l.1 (by omega)
  have e : (0 : Int) + 0 + (0 + k) = k := by omega
  rw [e] at this
  exact this

/-- the running sums of fsum while they are exact -/
def Pv (ps : List UInt64) (k : Int) : Prop := (ps = [] ∧ k = 0) ∨ ∃ p, ps = [p] ∧ Fv p k
theorem fsumAdd_v {ps : List UInt64} {x : UInt64} {k a : Int} (hp : Pv ps k) (hx : Fv x a) (hk : k.natAbs < 2 ^ 50) (ha : a.natAbs < 2 ^ 50) :
    isFinite (fsumAdd ps x).2 = true ∧ Pv (if isZero (fsumAdd ps x).2 then (fsumAdd ps x).1 else (fsumAdd ps x).1 ++ [(fsumAdd ps x).2]) (k + a) := by
  have key : ∀ (l : List UInt64) (z : UInt64) (c : Int), l = [] → Fv z c → isFinite z = true ∧ Pv (if isZero z then l else l ++ [z]) c := by
    rintro l z c rfl hz
    refine ⟨hz.fin, ?_⟩
    rw [hz.isZero]
    by_cases h : c = 0
    · rw [decide_eq_true h]; exact .inl ⟨rfl, h⟩
    · rw [decide_eq_false h]; exact .inr ⟨z, rfl, hz⟩
  rcases hp with ⟨rfl, rfl⟩ | ⟨p, rfl, hpv⟩
  · rw [Int.zero_add]
    exact key [] x a rfl hx
  · have two : ∀ (u v : UInt64) (b c : Int), Fv u b → Fv v c → b.natAbs < 2 ^ 50 → c.natAbs < 2 ^ 50 → isZero (Float64.sub v (Float64.sub (Float64.add u v) u)) = true ∧ Fv (Float64.add u v) (b + c) := by
      intro u v b c hu hv hb hc
      have h1 := Fv.add hu hv (by omega)
      have h2 := Fv.sub h1 hu (by omega)
      have h3 := Fv.sub hv h2 (by omega)
      have e : c - (b + c - b) = 0 := by omega
      rw [e] at h3
      exact ⟨by rw [h3.isZero]; rfl, h1⟩
    unfold fsumAdd
    by_cases hl : Float64.lt (Float64.abs x) (Float64.abs p) = true
    · simp only [if_pos hl]
      have := two p x k a hpv hx hk ha
      simp only [this.1, if_true, fsumAdd]
      exact key [] _ _ rfl this.2
    · simp only [if_neg hl]
      have := two x p a k hx hpv ha hk
      simp only [this.1, if_true, fsumAdd]
      rw [Int.add_comm k a]
      exact key [] _ _ rfl this.2
theorem fsumEnd_v {ps : List UInt64} {k : Int} (hp : Pv ps k) : Fv (fsumEnd ps) k := by
  rcases hp with ⟨rfl, rfl⟩ | ⟨p, rfl, hpv⟩
  · exact Fv.zero _
  · exact hpv

end Mine

open PySem PySem.W PyProof.Rows
namespace Mine
set_option maxRecDepth 100000

abbrev pr : Program := PySem.Challenge.pw_rs0135_01
def topStmt (i : Nat) : Stmt := pr.main.body.getD i (.Pass default)
def defBody : Stmt → List Stmt | .FunctionDef _ _ b _ _ _ _ _ _ _ => b | _ => []
def defParams : Stmt → Arguments | .FunctionDef _ a _ _ _ _ _ _ _ _ => a | _ => ⟨[], [], none, [], [], none, []⟩
def defScope : Stmt → Scope | .FunctionDef _ _ _ _ _ _ s _ _ _ => s | _ => default
def defName : Stmt → Str | .FunctionDef n _ _ _ _ _ _ _ _ _ => n | _ => default
def clsBody : Stmt → List Stmt | .ClassDef _ _ _ b _ _ _ _ _ _ _ => b | _ => []
def methStmt (i : Nat) : Stmt := (clsBody (topStmt 7)).getD i (.Pass default)

/-- a def of the text, as the run leaves it -/
def fdOf (st : Stmt) (qual : Str) (dV pm : Value) (code : Addr) : FuncData :=
  { name := defName st, qualname := qual, params := defParams st, body := .stmts (defBody st), scope := defScope st, globals := 3, closure := [], defaults := dV, kwdefaults := .none,
    doc := .none, pyModule := pm, annotations := none, code := .ref code, closureTuple := .none, builtins := 0 }
def pmStat : Value := .str "cpy313.statistics" 387
def pmTab : Value := .str "cpy313.tabnanny" 432
def fdMean : FuncData := fdOf (topStmt 4) "fmean" (.ref 63) pmStat 69
def fdCov : FuncData := fdOf (topStmt 5) "covariance" .none pmStat 76
def fdInit : FuncData := fdOf (methStmt 1) "Whitespace.__init__" .none pmTab 93
def fdLong : FuncData := fdOf (methStmt 2) "Whitespace.longest_run_of_spaces" .none pmTab 100
def fdIndent : FuncData := fdOf (methStmt 3) "Whitespace.indent_level" .none pmTab 107
def fdEqual : FuncData := fdOf (methStmt 4) "Whitespace.equal" .none pmTab 114
def fdWit : FuncData := fdOf (methStmt 5) "Whitespace.not_equal_witness" .none pmTab 121

def FnAt (h : Heap) (a : Addr) (fd : FuncData) : Prop := (∃ o, h.get? a = some o ∧ o.cls = .type "function" ∧ o.data = .func fd) ∧ h.CodeRec fd.code fd.qualname
theorem FnAt.keeps {h h' : Heap} {a : Addr} {fd : FuncData} (x : FnAt h a fd) (k : ∀ b o, h.get? b = some o → h'.get? b = some o) : FnAt h' a fd :=
  let ⟨⟨o, e, r⟩, c⟩ := x; ⟨⟨o, k _ _ e, r⟩, c.keeps k⟩


structure Names (mg mb mN : Str → Option Value) : Prop where
  fsum : mg "fsum" = some (.builtin "math.fsum")
  sumprod : mg "sumprod" = some (.builtin "math.sumprod")
  fmean : mg "fmean" = some (.ref 70)
  cov : mg "covariance" = some (.ref 77)
  ws : mg "Whitespace" = some (.ref 139)
  nlen : mg "len" = none
  nrange : mg "range" = none
  nmax : mg "max" = none
  nsum : mg "sum" = none
  nisi : mg "isinstance" = none
  nfloat : mg "float" = none
  nlist : mg "list" = none
  ntuple : mg "tuple" = none
  nenum : mg "enumerate" = none
  len : mb "len" = some (.builtin "len")
  range : mb "range" = some (.type "range")
  max : mb "max" = some (.builtin "max")
  sum : mb "sum" = some (.builtin "sum")
  isi : mb "isinstance" = some (.builtin "isinstance")
  float : mb "float" = some (.type "float")
  list : mb "list" = some (.type "list")
  tuple : mb "tuple" = some (.type "tuple")
  enum : mb "enumerate" = some (.type "enumerate")
  S : mN "S" = some (.str " " 447)
  T : mN "T" = some (.str "\t" 448)
  init : mN "__init__" = some (.ref 94)
  long : mN "longest_run_of_spaces" = some (.ref 101)
  indent : mN "indent_level" = some (.ref 108)
  equal : mN "equal" = some (.ref 115)
  wit : mN "not_equal_witness" = some (.ref 122)
  nga : mN "__getattribute__" = none
  ngh : mN "__getattr__" = none
  nsa : mN "__setattr__" = none
  nraw : mN "raw" = none
  nn : mN "n" = none
  nnt : mN "nt" = none
  nnorm : mN "norm" = none
  nsimple : mN "is_simple" = none

structure Tp (mg mb mN : Str → Option Value) (h : Heap) : Prop where
  nolim : h.NoLimit
  g : h.Ns 3 mg
  b : h.Ns 0 mb
  cls : ClsAt h 139 138 mN
  clsK : ∃ K : Frag, K.In h ∧ readsIn K 139 (.type "type") = true ∧ findCls K (.ref 139) (.type "type") "S" = some (.val (.str " " 447)) ∧ findCls K (.ref 139) (.type "type") "T" = some (.val (.str "\t" 448)) ∧ K.lookup 72 = none
  fMean : FnAt h 70 fdMean
  fCov : FnAt h 77 fdCov
  fInit : FnAt h 94 fdInit
  fLong : FnAt h 101 fdLong
  fIndent : FnAt h 108 fdIndent
  fEqual : FnAt h 115 fdEqual
  fWit : FnAt h 122 fdWit

theorem Tp.keeps {mg mb mN : Str → Option Value} {h h' : Heap} (x : Tp mg mb mN h) (k : ∀ b o, h.get? b = some o → h'.get? b = some o) : Tp mg mb mN h' where
  nolim := x.nolim.keeps k
  g := x.g.keeps k
  b := x.b.keeps k
  cls := x.cls.keeps k
  clsK := let ⟨K, a, r⟩ := x.clsK; ⟨K, a.keeps k, r⟩
  fMean := x.fMean.keeps k
  fCov := x.fCov.keeps k
  fInit := x.fInit.keeps k
  fLong := x.fLong.keeps k
  fIndent := x.fIndent.keeps k
  fEqual := x.fEqual.keeps k
  fWit := x.fWit.keeps k

/-- all but the table of covariance's inner code is kept -/
abbrev KeepT (h h' : Heap) : Prop := ∀ b o, b ≠ 72 → h.get? b = some o → h'.get? b = some o
theorem FnAt.keepT {h h' : Heap} {a : Addr} {fd : FuncData} (x : FnAt h a fd) (k : KeepT h h') (ha : a ≠ 72) (hc : fd.code ≠ .ref 72) : FnAt h' a fd :=
  let ⟨⟨o, e, r⟩, c, o', vs, t, e1, e2, r'⟩ := x; ⟨⟨o, k _ _ ha e, r⟩, c, o', vs, t, e1, k _ _ (fun q => hc (by rw [e1, q])) e2, r'⟩
theorem Tp.keepT {mg mb mN : Str → Option Value} {h h' : Heap} (x : Tp mg mb mN h) (k : KeepT h h') : Tp mg mb mN h' where
  nolim := let ⟨mc, hns, hnn⟩ := x.nolim; ⟨mc, hns.at' fun o e => k _ _ (by decide) e, hnn⟩
  g := x.g.at' fun o e => k _ _ (by decide) e
  b := x.b.at' fun o e => k _ _ (by decide) e
  cls := let ⟨nm, q, bs, sn, sub, col, dd, k0, k1, k2, k3, k5, e⟩ := x.cls.obj; ⟨⟨nm, q, bs, sn, sub, col, dd, k0, k1, k2, k3, k5, k _ _ (by decide) e⟩, x.cls.ns.at' fun o e => k _ _ (by decide) e⟩
  clsK := let ⟨K, a, r1, r2, r3, r4⟩ := x.clsK; ⟨K, fun b o e => k b o (fun q => by rw [q, r4] at e; cases e) (a b o e), r1, r2, r3, r4⟩
  fMean := x.fMean.keepT k (by decide) (fun q => nomatch q)
  fCov := x.fCov.keepT k (by decide) (fun q => nomatch q)
  fInit := x.fInit.keepT k (by decide) (fun q => nomatch q)
  fLong := x.fLong.keepT k (by decide) (fun q => nomatch q)
  fIndent := x.fIndent.keepT k (by decide) (fun q => nomatch q)
  fEqual := x.fEqual.keepT k (by decide) (fun q => nomatch q)
  fWit := x.fWit.keepT k (by decide) (fun q => nomatch q)

/-- entering a def without cells -/
theorem callDef {prog : Program} {w : World} {A : Around} {hp : Heap} {g : Array GenState} {d : Drawn} {t : Nat} {os : OsState} {a : Addr} {fd : FuncData} {vals : List Value} {binds : List (Str × Value)} {Q : Value → Shared → Prop} {E : Value → Shared → Prop}
    (hf : FnAt hp a fd) (hlim : hp.NoLimit) (hroom : A.depth < recursionLimit) (body : List Stmt) (hbody : fd.body = .stmts body) (hbind : bindArgs fd ⟨vals, []⟩ = pure binds)
    (hcell : ∀ x ∈ fd.scope.names, x.2 ≠ .cell) (hloc : ∀ x ∈ binds, fd.scope.names.lookup x.1 = some .local)
    (hco : fd.scope.isCoroutine = false) (hgen : fd.scope.isGenerator = false) (hk : fd.scope.kind = .function)
    (h : ∀ L h₁ t', Fr hp L h₁ (fun x => binds.reverse.lookup x) →
      wpAny (model prog w) (A.deeper (callEnv fd L a)) (execs body (callEnv fd L a)) (fun f s' => Q (match f with | .ret v => v | _ => .none) s') (fun _ _ => False)
        ⟨h₁, g, d, t', os⟩) :
    wpAny (model prog w) A (call (.ref a) vals) Q E ⟨hp, g, d, t, os⟩ := by
  obtain ⟨⟨o, ho, _, hd⟩, hcd⟩ := hf
  refine wpAny_call (codeAny_call_def hroom ho hd hlim hcd hbody (BindsTo.of_eq hbind) hcell hloc (fun h₁ hn hkp => ?_) hco hgen hk)
  exact wpAny_mono (h _ h₁ _ ⟨hn, hkp, Nat.le_refl _⟩) (fun f s' x => x) (fun _ _ x => x.elim)

theorem callN {M : Model} {A : Around} {E : Value → Shared → Prop} {s : Shared} {env : Env} {x : Str} {p pos : Pos} {args : List Expr} {Q : Value → Shared → Prop}
    (h : wpAny M A (eval (.Name x p) env) (fun f s₁ => wpAny M A (callWith pos f [] (backTo pos (starEach args env)) []) Q E s₁) E s) :
    wpAny M A (eval (.Call (.Name x p) args [] pos) env) Q E s := wpAny_bind h

end Mine

open PySem PySem.W PyProof.Rows
namespace Mine
set_option maxRecDepth 100000
abbrev Keep (h h' : Heap) : Prop := ∀ b o, h.get? b = some o → h'.get? b = some o
theorem Keep.push (h : Heap) (o : Obj) : Keep h (h.push o) := fun _ _ e => Heap.get?_push_of_some o e
section
variable {prog : Program} {w : World} {A : Around} {s : Shared} {mg mb mN : Str → Option Value} {E : Value → Shared → Prop}
variable {hp : Heap} {g : Array GenState} {d : Drawn} {t : Nat} {os : OsState}

/-! states are written out: a rule hands on a flat state -/
theorem nmL {fd : FuncData} {L a : Addr} {h₀ : Heap} {m : Str → Option Value} {x : Str} {pos : Pos} {v : Value} {Q : Value → Shared → Prop} (F : Fr h₀ L hp m) (hv : m x = some v) (h : Q v ⟨hp, g, d, t, os⟩)
    (hl : (callEnv fd L a).kindOf x = some .local := by rfl) (hk : fd.scope.kind = .function := by rfl) (hd : (x == ("__debug__" : Str)) = false := by decide) :
    wpAny (model prog w) A (eval (.Name x pos) (callEnv fd L a)) Q E ⟨hp, g, d, t, os⟩ := wpAny_Name (wpAny_loadName_local hk hl F.ns hv h) hd
theorem nmB {fd : FuncData} {L a : Addr} {x : Str} {pos : Pos} {v : Value} {Q : Value → Shared → Prop} (T : Tp mg mb mN hp) (hg : mg x = none) (hb : mb x = some v) (h : Q v ⟨hp, g, d, t, os⟩)
    (hl : (callEnv fd L a).kindOf x = some .globalImplicit := by rfl) (hgl : fd.globals = 3 := by rfl) (hbl : fd.builtins = 0 := by rfl) (hk : fd.scope.kind = .function := by rfl) (hd : (x == ("__debug__" : Str)) = false := by decide) :
    wpAny (model prog w) A (eval (.Name x pos) (callEnv fd L a)) Q E ⟨hp, g, d, t, os⟩ :=
  Calls.Name_function_global hk hl (Calls.loadGlobal_builtin (env := callEnv fd L a) (mg := mg) (by show hp.Ns fd.globals mg; rw [hgl]; exact T.g) hg (mb := mb) (by show hp.Ns fd.builtins mb; rw [hbl]; exact T.b) hb h) hd
theorem nmG {fd : FuncData} {L a : Addr} {x : Str} {pos : Pos} {v : Value} {Q : Value → Shared → Prop} (T : Tp mg mb mN hp) (hg : mg x = some v) (h : Q v ⟨hp, g, d, t, os⟩)
    (hl : (callEnv fd L a).kindOf x = some .globalImplicit := by rfl) (hgl : fd.globals = 3 := by rfl) (hk : fd.scope.kind = .function := by rfl) (hd : (x == ("__debug__" : Str)) = false := by decide) :
    wpAny (model prog w) A (eval (.Name x pos) (callEnv fd L a)) Q E ⟨hp, g, d, t, os⟩ :=
  Calls.Name_function_global hk hl (Calls.loadGlobal_global (env := callEnv fd L a) (mg := mg) (by show hp.Ns fd.globals mg; rw [hgl]; exact T.g) hg h) hd
theorem stL {fd : FuncData} {L a : Addr} {h₀ : Heap} {m : Str → Option Value} {x : Str} {v : Value} {Q : Unit → Shared → Prop} (F : Fr h₀ L hp m)
    (h : ∀ h' t', Fr h₀ L h' (fun y => if y = x then some v else m y) → Heap.SameBut L hp h' → Q () ⟨h', g, d, t', os⟩)
    (hl : (callEnv fd L a).kindOf x = some .local := by rfl) (hk : fd.scope.kind = .function := by rfl) :
    wpAny (model prog w) A (storeName (callEnv fd L a) x v) Q E ⟨hp, g, d, t, os⟩ :=
  wpAny_storeName_local hl F.ns (fun h' hn hs => h h' _ (F.set hn hs) hs) (by show (fd.scope.kind == .class || (fd.scope.kind == .module && L != fd.globals)) = false; rw [hk]; rfl)
theorem anL {fd : FuncData} {L a : Addr} {h₀ : Heap} {m : Str → Option Value} {x : Str} {pos : Pos} {v : Value} {Q : Unit → Shared → Prop} (F : Fr h₀ L hp m)
    (h : ∀ h' t', Fr h₀ L h' (fun y => if y = x then some v else m y) → Heap.SameBut L hp h' → Q () ⟨h', g, d, t', os⟩)
    (hl : (callEnv fd L a).kindOf x = some .local := by rfl) (hk : fd.scope.kind = .function := by rfl) :
    wpAny (model prog w) A (assign (.Name x pos) (callEnv fd L a) v) Q E ⟨hp, g, d, t, os⟩ := assign_Name (stL F h hl hk)

theorem cInt {env : Env} {i : Int} {k pos} {Q : Value → Shared → Prop} (h : ∀ u t', Q (.int i u) ⟨hp, g, d, t', os⟩) : wpAny (model prog w) A (eval (.Constant (.int i) k pos) env) Q E ⟨hp, g, d, t, os⟩ := wpAny_Constant_int (h _ _)
theorem cStr {env : Env} {x : Str} {k pos} {Q : Value → Shared → Prop} (h : ∀ u t', Q (.str x u) ⟨hp, g, d, t', os⟩) : wpAny (model prog w) A (eval (.Constant (.str x) k pos) env) Q E ⟨hp, g, d, t, os⟩ := wpAny_Constant_str (h _ _)
section
variable {a b : Int} {ta tb : Tok} {Q : Value → Shared → Prop}
theorem addI (h : ∀ u t', Q (.int (a + b) u) ⟨hp, g, d, t', os⟩) : wpAny (model prog w) A (binaryOp .Add (.int a ta) (.int b tb)) Q E ⟨hp, g, d, t, os⟩ := P.add_int (h _ _)
theorem iaddI (h : ∀ u t', Q (.int (a + b) u) ⟨hp, g, d, t', os⟩) : wpAny (model prog w) A (inplaceOp .Add (.int a ta) (.int b tb)) Q E ⟨hp, g, d, t, os⟩ := P.iadd_int (h _ _)
theorem subI (h : ∀ u t', Q (.int (a - b) u) ⟨hp, g, d, t', os⟩) : wpAny (model prog w) A (binaryOp .Sub (.int a ta) (.int b tb)) Q E ⟨hp, g, d, t, os⟩ := P.sub_int (h _ _)
theorem mulI (ha : -(2 ^ 62) < a) (ha' : a < 2 ^ 62) (h : ∀ u t', Q (.int (a * b) u) ⟨hp, g, d, t', os⟩) : wpAny (model prog w) A (binaryOp .Mult (.int a ta) (.int b tb)) Q E ⟨hp, g, d, t, os⟩ :=
  P.mul_int (h _ _) (IntMulOk.of_left (intBits_le_64 (by omega) (by omega)))
theorem divI (h0 : 0 < b) (h1 : b < 1073741824) (h : ∀ u t', Q (.int (a / b) u) ⟨hp, g, d, t', os⟩) : wpAny (model prog w) A (binaryOp .FloorDiv (.int a ta) (.int b tb)) Q E ⟨hp, g, d, t, os⟩ := by
  refine AutoIntOps.floordiv_1 (by simp; omega) (by rw [PyProof.noPylong_small (by omega)]; exact Bool.false_ne_true) ?_
  rw [Int.fdiv_eq_ediv_of_nonneg _ (by omega)]
  exact h _ _
theorem modI (h0 : 0 < b) (h : ∀ u t', Q (.int (a % b) u) ⟨hp, g, d, t', os⟩) : wpAny (model prog w) A (binaryOp .Mod (.int a ta) (.int b tb)) Q E ⟨hp, g, d, t, os⟩ := by
  refine AutoIntOps.mod_1 (by simp; omega) ?_
  rw [Int.fmod_eq_emod_of_nonneg _ (by omega)]
  exact h _ _
end
theorem lenT {c : Addr} {items : Array Value} {n : Nat} {Q : Value → Shared → Prop} (hc : IsT hp c items n) (hsz : items.size < 2 ^ 62) (h : ∀ u t', Q (.int items.size u) ⟨hp, g, d, t', os⟩) :
    wpAny (model prog w) A (call (.builtin "len") [.ref c]) Q E ⟨hp, g, d, t, os⟩ := P.len_tuple hc (by omega) (h _ _)
theorem max2 {a b : Int} {ta tb : Tok} {Q : Value → Shared → Prop} (hh : A.handled = none) (h : ∀ h' t' u, Keep hp h' → Q (.int (max a b) u) ⟨h', g, d, t', os⟩) :
    wpAny (model prog w) A (call (.builtin "max") [.int a ta, .int b tb]) Q E ⟨hp, g, d, t, os⟩ := by
  refine max_two_ints hh fun h' tk k => ?_
  by_cases hba : b > a
  · rw [if_pos hba, show b = max a b by omega]; exact h h' tk tb k
  · rw [if_neg hba, show a = max a b by omega]; exact h h' tk ta k

/-- a field of a Whitespace -/
theorem attrI (T : Tp mg mb mN hp) (N : Names mg mb mN) {x : Addr} {mA : Str → Option Value} (I : hp.Inst x 139 mA) {name : Str} {v : Value} {ex : Bool} {Q : Value → Shared → Prop} (hv : mA name = some v) (hn : mN name = none)
    (h : ∀ t', Q v ⟨hp, g, d, t', os⟩) (hh : handedOut v = pure v := by rfl) (hB : typeLookup (.type "object") name = pure none := by rw [typeLookup_type, builtinLookup_eq_fast]; kernel_rfl) :
    wpAny (model prog w) A (getAttr (.ref x) name ex) Q E ⟨hp, g, d, t, os⟩ := by
  obtain ⟨nm, q, bs, sn, sub, col, dd, k0, k1, k2, k3, k5, hC⟩ := T.cls.obj
  exact load_attr hC T.cls.ns N.nga hn hB I hv hh (h _)

/-- two names out of a pair -/
theorem unpack2 {fd : FuncData} {L a : Addr} {h₀ : Heap} {m : Str → Option Value} {x y : Str} {p p1 p2 : Pos} {k n : Nat} {c : Addr} {v1 v2 : Value} {Q : Unit → Shared → Prop} (F : Fr h₀ L hp m) (hh : A.handled = none) (ht : IsT hp c #[v1, v2] n)
    (h : ∀ h' t', Fr h₀ L h' (fun z => if z = y then some v2 else if z = x then some v1 else m z) → (∀ b o, b ≠ L → hp.get? b = some o → h'.get? b = some o) → Q () ⟨h', g, d, t', os⟩)
    (hx : (callEnv fd L a).kindOf x = some .local := by rfl) (hy : (callEnv fd L a).kindOf y = some .local := by rfl) (hk : fd.scope.kind = .function := by rfl) :
    wpAny (model prog w) A (assign (.Tuple [.Name x p1, .Name y p2] k p) (callEnv fd L a) (.ref c)) Q E ⟨hp, g, d, t, os⟩ := by
  refine wpAny_assign_Tuple hh ⟨_, ht, rfl, n, rfl⟩ rfl rfl fun h₁ hx₁ => ?_
  have hL : L ≠ hp.objs.size := Nat.ne_of_lt F.ns.lt
  have F₁ : Fr h₀ L h₁ m := ⟨F.ns.extBut hx₁ hL, fun b o e => hx₁ b o (Nat.ne_of_lt (Heap.lt_size (F.keep b o e))) (F.keep b o e), F.above⟩
  show wpAny _ _ (assignInOrder [assign (.Name x p1) (callEnv fd L a), assign (.Name y p2) (callEnv fd L a)] [v1, v2]) _ _ _
  refine wpAny_bind (wpAny_holding (anL F₁ (fun h₂ t₂ F₂ s₂ => ?_) hx hk))
  refine wpAny_bind (wpAny_holding (anL F₂ (fun h₃ t₃ F₃ s₃ => ?_) hy hk))
  exact wpAny_pure (h h₃ t₃ F₃ fun b o hb e => s₃.extBut b o hb (s₂.extBut b o hb (hx₁ b o (Nat.ne_of_lt (Heap.lt_size e)) e)))

set_option maxHeartbeats 2000000 in
theorem long_spec (T : Tp mg mb mN hp) (N : Names mg mb mN) {x tu c : Addr} {mA : Str → Option Value} (I : hp.Inst x 139 mA) (hv : mA "norm" = some (.ref tu))
    {b : Int} {tb : Tok} {items : Array Value} {n1 n2 : Nat} (ht : IsT hp tu #[.ref c, .int b tb] n1) (hc : IsT hp c items n2) (hsz : items.size < 1000)
    (hh : A.handled = none) (hroom : A.depth < recursionLimit) {Q : Value → Shared → Prop}
    (h : ∀ h' t' u, Keep hp h' → Q (.int (max ((items.size : Int) - 1) b) u) ⟨h', g, d, t', os⟩) :
    wpAny (model prog w) A (call (.ref 101) [.ref x]) Q E ⟨hp, g, d, t, os⟩ := by
  refine callDef T.fLong T.nolim hroom _ rfl (binds := [("self", .ref x)]) rfl (by decide +kernel) (locs rfl) rfl rfl rfl fun L h₁ t0 F => ?_
  refine wpAny_execs_cons ?_
  refine Assign_Tuple ?_
  refine Attribute_name ?_
  refine nmL F rfl ?_
  refine attrI (T.keeps F.keep) N (I.keeps F.keep) hv N.nnorm fun t1 => ?_
  refine unpack2 F hh (F.keep _ _ ht) fun h₂ t2 F₂ k₂ => ?_
  refine wpAny_execs_cons ?_
  refine wpAny_Return_some ?_
  refine callN ?_
  refine nmB (T.keeps F₂.keep) N.nmax N.max ?_
  refine PyProof.Rows.callWith_builtin1 ?_
  refine args_cons ?_
  refine wpAny_BinOp ?_
  refine callN ?_
  refine nmB (T.keeps F₂.keep) N.nlen N.len ?_
  refine PyProof.Rows.callWith_builtin1 ?_
  refine args_cons ?_
  refine nmL F₂ rfl ?_
  refine args_nil ?_
  refine lenT (F₂.keep _ _ hc) (by omega) fun u3 t3 => ?_
  refine cInt fun u4 t4 => ?_
  refine subI fun u5 t5 => ?_
  refine args_cons ?_
  refine nmL F₂ rfl ?_
  refine args_nil ?_
  refine max2 hh fun h₃ t6 u6 k₃ => ?_
  exact h h₃ t6 u6 fun b o e => k₃ b o (F₂.keep b o e)
end
end Mine

open PySem PySem.W PyProof.Rows
namespace Mine
set_option maxRecDepth 100000
abbrev NoE : Value → Shared → Prop := fun _ _ => False
section
variable {prog : Program} {w : World} {A : Around} {mg mb mN : Str → Option Value}
variable {hp : Heap} {g : Array GenState} {d : Drawn} {t : Nat} {os : OsState}

theorem notE {α : Type} {M : Model} {A : Around} {x : Sem α} {Q : α → Shared → Prop} {E : Value → Shared → Prop} {s : Shared} (h : wpAny M A x Q NoE s) : wpAny M A x Q E s := wpAny_mono h (fun _ _ q => q) fun _ _ q => q.elim

/-- a for loop by an invariant over the whole state -/
theorem forAny {target : Expr} {it : Value} {body : List Stmt} {env : Env} {s : Shared} {R : Result → Shared → Prop} (Inv : Nat → Shared → Prop) (n : Nat)
    (next : ∀ i s, Inv i s → i < n → wpAny (model prog w) A (pyNext it) (fun r s₁ => ∃ v, r = some v ∧ wpAny (model prog w) A (letOwnedTupleGo target it v) (fun _ s₁' => wpAny (model prog w) A (assign target env v) (fun _ s₂ =>
      wpAny (model prog w) A (execs body env) (fun f s₃ => match f with | .next => Inv (i + 1) s₃ | .cont => Inv (i + 1) s₃ | .brk => R (.ok .next) s₃ | .ret v => R (.ok (.ret v)) s₃) NoE s₂) NoE s₁') NoE s₁) NoE s)
    (done : ∀ s, Inv n s → wpAny (model prog w) A (pyNext it) (fun r s₁ => r = none ∧ R (.ok .next) s₁) NoE s)
    (h0 : Inv 0 s) : codeAny (model prog w) A (.forLoop target it body [] env) R s := by
  refine codeAny_forLoop_any (fun k s => ∃ i, i ≤ n ∧ k = n - i ∧ Inv i s) (fun k s hI => ?_) n ⟨0, Nat.zero_le _, rfl, h0⟩
  obtain ⟨i, hi, rfl, hI⟩ := hI
  by_cases hlt : i < n
  · refine wpAny_mono (next i s hI hlt) (fun r s₁ h₁ => ?_) fun _ _ x => x.elim
    obtain ⟨v, rfl, h₁⟩ := h₁
    refine wpAny_mono h₁ (fun _ s₁' h₂ => wpAny_mono h₂ (fun _ s₂ h₃ => wpAny_mono h₃ (fun f s₃ h₄ => ?_) fun _ _ x => x.elim) fun _ _ x => x.elim) fun _ _ x => x.elim
    cases f with
    | next => exact ⟨n - (i + 1), by omega, i + 1, hlt, rfl, h₄⟩
    | cont => exact ⟨n - (i + 1), by omega, i + 1, hlt, rfl, h₄⟩
    | brk => exact h₄
    | ret v => exact h₄
  · have : i = n := by omega
    subst this
    refine wpAny_mono (done s hI) (fun r s₁ h₁ => ?_) fun _ _ x => x.elim
    obtain ⟨rfl, h₁⟩ := h₁
    exact wpAny_execs_nil h₁

/-- a for over a walk, its name a local; J: what holds of the frame's map and of the heap off the frame and the iterator -/
theorem forWalk {env : Env} {x : Str} {px : Pos} {body : List Stmt} {I L : Addr} {fp wr mu : List Addr} {n : Nat} {P : Nat → Value → Prop} {St : Nat → Heap → Prop} {R : Result → Shared → Prop} {m₀ : Str → Option Value}
    (W : Walks prog w A I fp wr n P St) (hLe : env.locals = L) (hx : env.kindOf x = some .local) (hk : env.scope.kind = .function) (hLf : L ∉ fp) (hmf : ∀ b ∈ mu, b ∉ fp)
    (J : Nat → (Str → Option Value) → Heap → Prop)
    (hJ : ∀ i m h h', J i m h → (∀ b o, b ≠ L → b ∉ wr → h.get? b = some o → h'.get? b = some o) → J i m h')
    (hst : St 0 hp) (hn : hp.Ns L m₀) (h0 : J 0 m₀ hp)
    (step : ∀ i v m h t, i < n → P i v → J i m h → h.Ns L (fun y => if y = x then some v else m y) → St (i + 1) h →
      wpAny (model prog w) A (execs body env) (fun f s₃ => match f with
        | .next => ∃ h' t' m', s₃ = ⟨h', g, d, t', os⟩ ∧ h'.Ns L m' ∧ J (i + 1) m' h' ∧ (∀ b o, b ≠ L → b ∉ mu → h.get? b = some o → h'.get? b = some o)
        | .cont => ∃ h' t' m', s₃ = ⟨h', g, d, t', os⟩ ∧ h'.Ns L m' ∧ J (i + 1) m' h' ∧ (∀ b o, b ≠ L → b ∉ mu → h.get? b = some o → h'.get? b = some o)
        | .brk => R (.ok .next) s₃ | .ret v => R (.ok (.ret v)) s₃) NoE ⟨h, g, d, t, os⟩)
    (done : ∀ m h t, J n m h → h.Ns L m → R (.ok .next) ⟨h, g, d, t, os⟩) :
    codeAny (model prog w) A (.forLoop (.Name x px) (.ref I) body [] env) R ⟨hp, g, d, t, os⟩ := by
  have hLw : L ∉ wr := fun h => hLf (W.sub _ h)
  refine forAny (fun i s => ∃ h t m, s = ⟨h, g, d, t, os⟩ ∧ St i h ∧ h.Ns L m ∧ J i m h) n ?_ ?_ ⟨hp, t, m₀, rfl, hst, hn, h0⟩
  · rintro i s ⟨h, t, m, rfl, hst, hn, hj⟩ hi
    refine W.item i _ _ _ hi hst fun v h₁ tk hP hst₁ hk₁ => ⟨v, rfl, ?_⟩
    refine wpAny_of_eq (rfl : letOwnedTupleGo (.Name x px) (.ref I) v = pure ()) ?_
    refine wpAny_assign_Name (wpAny_storeName_local (env := env) hx (m := m) (by rw [hLe]; exact hn.at' fun o e => hk₁ _ o hLw e) (fun h₂ hn₂ hs₂ => ?_) (by rw [hk]; rfl))
    rw [hLe] at hn₂ hs₂
    have hj₂ : J i m h₂ := hJ i m h h₂ hj fun b o hb hw e => hs₂.extBut b o hb (hk₁ b o hw e)
    have hst₂ : St (i + 1) h₂ := W.frame _ _ _ hst₁ fun b hb o e => hs₂.extBut b o (fun q => hLf (q ▸ hb)) e
    have fin : ∀ s₃ : Shared, (∃ h' t' m', s₃ = ⟨h', g, d, t', os⟩ ∧ h'.Ns L m' ∧ J (i + 1) m' h' ∧ (∀ b o, b ≠ L → b ∉ mu → h₂.get? b = some o → h'.get? b = some o)) →
        ∃ h t m, s₃ = ⟨h, g, d, t, os⟩ ∧ St (i + 1) h ∧ h.Ns L m ∧ J (i + 1) m h := by
      rintro s₃ ⟨h', t', m', rfl, a1, a2, a3⟩
      exact ⟨h', t', m', rfl, W.frame _ _ _ hst₂ fun b hb o e => a3 b o (fun q => hLf (q ▸ hb)) (fun q => hmf b q hb) e, a1, a2⟩
    refine wpAny_mono (step i v m h₂ _ hi hP hj₂ hn₂ hst₂) (fun f s₃ h₃ => ?_) fun _ _ x => x
    cases f with
    | next => exact fin s₃ h₃
    | cont => exact fin s₃ h₃
    | brk => exact h₃
    | ret v => exact h₃
  · rintro s ⟨h, t, m, rfl, hst, hn, hj⟩
    refine W.done _ _ _ hst fun h₁ tk hk₁ => ⟨rfl, ?_⟩
    exact done m h₁ tk (hJ n m h h₁ hj fun b o _ hw e => hk₁ b o hw e) (hn.at' fun o e => hk₁ _ o hLw e)

/-- range(a, b) as an iterator -/
theorem rangeCall {a b : Int} {ta tb : Tok} {Q : Value → Shared → Prop} {E : Value → Shared → Prop}
    (h : ∀ r h' t' u v, Keep hp h' → hp.objs.size ≤ r → IsRange h' r a b 1 ta u v → u = tb → Q (.ref r) ⟨h', g, d, t', os⟩) : wpAny (model prog w) A (call (.type "range") [.int a ta, .int b tb]) Q E ⟨hp, g, d, t, os⟩ :=
  call_range_2 (h _ _ _ _ _ (Keep.push _ _) (Nat.le_refl _) (IsRange.new ..) rfl)
theorem rangeIter {r : Addr} {a b : Int} {ta tb tc : Tok} {Q : Value → Shared → Prop} {E : Value → Shared → Prop} (hr : IsRange hp r a b 1 ta tb tc) (ha : -(2 ^ 60) ≤ a) (ha' : a < 2 ^ 60) (hb : -(2 ^ 60) ≤ b) (hb' : b < 2 ^ 60)
    (hh : A.handled = none)
    (h : ∀ I h' t' St, Keep hp h' → hp.objs.size ≤ I → I < h'.objs.size → Walks prog w A I [I] [I] (b - a).toNat (fun i v => ∃ u, v = .int (a + i) u) St → St 0 h' → (∀ i h, St i h → I < h.objs.size) → Q (.ref I) ⟨h', g, d, t', os⟩) :
    wpAny (model prog w) A (pyIter (.ref r)) Q E ⟨hp, g, d, t, os⟩ := by
  have hsm : Builtin.Range.small a b 1 = true := small_one (by omega) (by omega) (by omega) (by omega)
  refine wpAny_pyIter_range hr hsm ?_
  have hsz : Builtin.Range.rangeSize a b 1 = ((b - a).toNat : Int) := by rw [rangeSize_one]; split <;> omega
  have W := Walks.range (prog := prog) (w := w) (A := A) hh hp.objs.size a 1 (b - a).toNat
  simp only [Int.mul_one] at W
  refine h _ _ _ _ (Keep.push _ _) (Nat.le_refl _) (by rw [Heap.size_push]; omega) W ?_ fun i h e => Heap.lt_size e
  show IsRangeIter _ _ _ _ _
  rw [hsz]
  have := Heap.get?_push_size hp (o := { cls := .type "range_iterator", data := .fields #[rawInt a, rawInt ((b - a).toNat : Int), rawInt 1] }) rfl
  simpa using this
end
end Mine

open PySem PySem.W PyProof.Rows
namespace Mine
set_option maxRecDepth 100000

/-- what indent_level's loop adds up over k turns -/
def ilS (ts : Nat) (cs : List Int) : Nat → Int
  | 0 => 0
  | k + 1 => ilS ts cs k + (((ts + k) / ts : Nat) : Int) * cs.getD (ts + k) 0

section
variable {prog : Program} {w : World} {A : Around} {mg mb mN : Str → Option Value} {E : Value → Shared → Prop}
variable {hp : Heap} {g : Array GenState} {d : Drawn} {t : Nat} {os : OsState}

theorem itemT {c : Addr} {vs : List Value} {n : Nat} {i : Int} {u : Tok} {v : Value} {Q : Value → Shared → Prop} (hc : IsT hp c vs.toArray n) (h0 : 0 ≤ i) (hsz : vs.length < 2 ^ 60) (hv : vs[i.toNat]? = some v) (h : Q v ⟨hp, g, d, t, os⟩) :
    SubscriptOn (model prog w) A (.ref c) (.int i u) Q E ⟨hp, g, d, t, os⟩ := by
  have hlt : i.toNat < vs.length := (List.getElem?_eq_some_iff.mp hv).1
  refine ⟨"tuple", "tuple.__getitem__", F.slot_tuple_getitem.lookup, ⟨_, hc, rfl⟩, P.getItem_tuple hc (by omega) (by omega) (k := i.toNat) ?_ (by simpa using hv) h⟩
  exact seqIndex_of h0 (by simp only [List.size_toArray]; omega)

set_option maxHeartbeats 4000000 in
theorem indent_spec (T : Tp mg mb mN hp) (N : Names mg mb mN) {x tu c : Addr} {mA : Str → Option Value} (I : hp.Inst x 139 mA) (hv : mA "norm" = some (.ref tu)) {nt : Int} {tnt : Tok} (hnt : mA "nt" = some (.int nt tnt))
    {b : Int} {tb : Tok} {vs : List Value} {cs : List Int} {n1 n2 : Nat} (ht : IsT hp tu #[.ref c, .int b tb] n1) (hc : IsT hp c vs.toArray n2) (hi : IntsAre vs cs) (hsz : cs.length < 1000)
    {ts : Nat} {tts : Tok} (hts : 1 ≤ ts) (hts' : ts < 1000)
    (hh : A.handled = none) (hroom : A.depth < recursionLimit) {Q : Value → Shared → Prop}
    (hQ : ∀ h' t' u, Keep hp h' → Q (.int (b + ts * (ilS ts cs (cs.length - ts) + nt)) u) ⟨h', g, d, t', os⟩) :
    wpAny (model prog w) A (call (.ref 108) [.ref x, .int ts tts]) Q E ⟨hp, g, d, t, os⟩ := by
  have hlen := hi.length
  refine callDef T.fIndent T.nolim hroom _ rfl (binds := [("self", .ref x), ("tabsize", .int ts tts)]) rfl (by decide +kernel) (locs rfl) rfl rfl rfl fun L h₁ t0 F => ?_
  refine wpAny_execs_cons ?_
  refine Assign_Tuple ?_
  refine Attribute_name ?_
  refine nmL F rfl ?_
  refine attrI (T.keeps F.keep) N (I.keeps F.keep) hv N.nnorm fun t1 => ?_
  refine unpack2 F hh (F.keep _ _ ht) fun h₂ t2 F₂ k₂ => ?_
  refine wpAny_execs_cons ?_
  refine wpAny_Assign_Name ?_
  refine cInt fun u3 t3 => ?_
  refine stL F₂ fun h₃ t4 F₃ _ => ?_
  refine wpAny_execs_cons ?_
  refine wpAny_For ?_
  refine callN ?_
  refine nmB (T.keeps F₃.keep) N.nrange N.range ?_
  refine PyProof.Rows.callWith_type1 ?_
  refine args_cons ?_
  refine nmL F₃ rfl ?_
  refine args_cons ?_
  refine callN ?_
  refine nmB (T.keeps F₃.keep) N.nlen N.len ?_
  refine PyProof.Rows.callWith_builtin1 ?_
  refine args_cons ?_
  refine nmL F₃ rfl ?_
  refine args_nil ?_
  refine lenT (F₃.keep _ _ hc) (by simp only [List.size_toArray]; omega) fun u5 t5 => ?_
  refine args_nil ?_
  refine rangeCall fun r h₄ t6 u6 v6 k₄ _ hr _ => ?_
  refine rangeIter hr (by omega) (by omega) (by omega) (by simp only [List.size_toArray]; omega) hh fun It h₅ t7 St k₅ hI hI' W hst _ => ?_
  have F₅ := (F₃.keeps k₄).keeps k₅
  have hLI : L < It := Nat.lt_of_lt_of_le (F₃.keeps k₄).ns.lt hI
  refine forWalk (mu := []) W rfl rfl rfl (L := L) (fun q => absurd hLI (by rw [List.mem_singleton.mp q]; exact Nat.lt_irrefl _)) (by simp)
    (fun i m h => Keep hp h ∧ ∃ u, m "il" = some (.int (ilS ts cs i) u) ∧ m "tabsize" = some (.int ts tts) ∧ m "count" = some (.ref c) ∧ m "self" = some (.ref x) ∧ m "trailing" = some (.int b tb))
    (fun i m h h' hj hk => ⟨fun b o e => hk b o ?_ ?_ (hj.1 b o e), hj.2⟩) hst F₅.ns ⟨F₅.keep, ?_⟩ ?_ ?_
  · exact Nat.ne_of_lt (Nat.lt_of_lt_of_le (Heap.lt_size e) F₅.above)
  · exact fun q => absurd (Nat.lt_of_lt_of_le (Heap.lt_size e) F₅.above) (by rw [List.mem_singleton.mp q]; exact Nat.not_lt.mpr (Nat.le_of_lt hLI))
  · exact ⟨u3, rfl, rfl, rfl, rfl, rfl⟩
  · rintro i v m h t hi' ⟨u, rfl⟩ ⟨hk, u', m1, m2, m3, m4, m5⟩ hn _
    have F₆ : Fr hp L h _ := ⟨hn, hk, F₅.above⟩
    refine wpAny_execs_cons ?_
    refine wpAny_Assign_Name ?_
    refine wpAny_BinOp ?_
    refine nmL F₆ m1 ?_
    refine wpAny_BinOp ?_
    refine wpAny_BinOp ?_
    refine nmL F₆ rfl ?_
    refine nmL F₆ m2 ?_
    refine divI (by omega) (by omega) fun u7 t7 => ?_
    refine wpAny_Subscript_Name_late ?_
    refine nmL F₆ m3 ?_
    refine nmL F₆ rfl ?_
    have hlt : ts + i < cs.length := by simp only [List.size_toArray] at hi'; omega
    obtain ⟨u8, hu8⟩ := hi.get (ts + i) (cs.getD (ts + i) 0) (by rw [List.getD_eq_getElem?_getD]; simp [hlt])
    refine itemT (F₆.keep _ _ hc) (by omega) (by omega) (v := .int (cs.getD (ts + i) 0) u8) (by rw [show ((ts : Int) + (i : Int)).toNat = ts + i by omega]; exact hu8) ?_
    refine mulI (by have : (0 : Int) ≤ ((ts : Int) + i) / ts := Int.ediv_nonneg (by omega) (by omega); omega) (by have : ((ts : Int) + i) / ts ≤ ts + i := Int.ediv_le_self _ (by omega); omega) fun u9 t9 => ?_
    refine addI fun u10 t10 => ?_
    refine stL F₆ fun h₇ t11 F₇ s₇ => ?_
    refine wpAny_execs_nil ?_
    refine ⟨h₇, t11, _, rfl, F₇.ns, ⟨F₇.keep, u10, ?_, m2, m3, m4, m5⟩, fun b o hb _ e => s₇.extBut b o hb e⟩
    show some _ = some _
    simp only [ilS]
    congr 2
  · rintro m h t ⟨hk, u', m1, m2, m3, m4, m5⟩ hn
    have F₆ : Fr hp L h _ := ⟨hn, hk, F₅.above⟩
    refine wpAny_execs_cons ?_
    refine wpAny_Return_some ?_
    refine wpAny_BinOp ?_
    refine nmL F₆ m5 ?_
    refine wpAny_BinOp ?_
    refine nmL F₆ m2 ?_
    refine wpAny_BinOp ?_
    refine nmL F₆ m1 ?_
    refine Attribute_name ?_
    refine nmL F₆ m4 ?_
    refine attrI (T.keeps F₆.keep) N (I.keeps F₆.keep) hnt N.nnt fun t12 => ?_
    refine addI fun u13 t13 => ?_
    refine mulI (by omega) (by omega) fun u14 t14 => ?_
    refine addI fun u15 t15 => ?_
    have e1 : ((((vs.toArray.size : Int) - (ts : Int))).toNat : Nat) = cs.length - ts := by simp only [List.size_toArray]; omega
    rw [e1]
    exact hQ _ _ _ F₆.keep
end
end Mine

open PySem PySem.W PyProof.Rows
namespace Mine
set_option maxRecDepth 100000

theorem all_eq {α : Type} [DecidableEq α] (d : α) : ∀ xs ys : List α, ((List.range (min xs.length ys.length)).all (fun j => decide (xs.getD j d = ys.getD j d)) && xs.length == ys.length) = decide (xs = ys)
  | [], [] => by simp
  | [], y :: ys => by simp
  | x :: xs, [] => by simp
  | x :: xs, y :: ys => by
    have ih := all_eq d xs ys
    have e : min (x :: xs).length (y :: ys).length = min xs.length ys.length + 1 := by simp [Nat.succ_min_succ]
    rw [e, List.range_succ_eq_map, List.all_cons, List.all_map]
    have e2 : ((fun j => decide ((x :: xs).getD j d = (y :: ys).getD j d)) ∘ Nat.succ) = fun j => decide (xs.getD j d = ys.getD j d) := by funext j; simp
    rw [e2]
    have e3 : ((x :: xs).length == (y :: ys).length) = (xs.length == ys.length) := by simp
    rw [e3, Bool.and_assoc, ih]
    simp

/-- a Whitespace whose count is cs, whose trailing run is b, with nt tabs -/
def WsAt (S : Addr → Prop) (h : Heap) (x : Addr) (cs : List Int) (b nt : Int) : Prop :=
  ∃ (mA : Str → Option Value) (tu c : Addr) (vs : List Value) (n1 n2 : Nat) (tb tnt : Tok), h.Inst x 139 mA ∧ mA "norm" = some (.ref tu) ∧ mA "nt" = some (.int nt tnt) ∧ IsT h tu #[.ref c, .int b tb] n1 ∧ IsT h c vs.toArray n2 ∧ IntsAre vs cs ∧
    mA "longest_run_of_spaces" = none ∧ mA "indent_level" = none ∧ mA "equal" = none ∧ mA "not_equal_witness" = none ∧
    S x ∧ S tu ∧ S c ∧ ∃ o dd, h.get? x = some o ∧ o.dict = some dd ∧ S dd
theorem WsAt.keepS {S : Addr → Prop} {h h' : Heap} {x : Addr} {cs : List Int} {b nt : Int} (W : WsAt S h x cs b nt) (k : ∀ b o, S b → h.get? b = some o → h'.get? b = some o) : WsAt S h' x cs b nt := by
  obtain ⟨mA, tu, c, vs, n1, n2, tb, tnt, I, a1, a2, a3, a4, a5, r1, r2, r3, r4, s1, s2, s3, o, dd, e, ed, s4⟩ := W
  refine ⟨mA, tu, c, vs, n1, n2, tb, tnt, ?_, a1, a2, k _ _ s2 a3, k _ _ s3 a4, a5, r1, r2, r3, r4, s1, s2, s3, o, dd, k _ _ s1 e, ed, s4⟩
  obtain ⟨o', e', c', nc, hd⟩ := I
  obtain rfl := Option.some.inj (e.symm.trans e')
  rcases hd with ⟨hn, _⟩ | ⟨d', hd', hne, hns⟩
  · rw [ed] at hn; cases hn
  · obtain rfl := Option.some.inj (ed.symm.trans hd')
    exact ⟨o, k _ _ s1 e, c', nc, .inr ⟨dd, ed, hne, hns.at fun o e => k _ _ s4 e⟩⟩
theorem WsAt.keeps {S : Addr → Prop} {h h' : Heap} {x : Addr} {cs : List Int} {b nt : Int} (W : WsAt S h x cs b nt) (k : Keep h h') : WsAt S h' x cs b nt := W.keepS fun b o _ e => k b o e
theorem WsAt.mono {S S' : Addr → Prop} {h : Heap} {x : Addr} {cs : List Int} {b nt : Int} (W : WsAt S h x cs b nt) (k : ∀ b o, S b → h.get? b = some o → S' b) : WsAt S' h x cs b nt := by
  obtain ⟨mA, tu, c, vs, n1, n2, tb, tnt, I, a1, a2, a3, a4, a5, r1, r2, r3, r4, s1, s2, s3, o, dd, e, ed, s4⟩ := W
  obtain ⟨o', e', c', nc, hd⟩ := id I
  obtain rfl := Option.some.inj (e.symm.trans e')
  rcases hd with ⟨hn, _⟩ | ⟨d', hd', hne, hns⟩
  · rw [ed] at hn; cases hn
  · obtain rfl := Option.some.inj (ed.symm.trans hd')
    obtain ⟨od, _, _, eod, _⟩ := hns
    exact ⟨mA, tu, c, vs, n1, n2, tb, tnt, I, a1, a2, a3, a4, a5, r1, r2, r3, r4, k _ _ s1 e, k _ _ s2 a3, k _ _ s3 a4, o, dd, e, ed, k _ _ s4 eod⟩

section
variable {prog : Program} {w : World} {A : Around} {mg mb mN : Str → Option Value} {E : Value → Shared → Prop}
variable {hp : Heap} {g : Array GenState} {d : Drawn} {t : Nat} {os : OsState}

/-- a method of a Whitespace called -/
theorem methW (T : Tp mg mb mN hp) (N : Names mg mb mN) {x f : Addr} {fd : FuncData} {mA : Str → Option Value} (I : hp.Inst x 139 mA) {name : Str} {pl : Sem Bool} {Q : Value × List Value → Shared → Prop} (hf : mN name = some (.ref f)) (hfo : FnAt hp f fd)
    (hsh : mA name = none) (h : Q (.ref f, [.ref x]) ⟨hp, g, d, t, os⟩) (hB : typeLookup (.type "object") name = pure none := by rw [typeLookup_type, builtinLookup_eq_fast]; kernel_rfl) :
    wpAny (model prog w) A (getMethod (.ref x) name pl) Q E ⟨hp, g, d, t, os⟩ := by
  obtain ⟨nm, q, bs, sn, sub, col, dd, k0, k1, k2, k3, k5, hC⟩ := T.cls.obj
  obtain ⟨⟨o, ho, hcl, _⟩, _⟩ := hfo
  exact method_of hC T.cls.ns N.nga N.ngh hf ho hcl hB I hsh h
theorem cwM {env : Env} {f : Addr} {fd : FuncData} {x : Addr} {pos : Pos} {e : Expr} {rest : List Expr} {Q : Value → Shared → Prop} {s : Shared} {h₀ : Heap} (hf : FnAt h₀ f fd)
    (h : wpAny (model prog w) A (spliced (backTo pos (starEach (e :: rest) env))) (fun vs s₁ => Keep h₀ s₁.heap ∧ wpAny (model prog w) A (call (.ref f) (.ref x :: vs)) Q E s₁) E s)
    (he : starEach (e :: rest) env = (false, eval e env) :: starEach rest env := by rfl) :
    wpAny (model prog w) A (callWith pos (.ref f) [.ref x] (backTo pos (starEach (e :: rest) env)) []) Q E s := by
  obtain ⟨⟨o, ho, hcl, hdat⟩, _⟩ := hf
  exact callWith_meth hdat ho h he
theorem cwM0 {env : Env} {f : Addr} {fd : FuncData} {x : Addr} {pos : Pos} {Q : Value → Shared → Prop} (hf : FnAt hp f fd) (h : wpAny (model prog w) A (call (.ref f) [.ref x]) Q E ⟨hp, g, d, t, os⟩) :
    wpAny (model prog w) A (callWith pos (.ref f) [.ref x] (backTo pos (starEach [] env)) []) Q E ⟨hp, g, d, t, os⟩ := by
  obtain ⟨⟨o, ho, hcl, hdat⟩, _⟩ := hf
  exact callWith_meth0 hdat ho h

theorem eqInts {s : Shared} {c1 c2 : Addr} {vs1 vs2 : List Value} {cs1 cs2 : List Int} {n1 n2 : Nat} (h1 : IsT s.heap c1 vs1.toArray n1) (h2 : IsT s.heap c2 vs2.toArray n2) (i1 : IntsAre vs1 cs1) (i2 : IntsAre vs2 cs2) (hu : A.units + 2 < cLine) :
    SeqAt.EqAt A s (.ref c1) (.ref c2) (decide (cs1 = cs2)) := by
  by_cases hc : c1 = c2
  · subst hc
    have e : vs1 = vs2 := by
      have := Option.some.inj (h1.symm.trans h2)
      simp only [Obj.mk.injEq, Data.seq.injEq] at this
      simpa using this.2.2.1.1
    subst e
    have e2 : cs1 = cs2 := by rw [← IntsAre.numsOf i1, ← IntsAre.numsOf i2]
    rw [decide_eq_true e2]
    exact SeqAt.EqAt.same _
  · refine SeqAt.EqAt.of_refs hc ?_
    have l1 := i1.length
    have l2 := i2.length
    have := SeqAt.RcAt.tuples (A := A) (s := s) (l := c1) (b := c2) (items := vs1.toArray) (items2 := vs2.toArray) (e := fun j => decide (cs1.getD j 0 = cs2.getD j 0)) ⟨_, h1, rfl, n1, rfl⟩ ⟨_, h2, rfl, n2, rfl⟩ (by omega) fun j q1 q2 => by
      simp only [List.size_toArray] at q1 q2
      obtain ⟨u1, e1⟩ := i1.get j (cs1.getD j 0) (by rw [List.getD_eq_getElem?_getD]; simp [show j < cs1.length by omega])
      obtain ⟨u2, e2⟩ := i2.get j (cs2.getD j 0) (by rw [List.getD_eq_getElem?_getD]; simp [show j < cs2.length by omega])
      have e1' : vs1.toArray[j] = .int (cs1.getD j 0) u1 := by have := List.getElem?_eq_some_iff.mp e1; simpa using this.2
      have e2' : vs2.toArray[j] = .int (cs2.getD j 0) u2 := by have := List.getElem?_eq_some_iff.mp e2; simpa using this.2
      rw [e1', e2']
      have := SeqAt.EqAt.int_int (A := A.in1) (s := s) (cs1.getD j 0) u1 (cs2.getD j 0) u2
      rwa [show (cs1.getD j 0 == cs2.getD j 0) = decide (cs1.getD j 0 = cs2.getD j 0) from rfl] at this
    simp only [List.size_toArray] at this
    rw [l1, l2, all_eq] at this
    exact this

set_option maxHeartbeats 4000000 in
theorem equal_spec {S : Addr → Prop} (T : Tp mg mb mN hp) (N : Names mg mb mN) {x y : Addr} {cs1 cs2 : List Int} {b1 b2 nt1 nt2 : Int} (W1 : WsAt S hp x cs1 b1 nt1) (W2 : WsAt S hp y cs2 b2 nt2) (hu : A.units + 20 < cLine)
    (hroom : A.depth < recursionLimit) {Q : Value → Shared → Prop}
    (hQ : ∀ h' t', Keep hp h' → Q (.bool (decide (cs1 = cs2) && decide (b1 = b2))) ⟨h', g, d, t', os⟩) :
    wpAny (model prog w) A (call (.ref 115) [.ref x, .ref y]) Q E ⟨hp, g, d, t, os⟩ := by
  refine callDef T.fEqual T.nolim hroom _ rfl (binds := [("self", .ref x), ("other", .ref y)]) rfl (by decide +kernel) (locs rfl) rfl rfl rfl fun L h₁ t0 F => ?_
  obtain ⟨mA, tu, c, vs, n1, n2, tb, tnt, I, a1, a2, a3, a4, a5, r⟩ := W1.keeps F.keep
  obtain ⟨mA', tu', c', vs', n1', n2', tb', tnt', I', a1', a2', a3', a4', a5', r'⟩ := W2.keeps F.keep
  refine wpAny_execs_cons ?_
  refine wpAny_Return_some ?_
  refine wpAny_Compare1 ?_
  refine Attribute_name ?_
  refine nmL F rfl ?_
  refine attrI (T.keeps F.keep) N I a1 N.nnorm fun t1 => ?_
  refine Attribute_name ?_
  refine nmL F rfl ?_
  refine attrI (T.keeps F.keep) N I' a1' N.nnorm fun t2 => ?_
  have hu1 : (A.deeper (callEnv fdEqual L 115)).units = A.units + 3 := rfl
  refine SeqAt.eq_tupleAt (e := fun j => if j = 0 then decide (cs1 = cs2) else decide (b1 = b2)) ⟨_, a3, rfl, n1, rfl⟩ ⟨_, a3', rfl, n1', rfl⟩ (by omega) ?_ ?_
  · intro j q1 q2
    match j, q1 with
    | 0, _ => exact eqInts a4 a4' a5 a5' (by show A.units + 3 + 1 + 2 < _; omega)
    | 1, _ =>
      have := SeqAt.EqAt.int_int (A := (A.deeper (callEnv fdEqual L 115)).in1) (s := ⟨h₁, g, d, t2, os⟩) b1 tb b2 tb'
      rwa [show (b1 == b2) = decide (b1 = b2) from rfl] at this
  · have e : ((List.range (min (#[Value.ref c, Value.int b1 tb] : Array Value).size (#[Value.ref c', Value.int b2 tb'] : Array Value).size)).all (fun j => if j = 0 then decide (cs1 = cs2) else decide (b1 = b2)) && (#[Value.ref c, Value.int b1 tb] : Array Value).size == (#[Value.ref c', Value.int b2 tb'] : Array Value).size) = (decide (cs1 = cs2) && decide (b1 = b2)) := by
      simp [List.range_succ]
    rw [e]
    exact hQ _ _ F.keep
end
end Mine

open PySem PySem.W PyProof.Rows
namespace Mine
set_option maxRecDepth 100000

def lvl (cs : List Int) (b nt : Int) (ts : Nat) : Int := b + ts * (ilS ts cs (cs.length - ts) + nt)
/-- the triples of the sizes 1 .. k at which f1 and f2 differ -/
def witL (f1 f2 : Nat → Int) : Nat → List (Int × Int × Int)
  | 0 => []
  | k + 1 => witL f1 f2 k ++ (if f1 (k + 1) = f2 (k + 1) then [] else [(((k + 1 : Nat) : Int), f1 (k + 1), f2 (k + 1))])
theorem witL_length (f1 f2 : Nat → Int) : ∀ k, (witL f1 f2 k).length ≤ k
  | 0 => by simp [witL]
  | k + 1 => by
    have := witL_length f1 f2 k
    simp only [witL, List.length_append]
    split <;> simp <;> omega

def TripAt (h : Heap) (lo : Addr) (v : Value) (p : Int × Int × Int) : Prop := ∃ a u1 u2 u3 n, v = .ref a ∧ lo < a ∧ IsT h a #[.int p.1 u1, .int p.2.1 u2, .int p.2.2 u3] n
def TripsAt (h : Heap) (lo : Addr) (l : Addr) (ps : List (Int × Int × Int)) : Prop := ∃ vs, h.PlainList l vs.toArray ∧ Paired (TripAt h lo) vs ps
theorem Paired.imp {α β : Type} {F G : α → β → Prop} (h : ∀ a b, F a b → G a b) : ∀ {l₁ : List α} {l₂ : List β}, Paired F l₁ l₂ → Paired G l₁ l₂
  | _, _, .nil => .nil
  | _, _, .cons x t => .cons (h _ _ x) (Paired.imp h t)
theorem TripAt.offs {h h' : Heap} {lo : Addr} {v : Value} {p : Int × Int × Int} (x : TripAt h lo v p) (k : ∀ b o, lo < b → h.get? b = some o → o.cls = .type "tuple" → h'.get? b = some o) : TripAt h' lo v p :=
  let ⟨a, u1, u2, u3, n, e, hl, ht⟩ := x; ⟨a, u1, u2, u3, n, e, hl, k _ _ hl ht rfl⟩
theorem TripsAt.keeps {h h' : Heap} {lo l : Addr} {ps : List (Int × Int × Int)} (x : TripsAt h lo l ps) (k : Keep h h') : TripsAt h' lo l ps :=
  let ⟨vs, hl, hp⟩ := x; ⟨vs, hl.at fun o e => k _ o e, Paired.imp (fun _ _ y => TripAt.offs y fun b o _ e _ => k b o e) hp⟩

section
variable {S : Addr → Prop} {prog : Program} {w : World} {A : Around} {mg mb mN : Str → Option Value} {E : Value → Shared → Prop}
variable {hp : Heap} {g : Array GenState} {d : Drawn} {t : Nat} {os : OsState}

theorem longW (T : Tp mg mb mN hp) (N : Names mg mb mN) {x : Addr} {cs : List Int} {b nt : Int} (W : WsAt S hp x cs b nt) (hsz : cs.length < 1000) (hh : A.handled = none) (hroom : A.depth < recursionLimit) {Q : Value → Shared → Prop}
    (h : ∀ h' t' u, Keep hp h' → Q (.int (max ((cs.length : Int) - 1) b) u) ⟨h', g, d, t', os⟩) :
    wpAny (model prog w) A (call (.ref 101) [.ref x]) Q E ⟨hp, g, d, t, os⟩ := by
  obtain ⟨mA, tu, c, vs, n1, n2, tb, tnt, I, a1, a2, a3, a4, a5, r⟩ := W
  have := a5.length
  refine long_spec T N I a1 a3 a4 (by simp; omega) hh hroom ?_
  simpa [this] using h
theorem indentW (T : Tp mg mb mN hp) (N : Names mg mb mN) {x : Addr} {cs : List Int} {b nt : Int} (W : WsAt S hp x cs b nt) (hsz : cs.length < 1000) {ts : Nat} {tts : Tok} (hts : 1 ≤ ts) (hts' : ts < 1000) (hh : A.handled = none) (hroom : A.depth < recursionLimit) {Q : Value → Shared → Prop}
    (h : ∀ h' t' u, Keep hp h' → Q (.int (lvl cs b nt ts) u) ⟨h', g, d, t', os⟩) :
    wpAny (model prog w) A (call (.ref 108) [.ref x, .int ts tts]) Q E ⟨hp, g, d, t, os⟩ := by
  obtain ⟨mA, tu, c, vs, n1, n2, tb, tnt, I, a1, a2, a3, a4, a5, r⟩ := W
  exact indent_spec T N I a1 a2 a3 a4 a5 hsz hts hts' hh hroom h
/-- self.longest_run_of_spaces() as an expression -/
theorem longE {fd : FuncData} {L a : Addr} {h₀ : Heap} {m : Str → Option Value} (F : Fr h₀ L hp m) (T : Tp mg mb mN hp) (N : Names mg mb mN) {nm : Str} {p apos pos : Pos} {x : Addr} {cs : List Int} {b nt : Int} (hm : m nm = some (.ref x)) (W : WsAt S hp x cs b nt) (hsz : cs.length < 1000)
    (hh : A.handled = none) (hroom : A.depth < recursionLimit) {Q : Value → Shared → Prop} (h : ∀ h' t' u, Keep hp h' → Q (.int (max ((cs.length : Int) - 1) b) u) ⟨h', g, d, t', os⟩)
    (hl : (callEnv fd L a).kindOf nm = some .local := by rfl) (hk : fd.scope.kind = .function := by rfl) (hd : (nm == ("__debug__" : Str)) = false := by decide) {pl : Sem Bool}
    (he : eval (.Call (.Attribute (.Name nm p) "longest_run_of_spaces" apos) [] [] pos) (callEnv fd L a) = (do
      let ov ← eval (.Name nm p) (callEnv fd L a)
      standAt apos.atName
      let (f, first) ← holding [ov] (getMethod ov "longest_run_of_spaces" pl)
      callWith pos f first (backTo pos (starEach [] (callEnv fd L a))) []) := by rfl) :
    wpAny (model prog w) A (eval (.Call (.Attribute (.Name nm p) "longest_run_of_spaces" apos) [] [] pos) (callEnv fd L a)) Q E ⟨hp, g, d, t, os⟩ := by
  obtain ⟨mA, tu, c, vs, n1, n2, tb, tnt, I, a1, a2, a3, a4, a5, r⟩ := id W
  refine MethodCall_ ?_ he
  refine nmL F hm ?_ hl hk hd
  refine methW T N I N.long T.fLong r.1 ?_
  refine cwM0 T.fLong ?_
  exact longW T N W hsz hh hroom h
/-- self.indent_level(ts) as an expression -/
theorem indentE {fd : FuncData} {L a : Addr} {h₀ : Heap} {m : Str → Option Value} (F : Fr h₀ L hp m) (T : Tp mg mb mN hp) (N : Names mg mb mN) {nm tn : Str} {p apos pos p2 : Pos} {x : Addr} {cs : List Int} {b nt : Int} (hm : m nm = some (.ref x)) (W : WsAt S hp x cs b nt) (hsz : cs.length < 1000)
    {ts : Nat} {tts : Tok} (hts : 1 ≤ ts) (hts' : ts < 1000) (hm2 : m tn = some (.int ts tts))
    (hh : A.handled = none) (hroom : A.depth < recursionLimit) {Q : Value → Shared → Prop} (h : ∀ h' t' u, Keep hp h' → Q (.int (lvl cs b nt ts) u) ⟨h', g, d, t', os⟩)
    (hl : (callEnv fd L a).kindOf nm = some .local := by rfl) (hl2 : (callEnv fd L a).kindOf tn = some .local := by rfl) (hk : fd.scope.kind = .function := by rfl) (hd : (nm == ("__debug__" : Str)) = false := by decide) (hd2 : (tn == ("__debug__" : Str)) = false := by decide) {pl : Sem Bool}
    (he : eval (.Call (.Attribute (.Name nm p) "indent_level" apos) [.Name tn p2] [] pos) (callEnv fd L a) = (do
      let ov ← eval (.Name nm p) (callEnv fd L a)
      standAt apos.atName
      let (f, first) ← holding [ov] (getMethod ov "indent_level" pl)
      callWith pos f first (backTo pos (starEach [.Name tn p2] (callEnv fd L a))) []) := by rfl) :
    wpAny (model prog w) A (eval (.Call (.Attribute (.Name nm p) "indent_level" apos) [.Name tn p2] [] pos) (callEnv fd L a)) Q E ⟨hp, g, d, t, os⟩ := by
  obtain ⟨mA, tu, c, vs, n1, n2, tb, tnt, I, a1, a2, a3, a4, a5, r⟩ := id W
  refine MethodCall_ ?_ he
  refine nmL F hm ?_ hl hk hd
  refine methW T N I N.indent T.fIndent r.2.1 ?_
  refine cwM T.fIndent ?_
  refine args_cons ?_
  refine nmL F hm2 ?_ hl2 hk hd2
  refine args_nil ⟨fun _ _ e => e, ?_⟩
  exact indentW T N W hsz hts hts' hh hroom h

set_option maxHeartbeats 4000000 in
theorem wit_spec (T : Tp mg mb mN hp) (N : Names mg mb mN) {x y : Addr} {cs1 cs2 : List Int} {b1 b2 nt1 nt2 : Int} (W1 : WsAt S hp x cs1 b1 nt1) (W2 : WsAt S hp y cs2 b2 nt2) (hz1 : cs1.length < 100) (hz2 : cs2.length < 100) (hb1 : 0 ≤ b1) (hb1' : b1 < 100) (hb2 : 0 ≤ b2) (hb2' : b2 < 100)
    {k : Nat} (hk : (k : Int) = max (max ((cs1.length : Int) - 1) b1) (max ((cs2.length : Int) - 1) b2) + 1)
    (hh : A.handled = none) (hroom : A.depth + 1 < recursionLimit) {Q : Value → Shared → Prop}
    (hQ : ∀ h' t' lo l, Keep hp h' → hp.objs.size ≤ l → hp.objs.size ≤ lo → TripsAt h' lo l (witL (lvl cs1 b1 nt1) (lvl cs2 b2 nt2) k) → Q (.ref l) ⟨h', g, d, t', os⟩) :
    wpAny (model prog w) A (call (.ref 122) [.ref x, .ref y]) Q E ⟨hp, g, d, t, os⟩ := by
  have hkk : k < 200 := by omega
  refine callDef T.fWit T.nolim (by omega) _ rfl (binds := [("self", .ref x), ("other", .ref y)]) rfl (by decide +kernel) (locs rfl) rfl rfl rfl fun L h₁ t0 F => ?_
  have hh' : (A.deeper (callEnv fdWit L 122)).handled = none := hh
  have hr' : (A.deeper (callEnv fdWit L 122)).depth < recursionLimit := hroom
  refine wpAny_execs_cons ?_
  refine wpAny_Assign_Name ?_
  refine wpAny_BinOp ?_
  refine callN ?_
  refine nmB (T.keeps F.keep) N.nmax N.max ?_
  refine PyProof.Rows.callWith_builtin1 ?_
  refine args_cons ?_
  refine longE F (T.keeps F.keep) N rfl (W1.keeps F.keep) (by omega) hh' hr' fun h₂ t2 u2 k₂ => ?_
  have F₂ := F.keeps k₂
  refine args_cons ?_
  refine longE F₂ (T.keeps F₂.keep) N rfl (W2.keeps F₂.keep) (by omega) hh' hr' fun h₃ t3 u3 k₃ => ?_
  have F₃ := F₂.keeps k₃
  refine args_nil ?_
  refine max2 hh' fun h₄ t4 u4 k₄ => ?_
  have F₄ := F₃.keeps k₄
  refine cInt fun u5 t5 => ?_
  refine addI fun u6 t6 => ?_
  rw [← hk]
  refine stL F₄ fun h₅ t7 F₅ _ => ?_
  refine wpAny_execs_cons ?_
  refine wpAny_Assign_Name ?_
  refine wpAny_List ?_
  refine args_nil ⟨by decide, ?_⟩
  have F₆ := F₅.push { cls := .type "list", data := .seq ([] : List Value).toArray }
  have hla : (h₅.push { cls := .type "list", data := .seq ([] : List Value).toArray }).PlainList h₅.objs.size ([] : List Value).toArray := ⟨0, Heap.get?_push_size _ rfl⟩
  have hLla : L < h₅.objs.size := F₅.ns.lt
  have hpla : hp.objs.size ≤ h₅.objs.size := Nat.le_trans F₅.above (Nat.le_of_lt hLla)
  generalize hla' : h₅.objs.size = la at *
  generalize h₅.push { cls := .type "list", data := .seq ([] : List Value).toArray } = h₆ at *
  refine stL F₆ fun h₇ t8 F₇ s₇ => ?_
  have hl7 : h₇.PlainList la ([] : List Value).toArray := hla.at fun o e => s₇.extBut _ _ (Nat.ne_of_gt hLla) e
  refine wpAny_execs_cons ?_
  refine wpAny_For ?_
  refine callN ?_
  refine nmB (T.keeps F₇.keep) N.nrange N.range ?_
  refine PyProof.Rows.callWith_type1 ?_
  refine args_cons ?_
  refine cInt fun u9 t9 => ?_
  refine args_cons ?_
  refine wpAny_BinOp ?_
  refine nmL F₇ rfl ?_
  refine cInt fun u10 t10 => ?_
  refine addI fun u11 t11 => ?_
  refine args_nil ?_
  refine rangeCall fun r h₈ t12 u12 v12 k₈ _ hr _ => ?_
  refine rangeIter hr (by omega) (by omega) (by omega) (by omega) hh' fun It h₉ t13 St k₉ hI hI' W hst hSt => ?_
  have F₉ := (F₇.keeps k₈).keeps k₉
  have hl9 : h₉.PlainList la ([] : List Value).toArray := hl7.at fun o e => k₉ _ _ (k₈ _ _ e)
  have hlaI : la < It := Nat.lt_of_lt_of_le (by obtain ⟨n, e⟩ := hl7; exact Heap.lt_size (k₈ _ _ e)) hI
  have hLI : L < It := Nat.lt_trans hLla hlaI
  have ek : ((k : Int) + 1 - 1).toNat = k := by omega
  rw [ek] at W
  refine forWalk (mu := [la]) W rfl rfl rfl (L := L) (fun q => absurd hLI (by rw [List.mem_singleton.mp q]; exact Nat.lt_irrefl _)) (fun b hb q => absurd hlaI (by rw [← List.mem_singleton.mp hb, List.mem_singleton.mp q]; exact Nat.lt_irrefl _))
    (fun i m h => Keep hp h ∧ TripsAt h It la (witL (lvl cs1 b1 nt1) (lvl cs2 b2 nt2) i) ∧ m "a" = some (.ref la) ∧ m "self" = some (.ref x) ∧ m "other" = some (.ref y))
    ?_ hst F₉.ns ⟨F₉.keep, ⟨[], hl9, .nil⟩, rfl, rfl, rfl⟩ ?_ ?_
  · rintro i m h h' ⟨j1, ⟨vs, j2, j3⟩, j4⟩ hk'
    refine ⟨fun b o e => hk' b o (Nat.ne_of_lt (Nat.lt_of_lt_of_le (Heap.lt_size e) F₉.above)) (fun q => absurd (Nat.lt_of_lt_of_le (Heap.lt_size e) F₉.above) (by rw [List.mem_singleton.mp q]; exact Nat.not_lt.mpr (Nat.le_of_lt hLI))) (j1 b o e), ⟨vs, ?_, ?_⟩, j4⟩
    · exact j2.at fun o e => hk' _ _ (Nat.ne_of_gt hLla) (fun q => absurd hlaI (by rw [List.mem_singleton.mp q]; exact Nat.lt_irrefl _)) e
    · exact Paired.imp (fun _ _ y => TripAt.offs y fun b o hb e _ => hk' b o (Nat.ne_of_gt (Nat.lt_trans hLI hb)) (fun q => absurd hb (by rw [List.mem_singleton.mp q]; exact Nat.lt_irrefl _)) e) j3
  · rintro i v m h t hi ⟨u, rfl⟩ ⟨j1, ⟨vs, j2, j3⟩, m1, m2, m3⟩ hn hsi
    rw [show (1 : Int) + (i : Int) = ((i + 1 : Nat) : Int) by omega] at hn
    have G : Fr hp L h _ := ⟨hn, j1, F₉.above⟩
    refine wpAny_execs_cons ?_
    refine wpAny_If ?_
    refine wpAny_isTrue_Compare1 ?_
    refine indentE G (T.keeps G.keep) N (by exact m2) (W1.keeps G.keep) (by omega) (ts := i + 1) (by omega) (by omega) rfl hh' hr' fun ha ta ua ka => ?_
    have Ga := G.keeps ka
    refine indentE Ga (T.keeps Ga.keep) N (by exact m3) (W2.keeps Ga.keep) (by omega) (ts := i + 1) (by omega) (by omega) rfl hh' hr' fun hb tb ub kb => ?_
    have Gb := Ga.keeps kb
    refine P.ne_int ?_
    refine wpAny_truthy_bool ?_
    have hbla : hb.PlainList la vs.toArray := j2.at fun o e => kb _ _ (ka _ _ e)
    by_cases hd : lvl cs1 b1 nt1 (i + 1) = lvl cs2 b2 nt2 (i + 1)
    · rw [show (lvl cs1 b1 nt1 (i + 1) != lvl cs2 b2 nt2 (i + 1)) = false by simp [hd]]
      refine wpAny_execs_nil ?_
      refine wpAny_execs_nil ?_
      refine ⟨hb, tb, _, rfl, Gb.ns, ⟨Gb.keep, ?_, m1, m2, m3⟩, fun b o _ _ e => kb _ _ (ka _ _ e)⟩
      simp only [witL, if_pos hd, List.append_nil]
      exact ⟨vs, hbla, Paired.imp (fun _ _ y => TripAt.offs y fun b o _ e _ => kb _ _ (ka _ _ e)) j3⟩
    · rw [show (lvl cs1 b1 nt1 (i + 1) != lvl cs2 b2 nt2 (i + 1)) = true by simp [hd]]
      refine wpAny_execs_cons ?_
      refine wpAny_Expr ?_
      refine MethodCall_ ?_
      refine nmL Gb m1 ?_
      obtain ⟨nl, hnl⟩ := id hbla
      refine PySem.Calls.getMethod_list_append hnl rfl rfl ?_
      refine callWith_method1 ?_
      refine args_cons ?_
      refine wpAny_Tuple ?_
      refine args_cons ?_
      refine nmL Gb rfl ?_
      refine args_cons ?_
      refine indentE Gb (T.keeps Gb.keep) N (by exact m2) (W1.keeps Gb.keep) (by omega) (ts := i + 1) (by omega) (by omega) rfl hh' hr' fun hc tc uc kc => ?_
      have Gc := Gb.keeps kc
      refine args_cons ?_
      refine indentE Gc (T.keeps Gc.keep) N (by exact m3) (W2.keeps Gc.keep) (by omega) (ts := i + 1) (by omega) (by omega) rfl hh' hr' fun hd' td ud kd => ?_
      have Gd := Gc.keeps kd
      refine args_nil ⟨by show 3 ≤ sizeLine; decide, ?_⟩
      refine args_nil ?_
      have hdla : hd'.PlainList la vs.toArray := hbla.at fun o e => kd _ _ (kc _ _ e)
      have kk : Keep h hd' := fun b o e => kd _ _ (kc _ _ (kb _ _ (ka _ _ e)))
      have hge : It < hd'.objs.size := hSt _ _ (W.frame _ _ _ hsi fun b _ o e => kk b o e)
      have hvs : vs.length ≤ i := by have := j3.length; have := witL_length (lvl cs1 b1 nt1) (lvl cs2 b2 nt2) i; omega
      refine wpAny_list_append_plain (hdla.at fun o e => Heap.get?_push_of_some _ e) (fun he hle hse => ?_) (by simp only [List.size_toArray]; rw [sizeLine_eq]; omega)
      refine wpAny_execs_nil ?_
      refine wpAny_execs_nil ?_
      have kf : ∀ b o, b ≠ la → hd'.get? b = some o → he.get? b = some o := fun b o hb e => hse.extBut b o hb (Heap.get?_push_of_some _ e)
      have hLla' : L ≠ la := Nat.ne_of_lt hLla
      refine ⟨he, td, _, rfl, Gd.ns.at' fun o e => kf _ _ hLla' e, ⟨fun b o e => kf _ _ (Nat.ne_of_lt (Nat.lt_of_lt_of_le (Heap.lt_size e) hpla)) (Gd.keep _ _ e), ?_, m1, m2, m3⟩, fun b o _ hb e => kf _ _ (fun q => hb (by rw [q]; exact .head _)) (kk _ _ e)⟩
      refine ⟨vs ++ [.ref hd'.objs.size], by simpa using hle, ?_⟩
      simp only [witL, if_neg hd]
      refine Paired.snoc (Paired.imp (fun _ _ y => TripAt.offs y fun b o hb e _ => kf _ _ (Nat.ne_of_gt (Nat.lt_trans hlaI hb)) (kk _ _ e)) j3) ?_
      exact ⟨hd'.objs.size, _, _, _, 0, rfl, hge, hse.extBut _ _ (Nat.ne_of_gt (Nat.lt_trans hlaI hge)) (Heap.get?_push_size _ rfl)⟩
  · rintro m h t ⟨j1, j2, m1, m2, m3⟩ hn
    have G : Fr hp L h _ := ⟨hn, j1, F₉.above⟩
    refine wpAny_execs_cons ?_
    refine wpAny_Return_some ?_
    refine nmL G m1 ?_
    exact hQ h _ _ _ j1 hpla (Nat.le_trans F₉.above (Nat.le_of_lt hLI)) j2
end
end Mine

open PySem PySem.W PyProof.Rows
namespace Mine
set_option maxRecDepth 100000

theorem get_none {h : Heap} {b : Addr} (k : ∀ o, h.get? b = some o → False) : h.get? b = none := by
  cases e : h.get? b with
  | none => rfl
  | some o => exact (k o e).elim

def allBut (h : Heap) (L : Addr) : List (Addr × Obj) := (List.range h.objs.size).filterMap fun b => if b = L then none else (h.get? b).map fun o => (b, o)
theorem mem_allBut {h : Heap} {L b : Addr} {o : Obj} : (b, o) ∈ allBut h L ↔ h.get? b = some o ∧ b ≠ L := by
  unfold allBut
  rw [List.mem_filterMap]
  constructor
  · rintro ⟨a, _, e⟩
    by_cases q : a = L
    · rw [if_pos q] at e; cases e
    · rw [if_neg q] at e
      obtain ⟨o', h1, h2⟩ := Option.map_eq_some_iff.mp e
      cases h2
      exact ⟨h1, q⟩
  · rintro ⟨h1, h2⟩
    refine ⟨b, List.mem_range.mpr (Heap.lt_size h1), ?_⟩
    rw [if_neg h2, h1]; rfl
theorem get_empty (b : Addr) : (({} : Heap).get? b) = none := by
  cases e : ({} : Heap).get? b with
  | none => rfl
  | some o => have := Heap.lt_size e; exact absurd this (Nat.not_lt_zero _)
theorem fullNews (h : Heap) (L : Addr) : News {} L h (allBut h L) := fun p hp => by
  obtain ⟨b, o⟩ := p
  have := mem_allBut.mp hp
  exact ⟨this.1, this.2, get_empty b⟩
theorem fullFr {h : Heap} {L : Addr} {m : Str → Option Value} (hn : h.Ns L m) : Fr {} L h m := ⟨hn, fun b o e => (by rw [get_empty] at e; cases e), Nat.zero_le _⟩
theorem keepOf {h h' : Heap} {L : Addr} {x : Addr × Obj} (N : News {} L h' (x :: allBut h L)) : ∀ b o, b ≠ L → h.get? b = some o → h'.get? b = some o := fun b o hb e => (N (b, o) (.tail _ (mem_allBut.mpr ⟨e, hb⟩))).1
/-- all but the frame is kept -/
abbrev KeepL (L : Addr) (h h' : Heap) : Prop := ∀ b o, b ≠ L → h.get? b = some o → h'.get? b = some o

section
variable {prog : Program} {w : World} {A : Around} {mg mb mN : Str → Option Value} {E : Value → Shared → Prop}
variable {hp : Heap} {g : Array GenState} {d : Drawn} {t : Nat} {os : OsState}

theorem Fr.keepL {h₀ h h' : Heap} {L : Addr} {m m' : Str → Option Value} (F : Fr h₀ L h m) (hn : h'.Ns L m') (k : KeepL L h h') : Fr h₀ L h' m' :=
  ⟨hn, fun b o e => k b o (Nat.ne_of_lt (Nat.lt_of_lt_of_le (Heap.lt_size e) F.above)) (F.keep b o e), F.above⟩

theorem addLs {L : Addr} {m : Str → Option Value} (hn : hp.Ns L m) {l b : Addr} {vs ws : List Value} {Q : Value → Shared → Prop} (hl : hp.IsList l vs.toArray) (hb : hp.IsList b ws.toArray) (hsz : vs.length + ws.length ≤ 100000)
    (h : ∀ h' l', h'.Ns L m → KeepL L hp h' → hp.objs.size ≤ l' → h'.PlainList l' (vs ++ ws).toArray → Q (.ref l') ⟨h', g, d, t, os⟩) :
    wpAny (model prog w) A (binaryOp .Add (.ref l) (.ref b)) Q E ⟨hp, g, d, t, os⟩ := by
  refine add_arrays (fullFr hn) (fullNews hp L) hl hb (fun h' F' N' => ?_) (by simp only [List.size_toArray]; rw [sizeLine_eq]; omega)
  exact h h' _ F'.ns (keepOf N') (Nat.le_refl _) ⟨0, (N' _ (.head _)).1⟩
theorem mulLs {L : Addr} {m : Str → Option Value} (hn : hp.Ns L m) {l : Addr} {vs : List Value} {k : Nat} {x : Int} {u : Tok} {Q : Value → Shared → Prop} (hl : IsL hp l vs.toArray k) (h0 : 0 ≤ x) (hx : x ≤ 1000) (hsz : vs.length ≤ 1000)
    (h : ∀ h' l', h'.Ns L m → KeepL L hp h' → hp.objs.size ≤ l' → h'.PlainList l' (List.replicate x.toNat vs).flatten.toArray → Q (.ref l') ⟨h', g, d, t, os⟩) :
    wpAny (model prog w) A (binaryOp .Mult (.ref l) (.int x u)) Q E ⟨hp, g, d, t, os⟩ := by
  refine PyProof.Rows.mul_list (fullFr hn) (fullNews hp L) hl (by omega) (by omega) ?_ (fun h' F' N' => ?_)
  · simp only [List.size_toArray]
    have : vs.length * x.toNat ≤ 1000 * 1000 := Nat.mul_le_mul hsz (by omega)
    omega
  · refine h h' _ F'.ns (keepOf N') (Nat.le_refl _) ⟨0, ?_⟩
    have := (N' _ (.head _)).1
    rw [listMul_foldl_if] at this
    exact this

theorem strIter {x : Str} {tx : Tok} {Q : Value → Shared → Prop} (hh : A.handled = none)
    (h : ∀ I h' St, Keep hp h' → hp.objs.size ≤ I → Walks prog w A I [I] [I] x.cps.size (SignAt x) St → St 0 h' → (∀ i h, St i h → ∃ o, h.get? I = some o) → Q (.ref I) ⟨h', g, d, t, os⟩) :
    wpAny (model prog w) A (pyIter (.str x tx)) Q E ⟨hp, g, d, t, os⟩ := by
  cases ha : x.cps.all (· < 128)
  · exact wpAny_pyIter_wide ha (h _ _ _ (Keep.push _ _) (Nat.le_refl _) (Walks.strWide hh _ x tx) ⟨_, Heap.get?_push_size _ rfl, rfl, rfl⟩ fun i h e => let ⟨o, e, _⟩ := e; ⟨o, e⟩)
  · exact wpAny_pyIter_ascii ha (h _ _ _ (Keep.push _ _) (Nat.le_refl _) (Walks.strAscii hh _ x tx) ⟨_, Heap.get?_push_size _ rfl, rfl, rfl⟩ fun i h e => let ⟨o, e, _⟩ := e; ⟨o, e⟩)

theorem tupE {env : Env} {elts : List Expr} {k : Nat} {pos : Pos} {Q : Value → Shared → Prop} {s : Shared}
    (h : wpAny (model prog w) A (spliced (backTo pos (starEach elts env))) (fun vs s₁ => vs.length ≤ 1000 ∧ ∀ h' tu, Keep s₁.heap h' → s₁.heap.objs.size ≤ tu → IsT h' tu vs.toArray 0 → Q (.ref tu) ⟨h', s₁.gens, s₁.drawn, s₁.toks, s₁.os⟩) E s) :
    wpAny (model prog w) A (eval (.Tuple elts k pos) env) Q E s :=
  wpAny_Tuple (wpAny_mono h (fun vs s₁ h₁ => ⟨by rw [sizeLine_eq]; omega, h₁.2 _ _ (Keep.push _ _) (Nat.le_refl _) (Heap.get?_push_size _ rfl)⟩) fun _ _ x => x)
theorem lstE {env : Env} {elts : List Expr} {pos : Pos} {Q : Value → Shared → Prop} {s : Shared}
    (h : wpAny (model prog w) A (spliced (backTo pos (starEach elts env))) (fun vs s₁ => vs.length ≤ 1000 ∧ ∀ h' l, Keep s₁.heap h' → s₁.heap.objs.size ≤ l → IsL h' l vs.toArray 0 → Q (.ref l) ⟨h', s₁.gens, s₁.drawn, s₁.toks, s₁.os⟩) E s) :
    wpAny (model prog w) A (eval (.List elts pos) env) Q E s :=
  wpAny_List (wpAny_mono h (fun vs s₁ h₁ => ⟨by rw [sizeLine_eq]; omega, h₁.2 _ _ (Keep.push _ _) (Nat.le_refl _) (Heap.get?_push_size _ rfl)⟩) fun _ _ x => x)

theorem lenL {c : Addr} {vs : List Value} {Q : Value → Shared → Prop} (hc : hp.IsList c vs.toArray) (hsz : vs.length < 2 ^ 60) (h : ∀ u t', Q (.int vs.length u) ⟨hp, g, d, t', os⟩) :
    wpAny (model prog w) A (call (.builtin "len") [.ref c]) Q E ⟨hp, g, d, t, os⟩ := by
  refine Calls.call_len_list hc (by simp only [List.size_toArray]; omega) ?_
  simpa using h _ _
theorem itemL {c : Addr} {vs : List Value} {i : Int} {u : Tok} {v : Value} {Q : Value → Shared → Prop} (hc : hp.IsList c vs.toArray) (h0 : 0 ≤ i) (hi : i < 2 ^ 60) (hv : vs[i.toNat]? = some v) (h : Q v ⟨hp, g, d, t, os⟩) :
    SubscriptOn (model prog w) A (.ref c) (.int i u) Q E ⟨hp, g, d, t, os⟩ :=
  ⟨"list", "list.__getitem__", slot_list_getitem.lookup, hc.typeIs, wpAny_getItem_list hc h0 (by omega) (by simpa using hv) h⟩
theorem setL {c : Addr} {vs : List Value} {i : Int} {u : Tok} {v : Value} {Q : Unit → Shared → Prop} (hc : hp.IsList c vs.toArray) (h0 : 0 ≤ i) (hi : i < vs.length) (hs : vs.length < 2 ^ 60)
    (h : ∀ h', h'.IsList c (vs.set i.toNat v).toArray → Heap.SameBut c hp h' → Q () ⟨h', g, d, t, os⟩) : wpAny (model prog w) A (setItem (.ref c) (.int i u) v) Q E ⟨hp, g, d, t, os⟩ := by
  refine wpAny_setItem_list hc h0 (by omega) (by simp only [List.size_toArray]; omega) fun h' hl hs => h h' ?_ hs
  simpa using hl
theorem tupL {c : Addr} {vs : List Value} {Q : Value → Shared → Prop} (hc : hp.IsList c vs.toArray) (hsz : vs.length ≤ 100000)
    (h : ∀ h' tu, Keep hp h' → hp.get? tu = none → IsT h' tu vs.toArray 0 → Q (.ref tu) ⟨h', g, d, t, os⟩) : wpAny (model prog w) A (call (.type "tuple") [.ref c]) Q E ⟨hp, g, d, t, os⟩ :=
  call_tuple_list hc (fun h' k => h _ _ (fun b o e => Heap.get?_push_of_some _ (k b o e)) (get_none fun o e => Nat.lt_irrefl _ (Heap.lt_size (k _ _ e))) (Heap.get?_push_size _ rfl)) (by simp only [List.size_toArray]; rw [sizeLine_eq]; omega)

/-- a for over a walk, its name a local; J may speak of any object but the frame's and the iterator's -/
theorem forWalk2 {env : Env} {x : Str} {px : Pos} {body : List Stmt} {I L : Addr} {fp wr : List Addr} {n : Nat} {P : Nat → Value → Prop} {St : Nat → Heap → Prop} {R : Result → Shared → Prop} {m₀ : Str → Option Value}
    (W : Walks prog w A I fp wr n P St) (hLe : env.locals = L) (hx : env.kindOf x = some .local) (hk : env.scope.kind = .function) (hLf : L ∉ fp)
    (J : Nat → (Str → Option Value) → Heap → Prop)
    (hJ : ∀ i m h h', J i m h → (∀ b o, b ≠ L → b ∉ wr → h.get? b = some o → h'.get? b = some o) → J i m h')
    (hst : St 0 hp) (hn : hp.Ns L m₀) (h0 : J 0 m₀ hp)
    (step : ∀ i v m h t, i < n → P i v → J i m h → h.Ns L (fun y => if y = x then some v else m y) → St (i + 1) h →
      wpAny (model prog w) A (execs body env) (fun f s₃ => match f with
        | .next => ∃ h' t' m', s₃ = ⟨h', g, d, t', os⟩ ∧ h'.Ns L m' ∧ J (i + 1) m' h' ∧ (∀ b ∈ fp, ∀ o, h.get? b = some o → h'.get? b = some o)
        | .cont => ∃ h' t' m', s₃ = ⟨h', g, d, t', os⟩ ∧ h'.Ns L m' ∧ J (i + 1) m' h' ∧ (∀ b ∈ fp, ∀ o, h.get? b = some o → h'.get? b = some o)
        | .brk => R (.ok .next) s₃ | .ret v => R (.ok (.ret v)) s₃) NoE ⟨h, g, d, t, os⟩)
    (done : ∀ m h t, J n m h → h.Ns L m → R (.ok .next) ⟨h, g, d, t, os⟩) :
    codeAny (model prog w) A (.forLoop (.Name x px) (.ref I) body [] env) R ⟨hp, g, d, t, os⟩ := by
  have hLw : L ∉ wr := fun h => hLf (W.sub _ h)
  refine forAny (fun i s => ∃ h t m, s = ⟨h, g, d, t, os⟩ ∧ St i h ∧ h.Ns L m ∧ J i m h) n ?_ ?_ ⟨hp, t, m₀, rfl, hst, hn, h0⟩
  · rintro i s ⟨h, t, m, rfl, hst, hn, hj⟩ hi
    refine W.item i _ _ _ hi hst fun v h₁ tk hP hst₁ hk₁ => ⟨v, rfl, ?_⟩
    refine wpAny_of_eq (rfl : letOwnedTupleGo (.Name x px) (.ref I) v = pure ()) ?_
    refine wpAny_assign_Name (wpAny_storeName_local (env := env) hx (m := m) (by rw [hLe]; exact hn.at' fun o e => hk₁ _ o hLw e) (fun h₂ hn₂ hs₂ => ?_) (by rw [hk]; rfl))
    rw [hLe] at hn₂ hs₂
    have hj₂ : J i m h₂ := hJ i m h h₂ hj fun b o hb hw e => hs₂.extBut b o hb (hk₁ b o hw e)
    have hst₂ : St (i + 1) h₂ := W.frame _ _ _ hst₁ fun b hb o e => hs₂.extBut b o (fun q => hLf (q ▸ hb)) e
    have fin : ∀ s₃ : Shared, (∃ h' t' m', s₃ = ⟨h', g, d, t', os⟩ ∧ h'.Ns L m' ∧ J (i + 1) m' h' ∧ (∀ b ∈ fp, ∀ o, h₂.get? b = some o → h'.get? b = some o)) →
        ∃ h t m, s₃ = ⟨h, g, d, t, os⟩ ∧ St (i + 1) h ∧ h.Ns L m ∧ J (i + 1) m h := by
      rintro s₃ ⟨h', t', m', rfl, a1, a2, a3⟩
      exact ⟨h', t', m', rfl, W.frame _ _ _ hst₂ a3, a1, a2⟩
    refine wpAny_mono (step i v m h₂ _ hi hP hj₂ hn₂ hst₂) (fun f s₃ h₃ => ?_) fun _ _ x => x
    cases f with
    | next => exact fin s₃ h₃
    | cont => exact fin s₃ h₃
    | brk => exact h₃
    | ret v => exact h₃
  · rintro s ⟨h, t, m, rfl, hst, hn, hj⟩
    refine W.done _ _ _ hst fun h₁ tk hk₁ => ⟨rfl, ?_⟩
    exact done m h₁ tk (hJ n m h h₁ hj fun b o _ hw e => hk₁ b o hw e) (hn.at' fun o e => hk₁ _ o hLw e)

/-- an object under way: x with its dict dx -/
structure Ob (h : Heap) (x dx : Addr) (mA : Str → Option Value) : Prop where
  obj : ∃ o, h.get? x = some o ∧ o.cls = .ref 139 ∧ o.dict = some dx ∧ ∀ c, o.data ≠ .cls c
  ns : h.Ns1 dx mA
  ne : dx ≠ x
theorem Ob.inst {h : Heap} {x dx : Addr} {mA : Str → Option Value} (O : Ob h x dx mA) : h.Inst x 139 mA := let ⟨o, e, c, dd, nc⟩ := O.obj; ⟨o, e, c, nc, .inr ⟨dx, dd, O.ne, O.ns⟩⟩
theorem Ob.offs {h h' : Heap} {x dx : Addr} {mA : Str → Option Value} (O : Ob h x dx mA) (kx : ∀ o, h.get? x = some o → h'.get? x = some o) (kd : ∀ o, h.get? dx = some o → h'.get? dx = some o) : Ob h' x dx mA :=
  ⟨let ⟨o, e, r⟩ := O.obj; ⟨o, kx _ e, r⟩, O.ns.at kd, O.ne⟩

theorem setA (T : Tp mg mb mN hp) (N : Names mg mb mN) {x dx : Addr} {mA : Str → Option Value} (O : Ob hp x dx mA) {name : Str} {v : Value} {ns : List Str} {Q : Unit → Shared → Prop} (hna : mN name = none) (hx : x ≠ 139)
    (h : ∀ h' t', Ob h' x dx (fun y => if y = name then some v else mA y) → (∀ b o, b ≠ x → b ≠ dx → hp.get? b = some o → h'.get? b = some o) → Q () ⟨h', g, d, t', os⟩)
    (hw : Within mA ns) (hsz : ns.length ≤ sizeLine) (hB : typeLookup (.type "object") name = pure none := by rw [typeLookup_type, builtinLookup_eq_fast]; kernel_rfl) :
    wpAny (model prog w) A (setAttr (.ref x) name v) Q E ⟨hp, g, d, t, os⟩ := by
  obtain ⟨nm, q, bs, sn, sub, col, dd, k0, k1, k2, k3, k5, hC⟩ := T.cls.obj
  obtain ⟨ox, hox, hcx, hdx, hncx⟩ := O.obj
  refine store_attr PySem.F.store_object hC T.cls.ns N.nsa hna hB hx O.inst (fun h' tk' I' hk hsame => ?_) hw hsz
  refine h h' tk' ?_ fun b o h1 h2 e => hk b o h1 (fun o₀ d' e₀ ed => by
    obtain rfl := Option.some.inj (hox.symm.trans e₀); obtain rfl := Option.some.inj (hdx.symm.trans ed); exact h2) e
  obtain ⟨o₁, e₁, c₁, dt₁, _, dk₁⟩ := hsame ox hox
  obtain ⟨o', e', _, _, hd'⟩ := I'
  obtain rfl := Option.some.inj (e₁.symm.trans e')
  rcases hd' with ⟨hn0, _⟩ | ⟨d', hd', _, hns'⟩
  · rw [dk₁ dx hdx] at hn0; cases hn0
  · obtain rfl := Option.some.inj ((dk₁ dx hdx).symm.trans hd')
    exact ⟨⟨o₁, e₁, c₁.trans hcx, dk₁ _ hdx, fun c => dt₁ ▸ hncx c⟩, hns', O.ne⟩
end
end Mine

open PySem PySem.W PyProof.Rows
namespace Mine
set_option maxRecDepth 100000

def bump (cs : List Int) (b : Nat) : List Int :=
  let cs' := if cs.length ≤ b then cs ++ List.replicate (b - cs.length + 1) 0 else cs
  cs'.set b (cs'.getD b 0 + 1)
def scan : List Nat → List Int → Nat → Nat → List Int × Nat × Nat
  | [], cs, b, k => (cs, b, k)
  | c :: r, cs, b, k => if c = 32 then scan r cs (b + 1) k else if c = 9 then scan r (bump cs b) 0 (k + 1) else (cs, b, k)
theorem bump_length {cs : List Int} {b n : Nat} (h1 : cs.length ≤ n) (h2 : b < n) : (bump cs b).length ≤ n := by
  simp only [bump, List.length_set]
  split
  · simp; omega
  · exact h1
theorem space_is : (Str.ofString " ") = ⟨#[32]⟩ := by decide +kernel
theorem tab_is : (Str.ofString "\t") = ⟨#[9]⟩ := by decide +kernel
theorem intsAre_replicate (u : Tok) : ∀ k, IntsAre (List.replicate k (Value.int 0 u)) (List.replicate k 0)
  | 0 => .nil
  | k + 1 => .cons _ _ (intsAre_replicate u k)
theorem intsAre_set : ∀ {vs : List Value} {cs : List Int} (i : Nat) (x : Int) (u : Tok), IntsAre vs cs → IntsAre (vs.set i (.int x u)) (cs.set i x)
  | _, _, _, _, _, .nil => .nil
  | _, _, 0, _, _, .cons _ _ t => .cons _ _ t
  | _, _, i + 1, x, u, .cons _ _ t => .cons _ _ (intsAre_set i x u t)

section
variable {prog : Program} {w : World} {A : Around} {mg mb mN : Str → Option Value} {E : Value → Shared → Prop}
variable {hp : Heap} {g : Array GenState} {d : Drawn} {t : Nat} {os : OsState}

theorem clsS (T : Tp mg mb mN hp) {ex : Bool} {Q : Value → Shared → Prop} (h : ∀ t', Q (.str " " 447) ⟨hp, g, d, t', os⟩) : wpAny (model prog w) A (getAttr (.ref 139) "S" ex) Q E ⟨hp, g, d, t, os⟩ := by
  obtain ⟨K, X, a1, a2, a3, _⟩ := T.clsK
  exact cls_value X a1 a2 rfl (h _)
theorem clsT (T : Tp mg mb mN hp) {ex : Bool} {Q : Value → Shared → Prop} (h : ∀ t', Q (.str "\t" 448) ⟨hp, g, d, t', os⟩) : wpAny (model prog w) A (getAttr (.ref 139) "T" ex) Q E ⟨hp, g, d, t, os⟩ := by
  obtain ⟨K, X, a1, a2, a3, _⟩ := T.clsK
  exact cls_value X a1 a3 rfl (h _)

set_option maxHeartbeats 8000000 in
theorem init_spec (T : Tp mg mb mN hp) (N : Names mg mb mN) {h1 : Heap} {x dx : Addr} (Mk : Heap.MadeObj hp h1 x dx 139) {txt : Str} {tt : Tok} {cs : List Int} {b nt : Nat} (hs : scan txt.cps.toList [] 0 0 = (cs, b, nt)) (hsz : txt.cps.size ≤ 500)
    (hh : A.handled = none) (hroom : A.depth < recursionLimit) {Q : Value → Shared → Prop}
    (hQ : ∀ h' t', Keep hp h' → WsAt (fun b => hp.get? b = none) h' x cs b nt → Q .none ⟨h', g, d, t', os⟩) :
    wpAny (model prog w) A (call (.ref 94) [.ref x, .str txt tt]) Q E ⟨h1, g, d, t, os⟩ := by
  have T1 := T.keeps Mk.keeps
  refine callDef T1.fInit T1.nolim hroom _ rfl (binds := [("self", .ref x), ("ws", .str txt tt)]) rfl (by decide +kernel) (locs rfl) rfl rfl rfl fun L h₁ t0 F0 => ?_
  have F : Fr hp L h₁ _ := ⟨F0.ns, fun b o e => F0.keep _ _ (Mk.keeps _ _ e), Nat.le_trans Mk.grows F0.above⟩
  have hh' : (A.deeper (callEnv fdInit L 94)).handled = none := hh
  obtain ⟨ox, hox, hcx, hncx, hdx'⟩ := Mk.inst
  have hdx := Mk.dict ox hox
  have O : Ob h₁ x dx (fun _ => none) := by
    rcases hdx' with ⟨hn0, _⟩ | ⟨d', hd', hne, hns⟩
    · rw [hn0] at hdx; cases hdx
    · obtain rfl := Option.some.inj (hd'.symm.trans hdx)
      exact ⟨⟨ox, F0.keep _ _ hox, hcx, hdx, hncx⟩, hns.keeps F0.keep, hne⟩
  have hxL : x ≠ L := Nat.ne_of_lt (Nat.lt_of_lt_of_le (Heap.lt_size hox) F0.above)
  have hdL : dx ≠ L := by
    obtain ⟨o', _, _, e', _⟩ : h1.Ns dx (fun _ => none) := by
      rcases hdx' with ⟨hn0, _⟩ | ⟨d', hd', hne, hns⟩
      · rw [hn0] at hdx; cases hdx
      · obtain rfl := Option.some.inj (hd'.symm.trans hdx); exact hns.ns
    exact Nat.ne_of_lt (Nat.lt_of_lt_of_le (Heap.lt_size e') F0.above)
  have hnx := Mk.newX
  have hnd := Mk.newD
  have hx139 : x ≠ 139 := by
    rintro rfl
    obtain ⟨nm, q, bs, sn, sub, col, dd, k0, k1, k2, k3, k5, hC⟩ := T.cls.obj
    rw [hnx] at hC; cases hC
  have offx : ∀ b o, hp.get? b = some o → b ≠ x ∧ b ≠ dx := fun b o e => ⟨(by rintro rfl; rw [hnx] at e; cases e), (by rintro rfl; rw [hnd] at e; cases e)⟩
  have setF : ∀ {h h' : Heap} {m : Str → Option Value}, Fr hp L h m → (∀ b o, b ≠ x → b ≠ dx → h.get? b = some o → h'.get? b = some o) → Fr hp L h' m := fun {h h' m} F k => ⟨F.ns.at' fun o e => k _ _ (Ne.symm hxL) (Ne.symm hdL) e, fun b o e => k b o (offx b o e).1 (offx b o e).2 (F.keep b o e), F.above⟩
  clear F0 hdx' hncx hcx
  refine wpAny_execs_cons ?_
  refine plainObj_wpAny_Assign_Attribute ?_
  refine nmL F rfl ?_
  refine nmL F rfl ?_
  refine setA (T.keeps F.keep) N O N.nraw hx139 (fun h₂ t2 O₂ k₂ => ?_) (ns := []) (fun y hy => absurd rfl hy) (by decide)
  have F₂ := setF F k₂
  refine wpAny_execs_cons ?_
  refine Assign_Tuple_swapped ?_
  refine tupE ?_
  refine args_cons ?_
  refine Attribute_name ?_
  refine nmG (T.keeps F₂.keep) N.ws ?_
  refine clsS (T.keeps F₂.keep) fun t3 => ?_
  refine args_cons ?_
  refine Attribute_name ?_
  refine nmG (T.keeps F₂.keep) N.ws ?_
  refine clsT (T.keeps F₂.keep) fun t4 => ?_
  refine args_nil ⟨by decide, fun h₃ tu k₃ _ ht₃ => ?_⟩
  have F₃ := F₂.keeps k₃
  have O₃ := O₂.offs (fun o e => k₃ _ _ e) (fun o e => k₃ _ _ e)
  refine wpAny_unpackItems_tuple (items := #[Value.str " " 447, Value.str "\t" 448]) hh' ⟨_, ht₃, rfl, 0, rfl⟩ fun h₄ hx₄ => ?_
  have k₄ : Keep h₃ h₄ := fun b o e => hx₄ b o (Nat.ne_of_lt (Heap.lt_size e)) e
  have F₄ := F₃.keeps k₄
  have O₄ := O₃.offs (fun o e => k₄ _ _ e) (fun o e => k₄ _ _ e)
  show wpAny _ _ (assignInOrder [fun v => bindName (callEnv fdInit L 94) "T" v, fun v => bindName (callEnv fdInit L 94) "S" v] [Value.str "\t" 448, Value.str " " 447]) _ _ _
  refine wpAny_bind (wpAny_holding (wpAny_bindName ?_))
  refine stL F₄ fun h₅ t5 F₅ s₅ => ?_
  refine wpAny_bind (wpAny_holding (wpAny_bindName ?_))
  refine stL F₅ fun h₆ t6 F₆ s₆ => ?_
  refine wpAny_pure ?_
  have O₆ := O₄.offs (fun o e => s₆.extBut _ _ hxL (s₅.extBut _ _ hxL e)) (fun o e => s₆.extBut _ _ hdL (s₅.extBut _ _ hdL e))
  refine wpAny_execs_cons ?_
  refine wpAny_Assign_Name ?_
  refine lstE ?_
  refine args_nil ⟨by decide, fun h₇ la k₇ hla' hla0 => ?_⟩
  have F₇ := F₆.keeps k₇
  have O₇ := O₆.offs (fun o e => k₇ _ _ e) (fun o e => k₇ _ _ e)
  have hla : h₇.IsList la ([] : List Value).toArray := ⟨_, hla0, rfl, 0, rfl⟩
  have hLla : L < la := Nat.lt_of_lt_of_le F₆.ns.lt hla'
  have hpla : hp.objs.size ≤ la := Nat.le_trans F₆.above (Nat.le_of_lt hLla)
  have hxla : x < la := let ⟨o, e, _⟩ := O₆.obj; Nat.lt_of_lt_of_le (Heap.lt_size e) hla'
  have hdla : dx < la := Nat.lt_of_lt_of_le O₆.ns.ns.lt hla'
  refine stL F₇ fun h₈ t8 F₈ s₈ => ?_
  refine wpAny_execs_cons ?_
  refine wpAny_Assign_three ?_
  refine cInt fun u9 t9 => ?_
  refine anL F₈ fun h₉ t10 F₉ s₉ => ?_
  refine anL F₉ fun h₁₀ t11 F₁₀ s₁₀ => ?_
  refine anL F₁₀ fun h₁₁ t12 F₁₁ s₁₁ => ?_
  have k₁₁ : KeepL L h₇ h₁₁ := fun b o hb e => s₁₁.extBut _ _ hb (s₁₀.extBut _ _ hb (s₉.extBut _ _ hb (s₈.extBut _ _ hb e)))
  have O₁₁ := O₇.offs (fun o e => k₁₁ _ _ hxL e) (fun o e => k₁₁ _ _ hdL e)
  have hl₁₁ : h₁₁.IsList la ([] : List Value).toArray := hla.at fun o e => k₁₁ _ _ (Nat.ne_of_gt hLla) e
  refine wpAny_execs_cons ?_
  refine wpAny_For ?_
  refine Attribute_name ?_
  refine nmL F₁₁ rfl ?_
  refine attrI (T.keeps F₁₁.keep) N O₁₁.inst rfl N.nraw fun t13 => ?_
  refine strIter hh' fun It h₁₂ St k₁₂ hI W hst hSt => ?_
  have F₁₂ := F₁₁.keeps k₁₂
  have O₁₂ := O₁₁.offs (fun o e => k₁₂ _ _ e) (fun o e => k₁₂ _ _ e)
  have hl₁₂ := hl₁₁.at fun o e => k₁₂ _ o e
  have hlaI : la < It := Nat.lt_of_lt_of_le (by obtain ⟨o, e, _⟩ := hl₁₁; exact Heap.lt_size e) hI
  have hLI : L < It := Nat.lt_trans hLla hlaI
  clear F F₂ F₃ F₄ F₅ F₆ F₇ F₈ F₉ F₁₀ F₁₁ O O₂ O₃ O₄ O₆ O₇ O₁₁
  have fin : ∀ (h : Heap) (m : Str → Option Value) (t : Nat) (lc : Addr) (vs : List Value) (u1 u2 u3 : Tok) (nn : Int), Fr hp L h m → Ob h x dx (fun y => if y = "raw" then some (.str txt tt) else none) → m "self" = some (.ref x) → m "count" = some (.ref lc) → h.IsList lc vs.toArray → IntsAre vs cs →
      lc ≠ x → lc ≠ dx → m "b" = some (.int ((b : Nat) : Int) u1) → m "nt" = some (.int ((nt : Nat) : Int) u2) → m "n" = some (.int nn u3) → cs.length ≤ 500 →
      wpAny (model prog w) (A.deeper (callEnv fdInit L 94)) (execs ((defBody (methStmt 1)).drop 5) (callEnv fdInit L 94)) (fun f s' => Q (match f with | .ret v => v | _ => .none) s') NoE ⟨h, g, d, t, os⟩ := by
    intro h m t lc vs u1 u2 u3 nn G O m1 m2 m3 m4 m5 m6 m7 m8 m9 m10
    have hlen := m4.length
    refine wpAny_execs_cons ?_
    refine plainObj_wpAny_Assign_Attribute ?_
    refine nmL G m9 ?_
    refine nmL G m1 ?_
    refine setA (T.keeps G.keep) N O N.nn hx139 (fun h₂ t2 O₂ k₂ => ?_) (ns := ["raw"]) (by within_ways) (by decide)
    have G₂ := setF G k₂
    refine wpAny_execs_cons ?_
    refine plainObj_wpAny_Assign_Attribute ?_
    refine nmL G₂ m8 ?_
    refine nmL G₂ m1 ?_
    refine setA (T.keeps G₂.keep) N O₂ N.nnt hx139 (fun h₃ t3 O₃ k₃ => ?_) (ns := ["n", "raw"]) (by within_ways) (by decide)
    have G₃ := setF G₂ k₃
    have hl₃ : h₃.IsList lc vs.toArray := m3.at fun o e => k₃ _ _ m5 m6 (k₂ _ _ m5 m6 e)
    refine wpAny_execs_cons ?_
    refine plainObj_wpAny_Assign_Attribute ?_
    refine tupE ?_
    refine args_cons ?_
    refine callN ?_
    refine nmB (T.keeps G₃.keep) N.ntuple N.tuple ?_
    refine PyProof.Rows.callWith_type1 ?_
    refine args_cons ?_
    refine nmL G₃ m2 ?_
    refine args_nil ?_
    refine tupL hl₃ (by omega) fun h₄ ct k₄ hct0 hct => ?_
    have G₄ := G₃.keeps k₄
    have O₄ := O₃.offs (fun o e => k₄ _ _ e) (fun o e => k₄ _ _ e)
    refine args_cons ?_
    refine nmL G₄ m7 ?_
    refine args_nil ⟨by show 2 ≤ 1000; decide, fun h₅ tu k₅ htu0 htu => ?_⟩
    have G₅ := G₄.keeps k₅
    have O₅ := O₄.offs (fun o e => k₅ _ _ e) (fun o e => k₅ _ _ e)
    refine nmL G₅ m1 ?_
    refine setA (T.keeps G₅.keep) N O₅ N.nnorm hx139 (fun h₆ t6 O₆ k₆ => ?_) (ns := ["nt", "n", "raw"]) (by within_ways) (by decide)
    have G₆ := setF G₅ k₆
    have ncls : ∀ {b : Addr} {o : Obj}, h₅.get? b = some o → o.cls = .type "tuple" → (∀ es ep, o.data ≠ .dict es ep) → b ≠ x ∧ b ≠ dx := fun {b o} e hc hdd => ⟨(by
      rintro rfl
      obtain ⟨o', e', c', _⟩ := O₅.obj
      obtain rfl := Option.some.inj (e.symm.trans e')
      rw [hc] at c'; cases c'), (by
      rintro rfl
      obtain ⟨o', es, ep, e', d', _⟩ := O₅.ns
      obtain rfl := Option.some.inj (e.symm.trans e')
      exact hdd _ _ d')⟩
    have htu₆ : IsT h₆ tu #[.ref ct, .int b u1] 0 := k₆ _ _ (ncls htu rfl (fun _ _ q => nomatch q)).1 (ncls htu rfl (fun _ _ q => nomatch q)).2 htu
    have hct₆ : IsT h₆ ct vs.toArray 0 := k₆ _ _ (ncls (k₅ _ _ hct) rfl (fun _ _ q => nomatch q)).1 (ncls (k₅ _ _ hct) rfl (fun _ _ q => nomatch q)).2 (k₅ _ _ hct)
    have hl₆ : h₆.IsList lc vs.toArray := hl₃.at fun o e => k₆ _ _ m5 m6 (k₅ _ _ (k₄ _ _ e))
    refine wpAny_execs_cons ?_
    refine plainObj_wpAny_Assign_Attribute ?_
    refine wpAny_Compare1 ?_
    refine callN ?_
    refine nmB (T.keeps G₆.keep) N.nlen N.len ?_
    refine PyProof.Rows.callWith_builtin1 ?_
    refine args_cons ?_
    refine nmL G₆ m2 ?_
    refine args_nil ?_
    refine lenL hl₆ (by omega) fun u7 t7 => ?_
    refine cInt fun u8 t8 => ?_
    refine P.le_int ?_
    refine nmL G₆ m1 ?_
    refine setA (T.keeps G₆.keep) N O₆ N.nsimple hx139 (fun h₇ t9 O₇ k₇ => ?_) (ns := ["norm", "nt", "n", "raw"]) (by within_ways) (by decide)
    have G₇ := setF G₆ k₇
    refine wpAny_execs_nil ?_
    refine hQ h₇ t9 G₇.keep ?_
    have nc6 : ∀ {b : Addr} {o : Obj}, h₆.get? b = some o → o.cls = .type "tuple" → (∀ es ep, o.data ≠ .dict es ep) → b ≠ x ∧ b ≠ dx := fun {b o} e hc hdd => ⟨(by
      rintro rfl
      obtain ⟨o', e', c', _⟩ := O₆.obj
      obtain rfl := Option.some.inj (e.symm.trans e')
      rw [hc] at c'; cases c'), (by
      rintro rfl
      obtain ⟨o', es, ep, e', d', _⟩ := O₆.ns
      obtain rfl := Option.some.inj (e.symm.trans e')
      exact hdd _ _ d')⟩
    exact ⟨_, tu, ct, vs, 0, 0, u1, u2, O₇.inst, rfl, rfl, k₇ _ _ (nc6 htu₆ rfl (fun _ _ q => nomatch q)).1 (nc6 htu₆ rfl (fun _ _ q => nomatch q)).2 htu₆, k₇ _ _ (nc6 hct₆ rfl (fun _ _ q => nomatch q)).1 (nc6 hct₆ rfl (fun _ _ q => nomatch q)).2 hct₆, m4, rfl, rfl, rfl, rfl, hnx, get_none (fun o e => absurd (Heap.lt_size (G₄.keep _ _ e)) (Nat.not_lt.mpr htu0)), get_none (fun o e => by rw [G₃.keep _ _ e] at hct0; cases hct0), let ⟨o, e, _, dd, _⟩ := O₇.obj; ⟨o, dx, e, dd, hnd⟩⟩
  have hR : ∀ {cs' : List Int} {b' nt' : Nat}, scan txt.cps.toList [] 0 0 = (cs', b', nt') → cs' = cs ∧ b' = b ∧ nt' = nt := fun {cs' b' nt'} e => by
    rw [hs] at e
    simp only [Prod.mk.injEq] at e
    exact ⟨e.1.symm, e.2.1.symm, e.2.2.symm⟩
  refine forWalk2 W rfl rfl rfl (L := L) (fun q => absurd hLI (by rw [List.mem_singleton.mp q]; exact Nat.lt_irrefl _))
    (fun i m h => Keep hp h ∧ Ob h x dx (fun y => if y = "raw" then some (.str txt tt) else none) ∧ m "self" = some (.ref x) ∧ m "S" = some (.str " " 447) ∧ m "T" = some (.str "\t" 448) ∧
      ∃ cs' b' nt' lc vs u1 u2 u3 nn, scan txt.cps.toList [] 0 0 = scan (txt.cps.toList.drop i) cs' b' nt' ∧ m "count" = some (.ref lc) ∧ h.IsList lc vs.toArray ∧ IntsAre vs cs' ∧ L < lc ∧ lc ≠ It ∧ lc ≠ x ∧ lc ≠ dx ∧ hp.objs.size ≤ lc ∧
        m "b" = some (.int ((b' : Nat) : Int) u1) ∧ m "nt" = some (.int ((nt' : Nat) : Int) u2) ∧ m "n" = some (.int nn u3) ∧ b' ≤ i ∧ cs'.length ≤ i)
    ?_ hst F₁₂.ns ⟨F₁₂.keep, O₁₂, rfl, rfl, rfl, [], 0, 0, la, [], u9, u9, u9, 0, rfl, rfl, hl₁₂, .nil, hLla, Nat.ne_of_lt hlaI, Nat.ne_of_gt hxla, Nat.ne_of_gt hdla, hpla, rfl, rfl, rfl, Nat.le_refl _, Nat.le_refl _⟩ ?_ ?_
  · rintro i m h h' ⟨j1, O, m1, m2, m3, cs', b', nt', lc, vs, u1, u2, u3, nn, e1, e2, e3, e4, e5, e6, e7, e8, e9, r⟩ hk'
    have nI : ∀ {b : Addr}, b ≠ It → b ∉ [It] := fun h q => h (List.mem_singleton.mp q)
    refine ⟨fun b o e => hk' b o (Nat.ne_of_lt (Nat.lt_of_lt_of_le (Heap.lt_size e) F₁₂.above)) (nI (Nat.ne_of_lt (Nat.lt_trans (Nat.lt_of_lt_of_le (Heap.lt_size e) F₁₂.above) hLI))) (j1 b o e),
      O.offs (fun o e => hk' _ o hxL (nI (Nat.ne_of_lt (Nat.lt_trans hxla hlaI))) e) (fun o e => hk' _ o hdL (nI (Nat.ne_of_lt (Nat.lt_trans hdla hlaI))) e), m1, m2, m3, cs', b', nt', lc, vs, u1, u2, u3, nn, e1, e2,
      e3.at (fun o e => hk' _ o (Nat.ne_of_gt e5) (nI e6) e), e4, e5, e6, e7, e8, e9, r⟩
  · rintro i v m h t hi ⟨c, u, hc, rfl⟩ ⟨j1, O, m1, m2, m3, cs', b', nt', lc, vs, u1, u2, u3, nn, e1, e2, e3, e4, e5, e6, e7, e8, e9, e10, e11, e12, e13, e14⟩ hn hsi
    have G : Fr hp L h _ := ⟨hn, j1, F₁₂.above⟩
    have hdrop : txt.cps.toList.drop i = c :: txt.cps.toList.drop (i + 1) := by
      have hi2 : i < txt.cps.toList.length := by simpa using hi
      rw [List.drop_eq_getElem_cons hi2]
      congr 1
      have := Array.getElem?_eq_some_iff.mp hc
      simpa using this.2
    rw [hdrop] at e1
    simp only [scan] at e1
    have hi5 : i < 500 := Nat.lt_of_lt_of_le hi hsz
    refine wpAny_execs_cons ?_
    refine wpAny_If ?_
    refine wpAny_isTrue_Compare1 ?_
    refine nmL G rfl ?_
    refine nmL G m2 ?_
    refine P.eq_str ?_
    refine wpAny_truthy_bool ?_
    have ec : ((⟨#[c]⟩ : Str).cps.toList == (Str.ofString " ").cps.toList) = decide (c = 32) := by rw [space_is]; by_cases q : c = 32 <;> simp [q]
    rw [ec]
    by_cases hc32 : c = 32
    · rw [decide_eq_true hc32]
      rw [if_pos hc32] at e1
      refine wpAny_execs_cons ?_
      refine wpAny_Assign_Name ?_
      refine wpAny_BinOp ?_
      refine nmL G e12 ?_
      refine cInt fun v1 t1 => ?_
      refine addI fun v2 t2 => ?_
      refine stL G fun h₂ t3 G₂ s₂ => ?_
      refine wpAny_execs_cons ?_
      refine wpAny_Assign_Name ?_
      refine wpAny_BinOp ?_
      refine nmL G₂ e10 ?_
      refine cInt fun v3 t4 => ?_
      refine addI fun v4 t5 => ?_
      refine stL G₂ fun h₃ t6 G₃ s₃ => ?_
      refine wpAny_execs_nil ?_
      refine wpAny_execs_nil ?_
      have kL : KeepL L h h₃ := fun b o hb e => s₃.extBut _ _ hb (s₂.extBut _ _ hb e)
      refine ⟨h₃, t6, _, rfl, G₃.ns, ⟨G₃.keep, O.offs (fun o e => kL _ _ hxL e) (fun o e => kL _ _ hdL e), m1, m2, m3, cs', b' + 1, nt', lc, vs, v4, u2, v2, nn + 1, e1, e2, e3.at (fun o e => kL _ _ (Nat.ne_of_gt e5) e), e4, e5, e6, e7, e8, e9, ?_, e11, rfl, by omega, by omega⟩, fun b hb o e => kL _ _ (by rw [List.mem_singleton.mp hb]; exact Nat.ne_of_gt hLI) e⟩
      rfl
    · rw [decide_eq_false hc32]
      rw [if_neg hc32] at e1
      refine wpAny_execs_cons ?_
      refine wpAny_If ?_
      refine wpAny_isTrue_Compare1 ?_
      refine nmL G rfl ?_
      refine nmL G m3 ?_
      refine P.eq_str ?_
      refine wpAny_truthy_bool ?_
      have ec2 : ((⟨#[c]⟩ : Str).cps.toList == (Str.ofString "\t").cps.toList) = decide (c = 9) := by rw [tab_is]; by_cases q : c = 9 <;> simp [q]
      rw [ec2]
      by_cases hc9 : c = 9
      · rw [decide_eq_true hc9]
        rw [if_pos hc9] at e1
        refine wpAny_execs_cons ?_
        refine wpAny_Assign_Name ?_
        refine wpAny_BinOp ?_
        refine nmL G e12 ?_
        refine cInt fun v1 t1 => ?_
        refine addI fun v2 t2 => ?_
        refine stL G fun h₂ t3 G₂ s₂ => ?_
        refine wpAny_execs_cons ?_
        refine wpAny_Assign_Name ?_
        refine wpAny_BinOp ?_
        refine nmL G₂ e11 ?_
        refine cInt fun v3 t4 => ?_
        refine addI fun v4 t5 => ?_
        refine stL G₂ fun h₃ t6 G₃ s₃ => ?_
        have kL : KeepL L h h₃ := fun b o hb e => s₃.extBut _ _ hb (s₂.extBut _ _ hb e)
        have hl₃ : h₃.IsList lc vs.toArray := e3.at (fun o e => kL _ _ (Nat.ne_of_gt e5) e)
        have hlen := e4.length
        obtain ⟨oI, hoI⟩ := hSt _ _ hsi
        refine wpAny_execs_cons ?_
        refine wpAny_mono (Q := fun f s' => f = .next ∧ ∃ h' t' m' lc' vs', s' = ⟨h', g, d, t', os⟩ ∧ Fr hp L h' m' ∧ KeepL L h₃ h' ∧ m' "self" = some (.ref x) ∧ m' "S" = some (.str " " 447) ∧ m' "T" = some (.str "\t" 448) ∧ m' "count" = some (.ref lc') ∧ m' "b" = some (.int ((b' : Nat) : Int) u1) ∧ m' "nt" = some (.int ((nt' + 1 : Nat) : Int) v4) ∧ m' "n" = some (.int (nn + 1) v2) ∧
          h'.IsList lc' vs'.toArray ∧ IntsAre vs' (if cs'.length ≤ b' then cs' ++ List.replicate (b' - cs'.length + 1) 0 else cs') ∧ L < lc' ∧ lc' ≠ It ∧ lc' ≠ x ∧ lc' ≠ dx ∧ hp.objs.size ≤ lc') (E := NoE) ?_ ?_ (fun _ _ q => q)
        · refine wpAny_If ?_
          refine wpAny_isTrue_Compare1 ?_
          refine nmL G₃ e10 ?_
          refine callN ?_
          refine nmB (T.keeps G₃.keep) N.nlen N.len ?_
          refine PyProof.Rows.callWith_builtin1 ?_
          refine args_cons ?_
          refine nmL G₃ e2 ?_
          refine args_nil ?_
          refine lenL hl₃ (by omega) fun u7 t7 => ?_
          refine P.ge_int ?_
          refine wpAny_truthy_bool ?_
          by_cases hb : cs'.length ≤ b'
          · rw [decide_eq_true (by omega : ((b' : Nat) : Int) ≥ ((vs.length : Nat) : Int)), if_pos hb]
            refine wpAny_execs_cons ?_
            refine wpAny_Assign_Name ?_
            refine wpAny_BinOp ?_
            refine nmL G₃ e2 ?_
            refine wpAny_BinOp ?_
            refine lstE ?_
            refine args_cons ?_
            refine cInt fun w1 t8 => ?_
            refine args_nil ⟨by show 1 ≤ 1000; decide, fun h₄ l4 k₄ q₄ hl4 => ?_⟩
            have G₄ := G₃.keeps k₄
            refine wpAny_BinOp ?_
            refine wpAny_BinOp ?_
            refine nmL G₄ e10 ?_
            refine callN ?_
            refine nmB (T.keeps G₄.keep) N.nlen N.len ?_
            refine PyProof.Rows.callWith_builtin1 ?_
            refine args_cons ?_
            refine nmL G₄ e2 ?_
            refine args_nil ?_
            refine lenL (hl₃.at fun o e => k₄ _ _ e) (by omega) fun u8 t9 => ?_
            refine subI fun w2 t10 => ?_
            refine cInt fun w3 t11 => ?_
            refine addI fun w4 t12 => ?_
            refine mulLs G₄.ns hl4 (by omega) (by omega) (by show 1 ≤ 1000; decide) fun h₅ l5 n₅ k₅ q₅ hl5 => ?_
            have kk₅ : KeepL L h₃ h₅ := fun b o hb e => k₅ _ _ hb (k₄ _ _ e)
            have hrep : (List.replicate (((b' : Nat) : Int) - ((vs.length : Nat) : Int) + 1).toNat [Value.int 0 w1]).flatten = List.replicate (b' - cs'.length + 1) (Value.int 0 w1) := by
              have : (((b' : Nat) : Int) - ((vs.length : Nat) : Int) + 1).toNat = b' - cs'.length + 1 := by omega
              rw [this]
              generalize b' - cs'.length + 1 = k
              induction k with
              | zero => rfl
              | succ k ih => rw [List.replicate_succ, List.flatten_cons, ih]; rfl
            rw [hrep] at hl5
            refine addLs n₅ (hl₃.at fun o e => kk₅ _ _ (Nat.ne_of_gt e5) e) hl5.isList (by simp; omega) fun h₆ l6 n₆ k₆ q₆ hl6 => ?_
            have kk₆ : KeepL L h₃ h₆ := fun b o hb e => k₆ _ _ hb (kk₅ _ _ hb e)
            have G₆ : Fr hp L h₆ _ := Mine.Fr.keepL G₃ n₆ kk₆
            refine stL G₆ fun h₇ t13 G₇ s₇ => ?_
            refine wpAny_execs_nil ?_
            have hIl : It < l6 := Nat.lt_of_lt_of_le (Heap.lt_size (kk₅ _ _ (Nat.ne_of_gt hLI) (kL _ _ (Nat.ne_of_gt hLI) hoI))) q₆
            refine ⟨rfl, h₇, t13, _, l6, _, rfl, G₇, fun b o hb e => s₇.extBut _ _ hb (kk₆ _ _ hb e), m1, m2, m3, rfl, e10, rfl, rfl, hl6.isList.at (fun o e => s₇.extBut _ _ (Nat.ne_of_gt (Nat.lt_trans hLI hIl)) e), e4.append (intsAre_replicate w1 _), Nat.lt_trans hLI hIl, Nat.ne_of_gt hIl, Nat.ne_of_gt (Nat.lt_trans (Nat.lt_trans hxla hlaI) hIl), Nat.ne_of_gt (Nat.lt_trans (Nat.lt_trans hdla hlaI) hIl), Nat.le_trans G₃.above (Nat.le_of_lt (Nat.lt_trans hLI hIl))⟩
          · rw [decide_eq_false (by omega : ¬ ((b' : Nat) : Int) ≥ ((vs.length : Nat) : Int)), if_neg hb]
            refine wpAny_execs_nil ?_
            exact ⟨rfl, h₃, t7, _, lc, vs, rfl, G₃, fun b o hb e => e, m1, m2, m3, e2, e10, rfl, rfl, hl₃, e4, e5, e6, e7, e8, e9⟩
        · rintro f s' ⟨rfl, h₄, t7, m', lc', vs', rfl, G₄, k₄, a1, a2, a3, a4, a5, a6, a7, a8, a9, a10, a11, a12, a13, a14⟩
          have hb := bump_length (cs := cs') (b := b') (n := i + 1) (by omega) (by omega)
          have hbd : bump cs' b' = (if cs'.length ≤ b' then cs' ++ List.replicate (b' - cs'.length + 1) 0 else cs').set b' ((if cs'.length ≤ b' then cs' ++ List.replicate (b' - cs'.length + 1) 0 else cs').getD b' 0 + 1) := rfl
          have hbl : b' < (if cs'.length ≤ b' then cs' ++ List.replicate (b' - cs'.length + 1) 0 else cs').length := by
            split
            · simp; omega
            · omega
          revert a9 hbd hbl
          generalize (if cs'.length ≤ b' then cs' ++ List.replicate (b' - cs'.length + 1) 0 else cs') = c2
          intro a9 hbd hbl
          have hl2 := a9.length
          rw [hbd, List.length_set] at hb
          have hb3 : b' < vs'.length := by omega
          obtain ⟨ux, hux⟩ : ∃ u, vs'[b']? = some (.int (c2.getD b' 0) u) := by
            obtain ⟨u, hu⟩ := a9.int_at b' _ (List.getElem?_eq_getElem hb3)
            exact ⟨u, by rw [List.getElem?_eq_getElem hb3, hu]⟩
          refine wpAny_execs_cons ?_
          refine wpAny_Assign_Subscript ?_
          refine wpAny_BinOp ?_
          refine wpAny_Subscript_Name_late ?_
          refine nmL G₄ a4 ?_
          refine nmL G₄ a5 ?_
          refine itemL a8 (by omega) (by omega) (v := .int (c2.getD b' 0) ux) (by simpa using hux) ?_
          refine cInt fun w1 t8 => ?_
          refine addI fun w2 t9 => ?_
          refine nmL G₄ a4 ?_
          refine nmL G₄ a5 ?_
          refine setL a8 (by omega) (by omega) (by omega) fun h₅ hl5 s5 => ?_
          have k₅ : ∀ b o, b ≠ lc' → h₄.get? b = some o → h₅.get? b = some o := fun b o hb e => s5.extBut _ _ hb e
          have G₅ : Fr hp L h₅ m' := ⟨G₄.ns.at' fun o e => k₅ _ _ (Nat.ne_of_lt a10) e, fun b o e => k₅ _ _ (Nat.ne_of_lt (Nat.lt_of_lt_of_le (Heap.lt_size e) a14)) (G₄.keep _ _ e), G₄.above⟩
          refine wpAny_execs_cons ?_
          refine wpAny_Assign_Name ?_
          refine cInt fun w3 t10 => ?_
          refine stL G₅ fun h₆ t11 G₆ s₆ => ?_
          refine wpAny_execs_nil ?_
          refine wpAny_execs_nil ?_
          refine wpAny_execs_nil ?_
          have kf : ∀ b o, b ≠ L → b ≠ lc' → h.get? b = some o → h₆.get? b = some o := fun b o hb hc e => s₆.extBut _ _ hb (k₅ _ _ hc (k₄ _ _ hb (kL _ _ hb e)))
          refine ⟨h₆, t11, _, rfl, G₆.ns, ⟨G₆.keep, O.offs (fun o e => kf _ _ hxL (Ne.symm a12) e) (fun o e => kf _ _ hdL (Ne.symm a13) e), a1, a2, a3, bump cs' b', 0, nt' + 1, lc', _, w3, v4, v2, nn + 1, e1, a4, hl5.at (fun o e => s₆.extBut _ _ (Nat.ne_of_gt a10) e), ?_, a10, a11, a12, a13, a14, rfl, a6, a7, by omega, ?_⟩, fun b hb o e => ?_⟩
          · rw [hbd]
            exact intsAre_set _ _ _ a9
          · rw [hbd, List.length_set]; exact hb
          · have hbI := List.mem_singleton.mp hb
            exact kf _ _ (by rw [hbI]; exact Nat.ne_of_gt hLI) (by rw [hbI]; exact Ne.symm a11) e
      · rw [decide_eq_false hc9]
        rw [if_neg hc9] at e1
        refine wpAny_execs_cons ?_
        refine wpAny_Break ?_
        obtain ⟨rfl, rfl, rfl⟩ := hR e1
        exact fin _ _ _ lc vs u1 u2 u3 nn G O m1 e2 e3 e4 e7 e8 e10 e11 e12 (by omega)
  · rintro m h t ⟨j1, O, m1, m2, m3, cs', b', nt', lc, vs, u1, u2, u3, nn, e1, e2, e3, e4, e5, e6, e7, e8, e9, e10, e11, e12, e13, e14⟩ hn
    have hd0 : txt.cps.toList.drop txt.cps.size = [] := List.drop_of_length_le (by simp)
    rw [hd0] at e1
    obtain ⟨rfl, rfl, rfl⟩ := hR e1
    exact fin _ _ _ lc vs u1 u2 u3 nn ⟨hn, j1, F₁₂.above⟩ O m1 e2 e3 e4 e7 e8 e10 e11 e12 (by omega)
end
end Mine

open PySem PySem.W PyProof.Rows
namespace Mine
set_option maxRecDepth 100000
section
variable {prog : Program} {w : World} {A : Around} {mg mb mN : Str → Option Value} {E : Value → Shared → Prop}
variable {hp : Heap} {g : Array GenState} {d : Drawn} {t : Nat} {os : OsState}
theorem makeW (T : Tp mg mb mN hp) (N : Names mg mb mN) {txt : Str} {tt : Tok} {cs : List Int} {b nt : Nat} (hs : scan txt.cps.toList [] 0 0 = (cs, b, nt)) (hsz : txt.cps.size ≤ 500)
    (hh : A.handled = none) (hroom : A.depth + 1 < recursionLimit) {Q : Value → Shared → Prop}
    (hQ : ∀ h' x t', Keep hp h' → hp.get? x = none → WsAt (fun b => hp.get? b = none) h' x cs b nt → Q (.ref x) ⟨h', g, d, t', os⟩) :
    wpAny (model prog w) A (call (.ref 139) [.str txt tt]) Q E ⟨hp, g, d, t, os⟩ := by
  obtain ⟨nm, q, bs, sn, sub, col, dd, k0, k1, k2, k3, k5, hC⟩ := T.cls.obj
  obtain ⟨⟨o, ho, hcl, _⟩, _⟩ := T.fInit
  refine wpAny_call_obj_init PySem.F.objNew hC T.cls.ns N.init ho hcl fun h' x dx Mk => ?_
  refine init_spec T N Mk hs hsz (by exact hh) (by exact hroom) fun h'' t' k W => ⟨rfl, hQ h'' x t' k Mk.newX W⟩
end
end Mine

open PySem PySem.W PyProof.Rows
namespace Mine
set_option maxRecDepth 100000

/-- a number of value k/16 -/
def NumV (v : Value) (k : Int) : Prop := (∃ i t, v = .int i t ∧ k = 16 * i) ∨ ∃ x t, v = .float x t ∧ Fv x k

theorem over_small {n : Int} (h : (16 * n).natAbs < 2 ^ 53) : ¬ Float64.isInf (Float64.ofInt n) = true := by
  rw [(Fv.ofInt h).notInf]; decide

section
variable {prog : Program} {w : World} {A : Around} {E : Value → Shared → Prop}
theorem realArgV {v : Value} {k : Int} {s : Shared} {Q : UInt64 → Shared → Prop} (hA : A.handled = none) (hv : NumV v k) (hk : k.natAbs < 2 ^ 53) (h : ∀ x t', Fv x k → Q x { s with toks := t' }) :
    wpAny (model prog w) A (Builtin.Math.realArg v) Q E s := by
  rcases hv with ⟨i, t, rfl, rfl⟩ | ⟨x, t, rfl, hx⟩
  · exact PySem.Flt.realArg_int hA (fun o => absurd (PySem.Flt.inf_of_over o) (over_small hk)) fun _ => h _ _ (Fv.ofInt hk)
  · obtain ⟨hp, g, d, tk, os⟩ := s
    show wpAny _ _ (pure x) _ _ _
    exact wpAny_pure (h x tk hx)

theorem kind_fsum : builtinKind "math.fsum" = none := by decide +kernel
theorem plain_fsum : plainId "math.fsum" = true := by decide +kernel
theorem entry_fsum : entryFor table "math.fsum" = some Builtin.«math.fsum» := entryFor_of_fast (by kernel_rfl)
theorem args_fsum (a : Value) : argsOk "math.fsum" ⟨[a], []⟩ := by unfold argsOk; kernel_rfl
theorem plain_fsum_loop : plainId "math.fsum.loop" = true := by decide +kernel
theorem entry_fsum_loop : entryFor table "math.fsum.loop" = some Builtin.«math.fsum.loop» := entryFor_of_fast (by kernel_rfl)

def bitsOf (ps : List UInt64) : List Value := ps.map fun x => rawInt x.toNat
theorem bits1 (x : UInt64) : ((x.toNat : Int)).toNat.toUInt64 = x := by simp
theorem unpackB {M : Model} {s : Shared} {pa : Addr} {ps : List UInt64} {f : Value → UInt64} {Q : List UInt64 → Shared → Prop} (ht : IsT s.heap pa (bitsOf ps).toArray 0) (hf : ∀ x : UInt64, f (rawInt x.toNat) = x) (h : Q ps s) :
    wpAny M A (seqItems? (.ref pa) >>= fun o => pure ((o.getD #[]).toList.map f)) Q E s := by
  refine wpAny_bind (wpAny_seqItems ht rfl (wpAny_pure ?_))
  have e : ((some (bitsOf ps).toArray).getD #[]).toList.map f = ps := by
    show ((bitsOf ps).toArray.toList).map _ = ps
    rw [List.toList_toArray, bitsOf, List.map_map]
    conv => rhs; rw [← List.map_id ps]
    apply List.map_congr_left
    intro x _
    exact hf x
  rw [e]
  exact h

theorem codeAny_fsum_loop {I : Addr} {fp wr : List Addr} {n : Nat} {P : Nat → Value → Prop} {St : Nat → Heap → Prop} {R : Result → Shared → Prop} (hA : A.in1.handled = none) (W : Walks prog w A.in1 I fp wr n P St) (hSt : ∀ i h, St i h → ∀ b ∈ wr, b < h.objs.size) (val : Nat → Int) (hval : ∀ i v, P i v → NumV v (val i)) (hv1 : ∀ j, j ≤ n → (val j).natAbs < 2 ^ 50) (hv2 : ∀ j, j ≤ n → (preSum val j).natAbs < 2 ^ 50) (za : Addr) (hz : za ∉ wr) :
    ∀ (k i : Nat) (s : Shared) (ps : List UInt64) (pa : Addr), n - i = k → i ≤ n → St i s.heap → Pv ps (preSum val i) → IsT s.heap pa (bitsOf ps).toArray 0 → pa ∉ wr → IsT s.heap za (bitsOf [Float64.zero false, Float64.zero false]).toArray 0 →
    (∀ h' tk r u, Fv r (preSum val n) → (∀ b o, b ∉ wr → s.heap.get? b = some o → h'.get? b = some o) → R (.ok (.ret (.float r u))) { s with heap := h', toks := tk }) →
    codeAny (model prog w) A (.builtin "math.fsum.loop" ⟨[.ref I, .ref pa, .ref za], []⟩) R s := by
  intro k
  induction k with
  | zero =>
    intro i s ps pa hk hi hst hps hpa hpw hza hR
    have hin : i = n := by omega
    subst hin
    refine codeAny_builtin entry_fsum_loop ?_
    rw [Around.under_plainId plain_fsum_loop _]
    show wpAny _ A.in1 ((seqItems? (.ref pa) >>= _) >>= _) _ _ s
    refine wpAny_bind (unpackB hpa bits1 ?_)
    refine wpAny_bind (unpackB hza bits1 ?_)
    refine wpAny_bind (W.done s _ _ hst fun h' tk hk' => ?_)
    have hzz : (!Float64.isZero (Float64.zero false)) = false := by decide +kernel
    show wpAny _ _ (if (!Float64.isZero (Float64.zero false)) = true then _ else _) _ _ _
    rw [hzz, if_neg (by decide)]
    refine wpAny_bind (wpAny_mkFloat (wpAny_pure ?_))
    exact hR h' _ _ _ (fsumEnd_v hps) fun b o hb e => hk' b o hb e
  | succ k ih =>
    intro i s ps pa hk hi hst hps hpa hpw hza hR
    have hlt : i < n := by omega
    refine codeAny_builtin entry_fsum_loop ?_
    rw [Around.under_plainId plain_fsum_loop _]
    show wpAny _ A.in1 ((seqItems? (.ref pa) >>= _) >>= _) _ _ s
    refine wpAny_bind (unpackB hpa bits1 ?_)
    refine wpAny_bind (unpackB hza bits1 ?_)
    refine wpAny_bind (W.item i s _ _ hlt hst fun v h' tk hP hst' hk' => ?_)
    have hb := hv1 i (by omega)
    refine wpAny_bind (wpAny_holding (realArgV hA (hval i v hP) (by omega) fun x t' hx => ?_))
    have hF := fsumAdd_v hps hx (hv2 i (by omega)) hb
    show wpAny _ _ (if Float64.isFinite (Float64.fsumAdd ps x).2 = true then _ else _) _ _ _
    rw [if_pos hF.1]
    generalize (if Float64.isZero (Float64.fsumAdd ps x).2 then (Float64.fsumAdd ps x).1 else (Float64.fsumAdd ps x).1 ++ [(Float64.fsumAdd ps x).2]) = ps' at hF ⊢
    have hl' : ps'.length ≤ 1 := by
      rcases hF.2 with ⟨e, _⟩ | ⟨p, e, _⟩ <;> rw [e] <;> simp
    refine wpAny_bind (wpAny_newTuple (items := bitsOf ps') ?_ (by rw [bitsOf, List.length_map, sizeLine_eq]; omega))
    refine wpAny_pure ⟨plainId_quiet plain_fsum_loop _, ih (i + 1) _ ps' h'.objs.size (by omega) hlt (W.frame _ _ _ hst' fun b hb o e => Heap.get?_push_of_some _ e) hF.2 (Heap.get?_push_size _ rfl) (fun hm => Nat.lt_irrefl _ (hSt _ _ hst' _ hm)) (Heap.get?_push_of_some _ (hk' _ _ hz hza)) fun h'' tk'' r u hr hk'' => ?_⟩
    exact hR h'' tk'' r u hr fun b o hb e => hk'' b o hb (Heap.get?_push_of_some _ (hk' b o hb e))
/-- fsum of a list of numbers -/
theorem fsumL {hp : Heap} {g : Array GenState} {d : Drawn} {t : Nat} {os : OsState} {l : Addr} {vs : List Value} {Q : Value → Shared → Prop} (hA : A.handled = none) (hl : hp.IsList l vs.toArray) (val : Nat → Int) (hval : ∀ i v, vs[i]? = some v → NumV v (val i)) (hv1 : ∀ j, j ≤ vs.length → (val j).natAbs < 2 ^ 50) (hv2 : ∀ j, j ≤ vs.length → (preSum val j).natAbs < 2 ^ 50)
    (h : ∀ h' t' r u, Keep hp h' → Fv r (preSum val vs.length) → Q (.float r u) ⟨h', g, d, t', os⟩) :
    wpAny (model prog w) A (call (.builtin "math.fsum") [.ref l]) Q E ⟨hp, g, d, t, os⟩ := by
  refine call_function_tree kind_fsum plain_fsum entry_fsum (args_fsum _) ?_
  have hlt : l < hp.objs.size := by obtain ⟨_, e, _⟩ := hl; exact Heap.lt_size e
  show wpAny _ A.in1 (pyIter (.ref l) >>= _) _ _ _
  refine wpAny_bind (wpAny_pyIter_list hl ?_)
  refine wpAny_bind (wpAny_newTuple (items := bitsOf []) ?_)
  refine wpAny_bind (wpAny_newTuple (items := bitsOf [Float64.zero false, Float64.zero false]) ?_)
  have W := Walks.list (prog := prog) (w := w) (A := A.in1) hA hp.objs.size l (Nat.ne_of_lt hlt) vs.toArray
  refine wpAny_pure ⟨plainId_quiet plain_fsum_loop _, codeAny_fsum_loop (by exact hA) W (fun i h st b hb => ?_) val (fun i v e => hval i v (by simpa using e)) (by simpa using hv1) (by simpa using hv2) _ ?_ vs.length 0 _ [] _ (by simp) (Nat.zero_le _) ?_ (.inl ⟨rfl, rfl⟩) (Heap.get?_push_of_some _ (Heap.get?_push_size _ rfl)) ?_ (Heap.get?_push_size _ rfl) fun h' tk r u hr hk => ?_⟩
  · obtain ⟨⟨o, e, _⟩, _⟩ := st
    rw [List.mem_singleton.mp hb]
    exact Heap.lt_size e
  · show ((hp.push _).push _).objs.size ∉ _
    intro hm
    have := List.mem_singleton.mp hm
    rw [Heap.size_push, Heap.size_push] at this
    exact absurd this (by omega)
  · exact ⟨⟨_, Heap.get?_push_of_some _ (Heap.get?_push_of_some _ (Heap.get?_push_size _ rfl)), rfl, rfl⟩, ((hl.push _).push _).push _⟩
  · show (hp.push _).objs.size ∉ _
    intro hm
    have := List.mem_singleton.mp hm
    rw [Heap.size_push] at this
    exact absurd this (by omega)
  · refine h h' tk r u (fun b o e => hk b o ?_ (Heap.get?_push_of_some _ (Heap.get?_push_of_some _ (Heap.get?_push_of_some _ e)))) (by simpa using hr)
    intro hm
    have := Heap.lt_size e
    rw [List.mem_singleton.mp hm] at this
    exact absurd this (Nat.lt_irrefl _)
end
end Mine

open PySem PySem.W PyProof.Rows
namespace Mine
set_option maxRecDepth 100000
section
variable {prog : Program} {w : World} {A : Around} {E : Value → Shared → Prop}
theorem kind_sumprod : builtinKind "math.sumprod" = none := by decide +kernel
theorem plain_sumprod : plainId "math.sumprod" = true := by decide +kernel
theorem entry_sumprod : entryFor table "math.sumprod" = some Builtin.«math.sumprod» := entryFor_of_fast (by kernel_rfl)
theorem args_sumprod (a b : Value) : argsOk "math.sumprod" ⟨[a, b], []⟩ := by unfold argsOk; kernel_rfl
theorem plain_sumprod_loop : plainId "math.sumprod.loop" = true := by decide +kernel
theorem entry_sumprod_loop : entryFor table "math.sumprod.loop" = some Builtin.«math.sumprod.loop» := entryFor_of_fast (by kernel_rfl)

def threeV (t : UInt64 × UInt64 × UInt64) : List Value := [rawInt t.1.toNat, rawInt t.2.1.toNat, rawInt t.2.2.toNat]

theorem gq_size {g : Nat} {a b : Array GenState} (h : GenOnlyQ g a b) : b.size = a.size := by
  rcases h with rfl | ⟨h, _⟩
  · rfl
  · exact h.1

theorem codeAny_sumprod_loopF {I1 I2 : Addr} {fp1 wr1 fp2 wr2 : List Addr} {g1 g2 : Nat} {n : Nat} {P1 P2 : Nat → Value → Prop} {St1 St2 : Nat → Shared → Prop} {R : Result → Shared → Prop} (hA : A.in1.handled = none)
    (W1 : WalksS prog w A.in1 I1 fp1 wr1 (GenOnlyQ g1) n P1 St1) (W2 : WalksS prog w A.in1 I2 fp2 wr2 (GenOnlyQ g2) n P2 St2)
    (x1 : ∀ i s s', St1 i s → Moved wr2 (GenOnlyQ g2) s s' → St1 i s') (x2 : ∀ i s s', St2 i s → Moved wr1 (GenOnlyQ g1) s s' → St2 i s')
    (hs1 : ∀ i s, St1 i s → ∀ b ∈ wr1, b < s.heap.objs.size) (hs2 : ∀ i s, St2 i s → ∀ b ∈ wr2, b < s.heap.objs.size)
    (a b c : Nat → Int) (hP1 : ∀ i v, P1 i v → ∃ x t, v = .float x t ∧ Fv x (a i)) (hP2 : ∀ i v, P2 i v → ∃ x t, v = .float x t ∧ Fv x (b i)) (hc : ∀ i, i < n → a i * b i = 16 * c i)
    (hv1 : ∀ j, j ≤ n → (c j).natAbs < 2 ^ 49) (hv2 : ∀ j, j ≤ n → (preSum c j).natAbs < 2 ^ 49) (t0 : Tok) :
    ∀ (k i : Nat) (s : Shared) (th : UInt64 × UInt64 × UInt64) (fa : Addr) (io fu : Bool), n - i = k → i ≤ n → St1 i s → St2 i s → Tv th (preSum c i) → IsT s.heap fa (threeV th).toArray 0 → fa ∉ wr1 → fa ∉ wr2 → (i = n → fu = true) →
    (∀ s' r u, Fv r (preSum c n) → (∀ b o, b ∉ wr1 → b ∉ wr2 → s.heap.get? b = some o → s'.heap.get? b = some o) → (AllBare s.gens → AllBare s'.gens) → s'.drawn = s.drawn → s'.os = s.os → s'.gens.size = s.gens.size → R (.ok (.ret (.float r u))) s') →
    codeAny (model prog w) A (.builtin "math.sumprod.loop" ⟨[.ref I1, .ref I2, .int 0 t0, .bool io, rawInt 0, .bool false, .bool true, .ref fa, .bool fu], []⟩) R s := by
  intro k
  induction k with
  | zero =>
    intro i s th fa io fu hk hi h1 h2 hth hfa hw1 hw2 hfu hR
    have hin : i = n := by omega
    subst hin
    obtain rfl := hfu rfl
    refine codeAny_builtin entry_sumprod_loop ?_
    rw [Around.under_plainId plain_sumprod_loop _]
    show wpAny _ A.in1 (seqItems? (.ref fa) >>= _) _ _ s
    refine wpAny_bind (wpAny_seqItems hfa rfl ?_)
    show wpAny _ A.in1 (pyNext (.ref I1) >>= _) _ _ s
    refine wpAny_bind (W1.done s _ _ h1 fun s₁ m1 => ?_)
    refine wpAny_bind (wpAny_holding (W2.done s₁ _ _ (x2 _ _ _ h2 m1) fun s₂ m2 => ?_))
    have hb3 : ((((th.1.toNat : Int)).toNat.toUInt64, ((th.2.1.toNat : Int)).toNat.toUInt64, ((th.2.2.toNat : Int)).toNat.toUInt64) : UInt64 × UInt64 × UInt64) = th := by rw [bits1, bits1, bits1]
    have hF := tlToFloat_v hth (hv2 _ hi)
    have h00 : Fv (Float64.ofInt 0) 0 := Fv.ofInt (i := 0) (by decide)
    have hre : wpAny (model prog w) A.in1 (rule "math.sumprod.leaves-floats" >>= fun _ => mkFloat (Builtin.Math.tlToFloat th) >>= fun l => holding (.int 0 t0 :: []) (binaryOp .Add (.int 0 t0) l) >>= fun total => ret total)
        (fun fin s' => match fin with | .done f => R (.ok f) s' | .again c' => c'.quiet = true ∧ codeAny (model prog w) A c' R s') (fun e s' => R (.error e) s') s₂ := by
      refine wpAny_bind (wpAny_rule ?_)
      refine wpAny_bind (wpAny_mkFloat ?_)
      refine wpAny_bind (wpAny_holding (AutoFloatOps.add_if_1 (by rw [h00.notInf]; decide) ?_))
      refine wpAny_pure ?_
      have hF2 := Fv.add h00 hF (by have := hv2 _ hi; omega)
      rw [Int.zero_add] at hF2
      exact hR _ _ _ hF2 (fun b o hb1 hb2 e => m2.heap _ _ hb2 (m1.heap _ _ hb1 e)) (fun B => (B.moved m1.gens).moved m2.gens) (m2.drawn.trans m1.drawn) (m2.os.trans m1.os) ((gq_size m2.gens).trans (gq_size m1.gens))
    rw [← hb3] at hre
    cases io
    · exact hre
    · show wpAny _ _ (rule _ >>= _) _ _ _
      refine wpAny_bind (wpAny_rule ?_)
      exact hre
  | succ k ih =>
    intro i s th fa io fu hk hi h1 h2 hth hfa hw1 hw2 hfu hR
    have hlt : i < n := by omega
    refine codeAny_builtin entry_sumprod_loop ?_
    rw [Around.under_plainId plain_sumprod_loop _]
    show wpAny _ A.in1 (seqItems? (.ref fa) >>= _) _ _ s
    refine wpAny_bind (wpAny_seqItems hfa rfl ?_)
    show wpAny _ A.in1 (pyNext (.ref I1) >>= _) _ _ s
    refine wpAny_bind (W1.item i s _ _ hlt h1 fun v1 s₁ p1 h1' m1 => ?_)
    refine wpAny_bind (wpAny_holding (W2.item i s₁ _ _ hlt (x2 _ _ _ h2 m1) fun v2 s₂ p2 h2' m2 => ?_))
    obtain ⟨y1, u1, rfl, f1⟩ := hP1 _ _ p1
    obtain ⟨y2, u2, rfl, f2⟩ := hP2 _ _ p2
    have hT := tlFma_v f1 f2 hth (hc i hlt) (hv1 i (by omega)) (hv2 i (by omega))
    have hre : ∀ {X : Sem Fin}, wpAny (model prog w) A.in1 (if Float64.isFinite (Builtin.Math.tlFma y1 y2 th).1 = true then
          (newTuple (threeV (Builtin.Math.tlFma y1 y2 th)) >>= fun t => again (.builtin "math.sumprod.loop" ⟨[.ref I1, .ref I2, .int 0 t0, .bool false, rawInt 0, .bool false, .bool true, t, .bool true], []⟩)) else X)
        (fun fin s' => match fin with | .done f => R (.ok f) s' | .again c' => c'.quiet = true ∧ codeAny (model prog w) A c' R s') (fun e s' => R (.error e) s') s₂ := by
      intro X
      rw [if_pos hT.1.fin]
      refine wpAny_bind (wpAny_newTuple ?_ (by show 3 ≤ sizeLine; rw [sizeLine_eq]; omega))
      have h1'' := x1 _ _ _ h1' m2
      refine wpAny_pure ⟨plainId_quiet plain_sumprod_loop _, ih (i + 1) _ (Builtin.Math.tlFma y1 y2 th) s₂.heap.objs.size false true (by omega) hlt
        (W1.frame _ _ _ _ h1'' (Nat.le_refl _) fun b hb o e => Heap.get?_push_of_some _ e) (W2.frame _ _ _ _ h2' (Nat.le_refl _) fun b hb o e => Heap.get?_push_of_some _ e)
        hT (Heap.get?_push_size _ rfl) (fun hm => Nat.lt_irrefl _ (hs1 _ _ h1'' _ hm)) (fun hm => Nat.lt_irrefl _ (hs2 _ _ h2' _ hm)) (fun _ => rfl) fun s' r u hr hk' hbare hd hos hgz => ?_⟩
      refine hR s' r u hr (fun b o hb1 hb2 e => hk' b o hb1 hb2 (Heap.get?_push_of_some _ (m2.heap _ _ hb2 (m1.heap _ _ hb1 e)))) (fun B => hbare ((B.moved m1.gens).moved m2.gens)) (hd.trans (m2.drawn.trans m1.drawn)) (hos.trans (m2.os.trans m1.os)) (hgz.trans ((gq_size m2.gens).trans (gq_size m1.gens)))
    have hb3 : ((((th.1.toNat : Int)).toNat.toUInt64, ((th.2.1.toNat : Int)).toNat.toUInt64, ((th.2.2.toNat : Int)).toNat.toUInt64) : UInt64 × UInt64 × UInt64) = th := by rw [bits1, bits1, bits1]
    cases io
    · show wpAny _ _ (if Float64.isFinite (Builtin.Math.tlFma y1 y2 (((th.1.toNat : Int)).toNat.toUInt64, ((th.2.1.toNat : Int)).toNat.toUInt64, ((th.2.2.toNat : Int)).toNat.toUInt64)).1 = true then
          (newTuple (threeV (Builtin.Math.tlFma y1 y2 (((th.1.toNat : Int)).toNat.toUInt64, ((th.2.1.toNat : Int)).toNat.toUInt64, ((th.2.2.toNat : Int)).toNat.toUInt64))) >>= fun t => again (.builtin "math.sumprod.loop" ⟨[.ref I1, .ref I2, .int 0 t0, .bool false, rawInt 0, .bool false, .bool true, t, .bool true], []⟩)) else _) _ _ _
      rw [hb3]
      exact hre
    · show wpAny _ _ (rule _ >>= _) _ _ _
      refine wpAny_bind (wpAny_rule ?_)
      show wpAny _ _ (if Float64.isFinite (Builtin.Math.tlFma y1 y2 (((th.1.toNat : Int)).toNat.toUInt64, ((th.2.1.toNat : Int)).toNat.toUInt64, ((th.2.2.toNat : Int)).toNat.toUInt64)).1 = true then
          (newTuple (threeV (Builtin.Math.tlFma y1 y2 (((th.1.toNat : Int)).toNat.toUInt64, ((th.2.1.toNat : Int)).toNat.toUInt64, ((th.2.2.toNat : Int)).toNat.toUInt64))) >>= fun t => again (.builtin "math.sumprod.loop" ⟨[.ref I1, .ref I2, .int 0 t0, .bool false, rawInt 0, .bool false, .bool true, t, .bool true], []⟩)) else _) _ _ _
      rw [hb3]
      exact hre
end
end Mine

open PySem PySem.W PyProof.Rows
namespace Mine
set_option maxRecDepth 100000
section
variable {prog : Program} {w : World} {A : Around} {E : Value → Shared → Prop}

theorem sumprodF {I1 I2 : Addr} {fp1 wr1 fp2 wr2 : List Addr} {g1 g2 : Nat} {n : Nat} {P1 P2 : Nat → Value → Prop} {St1 St2 : Nat → Shared → Prop} {s : Shared} {Q : Value → Shared → Prop} (hA : A.handled = none)
    (W1 : WalksS prog w A.in1 I1 fp1 wr1 (GenOnlyQ g1) n P1 St1) (W2 : WalksS prog w A.in1 I2 fp2 wr2 (GenOnlyQ g2) n P2 St2)
    (x1 : ∀ i s s', St1 i s → Moved wr2 (GenOnlyQ g2) s s' → St1 i s') (x2 : ∀ i s s', St2 i s → Moved wr1 (GenOnlyQ g1) s s' → St2 i s')
    (hs1 : ∀ i s, St1 i s → ∀ b ∈ wr1, b < s.heap.objs.size) (hs2 : ∀ i s, St2 i s → ∀ b ∈ wr2, b < s.heap.objs.size)
    (a b c : Nat → Int) (hP1 : ∀ i v, P1 i v → ∃ x t, v = .float x t ∧ Fv x (a i)) (hP2 : ∀ i v, P2 i v → ∃ x t, v = .float x t ∧ Fv x (b i)) (hc : ∀ i, i < n → a i * b i = 16 * c i)
    (hv1 : ∀ j, j ≤ n → (c j).natAbs < 2 ^ 49) (hv2 : ∀ j, j ≤ n → (preSum c j).natAbs < 2 ^ 49) (hn : 0 < n) (h1 : St1 0 s) (h2 : St2 0 s)
    (hR : ∀ s' r u, Fv r (preSum c n) → (∀ b o, b ∉ wr1 → b ∉ wr2 → s.heap.get? b = some o → s'.heap.get? b = some o) → (AllBare s.gens → AllBare s'.gens) → s'.drawn = s.drawn → s'.os = s.os → s'.gens.size = s.gens.size → Q (.float r u) s') :
    wpAny (model prog w) A (call (.builtin "math.sumprod") [.ref I1, .ref I2]) Q E s := by
  refine call_function_tree kind_sumprod plain_sumprod entry_sumprod (args_sumprod _ _) ?_
  show wpAny _ A.in1 (pyIter (.ref I1) >>= _) _ _ _
  refine wpAny_bind (W1.self _ _ _ _ h1 ?_)
  refine wpAny_bind (wpAny_holding (W2.self _ _ _ _ h2 ?_))
  show wpAny _ A.in1 (mkInt 0 >>= _) _ _ _
  refine wpAny_bind (wpAny_mkInt ?_)
  refine wpAny_bind (wpAny_newTuple (items := threeV (Float64.zero false, Float64.zero false, Float64.zero false)) ?_)
  refine wpAny_pure ⟨plainId_quiet plain_sumprod_loop _, codeAny_sumprod_loopF (by exact hA) W1 W2 x1 x2 hs1 hs2 a b c hP1 hP2 hc hv1 hv2 _ n 0 _ (Float64.zero false, Float64.zero false, Float64.zero false) s.heap.objs.size true false rfl (Nat.zero_le _)
    (W1.frame 0 s (s.heap.push _) (s.toks + 1) h1 (Nat.le_succ _) fun b hb o e => Heap.get?_push_of_some _ e) (W2.frame 0 s (s.heap.push _) (s.toks + 1) h2 (Nat.le_succ _) fun b hb o e => Heap.get?_push_of_some _ e)
    ⟨Fv.zero _, Fv.zero _, Fv.zero _⟩ (Heap.get?_push_size _ rfl) (fun hm => Nat.lt_irrefl _ (hs1 _ _ h1 _ hm)) (fun hm => Nat.lt_irrefl _ (hs2 _ _ h2 _ hm)) (fun e => absurd e (by omega)) fun s' r u hr hk hb hd hos hg => ?_⟩
  exact hR s' r u hr (fun b o hb1 hb2 e => hk b o hb1 hb2 (Heap.get?_push_of_some _ e)) hb hd hos hg

theorem codeAny_sumprod_loopI {I1 I2 : Addr} {fp1 wr1 fp2 wr2 : List Addr} {n : Nat} {P1 P2 : Nat → Value → Prop} {St1 St2 : Nat → Heap → Prop} {R : Result → Shared → Prop}
    (W1 : Walks prog w A.in1 I1 fp1 wr1 n P1 St1) (W2 : Walks prog w A.in1 I2 fp2 wr2 n P2 St2) (d1 : ∀ b ∈ fp1, b ∉ wr2) (d2 : ∀ b ∈ fp2, b ∉ wr1)
    (a b : Nat → Int) (hP1 : ∀ i v, P1 i v → ∃ t, v = .int (a i) t) (hP2 : ∀ i v, P2 i v → ∃ t, v = .int (b i) t)
    (hva : ∀ j, j ≤ n → (a j).natAbs < 2 ^ 20) (hvb : ∀ j, j ≤ n → (b j).natAbs < 2 ^ 20) (hv2 : ∀ j, j ≤ n → (preSum (fun i => a i * b i) j).natAbs < 2 ^ 49) (t0 : Tok) (fa : Addr) (hw1 : fa ∉ wr1) (hw2 : fa ∉ wr2) (th : UInt64 × UInt64 × UInt64) :
    ∀ (k i : Nat) (s : Shared) (iu : Bool), n - i = k → i ≤ n → St1 i s.heap → St2 i s.heap → IsT s.heap fa (threeV th).toArray 0 → (i = n → iu = true) →
    (∀ h' tk u, (∀ b o, b ∉ wr1 → b ∉ wr2 → s.heap.get? b = some o → h'.get? b = some o) → R (.ok (.ret (.int (preSum (fun i => a i * b i) n) u))) { s with heap := h', toks := tk }) →
    codeAny (model prog w) A (.builtin "math.sumprod.loop" ⟨[.ref I1, .ref I2, .int 0 t0, .bool true, rawInt (preSum (fun i => a i * b i) i), .bool iu, .bool true, .ref fa, .bool false], []⟩) R s := by
  intro k
  induction k with
  | zero =>
    intro i s iu hk hi h1 h2 hfa hfu hR
    have hin : i = n := by omega
    subst hin
    obtain rfl := hfu rfl
    refine codeAny_builtin entry_sumprod_loop ?_
    rw [Around.under_plainId plain_sumprod_loop _]
    show wpAny _ A.in1 (seqItems? (.ref fa) >>= _) _ _ s
    refine wpAny_bind (wpAny_seqItems hfa rfl ?_)
    show wpAny _ A.in1 (pyNext (.ref I1) >>= _) _ _ s
    refine wpAny_bind (W1.done s _ _ h1 fun h₁ t1 m1 => ?_)
    refine wpAny_bind (wpAny_holding (W2.done _ _ _ (W2.frame _ _ _ h2 fun b hb o e => m1 b o (d2 _ hb) e) fun h₂ t2 m2 => ?_))
    show wpAny _ _ (rule _ >>= _) _ _ _
    refine wpAny_bind (wpAny_rule ?_)
    show wpAny _ _ (mkInt (preSum (fun i => a i * b i) i) >>= _) _ _ _
    refine wpAny_bind (wpAny_mkInt ?_)
    refine wpAny_bind (wpAny_holding (P.add_int ?_))
    show wpAny _ _ (rule _ >>= _) _ _ _
    refine wpAny_bind (wpAny_rule ?_)
    rw [Int.zero_add]
    refine wpAny_pure ?_
    exact hR _ _ _ (fun b o hb1 hb2 e => m2 _ _ hb2 (m1 _ _ hb1 e))
  | succ k ih =>
    intro i s iu hk hi h1 h2 hfa hfu hR
    have hlt : i < n := by omega
    refine codeAny_builtin entry_sumprod_loop ?_
    rw [Around.under_plainId plain_sumprod_loop _]
    show wpAny _ A.in1 (seqItems? (.ref fa) >>= _) _ _ s
    refine wpAny_bind (wpAny_seqItems hfa rfl ?_)
    show wpAny _ A.in1 (pyNext (.ref I1) >>= _) _ _ s
    refine wpAny_bind (W1.item i s _ _ hlt h1 fun v1 h₁ t1 p1 h1' m1 => ?_)
    refine wpAny_bind (wpAny_holding (W2.item i _ _ _ hlt (W2.frame _ _ _ h2 fun b hb o e => m1 b o (d2 _ hb) e) fun v2 h₂ t2 p2 h2' m2 => ?_))
    obtain ⟨u1, rfl⟩ := hP1 _ _ p1
    obtain ⟨u2, rfl⟩ := hP2 _ _ p2
    have hfit : (((decide (-2 ^ 63 ≤ a i) && decide (a i ≤ Builtin.Math.maxSsize)) && (decide (-2 ^ 63 ≤ b i) && decide (b i ≤ Builtin.Math.maxSsize))) && (decide (-2 ^ 63 ≤ a i * b i) && decide (a i * b i ≤ Builtin.Math.maxSsize)) && (decide (-2 ^ 63 ≤ preSum (fun i => a i * b i) i + a i * b i) && decide (preSum (fun i => a i * b i) i + a i * b i ≤ Builtin.Math.maxSsize))) = true := by
      have hM : Builtin.Math.maxSsize = 2 ^ 63 - 1 := by decide
      have q1 := hva i (by omega)
      have q2 := hvb i (by omega)
      have q3 := hv2 i (by omega)
      have q4 : (a i * b i).natAbs < 2 ^ 40 := by
        rw [Int.natAbs_mul]
        exact Nat.lt_of_le_of_lt (Nat.mul_le_mul (Nat.le_of_lt_succ (Nat.lt_succ_of_lt q1)) (Nat.le_pred_of_lt q2)) (by decide)
      rw [hM]
      simp only [Bool.and_eq_true, decide_eq_true_eq]
      omega
    show wpAny _ _ (if (((decide (-2 ^ 63 ≤ a i) && decide (a i ≤ Builtin.Math.maxSsize)) && (decide (-2 ^ 63 ≤ b i) && decide (b i ≤ Builtin.Math.maxSsize))) && (decide (-2 ^ 63 ≤ a i * b i) && decide (a i * b i ≤ Builtin.Math.maxSsize)) && (decide (-2 ^ 63 ≤ preSum (fun i => a i * b i) i + a i * b i) && decide (preSum (fun i => a i * b i) i + a i * b i ≤ Builtin.Math.maxSsize))) = true then _ else _) _ _ _
    rw [if_pos hfit]
    refine wpAny_pure ⟨plainId_quiet plain_sumprod_loop _, ih (i + 1) _ true (by omega) hlt (W1.frame _ _ _ h1' fun b hb o e => m2 b o (d1 _ hb) e) h2' (m2 _ _ hw2 (m1 _ _ hw1 hfa)) (fun _ => rfl) fun h' tk u hk' => ?_⟩
    exact hR h' tk u fun b o hb1 hb2 e => hk' b o hb1 hb2 (m2 _ _ hb2 (m1 _ _ hb1 e))

/-- sumprod of two lists of ints -/
theorem sumprodI {hp : Heap} {g : Array GenState} {d : Drawn} {t : Nat} {os : OsState} {l1 l2 : Addr} {vs1 vs2 : List Value} {Q : Value → Shared → Prop} (hA : A.handled = none) (hl1 : hp.IsList l1 vs1.toArray) (hl2 : hp.IsList l2 vs2.toArray) (hlen : vs1.length = vs2.length) (hn : 0 < vs1.length)
    (a b : Nat → Int) (hP1 : ∀ i (v : Value), vs1[i]? = some v → ∃ t, v = .int (a i) t) (hP2 : ∀ i (v : Value), vs2[i]? = some v → ∃ t, v = .int (b i) t)
    (hva : ∀ j, j ≤ vs1.length → (a j).natAbs < 2 ^ 20) (hvb : ∀ j, j ≤ vs1.length → (b j).natAbs < 2 ^ 20) (hv2 : ∀ j, j ≤ vs1.length → (preSum (fun i => a i * b i) j).natAbs < 2 ^ 49)
    (h : ∀ h' t' u, Keep hp h' → Q (.int (preSum (fun i => a i * b i) vs1.length) u) ⟨h', g, d, t', os⟩) :
    wpAny (model prog w) A (call (.builtin "math.sumprod") [.ref l1, .ref l2]) Q E ⟨hp, g, d, t, os⟩ := by
  refine call_function_tree kind_sumprod plain_sumprod entry_sumprod (args_sumprod _ _) ?_
  have hlt1 : l1 < hp.objs.size := by obtain ⟨_, e, _⟩ := hl1; exact Heap.lt_size e
  have hlt2 : l2 < hp.objs.size := by obtain ⟨_, e, _⟩ := hl2; exact Heap.lt_size e
  show wpAny _ A.in1 (pyIter (.ref l1) >>= _) _ _ _
  refine wpAny_bind (wpAny_pyIter_list hl1 ?_)
  refine wpAny_bind (wpAny_holding (wpAny_pyIter_list (hl2.push _) ?_))
  show wpAny _ A.in1 (mkInt 0 >>= _) _ _ _
  refine wpAny_bind (wpAny_mkInt ?_)
  refine wpAny_bind (wpAny_newTuple (items := threeV (Float64.zero false, Float64.zero false, Float64.zero false)) ?_)
  have e1 : ∀ o, (hp.push o).objs.size = hp.objs.size + 1 := fun o => Heap.size_push ..
  have e2 : ∀ o o', ((hp.push o).push o').objs.size = hp.objs.size + 2 := fun o o' => by rw [Heap.size_push, Heap.size_push]
  have W1 := Walks.list (prog := prog) (w := w) (A := A.in1) hA hp.objs.size l1 (Nat.ne_of_lt hlt1) vs1.toArray
  have W2 := Walks.list (prog := prog) (w := w) (A := A.in1) hA (hp.objs.size + 1) l2 (Nat.ne_of_lt (Nat.lt_succ_of_lt hlt2)) vs2.toArray
  have z1 : vs1.toArray.size = vs1.length := by simp
  have z2 : vs2.toArray.size = vs1.length := by simp [hlen]
  rw [z1] at W1
  rw [z2] at W2
  refine wpAny_pure ⟨plainId_quiet plain_sumprod_loop _, ?_⟩
  show codeAny _ A (.builtin _ ⟨[.ref hp.objs.size, .ref (hp.push _).objs.size, _, _, _, _, _, .ref ((hp.push _).push _).objs.size, _], []⟩) _ _
  rw [e1, e2]
  refine codeAny_sumprod_loopI W1 W2 ?_ ?_ a b (fun i v e => hP1 i v (by simpa using e)) (fun i v e => hP2 i v (by simpa using e)) hva hvb hv2 _ (hp.objs.size + 2) ?_ ?_ (Float64.zero false, Float64.zero false, Float64.zero false) vs1.length 0 _ false rfl (Nat.zero_le _) ?_ ?_ ?_ (fun e => absurd e (by omega)) fun h' tk u hk => ?_
  · intro b hb hm
    have hm := List.mem_singleton.mp hm
    subst hm
    rcases List.mem_cons.mp hb with q | q
    · exact absurd q (Nat.succ_ne_self _)
    · exact absurd (List.mem_singleton.mp q) (Nat.ne_of_gt (Nat.lt_succ_of_lt hlt1))
  · intro b hb hm
    have hm := List.mem_singleton.mp hm
    subst hm
    rcases List.mem_cons.mp hb with q | q
    · exact absurd q (Nat.ne_of_lt (Nat.lt_succ_self _))
    · exact absurd (List.mem_singleton.mp q) (Nat.ne_of_gt hlt2)
  · intro hm; exact absurd (List.mem_singleton.mp hm) (Nat.ne_of_gt (Nat.lt_succ_of_lt (Nat.lt_succ_self _)))
  · intro hm; exact absurd (List.mem_singleton.mp hm) (Nat.ne_of_gt (Nat.lt_succ_self _))
  · exact ⟨⟨_, Heap.get?_push_of_some _ (Heap.get?_push_of_some _ (Heap.get?_push_size _ rfl)), rfl, rfl⟩, ((hl1.push _).push _).push _⟩
  · refine ⟨⟨_, Heap.get?_push_of_some _ (by rw [← e1]; exact Heap.get?_push_size _ rfl), rfl, rfl⟩, ((hl2.push _).push _).push _⟩
  · show ((hp.push _).push _ |>.push _).get? (hp.objs.size + 2) = _
    rw [← e2]; exact Heap.get?_push_size _ rfl
  · refine h h' tk u fun b o e => hk b o ?_ ?_ (Heap.get?_push_of_some _ (Heap.get?_push_of_some _ (Heap.get?_push_of_some _ e)))
    · intro hm; have := Heap.lt_size e; rw [List.mem_singleton.mp hm] at this; exact Nat.lt_irrefl _ this
    · intro hm; have := Heap.lt_size e; rw [List.mem_singleton.mp hm] at this; exact absurd this (Nat.not_lt.mpr (Nat.le_succ _))
end
end Mine

open PySem PySem.W PyProof.Rows
namespace Mine
set_option maxRecDepth 100000
/-- the table of covariance's inner code: what stands in h is what stood in h₀, and perhaps more -/
def Cd (h₀ h : Heap) : Prop := ∃ ps more, h₀.TableAt 76 72 ps ∧ h.IsCode 76 72 (ps ++ more) ∧ h.TableAt 76 72 (ps ++ more)
theorem tab_inj {h : Heap} {c c' P : Addr} {ps ps' : Array Value} (x : h.TableAt c P ps) (y : h.TableAt c' P ps') : ps = ps' := by
  have := Option.some.inj (x.2.symm.trans y.2)
  injection this with _ _ h3; injection h3
theorem Cd.at2 {h₀ h h' : Heap} (x : Cd h₀ h) (hc : ∀ o, h.get? 76 = some o → h'.get? 76 = some o) (hP : ∀ o, h.get? 72 = some o → h'.get? 72 = some o) : Cd h₀ h' :=
  let ⟨ps, more, a, b, c⟩ := x; ⟨ps, more, a, b.at2 hc hP, c.at2 hc hP⟩
theorem Cd.keeps {h₀ h h' : Heap} (x : Cd h₀ h) (k : ∀ b o, h.get? b = some o → h'.get? b = some o) : Cd h₀ h' := x.at2 (fun o e => k _ _ e) (fun o e => k _ _ e)
theorem Cd.self {h₀ h : Heap} (x : Cd h₀ h) : Cd h h := let ⟨ps, more, a, b, c⟩ := x; ⟨ps ++ more, #[], c, by simpa using b, by simpa using c⟩
theorem Cd.trans {h₀ h h' : Heap} (x : Cd h₀ h) (y : Cd h h') : Cd h₀ h' := by
  obtain ⟨ps, more, a, b, c⟩ := x
  obtain ⟨ps', more', a', b', c'⟩ := y
  obtain rfl := tab_inj c a'
  exact ⟨ps, more ++ more', a, by rw [← Array.append_assoc]; exact b', by rw [← Array.append_assoc]; exact c'⟩
theorem Cd.sameBut {h₀ h h' : Heap} {a : Addr} (x : Cd h₀ h) (hs : Heap.SameBut a h h') (h1 : 76 ≠ a) (h2 : 72 ≠ a) : Cd h₀ h' := x.at2 (fun o e => hs.extBut _ _ h1 e) (fun o e => hs.extBut _ _ h2 e)
theorem Cd.base {h₀ h₁ h : Heap} (x : Cd h₁ h) (k : ∀ b o, h₀.get? b = some o → h₁.get? b = some o) (y : Cd h₀ h₀) : Cd h₀ h := by
  obtain ⟨ps, more, a, b, c⟩ := x
  obtain ⟨ps', more', a', b', c'⟩ := y
  obtain rfl := tab_inj a (a'.keeps k)
  exact ⟨_, more, a', b, c⟩

/-- a frame with cells, flat -/
structure Fc (h₀ : Heap) (env : Env) (h : Heap) (m cm : Str → Option Value) : Prop where
  ns : h.Ns env.locals m
  cell : ∀ n c, env.cells.lookup n = some c → h.IsCell c (cm n)
  apart : env.cells.Pairwise fun x y => x.2 ≠ y.2
  above : ∀ n c, (n, c) ∈ env.cells → env.locals < c
  keep : KeepT h₀ h
  base : h₀.objs.size ≤ env.locals
  far : 76 < env.locals
  code : Cd h₀ h

section
variable {prog : Program} {w : World} {A : Around} {E : Value → Shared → Prop} {h₀ : Heap} {env : Env} {m cm : Str → Option Value}
variable {hp : Heap} {g : Array GenState} {d : Drawn} {t : Nat} {os : OsState}

theorem Fc.far72 (F : Fc h₀ env hp m cm) : 72 < env.locals := Nat.lt_trans (by decide) F.far
theorem Fc.moves {h' : Heap} (F : Fc h₀ env hp m cm) (k : KeepT hp h') (hc : Cd h₀ h') : Fc h₀ env h' m cm where
  ns := F.ns.at' fun o e => k _ _ (Nat.ne_of_gt F.far72) e
  cell := fun n c hc => let ⟨o, e, r⟩ := F.cell n c hc; ⟨o, k _ _ (Nat.ne_of_gt (Nat.lt_trans F.far72 (F.above n c (mem_of_lookup hc)))) e, r⟩
  apart := F.apart
  above := F.above
  keep := fun b o hb e => k b o hb (F.keep b o hb e)
  base := F.base
  far := F.far
  code := hc
theorem Fc.keeps {h' : Heap} (F : Fc h₀ env hp m cm) (k : Keep hp h') : Fc h₀ env h' m cm := F.moves (fun b o _ e => k b o e) (F.code.keeps k)

theorem cnL {x : Str} {pos : Pos} {v : Value} {Q : Value → Shared → Prop} (F : Fc h₀ env hp m cm) (hv : m x = some v) (h : Q v ⟨hp, g, d, t, os⟩)
    (hl : env.kindOf x = some .local := by rfl) (hk : env.scope.kind = .function := by rfl) (hd : (x == ("__debug__" : Str)) = false := by decide) :
    wpAny (model prog w) A (eval (.Name x pos) env) Q E ⟨hp, g, d, t, os⟩ := wpAny_Name (wpAny_loadName_local hk hl F.ns hv h) hd
theorem cnC {x : Str} {pos : Pos} {c : Addr} {v : Value} {Q : Value → Shared → Prop} (F : Fc h₀ env hp m cm) (hc : env.cells.lookup x = some c) (hv : cm x = some v) (h : Q v ⟨hp, g, d, t, os⟩)
    (hl : env.kindOf x = some .cell := by rfl) (hk : env.scope.kind = .function := by rfl) (hd : (x == ("__debug__" : Str)) = false := by decide) :
    wpAny (model prog w) A (eval (.Name x pos) env) Q E ⟨hp, g, d, t, os⟩ := wpAny_Name (wpAny_loadName_cell hk hl hc (hv ▸ F.cell x c hc) h) hd
theorem csL {x : Str} {v : Value} {Q : Unit → Shared → Prop} (F : Fc h₀ env hp m cm)
    (h : ∀ h' t', Fc h₀ env h' (fun y => if y = x then some v else m y) cm → Heap.SameBut env.locals hp h' → Q () ⟨h', g, d, t', os⟩)
    (hl : env.kindOf x = some .local := by rfl) (hk : env.scope.kind = .function := by rfl) :
    wpAny (model prog w) A (storeName env x v) Q E ⟨hp, g, d, t, os⟩ := by
  refine wpAny_storeName_local hl F.ns (fun h' hn hs => h h' _ ⟨hn, fun k c hc => (F.cell k c hc).sameBut hs (Nat.ne_of_gt (F.above k c (mem_of_lookup hc))), F.apart, F.above, fun b o hb e => ?_, F.base, F.far, (F.code.sameBut hs (Nat.ne_of_lt F.far) (Nat.ne_of_lt F.far72))⟩ hs) (by rw [hk]; rfl)
  exact hs.extBut b o (Nat.ne_of_lt (Nat.lt_of_lt_of_le (Heap.lt_size e) F.base)) (F.keep b o hb e)
theorem csC {x : Str} {c : Addr} {v : Value} {Q : Unit → Shared → Prop} (F : Fc h₀ env hp m cm) (hc : env.cells.lookup x = some c)
    (h : ∀ h' t', Fc h₀ env h' m (fun y => if y = x then some v else cm y) → Heap.SameBut c hp h' → Q () ⟨h', g, d, t', os⟩)
    (hl : env.kindOf x = some .cell := by rfl) (hk : env.scope.kind = .function := by rfl) :
    wpAny (model prog w) A (storeName env x v) Q E ⟨hp, g, d, t, os⟩ := by
  have hLc := F.above x c (mem_of_lookup hc)
  refine wpAny_storeName_cell hk hl hc (F.cell x c hc) fun h' hc' hs' => h h' _ ⟨F.ns.sameBut hs' (Nat.ne_of_lt hLc), fun k c' hk' => ?_, F.apart, F.above, fun b o hb e => ?_, F.base, F.far, (F.code.sameBut hs' (Nat.ne_of_lt (Nat.lt_trans F.far hLc)) (Nat.ne_of_lt (Nat.lt_trans F.far72 hLc)))⟩ hs'
  · by_cases hkn : k = x
    · subst hkn
      rw [hc] at hk'; cases hk'
      simpa using hc'
    · rw [if_neg hkn]
      exact (F.cell k c' hk').sameBut hs' fun e => hkn (name_of_addr F.apart (mem_of_lookup hk') (e ▸ mem_of_lookup hc))
  · exact hs'.extBut b o (Nat.ne_of_lt (Nat.lt_trans (Nat.lt_of_lt_of_le (Heap.lt_size e) F.base) hLc)) (F.keep b o hb e)

/-- entering a def with cells -/
theorem callDefC {a : Addr} {fd : FuncData} {vals : List Value} {binds : List (Str × Value)} {Q : Value → Shared → Prop}
    (hf : FnAt hp a fd) (hlim : hp.NoLimit) (hroom : A.depth < recursionLimit) (hfar : 76 < hp.objs.size) (hcode : Cd hp hp) (body : List Stmt) (hbody : fd.body = .stmts body) (hbind : bindArgs fd ⟨vals, []⟩ = pure binds) (hclo : fd.closure = [])
    (hkind : ∀ x ∈ binds, fd.scope.names.lookup x.1 = some .local ∨ (fd.scope.names.lookup x.1 = some .cell ∧ ((cellsFrom (hp.objs.size + 1) fd.scope.names []).lookup x.1).isSome = true))
    (hco : fd.scope.isCoroutine = false) (hgen : fd.scope.isGenerator = false) (hk : fd.scope.kind = .function)
    (h : ∀ h₁ t', Fc hp (callEnvC fd hp.objs.size a) h₁ (bindL (callEnvC fd hp.objs.size a).kindOf binds fun _ => none) (bindC (callEnvC fd hp.objs.size a).kindOf binds fun _ => none) → Keep hp h₁ →
      wpAny (model prog w) (A.deeper (callEnvC fd hp.objs.size a)) (execs body (callEnvC fd hp.objs.size a)) (fun f s' => Q (match f with | .ret v => v | _ => .none) s') (fun _ _ => False) ⟨h₁, g, d, t', os⟩) :
    wpAny (model prog w) A (call (.ref a) vals) Q E ⟨hp, g, d, t, os⟩ := by
  obtain ⟨⟨o, ho, _, hd⟩, hcd⟩ := hf
  refine wpAny_call (codeAny_call_cells hroom ho hd hlim hcd hbody hbind hclo hkind (fun s₁ X => ?_) hco hgen hk)
  obtain ⟨h₁, tk, rfl⟩ := X.toInCall.same
  refine wpAny_mono (h h₁ tk ⟨X.toInCall.ns, X.cell, X.apart, X.above, fun b o _ e => X.toInCall.keep b o e, X.toInCall.fresh, hfar, (hcode.keeps X.toInCall.keep)⟩ X.toInCall.keep) (fun f s' x => x) (fun _ _ x => x.elim)
end
end Mine

open PySem PySem.W PyProof.Rows
namespace Mine
set_option maxRecDepth 100000
section
variable {prog : Program} {w : World} {A : Around} {E : Value → Shared → Prop} {hp : Heap} {g : Array GenState} {d : Drawn} {t : Nat} {os : OsState}

/-- a float of value k/16 -/
def FltV (v : Value) (k : Int) : Prop := ∃ x t, v = .float x t ∧ Fv x k
theorem FltV.num {v : Value} {k : Int} (h : FltV v k) : NumV v k := .inr h

theorem subNF {v u : Value} {a b : Int} {Q : Value → Shared → Prop} (hv : NumV v a) (hu : FltV u b) (ha : a.natAbs < 2 ^ 50) (hb : b.natAbs < 2 ^ 50) (h : ∀ r t', FltV r (a - b) → Q r ⟨hp, g, d, t', os⟩) :
    wpAny (model prog w) A (binaryOp .Sub v u) Q E ⟨hp, g, d, t, os⟩ := by
  obtain ⟨y, tu, rfl, hy⟩ := hu
  rcases hv with ⟨i, ti, rfl, rfl⟩ | ⟨x, tx, rfl, hx⟩
  · exact AutoFloatOps.sub_if_1 (over_small (by omega)) (h _ _ ⟨_, _, rfl, Fv.sub (Fv.ofInt (by omega)) hy (by omega)⟩)
  · exact AutoFloatOps.sub_0 (h _ _ ⟨_, _, rfl, Fv.sub hx hy (by omega)⟩)
theorem divFI {v : Value} {a c n : Int} {u : Tok} {Q : Value → Shared → Prop} (hv : FltV v a) (hn : 0 < n) (hn' : n < 2 ^ 20) (hc : a = n * c) (ha : c.natAbs < 2 ^ 50) (h : ∀ r t', FltV r c → Q r ⟨hp, g, d, t', os⟩) :
    wpAny (model prog w) A (binaryOp .Div v (.int n u)) Q E ⟨hp, g, d, t, os⟩ := by
  obtain ⟨y, tu, rfl, hy⟩ := hv
  have hI : Fv (Float64.ofInt n) (16 * n) := Fv.ofInt (by omega)
  refine AutoFloatOps.truediv_fi_2 (over_small (by omega)) (by rw [hI.isZero, decide_eq_false (by omega)]; decide) (h _ _ ⟨_, _, rfl, Fv.div hy hI (by omega) ?_ (by omega)⟩)
  rw [hc]; ac_rfl

/-- what a generator expression in covariance needs of the tables -/
structure Tq (mg : Str → Option Value) (h : Heap) : Prop where
  b : ∃ bm o, mg "__builtins__" = some (.ref bm) ∧ bm ≠ builtinsNs ∧ bm ≠ 72 ∧ h.get? bm = some o ∧ o.cls = .type "module" ∧ o.dict = some builtinsNs ∧ o.data = .plain
  c : Cd h h
theorem Tq.keeps {mg : Str → Option Value} {h h' : Heap} (x : Tq mg h) (k : Keep h h') : Tq mg h' :=
  ⟨let ⟨bm, o, a, b, c, e, r⟩ := x.b; ⟨bm, o, a, b, c, k _ _ e, r⟩, (x.c.keeps k).self⟩
theorem Tq.moves {mg : Str → Option Value} {h h' : Heap} (x : Tq mg h) (k : KeepT h h') (hc : Cd h' h') : Tq mg h' :=
  ⟨let ⟨bm, o, a, b, c, e, r⟩ := x.b; ⟨bm, o, a, b, c, k _ _ c e, r⟩, hc⟩

theorem genCodeT {M : Model} {s : Shared} {env : Env} {c P : Addr} {ps : Array Value} {pos : Pos} {qualname : Str} {scope : Scope} {Q : Value → Shared → Prop} (hc : env.code = .ref c) (hok : s.heap.IsCode c P ps) (htab : s.heap.TableAt c P ps)
    (hQ : ∀ code h' tk more, Heap.ExtBut P s.heap h' → h'.IsCode c P (ps ++ more) → h'.TableAt c P (ps ++ more) → Q code { s with heap := h', toks := tk }) :
    wpAny M A (genexprCode env pos qualname scope) Q E s := by
  cases hnf : codeAmong pos ps.toList with
  | some cv =>
    obtain ⟨o, vs, file, tf, flags, tg, inF, text, tt, op, ho, hd, h11, h2, h7, h9, h10, hop, hpd, htr, hne⟩ := id hok
    unfold genexprCode codeAt
    rw [hc, if_neg (show ¬ ((Value.ref c == Value.none) = true) from Bool.false_ne_true)]
    refine wpAny_bind (wpAny_fieldsOf ho hd ?_)
    rw [h11]
    refine wpAny_bind (wpAny_fieldsOf hop hpd ?_)
    rw [hnf]
    exact wpAny_pure (hQ cv s.heap s.toks #[] (Heap.ExtBut.refl _ _) (by simpa using hok) (by simpa using htab))
  | none => exact wpAny_genexprCodeX hc hok htab hnf fun c' h' tk hx _ _ h1 _ h2 _ => hQ _ _ _ _ hx h1 h2
end
end Mine

open PySem PySem.W PyProof.Rows
namespace Mine
set_option maxRecDepth 100000
section
variable {prog : Program} {w : World} {A : Around} {E : Value → Shared → Prop} {hp : Heap} {g : Array GenState} {d : Drawn} {t : Nat} {os : OsState}

theorem GenAt.cross {a : Addr} {gi : Nat} {C : Addr} {fp wr : List Addr} {pz : Nat → Bool} {n₀ : Nat} {F : Nat → Value → Prop} {j : Nat} {s s' : Shared} (x : GenAt prog w A a gi C fp wr pz n₀ F j s) (hcs : cStatics ∈ fp)
    (hk : ∀ b ∈ a :: C :: fp, ∀ o, s.heap.get? b = some o → s'.heap.get? b = some o) (hg : s'.gens[gi]? = s.gens[gi]?) : GenAt prog w A a gi C fp wr pz n₀ F j s' :=
  ⟨let ⟨o, nm, qn, ho, r⟩ := x.1; ⟨o, nm, qn, hk a (List.mem_cons_self ..) o ho, r⟩,
   (let ⟨mc, hns, hnn⟩ := x.2.1; ⟨mc, hns.at' fun o e => hk cStatics (List.mem_cons_of_mem _ (List.mem_cons_of_mem _ hcs)) o e, hnn⟩),
   let ⟨gs, hgs, hgo⟩ := x.2.2; ⟨gs, hg.trans hgs, fun s'' hal => hgo s'' fun b hb o e => hal b hb o (hk b (List.mem_cons_of_mem _ hb) o e)⟩⟩

theorem NoLimit.offs72 {h h' : Heap} (x : h.NoLimit) (hcs : cStatics < 72) (k : KeepT h h') : h'.NoLimit :=
  let ⟨mc, hns, hnn⟩ := x; ⟨mc, hns.at' fun o e => k _ _ (Nat.ne_of_lt hcs) e, hnn⟩

theorem genSub {env : Env} {x bar nx : Str} {p1 p2 p3 p4 px pos : Pos} {scope : Scope} {l cb : Addr} {vs : List Value} {fb : Value} {kb : Int} {mg : Str → Option Value} {Q : Value → Shared → Prop}
    (hA : A.handled = none) (hroom : A.depth < recursionLimit)
    (hit : ∀ {Q : Value → Shared → Prop}, Q (.ref l) ⟨hp, g, d, t, os⟩ → wpAny (model prog w) A (eval (.Name nx p4) env) Q E ⟨hp, g, d, t, os⟩)
    (hl : hp.IsList l vs.toArray) (a : Nat → Int) (hval : ∀ i v, vs[i]? = some v → NumV v (a i)) (ha : ∀ i, (a i).natAbs < 2 ^ 50) (hcb : hp.IsCell cb (some fb)) (hfb : FltV fb kb) (hkb : kb.natAbs < 2 ^ 50)
    (hT : Tq mg hp) (hmg : hp.Ns 3 mg) (hgl : env.globals = 3) (hcode : env.code = .ref 76) (hlim : hp.NoLimit) (hcs : cStatics < 72) (hcb72 : cb ≠ 72) (hl72 : l ≠ 72)
    (hco : scope.isCoroutine = false) (hcell : ∀ y ∈ scope.names, y.2 ≠ .cell) (h0 : scope.names.lookup (".0" : Str) = some NameKind.local) (hx : scope.names.lookup x = some .local) (hb : scope.names.lookup bar = some .free) (hkind : scope.kind = .function)
    (hclos : closureFor scope env = pure [(bar, cb)]) (hxd : (x == ("__debug__" : Str)) = false) (hbd : (bar == ("__debug__" : Str)) = false) (hbc : (bar == ("__classdict__" : Str)) = false)
    (h : ∀ ga C I h' g' t' fp, KeepT hp h' → Cd hp h' → hp.objs.size ≤ I → I < C → C < ga → ga < h'.objs.size → fp = [cStatics, I, l, cb] → g'.size = g.size + 1 → (∀ k, k < g.size → g'[k]? = g[k]?) → (AllBare g → AllBare g') →
      WalksS prog w A.in1 ga (ga :: C :: fp) (C :: [I]) (GenOnlyQ g.size) vs.length (fun i y => FltV y (a i - kb)) (GenAt prog w A.in1 ga g.size C fp [I] (fun _ => true) vs.length (fun i y => FltV y (a i - kb))) →
      GenAt prog w A.in1 ga g.size C fp [I] (fun _ => true) vs.length (fun i y => FltV y (a i - kb)) 0 ⟨h', g', d, t', os⟩ → Q (.ref ga) ⟨h', g', d, t', os⟩) :
    wpAny (model prog w) A (eval (.GeneratorExp (.BinOp (.Name x p1) .Sub (.Name bar p2) p3) [⟨.Name x px, .Name nx p4, [], 0⟩] scope pos) env) Q E ⟨hp, g, d, t, os⟩ := by
  refine wpAny_GeneratorExp_make hco hclos hcell h0 hkind hroom ?_ (fun x => rfl)
  refine hit ?_
  refine wpAny_pyIter_list hl ?_
  refine ⟨hlim.push _, ?_⟩
  obtain ⟨ps, more0, htb0, hps, htb⟩ := hT.c
  refine genCodeT hcode (hps.push _) (htb.push _) fun code h₃ t3 more k₃ hc₃ ht₃ => ?_
  have kT : KeepT hp h₃ := fun b o hb e => k₃ b o hb (Heap.get?_push_of_some _ e)
  obtain ⟨bm, ob, b1, b2, b3, b4, b5, b6, b7⟩ := hT.b
  refine wpAny_builtinsFor (m := mg) (by rw [hgl]; exact hmg.at' fun o e => kT _ _ (by decide) e) b1 b2 (kT _ _ b3 b4) b5 b6 b7 ?_
  intro h' hn' hs'
  have hI72 : hp.objs.size ≠ 72 := by
    obtain ⟨o, vs', file, tf, flags, tg, inF, text, tt, op, _, _, _, _, _, _, _, hop, _⟩ := id hps
    exact Nat.ne_of_gt (Heap.lt_size hop)
  have hI₃ : h₃.IsListIter hp.objs.size l 0 := by
    refine ⟨_, k₃ _ _ hI72 (Heap.get?_push_size _ rfl), rfl, rfl⟩
  have hsz : h'.objs.size = h₃.objs.size + 1 := by rw [hs'.1, Heap.size_push]
  have hIC : hp.objs.size < h₃.objs.size := by obtain ⟨o, e, _⟩ := hI₃; exact Heap.lt_size e
  have keep' : ∀ b o, h₃.get? b = some o → h'.get? b = some o := fun b o e => hs'.extBut b o (Nat.ne_of_lt (Heap.lt_size e)) (Heap.get?_push_of_some _ e)
  have hcl : cStatics < hp.objs.size := let ⟨_, hn, _⟩ := hlim; hn.lt
  have hll : l < hp.objs.size := by obtain ⟨o, e, _⟩ := hl; exact Heap.lt_size e
  have hbl : cb < hp.objs.size := hcb.lt
  have hfp : ∀ b ∈ [cStatics, hp.objs.size, l, cb], b < h₃.objs.size := by
    intro b hb
    rcases List.mem_cons.mp hb with rfl | hb
    · exact Nat.lt_trans hcl hIC
    rcases List.mem_cons.mp hb with rfl | hb
    · exact hIC
    rcases List.mem_cons.mp hb with rfl | hb
    · exact Nat.lt_trans hll hIC
    rcases List.mem_cons.mp hb with rfl | hb
    · exact Nat.lt_trans hbl hIC
    · cases hb
  have hpass : (passing (fun _ => true) vs.length 0) = List.range vs.length := by unfold passing; simp
  have W₀ : ∀ A' : Around, A'.handled = none → Walks prog w A' hp.objs.size [cStatics, hp.objs.size, l, cb] [hp.objs.size] vs.length (fun i v => vs[i]? = some v) (fun i h => h.IsListIter hp.objs.size l i ∧ h.IsList l vs.toArray) := fun A' hA' => by
    have W := (Walks.list (prog := prog) (w := w) (A := A') hA' hp.objs.size l (Nat.ne_of_lt hll) vs.toArray).mono_fp (fp' := [cStatics, hp.objs.size, l, cb]) (by
      intro b hb
      rcases List.mem_cons.mp hb with rfl | hb
      · simp
      · rw [List.mem_singleton.mp hb]; simp)
    simpa using W
  have hq : ∀ href : Heap, KeepT hp href → QuietGen prog w (genEnv scope [(bar, cb)] h₃.objs.size code builtinsNs env) x [] (.BinOp (.Name x p1) .Sub (.Name bar p2) p3) [cStatics, hp.objs.size, l, cb] [hp.objs.size] (fun i v => vs[i]? = some v) (fun _ => true) (fun i y => FltV y (a i - kb)) href := fun href kr =>
    { tests := fun A' E' i v s₂ m₂ hA' hP hn hm hk => by
        rw [List.forIn_nil]
        exact wpAny_pure ⟨rfl, s₂.heap, s₂.toks, rfl, fun _ _ e => e⟩
      elt := fun A' E' i v s₂ m₂ hA' hP _ hn hm hk => by
        obtain ⟨h₂, g₂, d₂, t₂, os₂⟩ := s₂
        refine wpAny_BinOp ?_
        refine wpAny_Name (wpAny_loadName_local hkind hx hn hm ?_) hxd
        have hc₂ : h₂.IsCell cb (some fb) := by
          obtain ⟨o, e, r⟩ := hcb
          exact ⟨o, hk cb (by simp) (by rw [List.mem_singleton]; exact Nat.ne_of_lt hbl) o (kr _ _ hcb72 e), r⟩
        refine wpAny_Name (wpAny_loadName_free hkind hb (c := cb) (by show List.lookup bar [(bar, cb)] = some cb; simp) hc₂ ?_ (hn := hbc)) hbd
        exact subNF (hval i v hP) hfb (ha i) hkb fun r t' hr => ⟨hr, h₂, t', rfl, fun _ _ e => e⟩ }
  have hgaC : h'.objs.size ≠ h₃.objs.size := by rw [hsz]; exact Nat.succ_ne_self _
  have hgaf : h'.objs.size ∉ [cStatics, hp.objs.size, l, cb] := fun hm => by
    have h9 := hfp _ hm
    rw [hsz] at h9
    exact absurd h9 (Nat.not_lt.mpr (Nat.le_succ _))
  have hCf : h₃.objs.size ∉ [cStatics, hp.objs.size, l, cb] := fun hm => Nat.lt_irrefl _ (hfp _ hm)
  have W := WalksS.genexpQ (prog := prog) (w := w) (A := A.in1) (by exact hA) h'.objs.size g.size h₃.objs.size [cStatics, hp.objs.size, l, cb] [hp.objs.size] (fun _ => true) vs.length (fun i y => FltV y (a i - kb)) hgaC hgaf (by simp) (by exact hroom) (by simp) (Nat.ne_of_lt (Nat.lt_trans hcl hIC)) (by rw [List.mem_singleton]; exact Nat.ne_of_lt hcl)
  rw [hpass, List.length_range] at W
  have W' : WalksS prog w A.in1 h'.objs.size (h'.objs.size :: h₃.objs.size :: [cStatics, hp.objs.size, l, cb]) (h₃.objs.size :: [hp.objs.size]) (GenOnlyQ g.size) vs.length (fun i y => FltV y (a i - kb)) (GenAt prog w A.in1 h'.objs.size g.size h₃.objs.size [cStatics, hp.objs.size, l, cb] [hp.objs.size] (fun _ => true) vs.length (fun i y => FltV y (a i - kb))) :=
    { W with item := fun i s Q E hi st hQ => W.item i s Q E hi st fun v s' hP => hQ v s' (by
        obtain ⟨j, hj, hF⟩ := hP
        rw [List.getElem?_range hi] at hj
        cases hj
        exact hF) }
  have kP : ∀ b o, h₃.get? b = some o → (h'.push { cls := .type "generator", data := .fields #[.int g.size 0, .str "<genexpr>" (t3 + 1), .str (env.qual ++ "<genexpr>") (t3 + 1 + 1)] }).get? b = some o := fun b o e => Heap.get?_push_of_some _ (keep' b o e)
  refine h h'.objs.size h₃.objs.size hp.objs.size _ _ _ [cStatics, hp.objs.size, l, cb] (fun b o hb e => kP b o (kT b o hb e)) ⟨ps, more0 ++ more, htb0, (by rw [← Array.append_assoc]; exact (hc₃.keeps keep').push _), (by rw [← Array.append_assoc]; exact (ht₃.keeps keep').push _)⟩ (Nat.le_refl _) hIC (by rw [hsz]; exact Nat.lt_succ_self _) (by rw [Heap.size_push]; exact Nat.lt_succ_self _) rfl (Array.size_push ..) (fun k hk => Array.getElem?_push_lt hk |>.trans (Array.getElem?_eq_getElem hk).symm) (fun B => B.push rfl) W' ?_
  refine GenAt.fresh (A := A.in1) (cenv := genEnv scope [(bar, cb)] h₃.objs.size code builtinsNs env) (m := fun y => if y = ".0" then some (.ref hp.objs.size) else none) (by exact hA)
    W₀ (fun _ => true) _ hx (by simp [genEnv, hkind]) hco hCf (hq _ fun b o hb e => kP b o (kT b o hb e)) ⟨_, _, _, Heap.get?_push_size _ rfl, rfl, rfl, rfl⟩ (Array.getElem?_push_size ..) ?_ (hn'.push _) (NoLimit.offs72 hlim hcs fun b o hb e => kP b o (kT b o hb e))
  exact ⟨let ⟨o, e, r⟩ := hI₃; ⟨o, kP _ _ e, r⟩, let ⟨o, e, r⟩ := hl; ⟨o, kP _ _ (kT _ _ hl72 e), r⟩⟩
end
end Mine

open PySem PySem.W PyProof.Rows
namespace Mine
set_option maxRecDepth 100000
section
variable {prog : Program} {w : World} {A : Around} {E : Value → Shared → Prop} {hp : Heap} {g : Array GenState} {d : Drawn} {t : Nat} {os : OsState} {mg mb mN : Str → Option Value}

theorem cnB {env : Env} {x : Str} {pos : Pos} {v : Value} {Q : Value → Shared → Prop} (T : Tp mg mb mN hp) (hg : mg x = none) (hb : mb x = some v) (h : Q v ⟨hp, g, d, t, os⟩)
    (hl : env.kindOf x = some .globalImplicit := by rfl) (hgl : env.globals = 3 := by rfl) (hbl : env.builtins = 0 := by rfl) (hk : env.scope.kind = .function := by rfl) (hd : (x == ("__debug__" : Str)) = false := by decide) :
    wpAny (model prog w) A (eval (.Name x pos) env) Q E ⟨hp, g, d, t, os⟩ :=
  Calls.Name_function_global hk hl (Calls.loadGlobal_builtin (env := env) (mg := mg) (by show hp.Ns env.globals mg; rw [hgl]; exact T.g) hg (mb := mb) (by show hp.Ns env.builtins mb; rw [hbl]; exact T.b) hb h) hd
theorem cnG {env : Env} {x : Str} {pos : Pos} {v : Value} {Q : Value → Shared → Prop} (T : Tp mg mb mN hp) (hg : mg x = some v) (h : Q v ⟨hp, g, d, t, os⟩)
    (hl : env.kindOf x = some .globalImplicit := by rfl) (hgl : env.globals = 3 := by rfl) (hk : env.scope.kind = .function := by rfl) (hd : (x == ("__debug__" : Str)) = false := by decide) :
    wpAny (model prog w) A (eval (.Name x pos) env) Q E ⟨hp, g, d, t, os⟩ :=
  Calls.Name_function_global hk hl (Calls.loadGlobal_global (env := env) (mg := mg) (by show hp.Ns env.globals mg; rw [hgl]; exact T.g) hg h) hd


set_option maxHeartbeats 8000000 in
theorem cov_spec (T : Tp mg mb mN hp) (N : Names mg mb mN) (Tq' : Tq mg hp) (hfar : 76 < hp.objs.size) (hcs : cStatics < 72) {l1 l2 : Addr} {vs1 vs2 : List Value} {n : Nat} (hl1 : hp.IsList l1 vs1.toArray) (hl2 : hp.IsList l2 vs2.toArray) (h172 : l1 ≠ 72) (h272 : l2 ≠ 72)
    (hn1 : vs1.length = n) (hn2 : vs2.length = n) (hn : 2 ≤ n) (hn' : n < 1000) (a b c : Nat → Int) (A1 B1 R : Int)
    (hv1 : ∀ i v, vs1[i]? = some v → NumV v (a i)) (hv2 : ∀ i v, vs2[i]? = some v → NumV v (b i))
    (ha : ∀ i, (a i).natAbs < 2 ^ 40) (hb : ∀ i, (b i).natAbs < 2 ^ 40) (hsa : ∀ j, j ≤ n → (preSum a j).natAbs < 2 ^ 40) (hsb : ∀ j, j ≤ n → (preSum b j).natAbs < 2 ^ 40)
    (hA1 : preSum a n = n * A1) (hB1 : preSum b n = n * B1) (hbA : A1.natAbs < 2 ^ 40) (hbB : B1.natAbs < 2 ^ 40) (hc : ∀ i, i < n → (a i - A1) * (b i - B1) = 16 * c i) (hcb : ∀ j, j ≤ n → (c j).natAbs < 2 ^ 49) (hsc : ∀ j, j ≤ n → (preSum c j).natAbs < 2 ^ 49)
    (hR : preSum c n = ((n : Int) - 1) * R) (hRb : R.natAbs < 2 ^ 49)
    (hh : A.handled = none) (hroom : A.depth + 1 < recursionLimit) {Q : Value → Shared → Prop}
    (hQ : ∀ h' g' t' v, KeepT hp h' → Cd hp h' → (AllBare g → AllBare g') → FltV v R → Q v ⟨h', g', d, t', os⟩) :
    wpAny (model prog w) A (call (.ref 77) [.ref l1, .ref l2]) Q E ⟨hp, g, d, t, os⟩ := by
  refine callDefC T.fCov T.nolim (by omega) hfar Tq'.c _ rfl (binds := [("x", .ref l1), ("y", .ref l2)]) rfl rfl (fun x hx => .inl (locs rfl x hx)) rfl rfl rfl fun h₁ t0 F k₁ => ?_
  generalize hL : hp.objs.size = L at *
  generalize henv : callEnvC fdCov L 77 = env at *
  have hh' : (A.deeper env).handled = none := hh
  have hroom' : (A.deeper env).depth < recursionLimit := hroom
  subst henv
  refine wpAny_execs_cons ?_
  refine wpAny_Assign_Name ?_
  refine callN ?_
  refine cnB (T.keeps k₁) N.nlen N.len ?_
  refine PyProof.Rows.callWith_builtin1 ?_
  refine args_cons ?_
  refine cnL F rfl ?_
  refine args_nil ?_
  refine lenL (hl1.at fun o e => k₁ _ _ e) (by omega) fun u1 t1 => ?_
  rw [hn1]
  refine csL F fun h₂ t2 F₂ s₂ => ?_
  have T₂ := T.keepT F₂.keep
  have kk₂ : ∀ b o, b ≠ 72 → hp.get? b = some o → h₂.get? b = some o := F₂.keep
  refine wpAny_execs_cons ?_
  refine wpAny_If ?_
  refine wpAny_isTrue_Compare1 ?_
  refine callN ?_
  refine cnB T₂ N.nlen N.len ?_
  refine PyProof.Rows.callWith_builtin1 ?_
  refine args_cons ?_
  refine cnL F₂ rfl ?_
  refine args_nil ?_
  refine lenL (hl2.at fun o e => kk₂ _ _ h272 e) (by omega) fun u3 t3 => ?_
  rw [hn2]
  refine cnL F₂ rfl ?_
  refine P.ne_int ?_
  refine wpAny_truthy_bool ?_
  rw [show ((n : Int) != (n : Int)) = false by simp]
  refine wpAny_execs_nil ?_
  refine wpAny_execs_cons ?_
  refine wpAny_If ?_
  refine wpAny_isTrue_Compare1 ?_
  refine cnL F₂ rfl ?_
  refine cInt fun u4 t4 => ?_
  refine P.lt_int ?_
  refine wpAny_truthy_bool ?_
  rw [decide_eq_false (by omega : ¬ (n : Int) < 2)]
  refine wpAny_execs_nil ?_
  refine wpAny_execs_cons ?_
  refine wpAny_Assign_Name ?_
  refine wpAny_BinOp ?_
  refine callN ?_
  refine cnG T₂ N.fsum ?_
  refine PyProof.Rows.callWith_builtin1 ?_
  refine args_cons ?_
  refine cnL F₂ rfl ?_
  refine args_nil ?_
  refine fsumL hh' (hl1.at fun o e => kk₂ _ _ h172 e) a hv1 (fun j _ => by have := ha j; omega) (fun j hj => by have := hsa j (by omega); omega) fun h₃ t5 r5 u5 k₃ f5 => ?_
  have F₃ := F₂.keeps k₃
  refine cnL F₃ rfl ?_
  refine divFI ⟨_, _, rfl, f5⟩ (by omega) (by omega) (by rw [hn1]; exact hA1) (by omega) fun v6 t6 f6 => ?_
  refine csC F₃ (c := L + 1) rfl fun h₄ t7 F₄ s₄ => ?_
  have T₄ := T.keepT F₄.keep
  refine wpAny_execs_cons ?_
  refine wpAny_Assign_Name ?_
  refine wpAny_BinOp ?_
  refine callN ?_
  refine cnG T₄ N.fsum ?_
  refine PyProof.Rows.callWith_builtin1 ?_
  refine args_cons ?_
  refine cnL F₄ rfl ?_
  refine args_nil ?_
  refine fsumL hh' (hl2.at fun o e => F₄.keep _ _ h272 e) b hv2 (fun j _ => by have := hb j; omega) (fun j hj => by have := hsb j (by omega); omega) fun h₅ t8 r8 u8 k₅ f8 => ?_
  have F₅ := F₄.keeps k₅
  refine cnL F₅ rfl ?_
  refine divFI ⟨_, _, rfl, f8⟩ (by omega) (by omega) (by rw [hn2]; exact hB1) (by omega) fun v9 t9 f9 => ?_
  refine csC F₅ (c := L + 2) rfl fun h₆ t10 F₆ s₆ => ?_
  have T₆ := T.keepT F₆.keep
  refine wpAny_execs_cons ?_
  refine wpAny_Assign_Name ?_
  refine callN ?_
  refine cnG T₆ N.sumprod ?_
  refine PyProof.Rows.callWith_builtin1 ?_
  refine args_cons ?_
  have hLs : 76 < L := hfar
  have hc1 : L + 1 ≠ 72 := Nat.ne_of_gt (Nat.lt_succ_of_lt (Nat.lt_trans (by decide) hLs))
  have hc2 : L + 2 ≠ 72 := Nat.ne_of_gt (Nat.lt_succ_of_lt (Nat.lt_succ_of_lt (Nat.lt_trans (by decide) hLs)))
  have hlim₆ : h₆.NoLimit := T₆.nolim
  have hTq₆ : Tq mg h₆ := Tq'.moves F₆.keep F₆.code.self
  refine genSub (x := "xi") (bar := "xbar") (cb := L + 1) (l := l1) (vs := vs1) (fb := v6) (kb := A1) hh' hroom' (fun h => cnL F₆ rfl h) (hl1.at fun o e => F₆.keep _ _ h172 e) a hv1 (fun i => by have := ha i; omega) (F₆.cell "xbar" (L + 1) rfl) f6 (by omega)
    hTq₆ T₆.g rfl rfl hlim₆ hcs hc1 h172 rfl (by decide +kernel) rfl rfl rfl rfl rfl rfl rfl rfl ?_
  intro ga C I h₇ g₇ t11 fp kT₇ hc₇ hI hIC hCg hg₇ hfp hgs hgk hbare₇ W1 st1
  have F₇ := F₆.moves kT₇ (F₆.code.trans hc₇)
  have T₇ := T.keepT F₇.keep
  refine args_cons ?_
  refine genSub (x := "yi") (bar := "ybar") (cb := L + 2) (l := l2) (vs := vs2) (fb := v9) (kb := B1) hh' hroom' (fun h => cnL F₇ rfl h) (hl2.at fun o e => F₇.keep _ _ h272 e) b hv2 (fun i => by have := hb i; omega) (F₇.cell "ybar" (L + 2) rfl) f9 (by omega)
    (Tq'.moves F₇.keep F₇.code.self) T₇.g rfl rfl T₇.nolim hcs hc2 h272 rfl (by decide +kernel) rfl rfl rfl rfl rfl rfl rfl rfl ?_
  intro ga2 C2 I2 h₈ g₈ t12 fp2 kT₈ hc₈ hI2 hIC2 hCg2 hg₈ hfp2 hgs2 hgk2 hbare₈ W2 st2
  have F₈ := F₇.moves kT₈ (F₇.code.trans hc₈)
  have T₈ := T.keepT F₈.keep
  refine args_nil ?_
  rw [hn1] at W1 st1
  rw [hn2] at W2 st2
  have hz7 : I < h₇.objs.size := Nat.lt_trans (Nat.lt_trans hIC hCg) hg₇
  have hb6 : ∀ b o, h₆.get? b = some o → b < I := fun b o e => Nat.lt_of_lt_of_le (Heap.lt_size e) hI
  have hb7 : ∀ b, b < h₇.objs.size → b ∉ C2 :: [I2] := fun b hb hm => by
    rcases List.mem_cons.mp hm with q | q
    · exact absurd (Nat.lt_of_lt_of_le hb hI2) (Nat.not_lt.mpr (by rw [q]; exact Nat.le_of_lt hIC2))
    · exact absurd (Nat.lt_of_lt_of_le hb hI2) (by rw [List.mem_singleton.mp q]; exact Nat.lt_irrefl _)
  have hb6' : ∀ b, b < I → b ∉ C :: [I] := fun b hb hm => by
    rcases List.mem_cons.mp hm with q | q
    · exact absurd (Nat.lt_trans hb hIC) (by rw [q]; exact Nat.lt_irrefl _)
    · exact absurd hb (by rw [List.mem_singleton.mp q]; exact Nat.lt_irrefl _)
  have hb7' : ∀ b, h₇.objs.size ≤ b → b ∉ C :: [I] := fun b hb hm => by
    rcases List.mem_cons.mp hm with q | q
    · exact absurd (Nat.lt_of_lt_of_le (Nat.lt_trans hCg hg₇) hb) (by rw [q]; exact Nat.lt_irrefl _)
    · exact absurd (Nat.lt_of_lt_of_le hz7 hb) (by rw [List.mem_singleton.mp q]; exact Nat.lt_irrefl _)
  have hcI : cStatics < I := Nat.lt_of_lt_of_le (let ⟨_, hn, _⟩ := hlim₆; hn.lt) hI
  have hl1I : l1 < I := by obtain ⟨o, e, _⟩ := hl1; exact hb6 _ _ (F₆.keep _ _ h172 e)
  have hl2I : l2 < I := by obtain ⟨o, e, _⟩ := hl2; exact hb6 _ _ (F₆.keep _ _ h272 e)
  have hL1I : L + 1 < I := Nat.lt_of_lt_of_le (F₆.cell "xbar" (L + 1) rfl).lt hI
  have hL2I : L + 2 < I := Nat.lt_of_lt_of_le (F₆.cell "ybar" (L + 2) rfl).lt hI
  have hf1 : ∀ b ∈ ga :: C :: fp, b < h₇.objs.size := by
    rw [hfp]
    intro b hb
    simp only [List.mem_cons, List.not_mem_nil, or_false] at hb
    rcases hb with rfl | rfl | rfl | rfl | rfl | rfl
    · exact hg₇
    · exact Nat.lt_trans hCg hg₇
    · exact Nat.lt_trans hcI hz7
    · exact hz7
    · exact Nat.lt_trans hl1I hz7
    · exact Nat.lt_trans hL1I hz7
  have hf2 : ∀ b ∈ ga2 :: C2 :: fp2, b ∉ C :: [I] := by
    rw [hfp2]
    intro b hb
    simp only [List.mem_cons, List.not_mem_nil, or_false] at hb
    rcases hb with rfl | rfl | rfl | rfl | rfl | rfl
    · exact hb7' _ (Nat.le_of_lt (Nat.lt_of_le_of_lt hI2 (Nat.lt_trans hIC2 hCg2)))
    · exact hb7' _ (Nat.le_of_lt (Nat.lt_of_le_of_lt hI2 hIC2))
    · exact hb6' _ hcI
    · exact hb7' _ hI2
    · exact hb6' _ hl2I
    · exact hb6' _ hL2I
  have h72f : ∀ b ∈ ga :: C :: fp, b ≠ 72 := by
    rw [hfp]
    intro b hb
    have hI72 : 72 < I := Nat.lt_trans (Nat.lt_trans (by decide) hLs) (Nat.lt_trans (Nat.lt_succ_self _) hL1I)
    simp only [List.mem_cons, List.not_mem_nil, or_false] at hb
    rcases hb with rfl | rfl | rfl | rfl | rfl | rfl
    · exact Nat.ne_of_gt (Nat.lt_trans hI72 (Nat.lt_trans hIC hCg))
    · exact Nat.ne_of_gt (Nat.lt_trans hI72 hIC)
    · exact Nat.ne_of_lt hcs
    · exact Nat.ne_of_gt hI72
    · exact h172
    · exact hc1
  have hcsm1 : cStatics ∈ fp := by rw [hfp]; simp
  have hcsm2 : cStatics ∈ fp2 := by rw [hfp2]; simp
  have gq : ∀ {g1 g2 : Nat} {x y : Array GenState}, GenOnlyQ g2 x y → g1 ≠ g2 → y[g1]? = x[g1]? := by
    rintro g1 g2 x y (rfl | ⟨h, _⟩) hne
    · rfl
    · exact h.2 _ hne
  have hgne : g.size ≠ g₇.size := by rw [hgs]; exact Nat.ne_of_lt (Nat.lt_succ_self _)
  refine sumprodF hh' W1 W2 (fun i s s' st mv => Mine.GenAt.cross st hcsm1 (fun b hb o e => mv.heap b o (hb7 b (hf1 b hb)) e) (gq mv.gens hgne)) (fun i s s' st mv => Mine.GenAt.cross st hcsm2 (fun b hb o e => mv.heap b o (hf2 b hb) e) (gq mv.gens (Ne.symm hgne)))
    (fun i s st b hb => ?_) (fun i s st b hb => ?_) (fun i => a i - A1) (fun i => b i - B1) c (fun i v h => h) (fun i v h => h) hc hcb hsc (by omega)
    (Mine.GenAt.cross st1 hcsm1 (fun b hb o e => kT₈ b o (h72f b hb) e) (hgk2 _ (by rw [hgs]; exact Nat.lt_succ_self _))) st2 ?_
  · obtain ⟨o, _, _, ho, _⟩ := st.1
    have := Heap.lt_size ho
    rcases List.mem_cons.mp hb with rfl | q
    · exact Nat.lt_trans hCg this
    · rw [List.mem_singleton.mp q]; exact Nat.lt_trans (Nat.lt_trans hIC hCg) this
  · obtain ⟨o, _, _, ho, _⟩ := st.1
    have := Heap.lt_size ho
    rcases List.mem_cons.mp hb with rfl | q
    · exact Nat.lt_trans hCg2 this
    · rw [List.mem_singleton.mp q]; exact Nat.lt_trans (Nat.lt_trans hIC2 hCg2) this
  rintro ⟨h₉, g₉, d₉, t₉, os₉⟩ r u hr hk hbare hd9 hos9 _
  obtain rfl : d₉ = d := hd9
  obtain rfl : os₉ = os := hos9
  have kT₉ : KeepT h₆ h₉ := fun b o hb e => hk b o (hb6' _ (hb6 _ _ e)) (hb7 _ (Nat.lt_trans (hb6 _ _ e) hz7)) (kT₈ b o hb (kT₇ b o hb e))
  have h76I : 76 < I := Nat.lt_trans hLs (Nat.lt_trans (Nat.lt_succ_self _) hL1I)
  have F₉ := F₆.moves kT₉ (F₈.code.at2 (fun o e => hk _ _ (hb6' _ h76I) (hb7 _ (Nat.lt_trans h76I hz7)) e) (fun o e => hk _ _ (hb6' _ (Nat.lt_trans (by decide) h76I)) (hb7 _ (Nat.lt_trans (Nat.lt_trans (by decide) h76I) hz7)) e))
  refine csL F₉ fun h₁₀ t13 F₁₀ s₁₀ => ?_
  refine wpAny_execs_cons ?_
  refine wpAny_Return_some ?_
  refine wpAny_BinOp ?_
  refine cnL F₁₀ rfl ?_
  refine wpAny_BinOp ?_
  refine cnL F₁₀ rfl ?_
  refine cInt fun u14 t14 => ?_
  refine subI fun u15 t15 => ?_
  refine divFI ⟨r, u, rfl, hr⟩ (by omega) (by omega) (by rw [hR]) (by omega) fun v16 t16 f16 => ?_
  exact hQ h₁₀ g₉ t16 v16 F₁₀.keep F₁₀.code (fun B => hbare (hbare₈ (hbare₇ B))) f16
end
end Mine

open PySem PySem.W PyProof.Rows
namespace Mine
set_option maxRecDepth 100000
section
variable {prog : Program} {w : World} {A : Around} {E : Value → Shared → Prop} {hp : Heap} {g : Array GenState} {d : Drawn} {t : Nat} {os : OsState} {mg mb mN : Str → Option Value}

/-- entering a def with cells and defaults -/
theorem callDefD {a : Addr} {fd : FuncData} {vals : List Value} {binds : List (Str × Value)} {Q : Value → Shared → Prop}
    (hf : FnAt hp a fd) (hlim : hp.NoLimit) (hroom : A.depth < recursionLimit) (hfar : 76 < hp.objs.size) (hcode : Cd hp hp) (body : List Stmt) (hbody : fd.body = .stmts body) (hbind : BindsTo ⟨hp, g, d, t, os⟩ fd ⟨vals, []⟩ binds) (hclo : fd.closure = [])
    (hkind : ∀ x ∈ binds, fd.scope.names.lookup x.1 = some .local ∨ (fd.scope.names.lookup x.1 = some .cell ∧ ((cellsFrom (hp.objs.size + 1) fd.scope.names []).lookup x.1).isSome = true))
    (hco : fd.scope.isCoroutine = false) (hgen : fd.scope.isGenerator = false) (hk : fd.scope.kind = .function)
    (h : ∀ h₁ t', Fc hp (callEnvC fd hp.objs.size a) h₁ (bindL (callEnvC fd hp.objs.size a).kindOf binds fun _ => none) (bindC (callEnvC fd hp.objs.size a).kindOf binds fun _ => none) → Keep hp h₁ →
      wpAny (model prog w) (A.deeper (callEnvC fd hp.objs.size a)) (execs body (callEnvC fd hp.objs.size a)) (fun f s' => Q (match f with | .ret v => v | _ => .none) s') (fun _ _ => False) ⟨h₁, g, d, t', os⟩) :
    wpAny (model prog w) A (call (.ref a) vals) Q E ⟨hp, g, d, t, os⟩ := by
  obtain ⟨⟨o, ho, _, hd⟩, hcd⟩ := hf
  refine wpAny_call (codeAny_call_function hroom ho hd hco hgen hbody hcd (hbind _ _ _ _ ?_))
  rw [hclo]
  refine wpAny_newFunctionEnv_cells hk hkind fun env he s' X => ?_
  subst he
  refine ⟨hlim.keeps X.toInCall.keep, codeAny_func ?_⟩
  obtain ⟨h₁, tk, rfl⟩ := X.toInCall.same
  exact wpAny_mono (h h₁ tk ⟨X.toInCall.ns, X.cell, X.apart, X.above, fun b o _ e => X.toInCall.keep b o e, X.toInCall.fresh, hfar, (hcode.keeps X.toInCall.keep)⟩ X.toInCall.keep) (fun f s' x => x) (fun _ _ x => x.elim)

theorem divIF {a c m : Int} {u : Tok} {v : Value} {Q : Value → Shared → Prop} (hv : FltV v m) (hm : m ≠ 0) (hc : 16 * (16 * a) = m * c) (ha : (16 * a).natAbs < 2 ^ 53) (hcb : c.natAbs < 2 ^ 50) (h : ∀ r t', FltV r c → Q r ⟨hp, g, d, t', os⟩) :
    wpAny (model prog w) A (binaryOp .Div (.int a u) v) Q E ⟨hp, g, d, t, os⟩ := by
  obtain ⟨y, tu, rfl, hy⟩ := hv
  refine AutoFloatOps.truediv_if_2 (over_small ha) (by rw [hy.isZero, decide_eq_false hm]; decide) (h _ _ ⟨_, _, rfl, Fv.div (Fv.ofInt ha) hy hm hc (by omega)⟩)

theorem typeIsL {l : Addr} {vs : Array Value} (h : hp.IsList l vs) : (⟨hp, g, d, t, os⟩ : Shared).TypeIs (.ref l) "list" := let ⟨o, e, c, _⟩ := h; ⟨o, e, c⟩

set_option maxHeartbeats 8000000 in
theorem mean_spec (T : Tp mg mb mN hp) (N : Names mg mb mN) (hd63 : ∃ o n, hp.get? 63 = some o ∧ o.data = .seq #[.none] n) (hfar : 76 < hp.objs.size) (hcode : Cd hp hp) {l1 l2 : Addr} {vs1 vs2 : List Value} {n : Nat} (hl1 : hp.IsList l1 vs1.toArray) (hl2 : hp.IsList l2 vs2.toArray) (h172 : l1 ≠ 72) (h272 : l2 ≠ 72)
    (hn1 : vs1.length = n) (hn2 : vs2.length = n) (hn : 0 < n) (a b : Nat → Int) (R : Int)
    (hv1 : ∀ i (v : Value), vs1[i]? = some v → ∃ t, v = .int (a i) t) (hv2 : ∀ i (v : Value), vs2[i]? = some v → ∃ t, v = .int (b i) t)
    (ha : ∀ i, (a i).natAbs < 2 ^ 20) (hb : ∀ i, (b i).natAbs < 2 ^ 20) (hs : ∀ j, j ≤ n → (preSum (fun i => a i * b i) j).natAbs < 2 ^ 40) (hw : ∀ j, j ≤ n → (preSum (fun i => 16 * b i) j).natAbs < 2 ^ 40)
    (hw0 : preSum (fun i => 16 * b i) n ≠ 0) (hR : 16 * (16 * preSum (fun i => a i * b i) n) = preSum (fun i => 16 * b i) n * R) (hRb : R.natAbs < 2 ^ 49)
    (hh : A.handled = none) (hroom : A.depth + 1 < recursionLimit) {Q : Value → Shared → Prop}
    (hQ : ∀ h' t' v, KeepT hp h' → Cd hp h' → FltV v R → Q v ⟨h', g, d, t', os⟩) :
    wpAny (model prog w) A (call (.ref 70) [.ref l1, .ref l2]) Q E ⟨hp, g, d, t, os⟩ := by
  obtain ⟨o63, n63, e63, d63⟩ := hd63
  refine callDefD T.fMean T.nolim (by omega) hfar hcode _ rfl (binds := [("data", .ref l1), ("weights", .ref l2)]) (BindsTo.of_defaults rfl e63 d63 rfl rfl) rfl (fun x hx => .inl (locs rfl x hx)) rfl rfl rfl fun h₁ t0 F k₁ => ?_
  generalize hL : hp.objs.size = L at *
  have hh' : (A.deeper (callEnvC fdMean L 70)).handled = none := hh
  refine wpAny_execs_cons ?_
  refine wpAny_If ?_
  refine wpAny_isTrue_Compare1 ?_
  refine cnL F rfl ?_
  refine wpAny_Constant_none ?_
  refine is_ref_none ?_
  refine wpAny_truthy_bool ?_
  refine wpAny_execs_nil ?_
  refine wpAny_execs_cons ?_
  refine wpAny_If ?_
  refine isTrue_not ?_
  refine isTrue_plain ?_
  refine callN ?_
  refine cnB (T.keepT F.keep) N.nisi N.isi ?_
  refine PyProof.Rows.callWith_builtin1 ?_
  refine args_cons ?_
  refine cnL F rfl ?_
  refine args_cons ?_
  refine tupE ?_
  refine args_cons ?_
  refine cnB (T.keepT F.keep) N.nlist N.list ?_
  refine args_cons ?_
  refine cnB (T.keepT F.keep) N.ntuple N.tuple ?_
  refine args_nil ⟨by decide, fun h₂ tu k₂ _ ht₂ => ?_⟩
  have F₂ := F.keeps k₂
  refine args_nil ?_
  refine IsiPair.tupleOf (Tx := "list") (cs := [.type "list", .type "tuple"]) (vs := [true, false]) ⟨Answers.of_true PySem.F.isi_meta_list AutoSeq1.sub_list_list, Answers.of_false_list (by decide +kernel) PySem.F.isi_meta_tuple PySem.F.sub_list_tuple, trivial⟩ (typeIsL (hl2.at fun o e => F₂.keep _ _ h272 e)) ht₂ fun tk3 => ?_
  refine wpAny_truthy_bool ?_
  refine wpAny_execs_nil ?_
  refine wpAny_execs_cons ?_
  refine wpAny_Try_except ?_
  refine wpAny_execs_cons ?_
  refine wpAny_Assign_Name ?_
  refine callN ?_
  refine cnG (T.keepT F₂.keep) N.sumprod ?_
  refine PyProof.Rows.callWith_builtin1 ?_
  refine args_cons ?_
  refine cnL F₂ rfl ?_
  refine args_cons ?_
  refine cnL F₂ rfl ?_
  refine args_nil ?_
  refine sumprodI hh' (hl1.at fun o e => F₂.keep _ _ h172 e) (hl2.at fun o e => F₂.keep _ _ h272 e) (by omega) (by omega) a b hv1 hv2 (fun j _ => ha j) (fun j _ => hb j) (fun j hj => by have := hs j (by omega); omega) fun h₃ t4 u4 k₃ => ?_
  rw [hn1]
  have F₃ := F₂.keeps k₃
  refine csL F₃ fun h₄ t5 F₄ s₄ => ?_
  refine wpAny_execs_nil ?_
  refine wpAny_execs_nil ?_
  refine wpAny_execs_cons ?_
  refine wpAny_Assign_Name ?_
  refine callN ?_
  refine cnG (T.keepT F₄.keep) N.fsum ?_
  refine PyProof.Rows.callWith_builtin1 ?_
  refine args_cons ?_
  refine cnL F₄ rfl ?_
  refine args_nil ?_
  refine fsumL hh' (hl2.at fun o e => F₄.keep _ _ h272 e) (fun i => 16 * b i) (fun i v e => .inl (let ⟨t, e⟩ := hv2 i v e; ⟨_, t, e, rfl⟩)) (fun j _ => by have := hb j; omega) (fun j hj => by have := hw j (by omega); omega) fun h₅ t6 r6 u6 k₅ f6 => ?_
  rw [hn2] at f6
  have F₅ := F₄.keeps k₅
  refine csL F₅ fun h₆ t7 F₆ s₆ => ?_
  refine wpAny_execs_cons ?_
  refine wpAny_If ?_
  refine isTrue_not ?_
  refine isTrue_plain ?_
  refine cnL F₆ rfl ?_
  refine AutoFloatOps.truthy_0 ?_
  rw [f6.isZero, decide_eq_false hw0]
  refine wpAny_execs_nil ?_
  refine wpAny_execs_cons ?_
  refine wpAny_Return_some ?_
  refine wpAny_BinOp ?_
  refine cnL F₆ rfl ?_
  refine cnL F₆ rfl ?_
  refine divIF ⟨r6, u6, rfl, f6⟩ hw0 hR (by have := hs n (Nat.le_refl _); omega) (by omega) fun v8 t8 f8 => ?_
  exact hQ h₆ t8 v8 F₆.keep F₆.code f8
end
end Mine

open PySem PySem.W PyProof.Rows
namespace Mine
set_option maxRecDepth 100000

/-- what a comprehension's own name is bound to: own = the addresses that hold it -/
structure Binder (prog : Program) (w : World) (A : Around) (cenv : Env) (x : Str) (px : Pos) (own : List Addr) (Bd : Heap → Option Value → Prop) : Prop where
  keep : ∀ h h' ov, Bd h ov → (∀ b ∈ own, ∀ o, h.get? b = some o → h'.get? b = some o) → Bd h' ov
  live : ∀ h ov, Bd h ov → ∀ b ∈ own, ∃ o, h.get? b = some o
  ns : ∀ h ov, Bd h ov → ∃ m, h.Ns cenv.locals m
  asg : ∀ (E : Value → Shared → Prop) h ov v g d t os (Q : Unit → Shared → Prop), Bd h ov → (∀ h' t', Bd h' (some v) → (∀ b o, b ∉ own → h.get? b = some o → h'.get? b = some o) → Q () ⟨h', g, d, t', os⟩) →
    wpAny (model prog w) A (assign (.Name x px) cenv v) Q E ⟨h, g, d, t, os⟩

/-- a relation that lives on a footprint -/
structure Foot (F : (Addr → Prop) → Heap → Nat → Value → Prop) : Prop where
  keep : ∀ S h h' i y, F S h i y → (∀ b o, S b → h.get? b = some o → h'.get? b = some o) → F S h' i y
  mono : ∀ (S S' : Addr → Prop) h i y, F S h i y → (∀ b o, S b → h.get? b = some o → S' b) → F S' h i y

section
variable {prog : Program} {w : World} {A : Around} {E : Value → Shared → Prop} {hp : Heap} {g : Array GenState} {d : Drawn} {t : Nat} {os : OsState}

theorem compLoopB {elt iter : Expr} {x : Str} {px : Pos} {scope : Scope} {pos : Pos} {cenv : Env} {I D : Addr} {fp own : List Addr} {n : Nat} {P : Nat → Value → Prop} {St : Nat → Heap → Prop} {Bd : Heap → Option Value → Prop} {R : Result → Shared → Prop}
    {F : (Addr → Prop) → Heap → Nat → Value → Prop} (W : Walks prog w A I fp [I] n P St) (hI : ∀ i h, St i h → ∃ o, h.get? I = some o) (B : Binder prog w A cenv x px own Bd) (FF : Foot F)
    (hDo : D ∉ own) (hDf : D ∉ fp) (hof : ∀ b ∈ own, b ∉ fp) (hn : n ≤ 10000) {ov : Option Value} (hst : St 0 hp) (hb : Bd hp ov) (hD : hp.PlainList D #[])
    (helt : ∀ i v h₁ t₁, i < n → P i v → Bd h₁ (some v) → (∀ b o, b ∉ own → b ≠ I → b ≠ D → hp.get? b = some o → h₁.get? b = some o) →
      wpAny (model prog w) A (eval elt cenv) (fun y s' => ∃ h' t', s' = ⟨h', g, d, t', os⟩ ∧ Keep h₁ h' ∧ F (fun b => h₁.get? b = none) h' i y) NoE ⟨h₁, g, d, t₁, os⟩)
    (hR : ∀ h' t' (ys : List Value), (∃ m, h'.Ns cenv.locals m) → h'.PlainList D ys.toArray → ys.length = n → (∀ i y, ys[i]? = some y → F (fun b => hp.get? b = none) h' i y) →
      (∀ b o, b ∉ own → b ≠ I → b ≠ D → hp.get? b = some o → h'.get? b = some o) → R (.ok .next) ⟨h', g, d, t', os⟩) :
    codeAny (model prog w) A (.compLoop (.ListComp elt [⟨.Name x px, iter, [], 0⟩] scope pos) 0 (.ref I) (.ref D) cenv) R ⟨hp, g, d, t, os⟩ := by
  have hIo : I ∉ own := fun hm => hof _ hm (W.sub _ (List.mem_singleton.mpr rfl))
  have hDI : D ≠ I := fun e => hDf (e ▸ W.sub _ (List.mem_singleton.mpr rfl))
  obtain ⟨oI, eI⟩ := hI _ _ hst
  refine codeAny_compLoop_list (fun k s => ∃ i h t ov ys, k = n - i ∧ i ≤ n ∧ s = ⟨h, g, d, t, os⟩ ∧ St i h ∧ Bd h ov ∧ h.PlainList D (List.toArray ys) ∧ ys.length = i ∧ (∀ j y, ys[j]? = some y → F (fun b => hp.get? b = none) h j y) ∧
      (∀ b o, b ∉ own → b ≠ I → b ≠ D → hp.get? b = some o → h.get? b = some o)) ?_ n ⟨0, hp, t, ov, [], rfl, Nat.zero_le _, rfl, hst, hb, hD, rfl, (fun j y e => by cases e), fun _ _ _ _ _ e => e⟩
  rintro k s ⟨i, h, t, ov, ys, rfl, hi, rfl, hst, hb, hD, hlen, hF, hk⟩
  by_cases hlt : i < n
  · refine notE (W.item i _ _ _ hlt hst fun v h₁ t₁ hP hst₁ hk₁ => ?_)
    have kI₁ : ∀ b o, b ≠ I → h.get? b = some o → h₁.get? b = some o := fun b o hb e => hk₁ b o (fun q => hb (List.mem_singleton.mp q)) e
    have hb₁ := B.keep _ _ _ hb fun b hb o e => kI₁ b o (fun q => hIo (q ▸ hb)) e
    refine B.asg _ _ _ _ _ _ _ _ _ hb₁ fun h₂ t₂ hb₂ hk₂ => ?_
    have hst₂ : St (i + 1) h₂ := W.frame _ _ _ hst₁ fun b hb o e => hk₂ b o (fun q => hof _ q hb) e
    have hk02 : ∀ b o, b ∉ own → b ≠ I → b ≠ D → hp.get? b = some o → h₂.get? b = some o := fun b o q1 q2 q3 e => hk₂ b o q1 (kI₁ b o q2 (hk b o q1 q2 q3 e))
    have hD₂ : h₂.PlainList D ys.toArray := hD.at fun o e => hk₂ _ o hDo (kI₁ _ o hDI e)
    refine notE (wpAny_mono (helt i v h₂ t₂ hlt hP hb₂ hk02) (fun y s' hy => ?_) fun _ _ q => q.elim)
    obtain ⟨h₃, t₃, rfl, hk₃, hy⟩ := hy
    have hst₃ := W.frame _ _ h₃ hst₂ fun b _ o e => hk₃ b o e
    refine wpAny_list_append_plain (hD₂.at fun o e => hk₃ _ o e) (fun h₄ hl₄ hs₄ => ?_) (by simp only [List.size_toArray]; rw [sizeLine_eq]; omega)
    have hk₄ : ∀ b o, b ≠ D → h₃.get? b = some o → h₄.get? b = some o := fun b o q e => hs₄.extBut b o q e
    have hgo : ∀ b o, b ∉ own → b ≠ I → b ≠ D → hp.get? b = some o → h₄.get? b = some o := fun b o q1 q2 q3 e => hk₄ b o q3 (hk₃ _ _ (hk02 b o q1 q2 q3 e))
    obtain ⟨oD, eD⟩ : ∃ o, h₂.get? D = some o := let ⟨_, e⟩ := hD₂; ⟨_, e⟩
    obtain ⟨oI2, eI2⟩ := hI _ _ hst₂
    have hnone : ∀ b, h₂.get? b = none → hp.get? b = none := fun b e => by
      cases e0 : hp.get? b with
      | none => rfl
      | some o =>
        exfalso
        by_cases q1 : b ∈ own
        · obtain ⟨o', e'⟩ := B.live _ _ hb₂ b q1; rw [e] at e'; cases e'
        by_cases q2 : b = I
        · rw [q2, eI2] at e; cases e
        by_cases q3 : b = D
        · rw [q3, eD] at e; cases e
        rw [hk02 b o q1 q2 q3 e0] at e; cases e
    obtain ⟨oD0, eD0⟩ : ∃ o, hp.get? D = some o := let ⟨_, e⟩ := (show hp.PlainList D #[] from by assumption); ⟨_, e⟩
    have hnh : ∀ b o, hp.get? b = none → h.get? b = some o → h₄.get? b = some o := fun b o e0 e => by
      have n1 : b ∉ own := fun q => by
        obtain ⟨o', e'⟩ := B.live _ _ (show Bd hp _ from by assumption) b q; rw [e0] at e'; cases e'
      have n2 : b ≠ I := fun q => by rw [q, eI] at e0; cases e0
      have n3 : b ≠ D := fun q => by rw [q, eD0] at e0; cases e0
      exact hk₄ b o n3 (hk₃ _ _ (hk₂ b o n1 (kI₁ b o n2 e)))
    refine ⟨n - (i + 1), by omega, i + 1, h₄, t₃, _, ys ++ [y], rfl, hlt, rfl, W.frame _ _ _ hst₃ (fun b hb o e => hk₄ b o (fun q => hDf (q ▸ hb)) e), B.keep _ _ _ hb₂ (fun b hb o e => hk₄ b o (fun q => hDo (q ▸ hb)) (hk₃ _ _ e)), by simpa using hl₄, by simp [hlen], fun j z hj => ?_, hgo⟩
    by_cases hji : j < ys.length
    · rw [List.getElem?_append_left hji] at hj
      exact FF.keep _ _ _ _ _ (hF j z hj) fun b o q e => hnh b o q e
    · have hjl := (List.getElem?_eq_some_iff.mp hj).1
      simp only [List.length_append, List.length_singleton] at hjl
      have hj2 : j = ys.length := by omega
      subst hj2
      rw [List.getElem?_append_right (Nat.le_refl _), Nat.sub_self] at hj
      cases hj
      rw [hlen]
      exact FF.mono _ _ _ _ _ (FF.keep _ _ _ _ _ hy fun b o q e => hk₄ b o (fun r => by rw [r, eD] at q; cases q) e) fun b o q e => hnone b q
  · have hin : i = n := by omega
    subst hin
    refine notE (W.done _ _ _ hst fun h₁ t₁ hk₁ => ?_)
    have kI₁ : ∀ b o, b ≠ I → h.get? b = some o → h₁.get? b = some o := fun b o hb e => hk₁ b o (fun q => hb (List.mem_singleton.mp q)) e
    refine hR h₁ t₁ ys (B.ns _ _ (B.keep _ _ _ hb fun b hb o e => kI₁ b o (fun q => hIo (q ▸ hb)) e)) (hD.at fun o e => kI₁ _ o hDI e) hlen (fun j y e => FF.keep _ _ _ _ _ (hF j y e) fun b o q e => kI₁ b o (fun r => by rw [r, eI] at q; cases q) e) fun b o q1 q2 q3 e => kI₁ b o q2 (hk b o q1 q2 q3 e)
end
end Mine

open PySem PySem.W PyProof.Rows
namespace Mine
set_option maxRecDepth 100000
section
variable {prog : Program} {w : World} {A : Around} {E : Value → Shared → Prop} {hp : Heap} {g : Array GenState} {d : Drawn} {t : Nat} {os : OsState}

def BdL (C : Addr) (x : Str) (h : Heap) (ov : Option Value) : Prop := ∃ m, h.Ns C m ∧ ∀ v, ov = some v → m x = some v
def BdC (C K : Addr) (h : Heap) (ov : Option Value) : Prop := (∃ m, h.Ns C m) ∧ h.IsCell K ov
theorem binderL {cenv : Env} {x : Str} {px : Pos} (hx : cenv.kindOf x = some .local) (hk : cenv.scope.kind = .function) : Binder prog w A cenv x px [cenv.locals] (BdL cenv.locals x) where
  keep := fun h h' ov ⟨m, hn, hm⟩ k => ⟨m, hn.at' fun o e => k _ (List.mem_singleton.mpr rfl) o e, hm⟩
  live := fun h ov ⟨m, hn, hm⟩ b hb => by rw [List.mem_singleton.mp hb]; obtain ⟨o, _, _, e, _⟩ := hn; exact ⟨o, e⟩
  ns := fun h ov ⟨m, hn, hm⟩ => ⟨m, hn⟩
  asg := fun E h ov v g d t os Q ⟨m, hn, hm⟩ hQ => wpAny_assign_Name (wpAny_storeName_local hx hn (fun h' hn' hs' => hQ h' _ ⟨_, hn', fun u e => by cases e; simp⟩ fun b o hb e => hs'.extBut b o (fun q => hb (List.mem_singleton.mpr q)) e) (by rw [hk]; rfl))
theorem binderC {cenv : Env} {x : Str} {px : Pos} {K : Addr} (hx : cenv.kindOf x = some .cell) (hk : cenv.scope.kind = .function) (hc : cenv.cells.lookup x = some K) (hne : cenv.locals ≠ K) : Binder prog w A cenv x px [cenv.locals, K] (BdC cenv.locals K) where
  keep := fun h h' ov ⟨⟨m, hn⟩, hm⟩ k => ⟨⟨m, hn.at' fun o e => k _ (by simp) o e⟩, let ⟨o, e, r⟩ := hm; ⟨o, k _ (by simp) o e, r⟩⟩
  live := fun h ov ⟨⟨m, hn⟩, hm⟩ b hb => by
    rcases List.mem_cons.mp hb with rfl | q
    · obtain ⟨o, _, _, e, _⟩ := hn; exact ⟨o, e⟩
    · rw [List.mem_singleton.mp q]; obtain ⟨o, e, _⟩ := hm; exact ⟨o, e⟩
  ns := fun h ov ⟨hn, hm⟩ => hn
  asg := fun E h ov v g d t os Q ⟨⟨m, hn⟩, hm⟩ hQ => wpAny_assign_Name (wpAny_storeName_cell hk hx hc hm fun h' hc' hs' => hQ h' _ ⟨⟨m, hn.sameBut hs' hne⟩, hc'⟩ fun b o hb e => hs'.extBut b o (fun q => hb (by rw [q]; simp)) e)

theorem noneOf {h h' : Heap} (k : Keep h h') {b : Addr} (e : h'.get? b = none) : h.get? b = none := by
  cases e0 : h.get? b with
  | none => rfl
  | some o => rw [k _ _ e0] at e; cases e

/-- the block of a comprehension, no cell of its own -/
theorem blkN {elt iter : Expr} {x : Str} {px : Pos} {scope : Scope} {cl : List (Str × Addr)} {pos : Pos} {env : Env} {I : Addr} {fp : List Addr} {n : Nat} {P : Nat → Value → Prop} {St : Nat → Heap → Prop} {RR : Value → Addr → Result → Shared → Prop}
    {F : (Addr → Prop) → Heap → Nat → Value → Prop} (W : Walks prog w A I fp [I] n P St) (hI : ∀ i h, St i h → ∃ o, h.get? I = some o) (FF : Foot F)
    (hcell : ∀ y ∈ scope.names, y.2 ≠ .cell) (hkind : scope.kind = .function) (hx : scope.names.lookup x = some .local) (hn : n ≤ 10000) (hst : St 0 hp) (hfp : ∀ b ∈ fp, b < hp.objs.size)
    (helt : ∀ C i v h₁ t₁ m, hp.objs.size ≤ C → i < n → P i v → h₁.Ns C m → m x = some v → (∀ b o, b ≠ I → hp.get? b = some o → h₁.get? b = some o) →
      wpAny (model prog w) A (eval elt (compEnvC scope cl C env)) (fun y s' => ∃ h' t', s' = ⟨h', g, d, t', os⟩ ∧ Keep h₁ h' ∧ F (fun b => h₁.get? b = none) h' i y) NoE ⟨h₁, g, d, t₁, os⟩)
    (hRR : ∀ D C h' t' (ys : List Value), hp.objs.size ≤ D → hp.objs.size ≤ C → D ≠ C → (∃ m, h'.Ns C m) → h'.PlainList D ys.toArray → ys.length = n → (∀ i y, ys[i]? = some y → F (fun b => hp.get? b = none ∧ b ≠ D ∧ b ≠ C) h' i y) →
      (∀ b o, b ≠ I → hp.get? b = some o → h'.get? b = some o) → RR (.ref D) C (.ok .next) ⟨h', g, d, t', os⟩) :
    wpAny (model prog w) A (newList []) (fun acc s₃ => wpAny (model prog w) A (newFunctionEnv scope env.globals cl [] env.qual none .none (some env)) (fun cenv s₄ =>
      codeAny (model prog w) A (.compStart (.ListComp elt [⟨.Name x px, iter, [], 0⟩] scope pos) 0 (.ref I) acc { cenv with scope := relabel scope env }) (RR acc cenv.locals) s₄) E s₃) E ⟨hp, g, d, t, os⟩ := by
  refine wpAny_newObj_type (wpAny_newFunctionEnv hcell (by intro y hy; simp at hy) (fun h₁ hns₁ hsb₁ => ?_) hkind)
  dsimp only at hns₁ hsb₁ ⊢
  generalize hH2 : hp.push { cls := .type "list", dict := none, data := .seq ([] : List Value).toArray } = H2 at hns₁ hsb₁ ⊢
  have hC : H2.objs.size = hp.objs.size + 1 := by rw [← hH2, Heap.size_push]
  have hDC : hp.objs.size ≠ H2.objs.size := by rw [hC]; exact Nat.ne_of_lt (Nat.lt_succ_self _)
  have hCle : hp.objs.size ≤ H2.objs.size := by rw [hC]; exact Nat.le_succ _
  have below : ∀ b, b < hp.objs.size → b ≠ H2.objs.size ∧ b ≠ hp.objs.size := fun b hb => ⟨by rw [hC]; exact Nat.ne_of_lt (Nat.lt_succ_of_lt hb), Nat.ne_of_lt hb⟩
  have hDf : hp.objs.size ∉ fp := fun hm => Nat.lt_irrefl _ (hfp _ hm)
  have hCf : H2.objs.size ∉ fp := fun hm => by have := hfp _ hm; rw [hC] at this; exact Nat.lt_irrefl _ (Nat.lt_of_succ_lt this)
  have old : ∀ b o, hp.get? b = some o → h₁.get? b = some o := fun b o e => hsb₁.extBut b o (below b (Heap.lt_size e)).1 (Heap.get?_push_of_some _ (hH2 ▸ Heap.get?_push_of_some _ e))
  have hacc : h₁.PlainList hp.objs.size #[] := ⟨_, hsb₁.extBut _ _ hDC (Heap.get?_push_of_some _ (hH2 ▸ Heap.get?_push_size _ rfl))⟩
  have hst₁ : St 0 h₁ := W.frame _ _ _ hst fun b _ o e => old b o e
  have hB := binderL (prog := prog) (w := w) (A := A) (cenv := compEnvC scope cl H2.objs.size env) (x := x) (px := px) (lookup_relabel_local hx) hkind
  have loop : ∀ s₃ : Shared, s₃ = ⟨h₁, g, d, t + ([] : List (Str × Value)).length, os⟩ →
      codeAny (model prog w) A (.compLoop (.ListComp elt [⟨.Name x px, iter, [], 0⟩] scope pos) 0 (.ref I) (.ref hp.objs.size) (compEnvC scope cl H2.objs.size env))
        (RR (.ref hp.objs.size) H2.objs.size) s₃ := by
    rintro s₃ rfl
    refine compLoopB W hI hB FF (fun q => hDC (List.mem_singleton.mp q)) hDf (fun b hb q => hCf (by rw [List.mem_singleton.mp hb] at q; exact q)) hn (ov := none) hst₁ ⟨_, hns₁, fun v e => by cases e⟩ hacc (fun i v h₂ t₂ hi hP hb hk => ?_) fun h' t' ys hm hl hlen hF hk => ?_
    · obtain ⟨m, hn, hm⟩ := hb
      exact helt _ i v h₂ t₂ m hCle hi hP hn (hm v rfl) fun b o q e => hk b o (fun r => (below b (Heap.lt_size e)).1 (List.mem_singleton.mp r)) q (below b (Heap.lt_size e)).2 (old b o e)
    · refine hRR _ _ h' t' ys (Nat.le_refl _) hCle hDC hm hl hlen (fun i y e => FF.mono _ _ _ _ _ (hF i y e) fun b o q e' => ⟨?_, ?_, ?_⟩) fun b o q e => hk b o (fun r => (below b (Heap.lt_size e)).1 (List.mem_singleton.mp r)) q (below b (Heap.lt_size e)).2 (old b o e)
      · cases e0 : hp.get? b with
        | none => rfl
        | some o' => rw [old _ _ e0] at q; cases q
      · rintro rfl; obtain ⟨_, e1⟩ := hacc; rw [e1] at q; cases q
      · rintro rfl; obtain ⟨_, _, _, e1, _⟩ := hns₁; rw [e1] at q; cases q
  exact codeAny_compStart_list (loop _ rfl) (W.self 0 _ _ _ hst₁ (loop _ rfl))

theorem evN {elt iter : Expr} {x : Str} {px : Pos} {scope : Scope} {cl : List (Str × Addr)} {pos : Pos} {env : Env} {Q : Value → Shared → Prop} {s : Shared}
    {F : (Addr → Prop) → Heap → Nat → Value → Prop} (FF : Foot F) (hclos : closureFor scope env = pure cl)
    (hcell : ∀ y ∈ scope.names, y.2 ≠ .cell) (hkind : scope.kind = .function) (hnames : ∀ y ∈ scope.names, y.2 = .local → scope.names.lookup y.1 = some .local) (hx : scope.names.lookup x = some .local)
    (h : wpAny (model prog w) A (eval iter env) (fun xv s₁ => wpAny (model prog w) A (pyIter xv) (fun it s₂ => ∃ I fp n P St hq tq hb, it = .ref I ∧ s₂ = ⟨hq, g, d, tq, os⟩ ∧ Keep hb hq ∧ hb.objs.size ≤ I ∧ Walks prog w A I fp [I] n P St ∧ (∀ i h, St i h → ∃ o, h.get? I = some o) ∧ n ≤ 10000 ∧ St 0 hq ∧ (∀ b ∈ fp, b < hq.objs.size) ∧
      (∀ C i v h₁ t₁ m, hb.objs.size ≤ C → i < n → P i v → h₁.Ns C m → m x = some v → Keep hb h₁ →
        wpAny (model prog w) A (eval elt (compEnvC scope cl C env)) (fun y s' => ∃ h' t', s' = ⟨h', g, d, t', os⟩ ∧ Keep h₁ h' ∧ F (fun b => h₁.get? b = none) h' i y) NoE ⟨h₁, g, d, t₁, os⟩) ∧
      (∀ D h' t' (ys : List Value), hb.objs.size ≤ D → h'.PlainList D ys.toArray → ys.length = n → (∀ i y, ys[i]? = some y → F (fun b => hb.get? b = none ∧ b ≠ D) h' i y) →
        Keep hb h' → Q (.ref D) ⟨h', g, d, t', os⟩)) E s₁) E s)
    (hs : ∀ x, foldedSetIterable iter env x = pure x := by intro _; rfl) :
    wpAny (model prog w) A (eval (.ListComp elt [⟨.Name x px, iter, [], 0⟩] scope pos) env) Q E s := by
  rw [eval_ListComp]
  refine wpAny_comprehension_free (use := none) rfl hs hclos hkind hnames (wpAny_mono h (fun xv s₁ h₁ => wpAny_mono h₁ (fun it s₂ h₂ => ?_) fun _ _ e => e) fun _ _ e => e)
  obtain ⟨I, fp, n, P, St, hq, tq, hb, rfl, rfl, kb, hbI, W, hI, hn, hst, hfp, helt, hQ⟩ := h₂
  have hIq : I < hq.objs.size := let ⟨o, e⟩ := hI _ _ hst; Heap.lt_size e
  have hbq : hb.objs.size ≤ hq.objs.size := Nat.le_trans hbI (Nat.le_of_lt hIq)
  have nI : ∀ b o, hb.get? b = some o → b ≠ I := fun b o e => Nat.ne_of_lt (Nat.lt_of_lt_of_le (Heap.lt_size e) hbI)
  refine blkN (RR := fun acc C => compPost (model prog w) A E none Q acc C) W hI FF hcell hkind hx hn hst hfp (fun C i v h₁ t₁ m hC hi hP hns hm hk => helt C i v h₁ t₁ m (Nat.le_trans hbq hC) hi hP hns hm fun b o e => hk b o (nI b o e) (kb b o e)) ?_
  intro D C h' t' ys hD hC hDC hm hl hlen hF hk
  obtain ⟨m, hm⟩ := hm
  refine ⟨m, hm, fun h'' hs'' => hQ D h'' t' ys (Nat.le_trans hbq hD) (hl.extBut hs''.extBut hDC) hlen (fun i y e => FF.mono _ _ _ _ _ (FF.keep _ _ _ _ _ (hF i y e) fun b o q e' => hs''.extBut b o q.2.2 e') fun b o q _ => ⟨noneOf kb q.1, q.2.1⟩) fun b o e => hs''.extBut b o ?_ (hk b o (nI b o e) (kb b o e))⟩
  rintro rfl
  exact absurd (Heap.lt_size e) (Nat.not_lt.mpr (Nat.le_trans hbq hC))

/-- a comprehension stored under a local of a frame with cells -/
theorem asN {elt iter : Expr} {x y : Str} {px py : Pos} {scope : Scope} {cl : List (Str × Addr)} {pos spos : Pos} {env : Env} {Q : Flow → Shared → Prop} {s : Shared} {h₀ : Heap}
    {F : (Addr → Prop) → Heap → Nat → Value → Prop} (FF : Foot F) (hsw : swapsWith (.ListComp elt [⟨.Name x px, iter, [], 0⟩] scope pos) (some (.Name y py)) spos.line env = pure true) (hclos : closureFor scope env = pure cl)
    (hcell : ∀ y ∈ scope.names, y.2 ≠ .cell) (hkind : scope.kind = .function) (hnames : ∀ y ∈ scope.names, y.2 = .local → scope.names.lookup y.1 = some .local) (hx : scope.names.lookup x = some .local)
    (hy : env.kindOf y = some .local) (hek : env.scope.kind = .function)
    (h : wpAny (model prog w) A (eval iter env) (fun xv s₁ => wpAny (model prog w) A (pyIter xv) (fun it s₂ => ∃ I fp n P St hq tq hb m cm, it = .ref I ∧ s₂ = ⟨hq, g, d, tq, os⟩ ∧ Fc h₀ env hb m cm ∧ Keep hb hq ∧ hb.objs.size ≤ I ∧ Walks prog w A I fp [I] n P St ∧ (∀ i h, St i h → ∃ o, h.get? I = some o) ∧ n ≤ 10000 ∧ St 0 hq ∧ (∀ b ∈ fp, b < hq.objs.size) ∧
      (∀ C i v h₁ t₁ m, hb.objs.size ≤ C → i < n → P i v → h₁.Ns C m → m x = some v → Keep hb h₁ →
        wpAny (model prog w) A (eval elt (compEnvC scope cl C env)) (fun y s' => ∃ h' t', s' = ⟨h', g, d, t', os⟩ ∧ Keep h₁ h' ∧ F (fun b => h₁.get? b = none) h' i y) NoE ⟨h₁, g, d, t₁, os⟩) ∧
      (∀ D h' t' (ys : List Value), hb.objs.size ≤ D → h'.PlainList D ys.toArray → ys.length = n → (∀ i y, ys[i]? = some y → F (fun b => hb.get? b = none ∧ b ≠ D) h' i y) → Fc h₀ env h' (fun z => if z = y then some (.ref D) else m z) cm →
        KeepL env.locals hb h' → Q .next ⟨h', g, d, t', os⟩)) E s₁) E s)
    (hs : ∀ x, foldedSetIterable iter env x = pure x := by intro _; rfl) :
    wpAny (model prog w) A (exec (.Assign [.Name y py] (.ListComp elt [⟨.Name x px, iter, [], 0⟩] scope pos) spos) env) Q E s := by
  rw [exec_Assign_Name_used _ _ _ _ hsw]
  refine wpAny_bind (wpAny_standAt (wpAny_bind ?_))
  show wpAny _ A (do let _ ← comprehension (.ListComp elt [⟨.Name x px, iter, [], 0⟩] scope pos) scope env _ (newList []) false (eval iter env) (some (assign (.Name y py) env))) _ _ s
  refine wpAny_bind (wpAny_mono (wpAny_comprehension_free (use := some (assign (.Name y py) env)) (Q := fun _ s' => Q .next s') rfl hs hclos hkind hnames
    (wpAny_mono h (fun xv s₁ h₁ => wpAny_mono h₁ (fun it s₂ h₂ => ?_) fun _ _ e => e) fun _ _ e => e)) (fun _ s' hq => wpAny_pure (wpAny_pure hq)) fun _ _ e => e)
  obtain ⟨I, fp, n, P, St, hq, tq, hb, m, cm, rfl, rfl, Fr, kb, hbI, W, hI, hn, hst, hfp, helt, hQ⟩ := h₂
  have hIq : I < hq.objs.size := let ⟨o, e⟩ := hI _ _ hst; Heap.lt_size e
  have hbq : hb.objs.size ≤ hq.objs.size := Nat.le_trans hbI (Nat.le_of_lt hIq)
  have nI : ∀ b o, hb.get? b = some o → b ≠ I := fun b o e => Nat.ne_of_lt (Nat.lt_of_lt_of_le (Heap.lt_size e) hbI)
  refine blkN (RR := fun acc C => compPost (model prog w) A E (some (assign (.Name y py) env)) (fun _ s' => Q .next s') acc C) W hI FF hcell hkind hx hn hst hfp (fun C i v h₁ t₁ m hC hi hP hns hm hk => helt C i v h₁ t₁ m (Nat.le_trans hbq hC) hi hP hns hm fun b o e => hk b o (nI b o e) (kb b o e)) ?_
  intro D C h' t' ys hD hC hDC hm hl hlen hF hk
  obtain ⟨m', hm⟩ := hm
  have hLq : env.locals < hb.objs.size := Fr.ns.lt
  have hkb : Keep hb h' := fun b o e => hk b o (nI b o e) (kb b o e)
  have hkF := Fr.keeps hkb
  show wpAny _ A (assign (.Name y py) env (.ref D)) _ _ _
  refine wpAny_assign_Name (csL hkF (fun h₂ t₂ F₂ hs₂ => ?_) hy hek)
  have kC : ∀ b, b < hb.objs.size → b ≠ C := fun b hb' => Nat.ne_of_lt (Nat.lt_of_lt_of_le hb' (Nat.le_trans hbq hC))
  have hLC : env.locals ≠ C := kC _ hLq
  have hLD : env.locals ≠ D := Nat.ne_of_lt (Nat.lt_of_lt_of_le hLq (Nat.le_trans hbq hD))
  refine ⟨m', hm.sameBut hs₂ (Ne.symm hLC), fun h₃ hs₃ => ?_⟩
  have F₃ : Fc h₀ env h₃ (fun z => if z = y then some (.ref D) else m z) cm := ⟨F₂.ns.sameBut hs₃ hLC, fun k c hc => (F₂.cell k c hc).sameBut hs₃ (kC _ (Fr.cell k c hc).lt), F₂.apart, F₂.above, fun b o hb' e => hs₃.extBut b o (kC _ (Nat.lt_of_lt_of_le (Heap.lt_size e) (Nat.le_trans Fr.base (Nat.le_of_lt hLq)))) (F₂.keep b o hb' e), F₂.base, F₂.far,
    (F₂.code.sameBut hs₃ (kC _ (Nat.lt_trans Fr.far hLq)) (kC _ (Nat.lt_trans Fr.far72 hLq)))⟩
  refine hQ D h₃ _ ys (Nat.le_trans hbq hD) ((hl.extBut hs₂.extBut (Ne.symm hLD)).extBut hs₃.extBut hDC) hlen (fun i y e => FF.mono _ _ _ _ _ (FF.keep _ _ _ _ _ (hF i y e) fun b o q e' => hs₃.extBut b o q.2.2 (hs₂.extBut b o ?_ e')) fun b o q _ => ⟨noneOf kb q.1, q.2.1⟩) F₃ fun b o q2 e => hs₃.extBut b o (kC _ (Heap.lt_size e)) (hs₂.extBut b o q2 (hkb b o e))
  rintro rfl
  obtain ⟨o', _, _, e1, _⟩ := Fr.ns
  have := noneOf kb q.1
  rw [e1] at this; cases this
end
end Mine

open PySem PySem.W PyProof.Rows
namespace Mine
set_option maxRecDepth 100000
section
variable {prog : Program} {w : World} {A : Around} {E : Value → Shared → Prop} {hp : Heap} {g : Array GenState} {d : Drawn} {t : Nat} {os : OsState}

theorem mkEnvC {M : Model} {scope : Scope} {globals : Addr} {cl : List (Str × Addr)} {qual : Str} {env : Env} {x : Str} {Q : Env → Shared → Prop}
    (hcells : ∀ n acc, cellsFrom n scope.names acc = (x, n) :: acc) (hpush : ∀ h, pushCells h scope.names = h.push { cls := .type "cell", data := .cell none })
    (h : Q { scope, locals := hp.objs.size, globals, cells := (x, hp.objs.size + 1) :: cl, qual, func := none, code := env.code, frame := env.frame, builtins := env.builtins } ⟨(hp.push { cls := .type "dict", data := .dict #[] }).push { cls := .type "cell", data := .cell none }, g, d, t, os⟩) :
    wpAny M A (newFunctionEnv scope globals cl [] qual none .none (some env)) Q E ⟨hp, g, d, t, os⟩ := by
  simp only [newFunctionEnv, Option.isSome_some, if_true]
  refine wpAny_bind (wpAny_alloc ?_)
  refine wpAny_bind (wpAny_layCells _ (fun name kind cells => by cases hkc : kind == NameKind.cell <;> simp [hkc]) _ _ _ _ ?_)
  rw [hcells, hpush]
  show wpAny M A (forIn [] PUnit.unit _ >>= _) Q E _
  rw [List.forIn_nil]
  refine wpAny_bind (wpAny_pure (wpAny_pure ?_))
  rw [show ({ heap := hp.push { cls := .type "dict", data := .dict #[] }, gens := g, drawn := d, toks := t, os := os } : Shared).heap.objs.size = hp.objs.size + 1 from Heap.size_push ..]
  exact h

/-- the block of a comprehension, its name a cell -/
theorem blkC {elt iter : Expr} {x : Str} {px : Pos} {scope : Scope} {cl : List (Str × Addr)} {pos : Pos} {env : Env} {I : Addr} {fp : List Addr} {n : Nat} {P : Nat → Value → Prop} {St : Nat → Heap → Prop} {RR : Value → Addr → Result → Shared → Prop}
    {F : (Addr → Prop) → Heap → Nat → Value → Prop} (W : Walks prog w A I fp [I] n P St) (hI : ∀ i h, St i h → ∃ o, h.get? I = some o) (FF : Foot F)
    (hcells : ∀ n acc, cellsFrom n scope.names acc = (x, n) :: acc) (hpush : ∀ h, pushCells h scope.names = h.push { cls := .type "cell", data := .cell none }) (hkind : scope.kind = .function) (hx : (relabel scope env).names.lookup x = some .cell) (hn : n ≤ 10000) (hst : St 0 hp) (hfp : ∀ b ∈ fp, b < hp.objs.size)
    (helt : ∀ C K i v h₁ t₁, hp.objs.size ≤ C → hp.objs.size ≤ K → i < n → P i v → (∃ m, h₁.Ns C m) → h₁.IsCell K (some v) → (∀ b o, b ≠ I → hp.get? b = some o → h₁.get? b = some o) →
      wpAny (model prog w) A (eval elt (compEnvC scope ((x, K) :: cl) C env)) (fun y s' => ∃ h' t', s' = ⟨h', g, d, t', os⟩ ∧ Keep h₁ h' ∧ F (fun b => h₁.get? b = none) h' i y) NoE ⟨h₁, g, d, t₁, os⟩)
    (hRR : ∀ D C h' t' (ys : List Value), hp.objs.size ≤ D → hp.objs.size ≤ C → D ≠ C → (∃ m, h'.Ns C m) → h'.PlainList D ys.toArray → ys.length = n → (∀ i y, ys[i]? = some y → F (fun b => hp.get? b = none ∧ b ≠ D ∧ b ≠ C) h' i y) →
      (∀ b o, b ≠ I → hp.get? b = some o → h'.get? b = some o) → RR (.ref D) C (.ok .next) ⟨h', g, d, t', os⟩) :
    wpAny (model prog w) A (newList []) (fun acc s₃ => wpAny (model prog w) A (newFunctionEnv scope env.globals cl [] env.qual none .none (some env)) (fun cenv s₄ =>
      codeAny (model prog w) A (.compStart (.ListComp elt [⟨.Name x px, iter, [], 0⟩] scope pos) 0 (.ref I) acc { cenv with scope := relabel scope env }) (RR acc cenv.locals) s₄) E s₃) E ⟨hp, g, d, t, os⟩ := by
  refine wpAny_newObj_type ?_
  show wpAny _ _ (newFunctionEnv scope env.globals cl [] env.qual none .none (some env)) _ _ ⟨hp.push { cls := .type "list", dict := none, data := .seq ([] : List Value).toArray }, g, d, t, os⟩
  generalize hH2 : hp.push { cls := .type "list", dict := none, data := .seq ([] : List Value).toArray } = H2
  refine mkEnvC hcells hpush ?_
  have hns₁ : ((H2.push { cls := .type "dict", data := .dict #[] }).push { cls := .type "cell", data := .cell none }).Ns H2.objs.size (fun _ => none) := (Heap.Ns.new H2 (.type "dict")).keeps fun b o e => Heap.get?_push_of_some _ e
  have hK₁ : ((H2.push { cls := .type "dict", data := .dict #[] }).push { cls := .type "cell", data := .cell none }).IsCell (H2.objs.size + 1) none := by
    have := Heap.get?_push_size (H2.push { cls := .type "dict", data := .dict #[] }) (o := { cls := .type "cell", data := .cell none }) rfl
    rw [Heap.size_push] at this
    exact ⟨_, this, rfl⟩
  have k₁ : Keep H2 ((H2.push { cls := .type "dict", data := .dict #[] }).push { cls := .type "cell", data := .cell none }) := fun b o e => Heap.get?_push_of_some _ (Heap.get?_push_of_some _ e)
  generalize ((H2.push { cls := .type "dict", data := .dict #[] }).push { cls := .type "cell", data := .cell none }) = h₁ at hns₁ hK₁ k₁ ⊢
  have hC : H2.objs.size = hp.objs.size + 1 := by rw [← hH2, Heap.size_push]
  generalize hCe : H2.objs.size = C at *
  generalize hKe : C + 1 = K at *
  have hCK : C ≠ K := by rw [← hKe]; exact Nat.ne_of_lt (Nat.lt_succ_self _)
  have hDC : hp.objs.size < C := by rw [hC]; exact Nat.lt_succ_self _
  have hDK : hp.objs.size < K := by rw [← hKe]; exact Nat.lt_succ_of_lt hDC
  have below : ∀ b, b < hp.objs.size → b ≠ C ∧ b ≠ K ∧ b ≠ hp.objs.size := fun b hb => ⟨Nat.ne_of_lt (Nat.lt_trans hb hDC), Nat.ne_of_lt (Nat.lt_trans hb hDK), Nat.ne_of_lt hb⟩
  have hDf : hp.objs.size ∉ fp := fun hm => Nat.lt_irrefl _ (hfp _ hm)
  have hCf : C ∉ fp := fun hm => Nat.lt_irrefl _ (Nat.lt_trans hDC (hfp _ hm))
  have hKf : K ∉ fp := fun hm => Nat.lt_irrefl _ (Nat.lt_trans hDK (hfp _ hm))
  have old : ∀ b o, hp.get? b = some o → h₁.get? b = some o := fun b o e => k₁ _ _ (hH2 ▸ Heap.get?_push_of_some _ e)
  have hacc : h₁.PlainList hp.objs.size #[] := ⟨_, k₁ _ _ (hH2 ▸ Heap.get?_push_size _ rfl)⟩
  have hst₁ : St 0 h₁ := W.frame _ _ _ hst fun b _ o e => old b o e
  have hB := binderC (prog := prog) (w := w) (A := A) (cenv := compEnvC scope ((x, K) :: cl) C env) (x := x) (px := px) (K := K) hx hkind (by show List.lookup x ((x, K) :: cl) = some K; simp) hCK
  have loop : ∀ s₃ : Shared, s₃ = ⟨h₁, g, d, t, os⟩ →
      codeAny (model prog w) A (.compLoop (.ListComp elt [⟨.Name x px, iter, [], 0⟩] scope pos) 0 (.ref I) (.ref hp.objs.size) (compEnvC scope ((x, K) :: cl) C env))
        (RR (.ref hp.objs.size) C) s₃ := by
    rintro s₃ rfl
    refine compLoopB W hI hB FF (fun q => ?_) hDf (fun b hb q => ?_) hn (ov := none) hst₁ ⟨⟨_, hns₁⟩, hK₁⟩ hacc (fun i v h₂ t₂ hi hP hb hk => ?_) fun h' t' ys hm hl hlen hF hk => ?_
    · rcases List.mem_cons.mp q with q | q
      · exact absurd hDC (by rw [← (show hp.objs.size = C from q)]; exact Nat.lt_irrefl _)
      · exact absurd hDK (by rw [← List.mem_singleton.mp q]; exact Nat.lt_irrefl _)
    · rcases List.mem_cons.mp hb with r | r
      · exact hCf (by rw [r] at q; exact q)
      · exact hKf (by rw [List.mem_singleton.mp r] at q; exact q)
    · have own : ∀ b, b < hp.objs.size → b ∉ [(compEnvC scope ((x, K) :: cl) C env).locals, K] := fun b hb q => by
        rcases List.mem_cons.mp q with q | q
        · exact (below b hb).1 q
        · exact (below b hb).2.1 (List.mem_singleton.mp q)
      exact helt _ K i v h₂ t₂ (Nat.le_of_lt hDC) (Nat.le_of_lt hDK) hi hP hb.1 hb.2 fun b o q e => hk b o (own b (Heap.lt_size e)) q (below b (Heap.lt_size e)).2.2 (old b o e)
    · have own : ∀ b, b < hp.objs.size → b ∉ [(compEnvC scope ((x, K) :: cl) C env).locals, K] := fun b hb q => by
        rcases List.mem_cons.mp q with q | q
        · exact (below b hb).1 q
        · exact (below b hb).2.1 (List.mem_singleton.mp q)
      refine hRR _ _ h' t' ys (Nat.le_refl _) (Nat.le_of_lt hDC) (Nat.ne_of_lt hDC) hm hl hlen (fun i y e => FF.mono _ _ _ _ _ (hF i y e) fun b o q e' => ⟨?_, ?_, ?_⟩) fun b o q e => hk b o (own b (Heap.lt_size e)) q (below b (Heap.lt_size e)).2.2 (old b o e)
      · cases e0 : hp.get? b with
        | none => rfl
        | some o' => rw [old _ _ e0] at q; cases q
      · rintro rfl; obtain ⟨_, e1⟩ := hacc; rw [e1] at q; cases q
      · rintro rfl; obtain ⟨_, _, _, e1, _⟩ := hns₁; rw [e1] at q; cases q
  exact codeAny_compStart_list (loop _ rfl) (W.self 0 _ _ _ hst₁ (loop _ rfl))

/-- a comprehension stored under a local of a frame with cells -/
theorem asC {elt iter : Expr} {x y : Str} {px py : Pos} {scope : Scope} {cl : List (Str × Addr)} {pos spos : Pos} {env : Env} {Q : Flow → Shared → Prop} {s : Shared} {h₀ : Heap}
    {F : (Addr → Prop) → Heap → Nat → Value → Prop} (FF : Foot F) (hsw : swapsWith (.ListComp elt [⟨.Name x px, iter, [], 0⟩] scope pos) (some (.Name y py)) spos.line env = pure true) (hclos : closureFor scope env = pure cl)
    (hcells : ∀ n acc, cellsFrom n scope.names acc = (x, n) :: acc) (hpush : ∀ h, pushCells h scope.names = h.push { cls := .type "cell", data := .cell none }) (hkind : scope.kind = .function) (hnames : ∀ y ∈ scope.names, y.2 = .local → scope.names.lookup y.1 = some .local) (hx : (relabel scope env).names.lookup x = some .cell)
    (hy : env.kindOf y = some .local) (hek : env.scope.kind = .function)
    (h : wpAny (model prog w) A (eval iter env) (fun xv s₁ => wpAny (model prog w) A (pyIter xv) (fun it s₂ => ∃ I fp n P St hq tq hb m cm, it = .ref I ∧ s₂ = ⟨hq, g, d, tq, os⟩ ∧ Fc h₀ env hb m cm ∧ Keep hb hq ∧ hb.objs.size ≤ I ∧ Walks prog w A I fp [I] n P St ∧ (∀ i h, St i h → ∃ o, h.get? I = some o) ∧ n ≤ 10000 ∧ St 0 hq ∧ (∀ b ∈ fp, b < hq.objs.size) ∧
      (∀ C K i v h₁ t₁, hb.objs.size ≤ C → hb.objs.size ≤ K → i < n → P i v → (∃ m, h₁.Ns C m) → h₁.IsCell K (some v) → Keep hb h₁ →
        wpAny (model prog w) A (eval elt (compEnvC scope ((x, K) :: cl) C env)) (fun y s' => ∃ h' t', s' = ⟨h', g, d, t', os⟩ ∧ Keep h₁ h' ∧ F (fun b => h₁.get? b = none) h' i y) NoE ⟨h₁, g, d, t₁, os⟩) ∧
      (∀ D h' t' (ys : List Value), hb.objs.size ≤ D → h'.PlainList D ys.toArray → ys.length = n → (∀ i y, ys[i]? = some y → F (fun b => hb.get? b = none ∧ b ≠ D) h' i y) → Fc h₀ env h' (fun z => if z = y then some (.ref D) else m z) cm →
        KeepL env.locals hb h' → Q .next ⟨h', g, d, t', os⟩)) E s₁) E s)
    (hs : ∀ x, foldedSetIterable iter env x = pure x := by intro _; rfl) :
    wpAny (model prog w) A (exec (.Assign [.Name y py] (.ListComp elt [⟨.Name x px, iter, [], 0⟩] scope pos) spos) env) Q E s := by
  rw [exec_Assign_Name_used _ _ _ _ hsw]
  refine wpAny_bind (wpAny_standAt (wpAny_bind ?_))
  show wpAny _ A (do let _ ← comprehension (.ListComp elt [⟨.Name x px, iter, [], 0⟩] scope pos) scope env _ (newList []) false (eval iter env) (some (assign (.Name y py) env))) _ _ s
  refine wpAny_bind (wpAny_mono (wpAny_comprehension_free (use := some (assign (.Name y py) env)) (Q := fun _ s' => Q .next s') rfl hs hclos hkind hnames
    (wpAny_mono h (fun xv s₁ h₁ => wpAny_mono h₁ (fun it s₂ h₂ => ?_) fun _ _ e => e) fun _ _ e => e)) (fun _ s' hq => wpAny_pure (wpAny_pure hq)) fun _ _ e => e)
  obtain ⟨I, fp, n, P, St, hq, tq, hb, m, cm, rfl, rfl, Fr, kb, hbI, W, hI, hn, hst, hfp, helt, hQ⟩ := h₂
  have hIq : I < hq.objs.size := let ⟨o, e⟩ := hI _ _ hst; Heap.lt_size e
  have hbq : hb.objs.size ≤ hq.objs.size := Nat.le_trans hbI (Nat.le_of_lt hIq)
  have nI : ∀ b o, hb.get? b = some o → b ≠ I := fun b o e => Nat.ne_of_lt (Nat.lt_of_lt_of_le (Heap.lt_size e) hbI)
  refine blkC (RR := fun acc C => compPost (model prog w) A E (some (assign (.Name y py) env)) (fun _ s' => Q .next s') acc C) W hI FF hcells hpush hkind hx hn hst hfp (fun C K i v h₁ t₁ hC hK hi hP hns hm hk => helt C K i v h₁ t₁ (Nat.le_trans hbq hC) (Nat.le_trans hbq hK) hi hP hns hm fun b o e => hk b o (nI b o e) (kb b o e)) ?_
  intro D C h' t' ys hD hC hDC hm hl hlen hF hk
  obtain ⟨m', hm⟩ := hm
  have hLq : env.locals < hb.objs.size := Fr.ns.lt
  have hkb : Keep hb h' := fun b o e => hk b o (nI b o e) (kb b o e)
  have hkF := Fr.keeps hkb
  show wpAny _ A (assign (.Name y py) env (.ref D)) _ _ _
  refine wpAny_assign_Name (csL hkF (fun h₂ t₂ F₂ hs₂ => ?_) hy hek)
  have kC : ∀ b, b < hb.objs.size → b ≠ C := fun b hb' => Nat.ne_of_lt (Nat.lt_of_lt_of_le hb' (Nat.le_trans hbq hC))
  have hLC : env.locals ≠ C := kC _ hLq
  have hLD : env.locals ≠ D := Nat.ne_of_lt (Nat.lt_of_lt_of_le hLq (Nat.le_trans hbq hD))
  refine ⟨m', hm.sameBut hs₂ (Ne.symm hLC), fun h₃ hs₃ => ?_⟩
  have F₃ : Fc h₀ env h₃ (fun z => if z = y then some (.ref D) else m z) cm := ⟨F₂.ns.sameBut hs₃ hLC, fun k c hc => (F₂.cell k c hc).sameBut hs₃ (kC _ (Fr.cell k c hc).lt), F₂.apart, F₂.above, fun b o hb' e => hs₃.extBut b o (kC _ (Nat.lt_of_lt_of_le (Heap.lt_size e) (Nat.le_trans Fr.base (Nat.le_of_lt hLq)))) (F₂.keep b o hb' e), F₂.base, F₂.far,
    (F₂.code.sameBut hs₃ (kC _ (Nat.lt_trans Fr.far hLq)) (kC _ (Nat.lt_trans Fr.far72 hLq)))⟩
  refine hQ D h₃ _ ys (Nat.le_trans hbq hD) ((hl.extBut hs₂.extBut (Ne.symm hLD)).extBut hs₃.extBut hDC) hlen (fun i y e => FF.mono _ _ _ _ _ (FF.keep _ _ _ _ _ (hF i y e) fun b o q e' => hs₃.extBut b o q.2.2 (hs₂.extBut b o ?_ e')) fun b o q _ => ⟨noneOf kb q.1, q.2.1⟩) F₃ fun b o q2 e => hs₃.extBut b o (kC _ (Heap.lt_size e)) (hs₂.extBut b o q2 (hkb b o e))
  rintro rfl
  obtain ⟨o', _, _, e1, _⟩ := Fr.ns
  have := noneOf kb q.1
  rw [e1] at this; cases this
end
end Mine

open PySem PySem.W PyProof.Rows
namespace Mine
set_option maxRecDepth 100000
def lawScope : Scope := defScope (topStmt 9)
def lawEnv (L a : Addr) (cd : Value) : Env := newEnv lawScope L 3 (cellsFrom (L + 1) lawScope.names []) (Str.ofString "law" ++ ".<locals>.") (some a) cd none 0
def lawFrom (k : Nat) : List Stmt := (defBody (topStmt 9)).drop k
/-- off the law's frame, its cells and the table of inner code -/
def Sf (L b : Addr) : Prop := b ≠ 72 ∧ ¬ (L ≤ b ∧ b ≤ L + 7)
theorem Sf.of_lt {L b : Addr} (hL : 76 < L) (h : L + 7 < b) : Sf L b := ⟨Nat.ne_of_gt (Nat.lt_trans (Nat.lt_trans (by decide) hL) (Nat.lt_of_le_of_lt (Nat.le_add_right _ _) h)), fun q => Nat.not_lt.mpr q.2 h⟩
theorem Sf.ne {L b : Addr} (x : Sf L b) : b ≠ L := fun q => x.2 ⟨by rw [q]; exact Nat.le_refl _, by rw [q]; exact Nat.le_add_right _ _⟩
theorem Sf.neC {L b : Addr} {j : Nat} (x : Sf L b) (hj : j ≤ 7) : b ≠ L + j := fun q => x.2 ⟨by rw [q]; exact Nat.le_add_right _ _, by rw [q]; exact Nat.add_le_add_left hj _⟩
abbrev KeepS (L : Addr) (h h' : Heap) : Prop := ∀ b o, Sf L b → h.get? b = some o → h'.get? b = some o
/-- a list of ints off the frame -/
def LI (L : Addr) (h : Heap) (a : Addr) (cs : List Int) : Prop := Sf L a ∧ ∃ vs, h.IsList a (List.toArray vs) ∧ IntsAre vs cs
theorem LI.keep {L : Addr} {h h' : Heap} {a : Addr} {cs : List Int} (x : LI L h a cs) (k : KeepS L h h') : LI L h' a cs :=
  let ⟨p, vs, hl, hi⟩ := x; ⟨p, vs, hl.at fun o e => k _ o p e, hi⟩
theorem KeepS.of {L : Addr} {h h' : Heap} (k : Keep h h') : KeepS L h h' := fun b o _ e => k b o e
theorem KeepS.trans {L : Addr} {h h' h'' : Heap} (k : KeepS L h h') (k' : KeepS L h' h'') : KeepS L h h'' := fun b o q e => k' b o q (k b o q e)
theorem KeepS.same {L : Addr} {h h' : Heap} {j : Nat} (hs : Heap.SameBut (L + j) h h') (hj : j ≤ 7) : KeepS L h h' := fun b o q e => hs.extBut b o (q.neC hj) e
theorem KeepS.sameL {L : Addr} {h h' : Heap} (hs : Heap.SameBut L h h') : KeepS L h h' := fun b o q e => hs.extBut b o q.ne e
theorem KeepS.ofT {L : Addr} {h h' : Heap} (k : KeepT h h') : KeepS L h h' := fun b o q e => k b o q.1 e
theorem KeepS.ofL {L : Addr} {h h' : Heap} (k : KeepL L h h') : KeepS L h h' := fun b o q e => k b o q.ne e

theorem sum_take_bound (B : Nat) : ∀ (cs : List Int), (∀ x ∈ cs, x.natAbs ≤ B) → cs.sum.natAbs ≤ cs.length * B
  | [], _ => by simp
  | x :: r, h => by
    have h1 := h x (by simp)
    have h2 := sum_take_bound B r fun y hy => h y (by simp [hy])
    rw [List.sum_cons, List.length_cons, Nat.succ_mul]
    omega
theorem preSum_take (cs : List Int) : ∀ j, j ≤ cs.length → preSum (fun i => cs.getD i 0) j = (cs.take j).sum
  | 0, _ => by simp [preSum]
  | j + 1, h => by
    rw [preSum, preSum_take cs j (by omega)]
    rw [List.take_succ_eq_append_getElem (by omega), List.sum_append]
    simp [List.getD_eq_getElem?_getD, show j < cs.length by omega]

section
variable {prog : Program} {w : World} {A : Around} {E : Value → Shared → Prop} {hp : Heap} {g : Array GenState} {d : Drawn} {t : Nat} {os : OsState}
theorem iterL {l : Addr} {vs : List Value} (hl : hp.IsList l vs.toArray) : (hp.push { cls := .type "list_iterator", data := .fields #[.ref l, .int 0 0] }).IsListIter hp.objs.size l 0 ∧ (hp.push { cls := .type "list_iterator", data := .fields #[.ref l, .int 0 0] }).IsList l vs.toArray :=
  ⟨⟨_, Heap.get?_push_size _ rfl, rfl, rfl⟩, hl.push _⟩
theorem sumI {l : Addr} {vs : List Value} {cs : List Int} {Q : Value → Shared → Prop} (hA : A.handled = none) (hl : hp.IsList l vs.toArray) (hi : IntsAre vs cs) (hb : ∀ x ∈ cs, x.natAbs ≤ 2 ^ 40) (hn : cs.length ≤ 1000)
    (h : ∀ h' t' u, Keep hp h' → Q (.int cs.sum u) ⟨h', g, d, t', os⟩) : wpAny (model prog w) A (call (.builtin "sum") [.ref l]) Q E ⟨hp, g, d, t, os⟩ := by
  have hlt : l < hp.objs.size := by obtain ⟨o, e, _⟩ := hl; exact Heap.lt_size e
  have hlen := hi.length
  have W := Walks.list (prog := prog) (w := w) (A := A.in1) hA hp.objs.size l (Nat.ne_of_lt hlt) vs.toArray
  have hz : vs.toArray.size = cs.length := by simp [hlen]
  rw [hz] at W
  refine call_sum_walk (wpAny_pyIter_list hl ⟨hp.objs.size, _, _, cs.length, _, _, fun i => cs.getD i 0, rfl, W, iterL hl, ?_, ?_, ?_, ?_⟩)
  · intro b hb
    rcases List.mem_cons.mp hb with rfl | q
    · show _ < (hp.push _).objs.size; rw [Heap.size_push]; exact Nat.lt_succ_self _
    · rw [List.mem_singleton.mp q]; show _ < (hp.push _).objs.size; rw [Heap.size_push]; exact Nat.lt_succ_of_lt hlt
  · intro i v e
    have e' : vs[i]? = some v := by simpa using e
    obtain ⟨u, hu⟩ := hi.int_at i v e'
    exact ⟨u, hu⟩
  · intro j hj
    have b1 : (cs.getD j 0).natAbs ≤ 2 ^ 40 := by
      rw [List.getD_eq_getElem?_getD, List.getElem?_eq_getElem hj]
      exact hb _ (List.getElem_mem hj)
    have b2 := sum_take_bound (2 ^ 40) (cs.take (j + 1)) fun x hx => hb x (List.mem_of_mem_take hx)
    rw [preSum_take cs (j + 1) (by omega)]
    have b3 : (cs.take (j + 1)).length ≤ 1000 := by rw [List.length_take]; omega
    have b4 : (cs.take (j + 1)).length * 2 ^ 40 ≤ 1000 * 2 ^ 40 := Nat.mul_le_mul_right _ b3
    show InLong (cs.getD j 0) ∧ InLong _
    unfold InLong
    omega
  · intro h' tk t' hk
    have := h h' tk t' (fun b o e => hk b o (fun hm => by rw [List.mem_singleton.mp hm] at e; exact absurd (Heap.lt_size e) (Nat.lt_irrefl _)) (Heap.get?_push_of_some _ e))
    rw [preSum_take cs cs.length (Nat.le_refl _), List.take_length]
    exact this
theorem maxI {l : Addr} {vs : List Value} {cs : List Int} {Q : Value → Shared → Prop} (hA : A.handled = none) (hl : hp.IsList l vs.toArray) (hi : IntsAre vs cs) (hn : 0 < cs.length)
    (h : ∀ h' t' M u, Keep hp h' → M ∈ cs → (∀ a ∈ cs, a ≤ M) → Q (.int M u) ⟨h', g, d, t', os⟩) : wpAny (model prog w) A (call (.builtin "max") [.ref l]) Q E ⟨hp, g, d, t, os⟩ := by
  have hnum := hi.numsOf
  have hlen := hi.length
  obtain ⟨xs, e⟩ := hi.allInts.items
  have e2 : vs = (intItems xs).toList := by rw [← e]
  rw [e] at hl
  rw [e2, nums_intItems] at hnum
  subst hnum
  rw [List.length_map, Array.length_toList] at hn
  refine max_intList hA hl hn fun v h' tk hv hk => ?_
  obtain ⟨t, rfl⟩ := intItems_at hv
  obtain ⟨h1, h2⟩ := argBest_gt (numAt xs) (xs.size - 1)
  refine h h' tk _ t hk ?_ fun a ha => ?_
  · rw [numAt_eq]; exact getD_mem (by rw [List.length_map, Array.length_toList]; omega)
  · obtain ⟨j, hj, rfl⟩ := mem_getD ha
    rw [List.length_map, Array.length_toList] at hj
    rw [← numAt_eq]; exact h2 j (by omega)
theorem slcE {value : Expr} {lower upper : Option Expr} {p pos : Pos} {env : Env} {Q : Value → Shared → Prop} {s : Shared}
    (h : wpAny (model prog w) A (eval value env) (fun o s₁ => wpAny (model prog w) A (evalPart lower env) (fun vl s₂ => wpAny (model prog w) A (evalPart upper env) (fun vu s₃ =>
      ∃ l vs lo hi hq tq cs', s₃ = ⟨hq, g, d, tq, os⟩ ∧ o = .ref l ∧ hq.IsList l (List.toArray vs) ∧ vs.length ≤ 1000 ∧ IsPart vl lo ∧ IsPart vu hi ∧ IntsAre (slicePick vs.toArray lo hi none).toList cs' ∧
        ∀ h' D vs', Keep hq h' → hq.objs.size ≤ D → h'.IsList D (List.toArray vs') → IntsAre vs' cs' → Q (.ref D) ⟨h', g, d, tq, os⟩) E s₂) E s₁) E s)
    (ht : ∀ o r, letTemporaryGo value o r = pure () := by intro _ _; rfl) :
    wpAny (model prog w) A (eval (.Subscript value (.Slice lower upper none p) pos) env) Q E s := by
  refine wpAny_Subscript_list_slice (wpAny_mono h (fun o s₁ h₁ => wpAny_mono h₁ (fun vl s₂ h₂ => wpAny_mono h₂ (fun vu s₃ h₃ => ?_) fun _ _ q => q) fun _ _ q => q) fun _ _ q => q) ht
  obtain ⟨l, vs, lo, hi, hq, tq, cs', rfl, rfl, hl, hsz, pl, pu, hpick, hQ⟩ := h₃
  refine ⟨l, vs.toArray, lo, hi, rfl, hl, by simp only [List.size_toArray]; rw [sizeLine_eq]; omega, pl, pu, hQ _ _ _ (fun b o e => Heap.get?_push_of_some _ (Heap.get?_push_of_some _ e)) (Nat.le_succ _) ?_ hpick⟩
  have e1 := Heap.get?_push_size (hq.push { cls := .type "slice", data := .fields #[vl, vu, .none] }) (o := { cls := .type "list", data := .seq (slicePick vs.toArray lo hi none) }) rfl
  rw [Heap.size_push] at e1
  exact ⟨_, e1, rfl, 0, by simp⟩
theorem powI {a b : Int} {ta tb : Tok} {Q : Value → Shared → Prop} (ha : a = 10) (hb : b = 6) (h : ∀ u t', Q (.int 1000000 u) ⟨hp, g, d, t', os⟩) : wpAny (model prog w) A (binaryOp .Pow (.int a ta) (.int b tb)) Q E ⟨hp, g, d, t, os⟩ := by
  subst ha hb
  exact AutoIntOps.pow_4 (by decide) (by decide) (by decide) (by decide) (by decide +kernel) (h _ _)
theorem mulSp (n : Nat) : (Txt.mul " " n).cps.toList = List.replicate n 32 := by
  unfold Txt.mul
  by_cases h : n = 0
  · subst h; rfl
  · rw [if_neg (by omega)]
    by_cases h1 : n = 1
    · subst h1; rfl
    · rw [if_neg (by
        have : ((n : Int) == 1) = false := by simpa using (by omega : ¬ (n : Int) = 1)
        rw [this, space_is]; decide)]
      rw [space_is]
      have : ∀ (k : Nat) (acc : Array Nat), ((List.replicate k (#[32] : Array Nat)).foldl (· ++ ·) acc).toList = acc.toList ++ List.replicate k 32 := by
        intro k
        induction k with
        | zero => intro acc; simp
        | succ k ih => intro acc; rw [List.replicate_succ, List.foldl_cons, ih]; simp [List.replicate_succ]
      show ((List.replicate (n : Int).toNat (#[32] : Array Nat)).foldl (· ++ ·) #[]).toList = _
      rw [this]; simp
theorem strMul {n : Nat} {tx tn : Tok} {Q : Value → Shared → Prop} (hn : n ≤ 1000) (h : ∀ y u t', Str.cps y = (List.replicate n 32).toArray → Q (.str y u) ⟨hp, g, d, t', os⟩) : wpAny (model prog w) A (binaryOp .Mult (.str " " tx) (.int n tn)) Q E ⟨hp, g, d, t, os⟩ := by
  refine SB.mul (mulOk_of 16 1000 (by rw [space_is]; decide) (by omega) (by omega) (by decide) (by decide)) fun t' k => h _ _ _ ?_
  have := mulSp n
  rw [← this]
theorem strAdd {x y : Str} {tx ty : Tok} {Q : Value → Shared → Prop} (hsz : x.cps.size + y.cps.size ≤ 100000) (h : ∀ z u t', Str.cps z = x.cps ++ y.cps → Q (.str z u) ⟨hp, g, d, t', os⟩) : wpAny (model prog w) A (binaryOp .Add (.str x tx) (.str y ty)) Q E ⟨hp, g, d, t, os⟩ :=
  PyProof.Rows.add_str (fun t' tk => h (x ++ y) _ _ rfl) (by show x.cps.size + y.cps.size ≤ _; rw [sizeLine_eq]; omega)
theorem joinE : ∀ ys : List Str, (Str.join ⟨#[]⟩ ys).cps.toList = (ys.map fun y => y.cps.toList).flatten
  | [] => rfl
  | [y] => by simp [show Str.join ⟨#[]⟩ [y] = y from rfl]
  | y :: z :: r => by
    rw [show Str.join ⟨#[]⟩ (y :: z :: r) = y ++ ⟨#[]⟩ ++ Str.join ⟨#[]⟩ (z :: r) from rfl]
    show ((y.cps ++ #[]) ++ (Str.join ⟨#[]⟩ (z :: r)).cps).toList = _
    rw [Array.toList_append, joinE (z :: r)]
    simp
theorem strJoin {D : Addr} {items : Array Value} {ys : List Str} {x : Str} {tx : Tok} {Q : Value → Shared → Prop} (hl : hp.IsList D items) (hi : StrsAre items.toList ys) (hx : x.cps = #[]) (hw : (ys.map (·.length)).sum + ys.length ≤ 100000)
    (h : ∀ z u t', (Str.cps z).toList = (ys.map fun y => y.cps.toList).flatten → Q (.str z u) ⟨hp, g, d, t', os⟩) : wpAny (model prog w) A (call (.builtin "str.join") [.str x tx, .ref D]) Q E ⟨hp, g, d, t, os⟩ := by
  obtain ⟨c⟩ := x
  obtain rfl : c = #[] := hx
  refine join_listW hl hi (by decide) (by omega) fun t' k => h _ _ _ ?_
  have := join_plain_closes ⟨#[]⟩ ys
  rw [eq_of_beq this, joinE]

/-! floats -/
theorem mulIF {a c : Int} {n : Int} {u : Tok} {v : Value} {Q : Value → Shared → Prop} (hv : FltV v a) (hn : (16 * n).natAbs < 2 ^ 53) (hc : c = n * a) (hb : c.natAbs < 2 ^ 53) (h : ∀ r t', FltV r c → Q r ⟨hp, g, d, t', os⟩) :
    wpAny (model prog w) A (binaryOp .Mult (.int n u) v) Q E ⟨hp, g, d, t, os⟩ := by
  obtain ⟨y, tu, rfl, hy⟩ := hv
  exact AutoFloatOps.mul_if_1 (over_small hn) (h _ _ ⟨_, _, rfl, Fv.mul (Fv.ofInt hn) hy (by rw [hc, Int.mul_assoc]) hb⟩)
theorem subFF {a b : Int} {u v : Value} {Q : Value → Shared → Prop} (hu : FltV u a) (hv : FltV v b) (hb : (a - b).natAbs < 2 ^ 53) (h : ∀ r t', FltV r (a - b) → Q r ⟨hp, g, d, t', os⟩) :
    wpAny (model prog w) A (binaryOp .Sub u v) Q E ⟨hp, g, d, t, os⟩ := by
  obtain ⟨y, tu, rfl, hy⟩ := hv
  obtain ⟨x, tx, rfl, hx⟩ := hu
  exact AutoFloatOps.sub_0 (h _ _ ⟨_, _, rfl, Fv.sub hx hy hb⟩)
theorem iaddNF {a b : Int} {u v : Value} {Q : Value → Shared → Prop} (hu : NumV u a) (hv : FltV v b) (ha : a.natAbs < 2 ^ 53) (hb : (a + b).natAbs < 2 ^ 53) (h : ∀ r t', FltV r (a + b) → Q r ⟨hp, g, d, t', os⟩) :
    wpAny (model prog w) A (inplaceOp .Add u v) Q E ⟨hp, g, d, t, os⟩ := by
  obtain ⟨y, tu, rfl, hy⟩ := hv
  rcases hu with ⟨i, ti, rfl, rfl⟩ | ⟨x, tx, rfl, hx⟩
  · exact PySem.Flt.iadd_if_1 (over_small ha) (h _ _ ⟨_, _, rfl, Fv.add (Fv.ofInt ha) hy hb⟩)
  · exact AutoFloatOps.iadd_0 (h _ _ ⟨_, _, rfl, Fv.add hx hy hb⟩)
theorem cmpEq (a b : Int) : (some (compare a b) == some Ordering.eq) = decide (a = b) := by
  rcases Int.lt_trichotomy a b with h | h | h
  · rw [Int.compare_eq_lt.mpr h, decide_eq_false (by omega)]; rfl
  · subst h; simp
  · rw [Int.compare_eq_gt.mpr h, decide_eq_false (by omega)]; rfl
theorem eqFF {a b : Int} {u v : Value} {Q : Value → Shared → Prop} (hu : FltV u a) (hv : FltV v b) (h : Q (.bool (decide (a = b))) ⟨hp, g, d, t, os⟩) : wpAny (model prog w) A (compareOp .Eq u v) Q E ⟨hp, g, d, t, os⟩ := by
  obtain ⟨y, tu, rfl, hy⟩ := hv
  obtain ⟨x, tx, rfl, hx⟩ := hu
  refine AutoFloatOps.eq_0 ?_
  rw [hx.cmp hy, cmpEq]; exact h
theorem neFF {a b : Int} {u v : Value} {Q : Value → Shared → Prop} (hu : FltV u a) (hv : FltV v b) (h : Q (.bool (!decide (a = b))) ⟨hp, g, d, t, os⟩) : wpAny (model prog w) A (compareOp .NotEq u v) Q E ⟨hp, g, d, t, os⟩ := by
  obtain ⟨y, tu, rfl, hy⟩ := hv
  obtain ⟨x, tx, rfl, hx⟩ := hu
  refine AutoFloatOps.ne_0 ?_
  rw [hx.cmp hy, show (some (compare a b) != some Ordering.eq) = !(some (compare a b) == some Ordering.eq) from rfl, cmpEq]; exact h
theorem isFlt {a : Int} {v : Value} {Q : Value → Shared → Prop} (hv : FltV v a) (h : Q (.bool true) ⟨hp, g, d, t, os⟩) : wpAny (model prog w) A (call (.builtin "isinstance") [v, .type "float"]) Q E ⟨hp, g, d, t, os⟩ := by
  obtain ⟨y, tu, rfl, hy⟩ := hv
  exact IsiPair.float_float h
theorem div4 {z : Int} {u u4 : Tok} {Q : Value → Shared → Prop} (hz : (4 * z).natAbs < 2 ^ 53) (h : ∀ r t', FltV r (4 * z) → Q r ⟨hp, g, d, t', os⟩) : wpAny (model prog w) A (binaryOp .Div (.int z u) (.int 4 u4)) Q E ⟨hp, g, d, t, os⟩ := by
  have hW : z.natAbs * 2 ^ 1074 * 1 = 1 * ((4 * z).natAbs * U) * (4 : Int).natAbs := by
    rw [U16, Int.natAbs_mul]
    show z.natAbs * (16 * U) * 1 = 1 * (4 * z.natAbs * U) * 4
    have e1 : z.natAbs * (16 * U) = 16 * (z.natAbs * U) := by ac_rfl
    have e2 : 4 * z.natAbs * U = 4 * (z.natAbs * U) := by ac_rfl
    rw [e1, e2]
    generalize z.natAbs * U = K
    omega
  have hR := Float64.ofFrac_right (neg := (decide (z < 0) != decide ((4 : Int) < 0))) (n := z.natAbs) (d := (4 : Int).natAbs) (W := 1 * ((4 * z).natAbs * U)) (D := 1) (by decide) hW (by decide)
  have h3 := right_exact (by decide) hz hR
  have hF : Fv (Float64.ofFrac (decide (z < 0) != decide ((4 : Int) < 0)) z.natAbs (4 : Int).natAbs) (4 * z) := by
    refine ⟨h3.1, ?_⟩
    have e2 : (decide (z < 0) != decide ((4 : Int) < 0)) = decide (4 * z * (U : Int) < 0) := by
      have hU : (0 : Int) < U := by have := U_pos; omega
      by_cases q : z < 0
      · have := Int.mul_neg_of_neg_of_pos (show 4 * z < 0 by omega) hU; simp [q, this]
      · have := Int.mul_nonneg (show 0 ≤ 4 * z by omega) (Int.le_of_lt hU)
        rw [decide_eq_false q, decide_eq_false (by omega : ¬ 4 * z * (U : Int) < 0)]; rfl
    rw [h3.2, e2, sgn_decide _ _ U_pos]
  exact AutoIntOps.truediv_2 (by decide) (by rw [hF.notInf]; decide) (h _ _ ⟨_, _, rfl, hF⟩)
end
end Mine

open PySem PySem.W PyProof.Rows
namespace Mine
set_option maxRecDepth 100000

def lawStmt (k : Nat) : Stmt := (defBody (topStmt 9)).getD k (.Pass default)
theorem footInt (f : Nat → Int) : Foot (fun _ _ i y => ∃ u, y = Value.int (f i) u) := ⟨fun _ _ _ _ _ x _ => x, fun _ _ _ _ _ x _ => x⟩
theorem intsOf (f : Nat → Int) : ∀ (ys : List Value), (∀ (i : Nat) (y : Value), ys[i]? = some y → ∃ u, y = Value.int (f i) u) → IntsAre ys ((List.range ys.length).map f) := by
  intro ys
  induction ys generalizing f with
  | nil => intro _; exact .nil
  | cons y r ih =>
    intro h
    obtain ⟨u, rfl⟩ := h 0 _ List.getElem?_cons_zero
    rw [List.length_cons, List.range_succ_eq_map, List.map_cons, List.map_map]
    exact .cons _ _ (ih (f ∘ Nat.succ) fun i y e => h (i + 1) y (by simpa using e))

section
variable {prog : Program} {w : World} {A : Around} {E : Value → Shared → Prop} {hp : Heap} {g : Array GenState} {d : Drawn} {t : Nat} {os : OsState}

abbrev FL (h₀ : Heap) (L a : Addr) (cd : Value) (h : Heap) (m cm : Str → Option Value) : Prop := Fc h₀ (lawEnv L a cd) h m cm
theorem lawCells (L a : Addr) (cd : Value) : (lawEnv L a cd).cells = [(Str.ofString "weights", L + 7), (Str.ofString "d", L + 6), (Str.ofString "totients", L + 5), (Str.ofString "behind", L + 4), (Str.ofString "ys", L + 3), (Str.ofString "xs", L + 2), (Str.ofString "n", L + 1)] := by rfl
theorem lawCells_le {L a : Addr} {cd : Value} {k : Str} {c : Addr} (h : (lawEnv L a cd).cells.lookup k = some c) : c ≤ L + 7 := by
  have := mem_of_lookup h
  rw [lawCells] at this
  simp only [List.mem_cons, Prod.mk.injEq, List.not_mem_nil, or_false] at this
  have e : ∀ j : Nat, j ≤ 7 → L + j ≤ L + 7 := fun j hj => Nat.add_le_add_left hj L
  rcases this with ⟨_, rfl⟩ | ⟨_, rfl⟩ | ⟨_, rfl⟩ | ⟨_, rfl⟩ | ⟨_, rfl⟩ | ⟨_, rfl⟩ | ⟨_, rfl⟩ <;> exact e _ (by decide)
variable {h₀ : Heap} {L a : Addr} {cd : Value} {m cm : Str → Option Value}
theorem FL.size (F : FL h₀ L a cd hp m cm) : L + 7 < hp.objs.size := (F.cell "weights" (L + 7) rfl).lt
theorem FL.far (F : FL h₀ L a cd hp m cm) : 76 < L := Fc.far F
theorem FL.sf (F : FL h₀ L a cd hp m cm) {b : Addr} (h : hp.objs.size ≤ b) : Sf L b := Sf.of_lt (FL.far F) (Nat.lt_of_lt_of_le (FL.size F) h)
theorem FL.sfNone (F : FL h₀ L a cd hp m cm) {b : Addr} (h : hp.get? b = none) : Sf L b := by
  constructor
  · rintro rfl
    obtain ⟨ps, more, _, ⟨o, vs, file, tf, flags, tg, inF, text, tt, op, _, _, _, _, _, _, _, hop, _⟩, _⟩ := F.code
    rw [hop] at h; cases h
  · rintro ⟨h1, h2⟩
    have cell : ∀ (k : Str) (j : Nat), (lawEnv L a cd).cells.lookup k = some (L + j) → b ≠ L + j := by
      rintro k j hk rfl
      obtain ⟨o, e, _⟩ := F.cell k _ hk
      rw [e] at h; cases h
    have hb : b = L ∨ b = L + 1 ∨ b = L + 2 ∨ b = L + 3 ∨ b = L + 4 ∨ b = L + 5 ∨ b = L + 6 ∨ b = L + 7 := by
      have h1' : (L : Nat) ≤ b := h1
      have h2' : (b : Nat) ≤ L + 7 := h2
      rcases Nat.eq_or_lt_of_le h1' with q | q
      · exact .inl q.symm
      rcases Nat.eq_or_lt_of_le q with q | q
      · exact .inr (.inl q.symm)
      rcases Nat.eq_or_lt_of_le q with q | q
      · exact .inr (.inr (.inl q.symm))
      rcases Nat.eq_or_lt_of_le q with q | q
      · exact .inr (.inr (.inr (.inl q.symm)))
      rcases Nat.eq_or_lt_of_le q with q | q
      · exact .inr (.inr (.inr (.inr (.inl q.symm))))
      rcases Nat.eq_or_lt_of_le q with q | q
      · exact .inr (.inr (.inr (.inr (.inr (.inl q.symm)))))
      rcases Nat.eq_or_lt_of_le q with q | q
      · exact .inr (.inr (.inr (.inr (.inr (.inr (.inl q.symm))))))
      · exact .inr (.inr (.inr (.inr (.inr (.inr (.inr (Nat.le_antisymm h2' q)))))))
    rcases hb with q | q | q | q | q | q | q | q
    · obtain ⟨o, _, _, e, _⟩ := F.ns
      rw [q] at h
      rw [show (lawEnv L a cd).locals = L from rfl, h] at e; cases e
    · exact cell "n" 1 rfl q
    · exact cell "xs" 2 rfl q
    · exact cell "ys" 3 rfl q
    · exact cell "behind" 4 rfl q
    · exact cell "totients" 5 rfl q
    · exact cell "d" 6 rfl q
    · exact cell "weights" 7 rfl q
theorem FL.low (F : FL h₀ L a cd hp m cm) {h' : Heap} (k : ∀ b o, b ≤ L + 7 → hp.get? b = some o → h'.get? b = some o) : FL h₀ L a cd h' m cm where
  ns := F.ns.at' fun o e => k _ _ (Nat.le_add_right _ _) e
  cell := fun n c hc => let ⟨o, e, r⟩ := F.cell n c hc; ⟨o, k _ _ (lawCells_le hc) e, r⟩
  apart := F.apart
  above := F.above
  keep := fun b o hb e => k b o (Nat.le_of_lt (Nat.lt_of_lt_of_le (Nat.lt_of_lt_of_le (Heap.lt_size e) F.base) (Nat.le_add_right _ _))) (F.keep b o hb e)
  base := F.base
  far := Fc.far F
  code := F.code.at2 (fun o e => k _ _ (Nat.le_of_lt (Nat.lt_of_lt_of_le (FL.far F) (Nat.le_add_right _ _))) e) (fun o e => k _ _ (Nat.le_of_lt (Nat.lt_of_lt_of_le (Nat.lt_trans (by decide) (FL.far F)) (Nat.le_add_right _ _))) e)

theorem rangeCall1 {b : Int} {tb : Tok} {Q : Value → Shared → Prop}
    (h : ∀ r h' t' u v x, Keep hp h' → hp.objs.size ≤ r → IsRange h' r 0 b 1 u v x → Q (.ref r) ⟨h', g, d, t', os⟩) : wpAny (model prog w) A (call (.type "range") [.int b tb]) Q E ⟨hp, g, d, t, os⟩ :=
  call_range_1 (h _ _ _ _ _ _ (Keep.push _ _) (Nat.le_refl _) (IsRange.new ..))
theorem rangeIterO {r : Addr} {a b : Int} {ta tb tc : Tok} {Q : Value → Shared → Prop} (hr : IsRange hp r a b 1 ta tb tc) (ha : -(2 ^ 60) ≤ a) (ha' : a < 2 ^ 60) (hb : -(2 ^ 60) ≤ b) (hb' : b < 2 ^ 60)
    (hh : A.handled = none)
    (h : ∀ I h' t' St, Keep hp h' → hp.objs.size ≤ I → Walks prog w A I [I] [I] (b - a).toNat (fun i v => ∃ u, v = .int (a + i) u) St → St 0 h' → (∀ i h, St i h → ∃ o, h.get? I = some o) → Q (.ref I) ⟨h', g, d, t', os⟩) :
    wpAny (model prog w) A (pyIter (.ref r)) Q E ⟨hp, g, d, t, os⟩ := by
  have hsm : Builtin.Range.small a b 1 = true := small_one (by omega) (by omega) (by omega) (by omega)
  refine wpAny_pyIter_range hr hsm ?_
  have hsz : Builtin.Range.rangeSize a b 1 = ((b - a).toNat : Int) := by rw [rangeSize_one]; split <;> omega
  have W := Walks.range (prog := prog) (w := w) (A := A) hh hp.objs.size a 1 (b - a).toNat
  simp only [Int.mul_one] at W
  refine h _ _ _ _ (Keep.push _ _) (Nat.le_refl _) W ?_ fun i h e => ⟨_, e⟩
  show IsRangeIter _ _ _ _ _
  rw [hsz]
  have := Heap.get?_push_size hp (o := { cls := .type "range_iterator", data := .fields #[rawInt a, rawInt ((b - a).toNat : Int), rawInt 1] }) rfl
  simpa using this

/-- a comprehension over a list -/
theorem evNL {elt iter : Expr} {x : Str} {px : Pos} {scope : Scope} {cl : List (Str × Addr)} {pos : Pos} {env : Env} {Q : Value → Shared → Prop} {s : Shared}
    {F : (Addr → Prop) → Heap → Nat → Value → Prop} (FF : Foot F) (hA : A.handled = none) (hclos : closureFor scope env = pure cl)
    (hcell : ∀ y ∈ scope.names, y.2 ≠ .cell) (hkind : scope.kind = .function) (hnames : ∀ y ∈ scope.names, y.2 = .local → scope.names.lookup y.1 = some .local) (hx : scope.names.lookup x = some .local)
    (h : wpAny (model prog w) A (eval iter env) (fun xv s₁ => ∃ l vs hb tb, xv = .ref l ∧ s₁ = ⟨hb, g, d, tb, os⟩ ∧ hb.IsList l (List.toArray vs) ∧ vs.length ≤ 10000 ∧
      (∀ C i v h₁ t₁ m, hb.objs.size ≤ C → vs[i]? = some v → h₁.Ns C m → m x = some v → Keep hb h₁ →
        wpAny (model prog w) A (eval elt (compEnvC scope cl C env)) (fun y s' => ∃ h' t', s' = ⟨h', g, d, t', os⟩ ∧ Keep h₁ h' ∧ F (fun b => h₁.get? b = none) h' i y) NoE ⟨h₁, g, d, t₁, os⟩) ∧
      (∀ D h' t' (ys : List Value), hb.objs.size ≤ D → h'.PlainList D ys.toArray → ys.length = vs.length → (∀ i y, ys[i]? = some y → F (fun b => hb.get? b = none ∧ b ≠ D) h' i y) →
        Keep hb h' → Q (.ref D) ⟨h', g, d, t', os⟩)) E s)
    (hs : ∀ x, foldedSetIterable iter env x = pure x := by intro _; rfl) :
    wpAny (model prog w) A (eval (.ListComp elt [⟨.Name x px, iter, [], 0⟩] scope pos) env) Q E s := by
  refine evN (g := g) (d := d) (os := os) FF hclos hcell hkind hnames hx (wpAny_mono h (fun xv s₁ h₁ => ?_) fun _ _ q => q) hs
  obtain ⟨l, vs, hb, tb, rfl, rfl, hl, hn, helt, hQ⟩ := h₁
  have hlt : l < hb.objs.size := by obtain ⟨o, e, _⟩ := hl; exact Heap.lt_size e
  have W := Walks.list (prog := prog) (w := w) (A := A) hA hb.objs.size l (Nat.ne_of_lt hlt) vs.toArray
  have hz : vs.toArray.size = vs.length := by simp
  rw [hz] at W
  refine wpAny_pyIter_list hl ⟨hb.objs.size, _, vs.length, _, _, _, _, hb, rfl, rfl, fun b o e => Heap.get?_push_of_some _ e, Nat.le_refl _, W, fun i h e => let ⟨⟨o, e, _⟩, _⟩ := e; ⟨o, e⟩, hn, iterL hl, ?_, fun C i v h₁ t₁ m hC hi hP hns hm hk => helt C i v h₁ t₁ m hC (by simpa using hP) hns hm hk, hQ⟩
  intro b hb'
  rcases List.mem_cons.mp hb' with rfl | q
  · show _ < (hb.push _).objs.size; rw [Heap.size_push]; exact Nat.lt_succ_self _
  · rw [List.mem_singleton.mp q]; show _ < (hb.push _).objs.size; rw [Heap.size_push]; exact Nat.lt_succ_of_lt hlt

theorem asNL {elt iter : Expr} {x y : Str} {px py : Pos} {scope : Scope} {cl : List (Str × Addr)} {pos spos : Pos} {env : Env} {Q : Flow → Shared → Prop} {s : Shared} {h₀ : Heap}
    {F : (Addr → Prop) → Heap → Nat → Value → Prop} (FF : Foot F) (hA : A.handled = none) (hsw : swapsWith (.ListComp elt [⟨.Name x px, iter, [], 0⟩] scope pos) (some (.Name y py)) spos.line env = pure true) (hclos : closureFor scope env = pure cl)
    (hcell : ∀ y ∈ scope.names, y.2 ≠ .cell) (hkind : scope.kind = .function) (hnames : ∀ y ∈ scope.names, y.2 = .local → scope.names.lookup y.1 = some .local) (hx : scope.names.lookup x = some .local)
    (hy : env.kindOf y = some .local) (hek : env.scope.kind = .function)
    (h : wpAny (model prog w) A (eval iter env) (fun xv s₁ => ∃ l vs hb tb m cm, xv = .ref l ∧ s₁ = ⟨hb, g, d, tb, os⟩ ∧ Fc h₀ env hb m cm ∧ hb.IsList l (List.toArray vs) ∧ vs.length ≤ 10000 ∧
      (∀ C i v h₁ t₁ m, hb.objs.size ≤ C → vs[i]? = some v → h₁.Ns C m → m x = some v → Keep hb h₁ →
        wpAny (model prog w) A (eval elt (compEnvC scope cl C env)) (fun y s' => ∃ h' t', s' = ⟨h', g, d, t', os⟩ ∧ Keep h₁ h' ∧ F (fun b => h₁.get? b = none) h' i y) NoE ⟨h₁, g, d, t₁, os⟩) ∧
      (∀ D h' t' (ys : List Value), hb.objs.size ≤ D → h'.PlainList D ys.toArray → ys.length = vs.length → (∀ i y, ys[i]? = some y → F (fun b => hb.get? b = none ∧ b ≠ D) h' i y) → Fc h₀ env h' (fun z => if z = y then some (.ref D) else m z) cm →
        KeepL env.locals hb h' → Q .next ⟨h', g, d, t', os⟩)) E s)
    (hs : ∀ x, foldedSetIterable iter env x = pure x := by intro _; rfl) :
    wpAny (model prog w) A (exec (.Assign [.Name y py] (.ListComp elt [⟨.Name x px, iter, [], 0⟩] scope pos) spos) env) Q E s := by
  refine asN (g := g) (d := d) (os := os) (h₀ := h₀) FF hsw hclos hcell hkind hnames hx hy hek (wpAny_mono h (fun xv s₁ h₁ => ?_) fun _ _ q => q) hs
  obtain ⟨l, vs, hb, tb, m, cm, rfl, rfl, F, hl, hn, helt, hQ⟩ := h₁
  have hlt : l < hb.objs.size := by obtain ⟨o, e, _⟩ := hl; exact Heap.lt_size e
  have W := Walks.list (prog := prog) (w := w) (A := A) hA hb.objs.size l (Nat.ne_of_lt hlt) vs.toArray
  have hz : vs.toArray.size = vs.length := by simp
  rw [hz] at W
  refine wpAny_pyIter_list hl ⟨hb.objs.size, _, vs.length, _, _, _, _, hb, m, cm, rfl, rfl, F, fun b o e => Heap.get?_push_of_some _ e, Nat.le_refl _, W, fun i h e => let ⟨⟨o, e, _⟩, _⟩ := e; ⟨o, e⟩, hn, iterL hl, ?_, fun C i v h₁ t₁ m hC hi hP hns hm hk => helt C i v h₁ t₁ m hC (by simpa using hP) hns hm hk, hQ⟩
  intro b hb'
  rcases List.mem_cons.mp hb' with rfl | q
  · show _ < (hb.push _).objs.size; rw [Heap.size_push]; exact Nat.lt_succ_self _
  · rw [List.mem_singleton.mp q]; show _ < (hb.push _).objs.size; rw [Heap.size_push]; exact Nat.lt_succ_of_lt hlt
end
end Mine

open PySem PySem.W PyProof.Rows
namespace Mine
set_option maxRecDepth 100000
section
variable {prog : Program} {w : World} {A : Around} {E : Value → Shared → Prop} {hp : Heap} {g : Array GenState} {d : Drawn} {t : Nat} {os : OsState} {mg mb mN : Str → Option Value}
variable {h₀ : Heap} {L a : Addr} {cd : Value} {m cm : Str → Option Value}

theorem FL.ns' (F : FL h₀ L a cd hp m cm) : hp.Ns L m := F.ns
theorem FL.tp (F : FL h₀ L a cd hp m cm) (T : Tp mg mb mN h₀) : Tp mg mb mN hp := T.keepT F.keep

/-- cells of the law: ten ints, each small -/
def Cells (h : Heap) (D : Addr) (k : Nat) : Prop := ∃ vs cs, h.IsList D (List.toArray vs) ∧ IntsAre vs cs ∧ cs.length = 10 ∧ ∀ x ∈ cs, 0 ≤ x ∧ x ≤ (k + 1) * 1000000

set_option maxHeartbeats 8000000 in
theorem sA0 (F : FL h₀ L a cd hp m cm) {Q : Flow → Shared → Prop}
    (hQ : ∀ h' t' D, FL h₀ L a cd h' (fun y => if y = "cells" then some (.ref D) else m y) cm → L + 7 < D → Cells h' D 0 → Q .next ⟨h', g, d, t', os⟩) :
    wpAny (model prog w) A (exec (lawStmt 0) (lawEnv L a cd)) Q E ⟨hp, g, d, t, os⟩ := by
  refine wpAny_Assign_Name ?_
  refine lstE ?_
  with_reducible refine args_cons ?_ (he := ?eu1)
  case eu1 => rfl
  with_reducible refine cInt fun u1 t1 => ?_
  with_reducible refine args_cons ?_ (he := ?eu2)
  case eu2 => rfl
  with_reducible refine cInt fun u2 t2 => ?_
  with_reducible refine args_cons ?_ (he := ?eu3)
  case eu3 => rfl
  with_reducible refine cInt fun u3 t3 => ?_
  with_reducible refine args_cons ?_ (he := ?eu4)
  case eu4 => rfl
  with_reducible refine cInt fun u4 t4 => ?_
  with_reducible refine args_cons ?_ (he := ?eu5)
  case eu5 => rfl
  with_reducible refine cInt fun u5 t5 => ?_
  with_reducible refine args_cons ?_ (he := ?eu6)
  case eu6 => rfl
  with_reducible refine cInt fun u6 t6 => ?_
  with_reducible refine args_cons ?_ (he := ?eu7)
  case eu7 => rfl
  with_reducible refine cInt fun u7 t7 => ?_
  with_reducible refine args_cons ?_ (he := ?eu8)
  case eu8 => rfl
  with_reducible refine cInt fun u8 t8 => ?_
  with_reducible refine args_cons ?_ (he := ?eu9)
  case eu9 => rfl
  with_reducible refine cInt fun u9 t9 => ?_
  with_reducible refine args_cons ?_ (he := ?eu10)
  case eu10 => rfl
  with_reducible refine cInt fun u10 t10 => ?_
  refine args_nil ⟨by show 10 ≤ 1000; decide, fun h₁ D k₁ hD hl₁ => ?_⟩
  have hDL : L + 7 < D := Nat.lt_of_lt_of_le (FL.size F) hD
  have hC₁ : Cells h₁ D 0 := ⟨_, [0, 3, 1, 2, 3, 1, 3, 0, 2, 1], ⟨_, hl₁, rfl, 0, rfl⟩, by repeat constructor, rfl, by decide⟩
  have F₁ := F.keeps k₁
  clear hl₁ k₁
  refine csL F₁ fun h₂ t11 F₂ s₂ => ?_
  have hC₂ : Cells h₂ D 0 := let ⟨vs, cs, l, r⟩ := hC₁; ⟨vs, cs, l.at fun o e => s₂.extBut _ _ (Nat.ne_of_gt (Nat.lt_of_le_of_lt (Nat.le_add_right _ _) hDL)) e, r⟩
  exact hQ h₂ t11 D F₂ hDL hC₂

set_option maxHeartbeats 8000000 in
theorem sA1 (T : Tp mg mb mN h₀) (N : Names mg mb mN) (F₂ : FL h₀ L a cd hp m cm) (hh : A.handled = none) {sa : Addr} {vss : List Value} {ns : List Int} (hs : h₀.IsList sa vss.toArray) (hsa : sa ≠ 72) (hns : IntsAre vss ns) (hlen : ns.length ≤ 63) (hms : m "script" = some (.ref sa))
    {D : Addr} (hmD : m "cells" = some (.ref D)) (hDL : L + 7 < D) (hC₂ : Cells hp D 0) {Q : Flow → Shared → Prop}
    (hQ : ∀ h' t' m', FL h₀ L a cd h' m' cm → Cells h' D 60 → m' "cells" = some (.ref D) → m' "script" = some (.ref sa) → Q .next ⟨h', g, d, t', os⟩) :
    wpAny (model prog w) A (exec (lawStmt 1) (lawEnv L a cd)) Q E ⟨hp, g, d, t, os⟩ := by
  refine wpAny_For ?_
  refine callN ?_
  refine cnB (FL.tp F₂ T) N.nenum N.enum ?_
  refine PyProof.Rows.callWith_type1 ?_
  refine args_cons ?_
  refine slcE (g := g) (d := d) (os := os) ?_
  refine cnL F₂ (by exact hms) ?_
  refine wpAny_evalPart_none ?_
  refine wpAny_evalPart_some ?_
  refine cInt fun u12 t12 => ?_
  have hl0 := hns.length
  refine ⟨_, _, _, _, _, _, _, rfl, rfl, hs.at fun o e => F₂.keep _ _ hsa e, by omega, .none, .int _ _, slice_ints_uptoW hns (y := 60) (by decide), fun h₃ l3 vs3 k₃ hl3 hL3 hi3 => ?_⟩
  refine args_nil ?_
  refine call_enumerate_list hL3 fun h₄ he₄ hit₄ hz₄ k₄ => ?_
  refine wpAny_pyIter_enum he₄ ?_
  have F₄ := (F₂.keeps k₃).keeps k₄
  have hz3 : L + 7 < h₃.objs.size := FL.size (F₂.keeps k₃)
  obtain ⟨ol, eol, _⟩ := id hL3
  have hl3lt : l3 < h₃.objs.size := Heap.lt_size eol
  have hD2 : D < hp.objs.size := by obtain ⟨_, _, ⟨o, e, _⟩, _⟩ := hC₂; exact Heap.lt_size e
  have hl3L : L + 7 < l3 := Nat.lt_of_lt_of_le (FL.size F₂) hl3
  have hDl : D < l3 := Nat.lt_of_lt_of_le hD2 hl3
  have hC₄ : Cells h₄ D 0 := let ⟨vs, cs, l, r⟩ := hC₂; ⟨vs, cs, l.at fun o e => k₄ _ _ (k₃ _ _ e), r⟩
  generalize hit' : h₃.objs.size = it at *
  have hlen3 := hi3.length
  have htk : (ns.take (60 : Int).toNat).length ≤ 60 := by rw [List.length_take]; show min 60 _ ≤ 60; omega
  show codeAny _ _ (.forLoop _ (.ref (it + 1)) _ [] _) _ _
  refine forAny (fun i s => ∃ h t m old, s = ⟨h, g, d, t, os⟩ ∧ FL h₀ L a cd h m cm ∧ IsEnum h (it + 1) it ((i : Nat) : Int) old ∧ h.IsListIter it l3 i ∧ h.IsList l3 vs3.toArray ∧ Cells h D i ∧ m "cells" = some (.ref D) ∧ m "script" = some (.ref sa) ∧ it + 1 < h.objs.size) vs3.length ?_ ?_
    ⟨h₄, _, _, .none, rfl, F₄, he₄, hit₄, hL3.at fun o e => k₄ _ _ e, hC₄, hmD, hms, by rw [hz₄]; exact Nat.lt_succ_self _⟩
  · rintro i s ⟨h, t, m, old, rfl, G, he, hit, hl, hC, m1, m2, hz⟩ hi
    have hei : it + 1 ≠ it := Nat.succ_ne_self _
    have hitL : L + 7 < it := hz3
    refine wpAny_pyNext_enum_item (i := i) (items := vs3.toArray) (x := vs3[i]) he hit hl (by simp [hi]) hei fun h₅ heo hit₅ ht₅ hz₅ hk₅ => ?_
    refine ⟨_, rfl, ?_⟩
    refine wpAny_letOwnedTupleGo_enum heo fun h₆ he₆ hs₆ => ?_
    have ht₆ : h₆.IsTuple h.objs.size #[.int i t, vs3[i]] := ⟨_, (hs₆.2 _ (Nat.ne_of_gt hz)).trans ht₅, rfl, _, rfl⟩
    have hz₆ : h₆.objs.size = h.objs.size + 1 := hs₆.1.trans hz₅
    refine wpAny_assign_Tuple hh ht₆ rfl rfl fun h₇ hx₇ => ?_
    have old₇ : ∀ b o, b < h.objs.size → h₆.get? b = some o → h₇.get? b = some o := fun b o hb x => hx₇ b o (by rw [hz₆]; exact Nat.ne_of_lt (Nat.lt_succ_of_lt hb)) x
    have kk : ∀ b o, b ≠ it + 1 → b ≠ it → h.get? b = some o → h₇.get? b = some o := fun b o q1 q2 e => old₇ b o (Heap.lt_size e) (hs₆.extBut b o q1 (hk₅ b o q1 q2 e))
    have ne1 : ∀ b, b ≤ L + 7 → b ≠ it + 1 := fun b hb => Nat.ne_of_lt (Nat.lt_of_le_of_lt hb (Nat.lt_succ_of_lt hitL))
    have ne2 : ∀ b, b ≤ L + 7 → b ≠ it := fun b hb => Nat.ne_of_lt (Nat.lt_of_le_of_lt hb hitL)
    have G₇ := FL.low G (h' := h₇) fun b o hb e => kk b o (ne1 b hb) (ne2 b hb) e
    have he₇ : IsEnum h₇ (it + 1) it ((i : Int) + 1) vs3[i] := old₇ _ _ hz he₆
    have hit₇ : h₇.IsListIter it l3 (i + 1) := (hit₅.extBut hs₆.extBut (Ne.symm hei)).at fun o x => old₇ it o (Nat.lt_of_succ_lt hz) x
    have hl₇ : h₇.IsList l3 vs3.toArray := hl.at fun o e => kk _ _ (Nat.ne_of_lt (Nat.lt_succ_of_lt hl3lt)) (Nat.ne_of_lt hl3lt) e
    have hDit : D < it := Nat.lt_trans hDl hl3lt
    have hC₇ : Cells h₇ D i := let ⟨vs, cs, l, r⟩ := hC; ⟨vs, cs, l.at fun o e => kk _ _ (Nat.ne_of_lt (Nat.lt_succ_of_lt hDit)) (Nat.ne_of_lt hDit) e, r⟩
    show wpAny _ _ (assignInOrder [assign (.Name "i" _) (lawEnv L a cd), assign (.Name "x" _) (lawEnv L a cd)] [.int i t, vs3[i]]) _ _ _
    obtain ⟨ux, hux⟩ := hi3.int_at i _ (List.getElem?_eq_getElem hi)
    refine wpAny_bind (wpAny_holding (wpAny_assign_Name (csL G₇ fun h₈ t8 G₈ s₈ => ?_)))
    refine wpAny_bind (wpAny_holding (wpAny_assign_Name (csL G₈ fun h₉ t9 G₉ s₉ => wpAny_pure ?_)))
    have k₉ : ∀ b o, b ≠ L → h₇.get? b = some o → h₉.get? b = some o := fun b o q e => s₉.extBut b o q (s₈.extBut b o q e)
    have up : ∀ b, L + 7 < b → b ≠ L := fun b hb => Nat.ne_of_gt (Nat.lt_of_le_of_lt (Nat.le_add_right _ _) hb)
    obtain ⟨vs, cs, hcl, hci, hc10, hcb⟩ := hC₇
    have hcl₉ : h₉.IsList D vs.toArray := hcl.at fun o e => k₉ _ _ (up _ hDL) e
    have hcl' := hci.length
    have hmod : 0 ≤ ((i : Int) % 10) ∧ ((i : Int) % 10) < 10 := ⟨Int.emod_nonneg _ (by decide), Int.emod_lt_of_pos _ (by decide)⟩
    have hm10 : ((i : Int) % 10).toNat < cs.length := by omega
    refine wpAny_execs_cons ?_
    refine wpAny_AugAssign_SubscriptAny ?_
    refine cnL G₉ (by exact m1) ?_
    refine wpAny_BinOp ?_
    refine cnL G₉ (by rfl) ?_
    refine cInt fun u10 t10 => ?_
    refine modI (by decide) fun u11 t11 => ?_
    obtain ⟨uc, huc⟩ := hci.get ((i : Int) % 10).toNat cs[((i : Int) % 10).toNat] (List.getElem?_eq_getElem hm10)
    refine wpAny_getItem_list hcl₉ hmod.1 (by omega) (by simpa using huc) ?_
    refine wpAny_BinOp ?_
    refine cnL G₉ (v := .int ((ns.take (60 : Int).toNat).getD i 0) ux) (by exact congrArg some hux) ?_
    refine wpAny_BinOp ?_
    refine cInt fun u12 t12 => ?_
    refine cInt fun u13 t13 => ?_
    refine powI rfl rfl fun u14 t14 => ?_
    refine modI (by decide) fun u15 t15 => ?_
    refine iaddI fun u16 t16 => ?_
    refine setL hcl₉ hmod.1 (by omega) (by omega) fun h₁₀ hl₁₀ s₁₀ => ?_
    refine wpAny_execs_nil ?_
    have k₁₀ : ∀ b o, b ≠ D → h₉.get? b = some o → h₁₀.get? b = some o := fun b o q e => s₁₀.extBut b o q e
    refine ⟨h₁₀, t16, _, vs3[i], rfl, FL.low G₉ (fun b o hb e => k₁₀ b o (Nat.ne_of_lt (Nat.lt_of_le_of_lt hb hDL)) e), ?_, ?_, ?_, ?_, m1, m2, ?_⟩
    · rw [show (((i + 1 : Nat) : Nat) : Int) = (i : Int) + 1 from rfl]
      exact k₁₀ _ _ (Nat.ne_of_gt (Nat.lt_succ_of_lt hDit)) (k₉ _ _ (up _ (Nat.lt_succ_of_lt hitL)) he₇)
    · exact hit₇.at fun o e => k₁₀ _ _ (Nat.ne_of_gt hDit) (k₉ _ _ (up _ hitL) e)
    · exact hl₇.at fun o e => k₁₀ _ _ (Nat.ne_of_gt hDl) (k₉ _ _ (up _ hl3L) e)
    · refine ⟨_, cs.set ((i : Int) % 10).toNat _, hl₁₀, intsAre_set _ _ _ hci, by rw [List.length_set]; exact hc10, fun x hx => ?_⟩
      have hi60 : i < 60 := by omega
      rcases List.mem_or_eq_of_mem_set hx with hx | rfl
      · have := hcb x hx; push_cast; omega
      · have h1 := hcb _ (List.getElem_mem hm10)
        have h2 := Int.emod_nonneg ((ns.take (60 : Int).toNat).getD i 0) (show (1000000 : Int) ≠ 0 by decide)
        have h3 := Int.emod_lt_of_pos ((ns.take (60 : Int).toNat).getD i 0) (show (0 : Int) < 1000000 by decide)
        push_cast; omega
    · have := Heap.lt_size (k₁₀ _ _ (Nat.ne_of_gt (Nat.lt_succ_of_lt hDit)) (k₉ _ _ (up _ (Nat.lt_succ_of_lt hitL)) he₇))
      exact this
  · rintro s ⟨h, t, m, old, rfl, G, he, hit, hl, hC, m1, m2, hz⟩
    refine wpAny_pyNext_enum_end hh he hit hl (by simp) fun h' hx => ⟨rfl, ?_⟩
    have hitL : L + 7 < it := hz3
    have hDit : D < it := Nat.lt_trans hDl hl3lt
    refine hQ h' t m (FL.low G fun b o hb e => hx b o (Nat.ne_of_lt (Nat.lt_of_le_of_lt hb hitL)) e) ?_ m1 m2
    obtain ⟨vs, cs, l, r1, r2, r3⟩ := hC
    refine ⟨vs, cs, l.at fun o e => hx _ _ (Nat.ne_of_lt hDit) e, r1, r2, fun x hx => ?_⟩
    have := r3 x hx
    omega
end
end Mine

open PySem PySem.W PyProof.Rows
namespace Mine
set_option maxRecDepth 100000
section
variable {prog : Program} {w : World} {A : Around} {E : Value → Shared → Prop} {hp : Heap} {g : Array GenState} {d : Drawn} {t : Nat} {os : OsState} {mg mb mN : Str → Option Value}
variable {h₀ : Heap} {L a : Addr} {cd : Value} {m cm : Str → Option Value}

/-- a name of a comprehension -/
theorem ceL {env : Env} {C : Addr} {m : Str → Option Value} {x : Str} {pos : Pos} {v : Value} {Q : Value → Shared → Prop} (hn : hp.Ns C m) (hv : m x = some v) (h : Q v ⟨hp, g, d, t, os⟩)
    (hC : env.locals = C := by rfl) (hl : env.kindOf x = some .local := by rfl) (hk : env.scope.kind = .function := by rfl) (hd : (x == ("__debug__" : Str)) = false := by decide) :
    wpAny (model prog w) A (eval (.Name x pos) env) Q E ⟨hp, g, d, t, os⟩ := wpAny_Name (wpAny_loadName_local hk hl (by rw [hC]; exact hn) hv h) hd
theorem ceC {env : Env} {x : Str} {pos : Pos} {c : Addr} {v : Value} {Q : Value → Shared → Prop} (hv : hp.IsCell c (some v)) (hc : env.cells.lookup x = some c) (h : Q v ⟨hp, g, d, t, os⟩)
    (hl : env.kindOf x = some .cell := by rfl) (hk : env.scope.kind = .function := by rfl) (hd : (x == ("__debug__" : Str)) = false := by decide) :
    wpAny (model prog w) A (eval (.Name x pos) env) Q E ⟨hp, g, d, t, os⟩ := wpAny_Name (wpAny_loadName_cell hk hl hc hv h) hd

def Row (n : Nat) (hi : Int) (xs : List Int) : Prop := xs.length = n ∧ ∀ x ∈ xs, 0 ≤ x ∧ x ≤ hi

set_option maxHeartbeats 8000000 in
theorem sA2 (T : Tp mg mb mN h₀) (N : Names mg mb mN) (F : FL h₀ L a cd hp m cm) {sa : Addr} {vss : List Value} (hs : h₀.IsList sa vss.toArray) (hsa : sa ≠ 72) (hlen : vss.length ≤ 63) (hms : m "script" = some (.ref sa)) {Q : Flow → Shared → Prop}
    (hQ : ∀ h' t' (n : Nat) u, 3 ≤ n → n ≤ 5 → FL h₀ L a cd h' m (fun y => if y = "n" then some (.int n u) else cm y) → KeepS L hp h' → Q .next ⟨h', g, d, t', os⟩) :
    wpAny (model prog w) A (exec (lawStmt 2) (lawEnv L a cd)) Q E ⟨hp, g, d, t, os⟩ := by
  refine wpAny_Assign_Name ?_
  refine wpAny_BinOp ?_
  refine cInt fun u1 t1 => ?_
  refine wpAny_BinOp ?_
  refine wpAny_BinOp ?_
  refine callN ?_
  refine cnB (FL.tp F T) N.nlen N.len ?_
  refine PyProof.Rows.callWith_builtin1 ?_
  refine args_cons ?_
  refine cnL F hms ?_
  refine args_nil ?_
  refine lenL (hs.at fun o e => F.keep _ _ hsa e) (by omega) fun u2 t2 => ?_
  refine cInt fun u3 t3 => ?_
  refine addI fun u4 t4 => ?_
  refine cInt fun u5 t5 => ?_
  refine modI (by decide) fun u6 t6 => ?_
  refine addI fun u7 t7 => ?_
  rw [show (3 : Int) + ((vss.length : Int) + 1) % 3 = ((3 + (vss.length + 1) % 3 : Nat) : Int) by omega]
  refine csC F (c := L + 1) rfl fun h₂ t8 F₂ s₂ => ?_
  exact hQ h₂ t8 _ u7 (by omega) (by omega) F₂ (KeepS.same s₂ (by decide))

/-- xs and ys: the remainders by 4 of a part of the cells -/
theorem mod4 {cs : List Int} {n : Nat} (h : cs.length = n) : Row n 3 ((List.range n).map fun i => cs.getD i 0 % 4) := by
  refine ⟨by simp, fun x hx => ?_⟩
  obtain ⟨i, _, rfl⟩ := List.mem_map.mp hx
  have h1 := Int.emod_nonneg (cs.getD i 0) (show (4 : Int) ≠ 0 by decide)
  have h2 := Int.emod_lt_of_pos (cs.getD i 0) (show (0 : Int) < 4 by decide)
  omega

set_option maxHeartbeats 8000000 in
theorem sA3 (F : FL h₀ L a cd hp m cm) (hh : A.handled = none) {D : Addr} (hmD : m "cells" = some (.ref D)) (hC : Cells hp D 60) {n : Nat} {un : Tok} (hn : 3 ≤ n) (hn' : n ≤ 5) (hcn : cm "n" = some (.int n un)) {Q : Flow → Shared → Prop}
    (hQ : ∀ h' t' xs ax, Row n 3 xs → LI L h' ax xs → FL h₀ L a cd h' m (fun y => if y = "xs" then some (.ref ax) else cm y) → KeepS L hp h' → Q .next ⟨h', g, d, t', os⟩) :
    wpAny (model prog w) A (exec (lawStmt 3) (lawEnv L a cd)) Q E ⟨hp, g, d, t, os⟩ := by
  obtain ⟨vs, cs, hl, hi, h10, hb⟩ := hC
  have hl10 := hi.length
  refine wpAny_Assign_Name ?_
  refine evNL (g := g) (d := d) (os := os) (footInt fun i => (cs.take (n : Int).toNat).getD i 0 % 4) hh rfl (by decide) rfl (by decide) rfl ?_
  refine slcE (g := g) (d := d) (os := os) ?_
  refine cnL F hmD ?_
  refine wpAny_evalPart_none ?_
  refine wpAny_evalPart_some ?_
  refine cnC F (c := L + 1) rfl hcn ?_
  refine ⟨_, _, _, _, _, _, _, rfl, rfl, hl, by omega, .none, .int _ _, slice_ints_uptoW hi (y := n) (by omega), fun h₃ l3 vs3 k₃ hl3 hL3 hi3 => ?_⟩
  have hlen3 := hi3.length
  have hzn : (cs.take (n : Int).toNat).length = n := by rw [List.length_take]; omega
  refine ⟨_, _, _, _, rfl, rfl, hL3, by omega, fun C i v h₁ t₁ m' hC hiv hns hm hk => ?_, fun D' h' t' ys hD' hpl hlen hF hk => ?_⟩
  · obtain ⟨ux, rfl⟩ := hi3.int_at i _ hiv
    refine wpAny_BinOp ?_
    refine ceL hns hm ?_
    refine cInt fun u1 t1 => ?_
    refine modI (by decide) fun u2 t2 => ?_
    exact ⟨_, _, rfl, fun _ _ e => e, u2, rfl⟩
  · have F₄ := (F.keeps k₃).keeps hk
    have hsz := FL.size (F.keeps k₃)
    have hi4 := intsOf _ ys hF
    have hn4 : ys.length = n := by omega
    rw [hn4] at hi4
    refine csC F₄ (c := L + 2) rfl fun h₅ t5 F₅ s₅ => ?_
    have k₅ : KeepS L hp h₅ := KeepS.trans (KeepS.trans (KeepS.of k₃) (KeepS.of hk)) (KeepS.same s₅ (by decide))
    have hDL : Sf L D' := FL.sf (F.keeps k₃) hD'
    exact hQ h₅ t5 _ D' (mod4 hzn) ⟨hDL, ys, hpl.isList.at fun o e => s₅.extBut _ _ (hDL.neC (by decide)) e, hi4⟩ F₅ k₅

set_option maxHeartbeats 8000000 in
theorem sA4 (F : FL h₀ L a cd hp m cm) (hh : A.handled = none) {D : Addr} (hmD : m "cells" = some (.ref D)) (hC : Cells hp D 60) {n : Nat} {un : Tok} (hn : 3 ≤ n) (hn' : n ≤ 5) (hcn : cm "n" = some (.int n un)) {Q : Flow → Shared → Prop}
    (hQ : ∀ h' t' xs ax, Row n 3 xs → LI L h' ax xs → FL h₀ L a cd h' m (fun y => if y = "ys" then some (.ref ax) else cm y) → KeepS L hp h' → Q .next ⟨h', g, d, t', os⟩) :
    wpAny (model prog w) A (exec (lawStmt 4) (lawEnv L a cd)) Q E ⟨hp, g, d, t, os⟩ := by
  obtain ⟨vs, cs, hl, hi, h10, hb⟩ := hC
  have hl10 := hi.length
  refine wpAny_Assign_Name ?_
  refine evNL (g := g) (d := d) (os := os) (footInt fun i => ((cs.drop (5 : Int).toNat).take ((5 + (n : Int)) - 5).toNat).getD i 0 % 4) hh rfl (by decide) rfl (by decide) rfl ?_
  refine slcE (g := g) (d := d) (os := os) ?_
  refine cnL F hmD ?_
  refine wpAny_evalPart_some ?_
  refine cInt fun u8 t8 => ?_
  refine wpAny_evalPart_some ?_
  refine wpAny_BinOp ?_
  refine cInt fun u9 t9 => ?_
  refine cnC F (c := L + 1) rfl hcn ?_
  refine addI fun u10 t10 => ?_
  refine ⟨_, _, _, _, _, _, _, rfl, rfl, hl, by omega, .int _ _, .int _ _, slice_ints hi (x := 5) (y := 5 + n) (by omega) (by omega) (by omega), fun h₃ l3 vs3 k₃ hl3 hL3 hi3 => ?_⟩
  have hlen3 := hi3.length
  have hzn : ((cs.drop (5 : Int).toNat).take ((5 + (n : Int)) - 5).toNat).length = n := by
    rw [List.length_take, List.length_drop, h10, show ((5 + (n : Int)) - 5).toNat = n by omega]; show min n 5 = n; omega
  refine ⟨_, _, _, _, rfl, rfl, hL3, by omega, fun C i v h₁ t₁ m' hC hiv hns hm hk => ?_, fun D' h' t' ys hD' hpl hlen hF hk => ?_⟩
  · obtain ⟨ux, rfl⟩ := hi3.int_at i _ hiv
    refine wpAny_BinOp ?_
    refine ceL hns hm ?_
    refine cInt fun u1 t1 => ?_
    refine modI (by decide) fun u2 t2 => ?_
    exact ⟨_, _, rfl, fun _ _ e => e, u2, rfl⟩
  · have F₄ := (F.keeps k₃).keeps hk
    have hsz := FL.size (F.keeps k₃)
    have hi4 := intsOf _ ys hF
    have hn4 : ys.length = n := by omega
    rw [hn4] at hi4
    refine csC F₄ (c := L + 3) rfl fun h₅ t5 F₅ s₅ => ?_
    have k₅ : KeepS L hp h₅ := KeepS.trans (KeepS.trans (KeepS.of k₃) (KeepS.of hk)) (KeepS.same s₅ (by decide))
    have hDL : Sf L D' := FL.sf (F.keeps k₃) hD'
    exact hQ h₅ t5 _ D' (mod4 hzn) ⟨hDL, ys, hpl.isList.at fun o e => s₅.extBut _ _ (hDL.neC (by decide)) e, hi4⟩ F₅ k₅

set_option maxHeartbeats 8000000 in
theorem sA5 (T : Tp mg mb mN h₀) (N : Names mg mb mN) (F : FL h₀ L a cd hp m cm) (hh : A.handled = none) {D : Addr} (hmD : m "cells" = some (.ref D)) (hC : Cells hp D 60) {Q : Flow → Shared → Prop}
    (hQ : ∀ h' t' (bh : Nat) u, bh ≤ 2 → FL h₀ L a cd h' m (fun y => if y = "behind" then some (.int bh u) else cm y) → KeepS L hp h' → Q .next ⟨h', g, d, t', os⟩) :
    wpAny (model prog w) A (exec (lawStmt 5) (lawEnv L a cd)) Q E ⟨hp, g, d, t, os⟩ := by
  obtain ⟨vs, cs, hl, hi, h10, hb⟩ := hC
  refine wpAny_Assign_Name ?_
  refine wpAny_BinOp ?_
  refine callN ?_
  refine cnB (FL.tp F T) N.nsum N.sum ?_
  refine PyProof.Rows.callWith_builtin1 ?_
  refine args_cons ?_
  refine cnL F hmD ?_
  refine args_nil ?_
  refine sumI hh hl hi (fun x hx => by have := hb x hx; omega) (by omega) fun h₁ t1 u1 k₁ => ?_
  have F₁ := F.keeps k₁
  refine cInt fun u2 t2 => ?_
  refine modI (by decide) fun u3 t3 => ?_
  have e1 := Int.emod_nonneg cs.sum (show (3 : Int) ≠ 0 by decide)
  have e2 := Int.emod_lt_of_pos cs.sum (show (0 : Int) < 3 by decide)
  rw [show cs.sum % 3 = (((cs.sum % 3).toNat : Nat) : Int) by omega]
  refine csC F₁ (c := L + 4) rfl fun h₂ t4 F₂ s₂ => ?_
  exact hQ h₂ t4 _ u3 (by omega) F₂ (KeepS.trans (KeepS.of k₁) (KeepS.same s₂ (by decide)))
end
end Mine

open PySem PySem.W PyProof.Rows
namespace Mine
set_option maxRecDepth 100000

def rowOf (n : Nat) (xs ys : List Int) (i : Nat) : List Int := (List.range n).map fun j => xs.getD j 0 + ys.getD ((j + i) % n) 0
/-- a list on a footprint -/
def LiS (S : Addr → Prop) (h : Heap) (r : Addr) (cs : List Int) : Prop := S r ∧ ∃ vs, h.IsList r (List.toArray vs) ∧ IntsAre vs cs
theorem footList (row : Nat → List Int) : Foot (fun S h i y => ∃ r, y = Value.ref r ∧ LiS S h r (row i)) where
  keep := fun S h h' i y ⟨r, e, s, vs, l, x⟩ k => ⟨r, e, s, vs, l.at fun o e => k r o s e, x⟩
  mono := fun S S' h i y ⟨r, e, s, vs, l, x⟩ k => ⟨r, e, (let ⟨o, e, _⟩ := l; k r o s e), vs, l, x⟩
/-- a list of lists of ints, off the frame -/
def ListsAt (L : Addr) (h : Heap) (D : Addr) (n : Nat) (row : Nat → List Int) : Prop := Sf L D ∧ ∃ vs, h.IsList D (List.toArray vs) ∧ vs.length = n ∧ ∀ (i : Nat) (y : Value), vs[i]? = some y → ∃ r, y = .ref r ∧ LI L h r (row i)
theorem ListsAt.keep {L : Addr} {h h' : Heap} {D : Addr} {n : Nat} {row : Nat → List Int} (x : ListsAt L h D n row) (k : KeepS L h h') : ListsAt L h' D n row :=
  let ⟨s, vs, l, hn, f⟩ := x; ⟨s, vs, l.at fun o e => k _ o s e, hn, fun i y e => let ⟨r, e', z⟩ := f i y e; ⟨r, e', z.keep k⟩⟩

section
variable {prog : Program} {w : World} {A : Around} {E : Value → Shared → Prop} {hp : Heap} {g : Array GenState} {d : Drawn} {t : Nat} {os : OsState} {mg mb mN : Str → Option Value}
variable {h₀ : Heap} {L a : Addr} {cd : Value} {m cm : Str → Option Value}

set_option maxHeartbeats 8000000 in
theorem sA6 (T : Tp mg mb mN h₀) (N : Names mg mb mN) (F : FL h₀ L a cd hp m cm) (hh : A.handled = none) {n : Nat} {un : Tok} (hn : 3 ≤ n) (hn' : n ≤ 5) (hcn : cm "n" = some (.int n un)) {xs ys : List Int} {ax ay : Addr} (hcx : cm "xs" = some (.ref ax)) (hcy : cm "ys" = some (.ref ay))
    (hxs : LI L hp ax xs) (hys : LI L hp ay ys) (hxn : xs.length = n) (hyn : ys.length = n) {Q : Flow → Shared → Prop}
    (hQ : ∀ h' t' D, ListsAt L h' D n (rowOf n xs ys) → FL h₀ L a cd h' (fun y => if y = "rows" then some (.ref D) else m y) cm → KeepS L hp h' → Q .next ⟨h', g, d, t', os⟩) :
    wpAny (model prog w) A (exec (lawStmt 6) (lawEnv L a cd)) Q E ⟨hp, g, d, t, os⟩ := by
  refine asC (g := g) (d := d) (os := os) (h₀ := h₀) (footList (rowOf n xs ys)) rfl rfl (fun _ _ => rfl) (fun _ => rfl) rfl (by decide) rfl rfl rfl ?_
  refine callN ?_
  refine cnB (FL.tp F T) N.nrange N.range ?_
  refine PyProof.Rows.callWith_type1 ?_
  refine args_cons ?_
  refine cnC F (c := L + 1) rfl hcn ?_
  refine args_nil ?_
  refine rangeCall1 fun r h₁ t1 u v x k₁ _ hr => ?_
  refine rangeIterO hr (by omega) (by omega) (by omega) (by omega) hh fun I h₂ t2 St k₂ hI W hst hlive => ?_
  have ez : ((n : Int) - 0).toNat = n := by omega
  rw [ez] at W
  have F₁ := F.keeps k₁
  obtain ⟨oI, eI⟩ := hlive _ _ hst
  refine ⟨I, [I], n, _, St, h₂, t2, h₁, m, cm, rfl, rfl, F₁, k₂, hI, W, hlive, by omega, hst, fun b hb => by rw [List.mem_singleton.mp hb]; exact Heap.lt_size eI, fun C K i v h₃ t3 hC hK hi hP hns hcell hk => ?_, fun D h' t' zs hD hpl hlen hF F' hk => ?_⟩
  · obtain ⟨uv, rfl⟩ := hP
    have T₃ := (FL.tp F₁ T).keeps hk
    have hcn₃ : h₃.IsCell (L + 1) (some (.int n un)) := by rw [← hcn]; exact let ⟨o, e, q⟩ := F₁.cell "n" (L + 1) rfl; ⟨o, hk _ _ e, q⟩
    have hcx₃ : h₃.IsCell (L + 2) (some (.ref ax)) := by rw [← hcx]; exact let ⟨o, e, q⟩ := F₁.cell "xs" (L + 2) rfl; ⟨o, hk _ _ e, q⟩
    have hcy₃ : h₃.IsCell (L + 3) (some (.ref ay)) := by rw [← hcy]; exact let ⟨o, e, q⟩ := F₁.cell "ys" (L + 3) rfl; ⟨o, hk _ _ e, q⟩
    have hxs₃ := (hxs.keep (KeepS.of k₁)).keep (KeepS.of hk)
    have hys₃ := (hys.keep (KeepS.of k₁)).keep (KeepS.of hk)
    refine evN (g := g) (d := d) (os := os) (footInt fun j => xs.getD j 0 + ys.getD ((j + i) % n) 0) rfl (by decide) rfl (by decide) rfl ?_
    refine callN ?_
    refine cnB T₃ N.nrange N.range ?_
    refine PyProof.Rows.callWith_type1 ?_
    refine args_cons ?_
    refine ceC hcn₃ rfl ?_
    refine args_nil ?_
    refine rangeCall1 fun r h₄ t4 u4 v4 x4 k₄ _ hr => ?_
    refine rangeIterO hr (by omega) (by omega) (by omega) (by omega) hh fun I h₅ t5 St k₅ hI W hst hlive => ?_
    rw [ez] at W
    obtain ⟨oI, eI⟩ := hlive _ _ hst
    refine ⟨I, [I], n, _, St, h₅, t5, h₄, rfl, rfl, k₅, hI, W, hlive, by omega, hst, fun b hb => by rw [List.mem_singleton.mp hb]; exact Heap.lt_size eI, fun C' j v h₆ t6 m' hC hj hP hns hm hk => ?_, fun D h' t' zs hD hpl hlen hF hk => ?_⟩
    · obtain ⟨uj, rfl⟩ := hP
      have up : Keep h₃ h₆ := fun b o e => hk _ _ (k₄ _ _ e)
      have cellUp : ∀ {c : Addr} {ov : Option Value}, h₃.IsCell c ov → h₆.IsCell c ov := fun ⟨o, e, q⟩ => ⟨o, up _ _ e, q⟩
      obtain ⟨_, vx, hlx, hix⟩ := hxs₃.keep (KeepS.of up)
      obtain ⟨_, vy, hly, hiy⟩ := hys₃.keep (KeepS.of up)
      have lx := hix.length
      have ly := hiy.length
      have hmod : (j + i) % n < n := Nat.mod_lt _ (by omega)
      obtain ⟨u1, hu1⟩ := hix.get j (xs.getD j 0) (by rw [List.getD_eq_getElem?_getD]; simp [show j < xs.length by omega])
      obtain ⟨u2, hu2⟩ := hiy.get ((j + i) % n) (ys.getD ((j + i) % n) 0) (by rw [List.getD_eq_getElem?_getD]; simp [show (j + i) % n < ys.length by omega])
      refine wpAny_BinOp ?_
      refine wpAny_Subscript_Name_late ?_
      refine ceC (cellUp hcx₃) rfl ?_
      refine ceL hns hm ?_
      refine itemL hlx (by omega) (by omega) (v := .int (xs.getD j 0) u1) (by rw [show ((0 : Int) + (j : Int)).toNat = j by omega]; exact hu1) ?_
      refine wpAny_Subscript_BinOp_late ?_
      refine ceC (cellUp hcy₃) rfl ?_
      refine wpAny_BinOp ?_
      refine wpAny_BinOp ?_
      refine ceL hns hm ?_
      refine ceC (cellUp hcell) rfl ?_
      refine addI fun u7 t7 => ?_
      refine ceC (cellUp hcn₃) rfl ?_
      refine modI (by omega) fun u8 t8 => ?_
      have em : ((0 : Int) + (j : Int) + (0 + (i : Int))) % (n : Int) = (((j + i) % n : Nat) : Int) := by push_cast; rw [Int.zero_add, Int.zero_add]
      rw [em]
      refine itemL hly (by omega) (by omega) (v := .int (ys.getD ((j + i) % n) 0) u2) (by rw [Int.toNat_natCast]; exact hu2) ?_
      refine addI fun u9 t9 => ?_
      exact ⟨_, _, rfl, fun _ _ e => e, u9, rfl⟩
    · have hi4 := intsOf _ zs hF
      rw [hlen] at hi4
      have up : Keep h₃ h' := fun b o e => hk _ _ (k₄ _ _ e)
      refine ⟨h', t', rfl, up, D, rfl, ?_, zs, hpl.isList, hi4⟩
      refine get_none fun o e => ?_
      exact absurd (Nat.lt_of_lt_of_le (Heap.lt_size (k₄ _ _ e)) hD) (Nat.lt_irrefl _)
  · have hDL : Sf L D := FL.sf F₁ hD
    refine hQ h' t' D ⟨hDL, zs, hpl.isList, hlen, fun i y e => ?_⟩ F' (KeepS.trans (KeepS.of k₁) (KeepS.ofL hk))
    obtain ⟨r, e', hs', z⟩ := hF i y e
    exact ⟨r, e', FL.sfNone F₁ hs'.1, z⟩
end
end Mine

open PySem PySem.W PyProof.Rows
namespace Mine
set_option maxRecDepth 100000

/-- the blanks of a row of runs, counted -/
def countOf (row : List Int) : List Int := row.foldl (fun cs r => bump cs r.toNat) []
def runText (r : Int) : List Nat := List.replicate r.toNat 32 ++ [9]
def leadText (row : List Int) (bh : Nat) : List Nat := (row.map runText).flatten ++ List.replicate bh 32 ++ [120, 9, 32]

theorem scan_run (r : Nat) : ∀ (rest : List Nat) (cs : List Int) (b k : Nat), scan (List.replicate r 32 ++ 9 :: rest) cs b k = scan rest (bump cs (b + r)) 0 (k + 1) := by
  induction r with
  | zero => intro rest cs b k; rfl
  | succ r ih =>
    intro rest cs b k
    rw [List.replicate_succ, List.cons_append]
    show scan (List.replicate r 32 ++ 9 :: rest) cs (b + 1) k = _
    rw [ih, show b + 1 + r = b + (r + 1) by omega]
theorem scan_end (bh : Nat) : ∀ (cs : List Int) (b k : Nat), scan (List.replicate bh 32 ++ [120, 9, 32]) cs b k = (cs, b + bh, k) := by
  induction bh with
  | zero => intro cs b k; rfl
  | succ r ih =>
    intro cs b k
    rw [List.replicate_succ, List.cons_append]
    show scan (List.replicate r 32 ++ [120, 9, 32]) cs (b + 1) k = _
    rw [ih, show b + 1 + r = b + (r + 1) by omega]
theorem scan_lead (bh : Nat) : ∀ (row : List Int) (cs : List Int) (k : Nat), scan (leadText row bh) cs 0 k = (row.foldl (fun cs r => bump cs r.toNat) cs, bh, k + row.length) := by
  intro row
  induction row with
  | nil => intro cs k; show scan (List.replicate bh 32 ++ [120, 9, 32]) cs 0 k = _; rw [scan_end, Nat.zero_add]; rfl
  | cons r row ih =>
    intro cs k
    have e : leadText (r :: row) bh = List.replicate r.toNat 32 ++ 9 :: leadText row bh := by
      simp [leadText, runText]
    rw [e, scan_run, Nat.zero_add, ih, List.foldl_cons, List.length_cons, show k + 1 + row.length = k + (row.length + 1) by omega]
theorem lead_size (bh : Nat) (row : List Int) (h : ∀ r ∈ row, r.toNat ≤ 10) : (leadText row bh).length ≤ 11 * row.length + bh + 3 := by
  have : ((row.map runText).flatten).length ≤ 11 * row.length := by
    induction row with
    | nil => simp
    | cons r row ih =>
      have h1 := h r (by simp)
      have h2 := ih fun x hx => h x (by simp [hx])
      simp only [List.map_cons, List.flatten_cons, List.length_append, List.length_cons, runText, List.length_replicate, List.length_nil] at h2 ⊢
      omega
  simp only [leadText, List.length_append, List.length_replicate, List.length_cons, List.length_nil]
  omega

theorem footWs (cs : Nat → List Int) (b nt : Nat → Int) : Foot (fun S h i y => ∃ x, y = Value.ref x ∧ WsAt S h x (cs i) (b i) (nt i)) where
  keep := fun S h h' i y ⟨x, e, W⟩ k => ⟨x, e, W.keepS k⟩
  mono := fun S S' h i y ⟨x, e, W⟩ k => ⟨x, e, W.mono k⟩
def LeadsAt (L : Addr) (h : Heap) (D : Addr) (n : Nat) (row : Nat → List Int) (bh : Nat) : Prop :=
  Sf L D ∧ ∃ vs, h.IsList D (List.toArray vs) ∧ vs.length = n ∧ ∀ (i : Nat) (y : Value), vs[i]? = some y → ∃ x, y = .ref x ∧ WsAt (Sf L) h x (countOf (row i)) (bh : Int) ((row i).length : Int)
theorem LeadsAt.keep {L : Addr} {h h' : Heap} {D : Addr} {n bh : Nat} {row : Nat → List Int} (x : LeadsAt L h D n row bh) (k : KeepS L h h') : LeadsAt L h' D n row bh :=
  let ⟨s, vs, l, hn, f⟩ := x; ⟨s, vs, l.at fun o e => k _ o s e, hn, fun i y e => let ⟨r, e', z⟩ := f i y e; ⟨r, e', z.keepS k⟩⟩
theorem footStr (f : Nat → List Nat) : Foot (fun _ _ i y => ∃ z u, y = Value.str z u ∧ z.cps.toList = f i) := ⟨fun _ _ _ _ _ x _ => x, fun _ _ _ _ _ x _ => x⟩
theorem strsOf (f : Nat → List Nat) : ∀ (ys : List Value), (∀ (i : Nat) (y : Value), ys[i]? = some y → ∃ z u, y = Value.str z u ∧ z.cps.toList = f i) → ∃ zs, StrsAre ys zs ∧ zs.map (fun z => z.cps.toList) = (List.range ys.length).map f := by
  intro ys
  induction ys generalizing f with
  | nil => intro _; exact ⟨[], .nil, rfl⟩
  | cons y r ih =>
    intro h
    obtain ⟨z, u, rfl, e⟩ := h 0 _ List.getElem?_cons_zero
    obtain ⟨zs, h1, h2⟩ := ih (f ∘ Nat.succ) fun i y e => h (i + 1) y (by simpa using e)
    refine ⟨z :: zs, .cons _ _ h1, ?_⟩
    rw [List.length_cons, List.range_succ_eq_map, List.map_cons, List.map_cons, List.map_map, h2, e]

section
variable {prog : Program} {w : World} {A : Around} {E : Value → Shared → Prop} {hp : Heap} {g : Array GenState} {d : Drawn} {t : Nat} {os : OsState} {mg mb mN : Str → Option Value}
variable {h₀ : Heap} {L a : Addr} {cd : Value} {m cm : Str → Option Value}

set_option maxHeartbeats 8000000 in
theorem sA7 (T : Tp mg mb mN h₀) (N : Names mg mb mN) (F : FL h₀ L a cd hp m cm) (hh : A.handled = none) (hroom : A.depth + 2 < recursionLimit) {n : Nat} (hn' : n ≤ 5) {bh : Nat} {ub : Tok} (hbh : bh ≤ 2) (hcb : cm "behind" = some (.int bh ub)) {row : Nat → List Int} (hrow : ∀ i, i < n → Row n 6 (row i))
    {D : Addr} (hmr : m "rows" = some (.ref D)) (hD : ListsAt L hp D n row) {Q : Flow → Shared → Prop}
    (hQ : ∀ h' t' D', LeadsAt L h' D' n row bh → FL h₀ L a cd h' (fun y => if y = "leads" then some (.ref D') else m y) cm → KeepS L hp h' → Q .next ⟨h', g, d, t', os⟩) :
    wpAny (model prog w) A (exec (lawStmt 7) (lawEnv L a cd)) Q E ⟨hp, g, d, t, os⟩ := by
  obtain ⟨hsD, vs, hlD, hnD, hrD⟩ := hD
  refine asNL (g := g) (d := d) (os := os) (h₀ := h₀) (footWs (fun i => countOf (row i)) (fun _ => bh) (fun i => (row i).length)) hh rfl rfl (by decide) rfl (by decide) rfl rfl rfl ?_
  refine cnL F hmr ?_
  refine ⟨D, vs, hp, t, m, cm, rfl, rfl, F, hlD, by omega, fun C i v h₁ t1 m' hC hiv hns hm hk => ?_, fun D' h' t' ys hD' hpl hlen hF F' hk => ?_⟩
  · obtain ⟨r, rfl, hr⟩ := hrD i v hiv
    have hi : i < n := by rw [← hnD]; exact (List.getElem?_eq_some_iff.mp hiv).1
    obtain ⟨hrn, hrb⟩ := hrow i hi
    obtain ⟨_, vr, hlr, hir⟩ := hr.keep (KeepS.of hk)
    have hlr' := hir.length
    have T₁ := (FL.tp F T).keeps hk
    have hcb₁ : h₁.IsCell (L + 4) (some (.int bh ub)) := by rw [← hcb]; exact let ⟨o, e, q⟩ := F.cell "behind" (L + 4) rfl; ⟨o, hk _ _ e, q⟩
    refine callN ?_
    refine cnG T₁ N.ws ?_
    with_reducible refine callWith_cls T₁.cls ?_ (he := ?ea) (hplain := ?eb)
    case ea => rfl
    case eb => rfl
    refine args_cons ?_
    refine wpAny_BinOp ?_
    refine wpAny_BinOp ?_
    refine MethodCall_ ?_
    with_reducible refine cStr fun u2 t2 => ?_
    refine GM.join ?_
    refine callWith_method1 ?_
    refine args_cons ?_
    refine evNL (g := g) (d := d) (os := os) (footStr fun j => runText ((row i).getD j 0)) hh rfl (by decide) rfl (by decide) rfl ?_
    refine ceL hns hm ?_
    refine ⟨r, vr, h₁, t2, rfl, rfl, hlr, by omega, fun C2 j v h₂ t3 m2 hC2 hjv hns2 hm2 hk2 => ?_, fun D2 h₂ t3 zs hD2 hpl2 hlen2 hF2 hk2 => ?_⟩
    · obtain ⟨uj, rfl⟩ := hir.int_at j _ hjv
      have hj : j < (row i).length := by rw [← hlr']; exact (List.getElem?_eq_some_iff.mp hjv).1
      have hb := hrb ((row i).getD j 0) (by rw [List.getD_eq_getElem?_getD, List.getElem?_eq_getElem hj]; exact List.getElem_mem hj)
      refine wpAny_BinOp ?_
      refine wpAny_BinOp ?_
      refine cStr fun u4 t4 => ?_
      refine ceL hns2 hm2 ?_
      generalize (row i).getD j 0 = q at hb ⊢
      rw [show q = ((q.toNat : Nat) : Int) by omega]
      refine strMul (by omega) fun y u5 t5 hy => ?_
      refine cStr fun u6 t6 => ?_
      refine strAdd (by rw [hy, tab_is]; simp; omega) fun z u7 t7 hz => ?_
      refine ⟨_, _, rfl, fun _ _ e => e, z, u7, rfl, ?_⟩
      rw [hz, hy, tab_is]
      simp [runText]
      omega
    · obtain ⟨texts, hst, hmap⟩ := strsOf _ zs hF2
      have hze : zs.length = n := by omega
      have hmapE : texts.map (fun z => z.cps.toList) = (row i).map runText := by
        rw [hmap, hze, ← hrn]
        apply List.ext_getElem
        · simp
        · intro j h1 h2
          simp only [List.getElem_map, List.getElem_range]
          rw [List.getD_eq_getElem?_getD, List.getElem?_eq_getElem (by simpa using h2)]
          first | rfl | skip
      have hlens : (texts.map (·.length)).sum = ((row i).map runText).flatten.length := by
        rw [← hmapE, List.length_flatten, List.map_map]
        congr 1
      have hls := lead_size bh (row i) fun r hr => by have := hrb r hr; omega
      have hflat : ((row i).map runText).flatten.length ≤ 11 * 5 + 2 + 3 := by
        simp only [leadText, List.length_append] at hls
        omega
      have htl : texts.length = n := by have := congrArg List.length hmapE; simpa [hrn] using this
      refine args_nil ?_
      refine strJoin (items := zs.toArray) hpl2.isList hst rfl (by omega) fun z u8 t8 hz => ?_
      rw [hmapE] at hz
      refine wpAny_BinOp ?_
      refine cStr fun u9 t9 => ?_
      refine ceC (let ⟨o, e, q⟩ := hcb₁; ⟨o, hk2 _ _ e, q⟩) rfl ?_
      refine strMul (by omega) fun y u10 t10 hy => ?_
      have zsz : z.cps.size ≤ 60 := by have := congrArg List.length hz; simp only [Array.length_toList] at this; omega
      refine strAdd (by rw [hy]; simp; omega) fun z2 u11 t11 hz2 => ?_
      refine cStr fun u12 t12 => ?_
      have hxt : (Str.ofString "x\t ") = ⟨#[120, 9, 32]⟩ := by decide +kernel
      refine strAdd (by rw [hz2, hy, hxt]; simp; omega) fun z3 u13 t13 hz3 => ?_
      have hz3L : z3.cps.toList = leadText (row i) bh := by
        rw [hz3, hz2, hy, hxt]
        simp [leadText, hz]
      refine args_nil ⟨fun b o e => hk2 b o e, ?_⟩
      have hscan : scan z3.cps.toList [] 0 0 = (countOf (row i), bh, (row i).length) := by rw [hz3L, scan_lead, Nat.zero_add]; rfl
      refine makeW (T₁.keeps hk2) N hscan (by
        have := congrArg List.length hz3L
        simp only [Array.length_toList] at this
        omega) hh (by omega) fun h' x t' k' hx W => ?_
      exact ⟨h', t', rfl, fun b o e => k' _ _ (hk2 _ _ e), x, rfl, W.mono fun b o q _ => noneOf hk2 q⟩
  · have hDL : Sf L D' := FL.sf F hD'
    refine hQ h' t' D' ⟨hDL, ys, hpl.isList, by omega, fun i y e => ?_⟩ F' (KeepS.ofL hk)
    obtain ⟨x, e', W⟩ := hF i y e
    exact ⟨x, e', W.mono fun b o q _ => FL.sfNone F q.1⟩
end
end Mine

open PySem PySem.W PyProof.Rows
namespace Mine
set_option maxRecDepth 100000

def phi : List Int := [1, 1, 2, 2, 4, 2, 6]
def pDiv (dd : Int) (v : Value) : Bool := match v with | .int e _ => dd % e == 0 | _ => false
def fTot (tot : List Int) (v y : Value) : Prop := ∃ e u u', v = .int e u ∧ y = .int (tot.getD (e - 1).toNat 0) u'
theorem pairedF (dd : Int) (tot : List Int) : ∀ {vs : List Value} {es : List Int}, IntsAre vs es → ∀ {ys : List Value}, Paired (fTot tot) (vs.filter (pDiv dd)) ys → IntsAre ys ((es.filter fun e => dd % e == 0).map fun e => tot.getD (e - 1).toNat 0)
  | _, _, .nil, ys, h => by cases h; exact .nil
  | _, _, .cons (ns := es) n u r, ys, h => by
    by_cases q : (dd % n == 0) = true
    · have hp : pDiv dd (.int n u) = true := q
      rw [List.filter_cons_of_pos hp] at h
      rw [List.filter_cons_of_pos (p := fun e => dd % e == 0) q, List.map_cons]
      cases h with
      | cons x t =>
        obtain ⟨e, u1, u2, e1, rfl⟩ := x
        cases e1
        exact .cons _ _ (pairedF dd tot r t)
    · have hp : ¬ pDiv dd (.int n u) = true := q
      rw [List.filter_cons_of_neg hp] at h
      rw [List.filter_cons_of_neg (p := fun e => dd % e == 0) q]
      exact pairedF dd tot r h
theorem walksBd {prog : Program} {w : World} {A : Around} {I : Addr} {fp wr : List Addr} {n : Nat} {P : Nat → Value → Prop} {St : Nat → Heap → Prop} (W : Walks prog w A I fp wr n P St) : Walks prog w A I fp wr n (fun i v => i < n ∧ P i v) St :=
  { W with item := fun i s Q E hi hst hQ => W.item i s Q E hi hst fun v h' tk hP => hQ v h' tk ⟨hi, hP⟩ }
theorem intsRange (a : Int) : ∀ (vs : List Value), (∀ (j : Nat) (v : Value), vs[j]? = some v → ∃ u, v = Value.int (a + j) u) → IntsAre vs ((List.range vs.length).map fun (j : Nat) => a + (j : Int)) := fun vs h => intsOf (fun j => a + (j : Int)) vs h
theorem phi_next (i : Nat) (hi : i < 7) : ((1 : Int) + i) - ((((List.range i).map fun (j : Nat) => (1 : Int) + (j : Int)).filter fun e => ((1 : Int) + i) % e == 0).map fun e => (phi.take i).getD (e - 1).toNat 0).sum = phi.getD i 0 := by
  have : i = 0 ∨ i = 1 ∨ i = 2 ∨ i = 3 ∨ i = 4 ∨ i = 5 ∨ i = 6 := by omega
  rcases this with rfl | rfl | rfl | rfl | rfl | rfl | rfl <;> decide

section
variable {prog : Program} {w : World} {A : Around} {E : Value → Shared → Prop} {hp : Heap} {g : Array GenState} {d : Drawn} {t : Nat} {os : OsState} {mg mb mN : Str → Option Value}
variable {h₀ : Heap} {L a : Addr} {cd : Value} {m cm : Str → Option Value}

set_option maxHeartbeats 8000000 in
theorem sA89 (T : Tp mg mb mN h₀) (N : Names mg mb mN) (F : FL h₀ L a cd hp m cm) (hh : A.handled = none) {rest : List Stmt} {Q : Flow → Shared → Prop}
    (hQ : ∀ h' t' D cm', LI L h' D phi → cm' "totients" = some (.ref D) → (∀ y : Str, y ≠ "d" → y ≠ "totients" → cm' y = cm y) → FL h₀ L a cd h' m cm' → KeepS L hp h' → wpAny (model prog w) A (execs rest (lawEnv L a cd)) Q E ⟨h', g, d, t', os⟩) :
    wpAny (model prog w) A (execs (lawStmt 8 :: lawStmt 9 :: rest) (lawEnv L a cd)) Q E ⟨hp, g, d, t, os⟩ := by
  refine wpAny_execs_cons ?_
  refine wpAny_Assign_Name ?_
  refine lstE ?_
  refine args_nil ⟨by decide, fun h₁ D k₁ hD hl₁ => ?_⟩
  have F₁ := F.keeps k₁
  have hDs : Sf L D := FL.sf F hD
  have hDL : L + 7 < D := Nat.lt_of_lt_of_le (FL.size F) hD
  have hDlt : D < h₁.objs.size := Heap.lt_size hl₁
  refine csC F₁ (c := L + 5) rfl fun h₂ t2 F₂ s₂ => ?_
  have hl₂ : h₂.PlainList D ([] : List Value).toArray := ⟨0, s₂.extBut _ _ (hDs.neC (by decide)) hl₁⟩
  have K₂ : ∀ b o, Sf L b → hp.get? b = some o → h₂.get? b = some o := KeepS.trans (KeepS.of k₁) (KeepS.same s₂ (by decide))
  have hDlt₂ : D < h₂.objs.size := by obtain ⟨n, e⟩ := hl₂; exact Heap.lt_size e
  refine wpAny_execs_cons ?_
  refine wpAny_For ?_
  refine callN ?_
  refine cnB (FL.tp F₂ T) N.nrange N.range ?_
  refine PyProof.Rows.callWith_type1 ?_
  refine args_cons (cInt fun u3 t3 => ?_)
  refine args_cons (cInt fun u4 t4 => ?_)
  refine args_nil ?_
  refine rangeCall fun r h₃ t5 u5 v5 k₃ hr3 hr _ => ?_
  refine rangeIterO hr (by decide) (by decide) (by decide) (by decide) hh fun I h₄ t6 St k₄ hI W hst hlive => ?_
  have ez : ((8 : Int) - 1).toNat = 7 := rfl
  rw [ez] at W
  have F₄ := (F₂.keeps k₃).keeps k₄
  have hIL : L + 7 < I := Nat.lt_of_lt_of_le (FL.size (F₂.keeps k₃)) hI
  have hDI : D < I := by
    obtain ⟨n, e⟩ := hl₂
    exact Nat.lt_of_lt_of_le (Heap.lt_size (k₃ _ _ e)) hI
  have hIs : Sf L I := Sf.of_lt (FL.far F) hIL
  have K₄ : ∀ b o, Sf L b → b ≠ D → b ≠ I → hp.get? b = some o → h₄.get? b = some o := fun b o q _ _ e => k₄ _ _ (k₃ _ _ (K₂ b o q e))
  show codeAny _ _ (.forLoop _ (.ref I) _ [] _) _ _
  refine forAny (fun i s => ∃ h t cm' vs, s = ⟨h, g, d, t, os⟩ ∧ FL h₀ L a cd h m cm' ∧ St i h ∧ h.PlainList D (List.toArray vs) ∧ IntsAre vs (phi.take i) ∧ cm' "totients" = some (.ref D) ∧ (∀ y : Str, y ≠ "d" → y ≠ "totients" → cm' y = cm y) ∧
    (∀ b o, Sf L b → b ≠ D → b ≠ I → hp.get? b = some o → h.get? b = some o)) 7 ?_ ?_
    ⟨h₄, t6, _, [], rfl, F₄, hst, hl₂.at fun o e => k₄ _ _ (k₃ _ _ e), .nil, rfl, fun y _ q => if_neg q, K₄⟩
  · rintro i s ⟨h, t, cm', vs, rfl, G, hsi, hl, hi, c1, c2, hk⟩ hi7
    refine W.item i _ _ _ hi7 hsi fun v h₅ t7 hP hst₅ hk₅ => ⟨v, rfl, ?_⟩
    obtain ⟨uv, rfl⟩ := hP
    refine wpAny_of_eq (rfl : letOwnedTupleGo (.Name _ _) (.ref I) _ = pure ()) ?_
    have kI : ∀ b o, b ≠ I → h.get? b = some o → h₅.get? b = some o := fun b o q e => hk₅ b o (fun r => q (List.mem_singleton.mp r)) e
    have G₅ := FL.low G (h' := h₅) fun b o hb e => kI b o (Nat.ne_of_lt (Nat.lt_of_le_of_lt hb hIL)) e
    refine wpAny_assign_Name (csC G₅ (c := L + 6) rfl fun h₆ t8 G₆ s₆ => ?_)
    have k₆ : ∀ b o, Sf L b → b ≠ I → h.get? b = some o → h₆.get? b = some o := fun b o q1 q2 e => s₆.extBut b o (q1.neC (by decide)) (kI b o q2 e)
    have hl₆ : h₆.PlainList D vs.toArray := hl.at fun o e => k₆ _ _ hDs (Nat.ne_of_lt hDI) e
    have hst₆ : St (i + 1) h₆ := W.frame _ _ _ hst₅ fun b hb o e => s₆.extBut b o (by rw [List.mem_singleton.mp hb]; exact hIs.neC (by decide)) e
    have T₆ := FL.tp G₆ T
    have hlen := hi.length
    have hvl : vs.length ≤ 7 := by have : phi.length = 7 := rfl; rw [hlen, List.length_take]; omega
    have hcd : h₆.IsCell (L + 6) (some (.int (1 + (i : Int)) uv)) := G₆.cell "d" (L + 6) rfl
    have hct : h₆.IsCell (L + 5) (some (.ref D)) := by rw [← c1]; exact G₆.cell "totients" (L + 5) rfl
    refine wpAny_execs_cons ?_
    refine wpAny_Expr ?_
    refine MethodCall_ ?_
    refine cnC G₆ (c := L + 5) rfl (by exact c1) ?_
    obtain ⟨nl, hnl⟩ := id hl₆
    refine PySem.Calls.getMethod_list_append hnl rfl rfl ?_
    refine callWith_method1 ?_
    refine args_cons ?_
    refine wpAny_BinOp ?_
    refine cnC G₆ (c := L + 6) rfl (v := .int (1 + (i : Int)) uv) rfl ?_
    refine callN ?_
    refine cnB T₆ N.nsum N.sum ?_
    refine PyProof.Rows.callWith_builtin1 ?_
    refine args_cons ?_
    refine wpAny_ListComp_free (pDiv (1 + (i : Int))) (fTot (phi.take i)) rfl (by decide) rfl (by decide) rfl ?_
    refine callN ?_
    refine cnB T₆ N.nrange N.range ?_
    refine PyProof.Rows.callWith_type1 ?_
    refine args_cons (cInt fun u9 t9 => ?_)
    refine args_cons ?_
    refine cnC G₆ (c := L + 6) rfl (v := .int (1 + (i : Int)) uv) rfl ?_
    refine args_nil ?_
    refine rangeCall fun r2 h₇ t10 u10 v10 k₇ _ hr2 _ => ?_
    refine rangeIterO hr2 (by decide) (by decide) (by omega) (by omega) hh fun I2 h₈ t11 St2 k₈ hI2 W2 hst2 hlive2 => ?_
    have ez2 : ((1 : Int) + i - 1).toNat = i := by omega
    rw [ez2] at W2
    obtain ⟨oI2, eI2⟩ := hlive2 _ _ hst2
    have k₆₈ : Keep h₆ h₈ := fun b o e => k₈ _ _ (k₇ _ _ e)
    have hI2n : ∀ b o, h₆.get? b = some o → b ∉ [I2] := fun b o e q => by
      rw [List.mem_singleton.mp q] at e
      exact absurd (Nat.lt_of_lt_of_le (Heap.lt_size (k₇ _ _ e)) hI2) (Nat.lt_irrefl _)
    refine ⟨I2, [I2], [I2], i, _, St2, rfl, walksBd W2, by rw [sizeLine_eq]; omega, hst2, fun b hb => by rw [List.mem_singleton.mp hb]; exact Heap.lt_size eI2, ⟨?_, ?_⟩, ?_⟩
    · rintro C j v ⟨h₉, g₉, d₉, t₉, os₉⟩ m₉ E' hC ⟨_, uj, rfl⟩ hns hm hk9 _
      have up : Keep h₆ h₉ := fun b o e => hk9 b o (hI2n b o e) (k₆₈ b o e)
      refine wpAny_tests_one ?_
      refine wpAny_isTrue_Compare1 ?_
      refine wpAny_BinOp ?_
      refine ceC (let ⟨o, e, q⟩ := hcd; ⟨o, up _ _ e, q⟩) rfl ?_
      refine ceL hns hm ?_
      refine modI (by omega) fun u1 t1 => ?_
      refine cInt fun u2 t2 => ?_
      refine P.eq_int ?_
      refine wpAny_truthy_bool ?_
      exact ⟨rfl, _, _, rfl, fun _ _ e => e⟩
    · rintro C j v ⟨h₉, g₉, d₉, t₉, os₉⟩ m₉ E' hC ⟨hj, uj, rfl⟩ hpv hns hm hk9 _
      have up : Keep h₆ h₉ := fun b o e => hk9 b o (hI2n b o e) (k₆₈ b o e)
      refine wpAny_Subscript_BinOp_late ?_
      refine ceC (let ⟨o, e, q⟩ := hct; ⟨o, up _ _ e, q⟩) rfl ?_
      refine wpAny_BinOp ?_
      refine ceL hns hm ?_
      refine cInt fun u1 t1 => ?_
      refine subI fun u2 t2 => ?_
      have hjl : j < (phi.take i).length := by rw [List.length_take]; have : phi.length = 7 := rfl; omega
      obtain ⟨ue, hue⟩ := hi.get j ((phi.take i).getD j 0) (by rw [List.getD_eq_getElem?_getD]; simp only [List.getElem?_eq_getElem hjl]; rfl)
      have e1 : ((1 : Int) + (j : Int) - 1).toNat = j := by omega
      refine itemL (hl₆.isList.at fun o e => up _ _ e) (by omega) (by omega) (v := .int ((phi.take i).getD j 0) ue) (by rw [e1]; exact hue) ?_
      exact ⟨⟨_, uj, ue, rfl, by rw [e1]⟩, _, _, rfl, fun _ _ e => e⟩
    · intro D2 h₉ t9 ys vs2 hD2 hlD2 _ hvs2 hP2 hF2 hk9
      have up : Keep h₆ h₉ := fun b o e => hk9 b o (hI2n b o e) (k₆₈ b o e)
      have hi2 := intsRange 1 vs2 fun j v e => (hP2 j v e).2
      rw [hvs2] at hi2
      have hy := pairedF _ _ hi2 hF2
      refine args_nil ?_
      refine sumI (vs := ys.toList) hh hlD2 hy ?_ ?_ fun h₁₀ t10 u10 k₁₀ => ?_
      · intro x hx
        obtain ⟨e, _, rfl⟩ := List.mem_map.mp hx
        rw [List.getD_eq_getElem?_getD]
        cases e0 : (phi.take i)[(e - 1).toNat]? with
        | none => decide
        | some z =>
          have hz := List.mem_of_mem_take (List.mem_of_getElem? e0)
          have : ∀ z ∈ phi, z.natAbs ≤ 2 ^ 40 := by decide
          exact this z hz
      · rw [List.length_map]
        have := List.length_filter_le (fun e => (1 + (i : Int)) % e == 0) ((List.range i).map fun (j : Nat) => (1 : Int) + (j : Int))
        rw [List.length_map, List.length_range] at this
        omega
      refine subI fun u11 t11 => ?_
      rw [phi_next i hi7]
      refine args_nil ?_
      have up2 : Keep h₆ h₁₀ := fun b o e => k₁₀ _ _ (up _ _ e)
      refine wpAny_list_append_plain (hl₆.at fun o e => up2 _ _ e) (fun h₁₁ hl₁₁ s₁₁ => ?_) (by simp only [List.size_toArray]; rw [sizeLine_eq]; omega)
      refine wpAny_execs_nil ?_
      have k₁₁ : ∀ b o, b ≠ D → h₆.get? b = some o → h₁₁.get? b = some o := fun b o q e => s₁₁.extBut b o q (up2 _ _ e)
      refine ⟨h₁₁, t11, _, vs ++ [.int (phi.getD i 0) u11], rfl, FL.low G₆ (fun b o hb e => k₁₁ b o (Nat.ne_of_lt (Nat.lt_of_le_of_lt hb hDL)) e), W.frame _ _ _ hst₆ (fun b hb o e => k₁₁ b o (by rw [List.mem_singleton.mp hb]; exact Nat.ne_of_gt hDI) e), by simpa using hl₁₁, ?_, by exact c1, fun y q1 q2 => ?_, fun b o q1 q2 q3 e => k₁₁ b o q2 (k₆ b o q1 q3 (hk b o q1 q2 q3 e))⟩
      · rw [List.take_succ_eq_append_getElem (show i < phi.length from hi7)]
        have : phi.getD i 0 = phi[i]'(show i < phi.length from hi7) := by rw [List.getD_eq_getElem?_getD, List.getElem?_eq_getElem (show i < phi.length from hi7)]; rfl
        rw [this]
        exact hi.append (.cons _ _ .nil)
      · rw [if_neg q1]; exact c2 y q1 q2
  · rintro s ⟨h, t, cm', vs, rfl, G, hsi, hl, hi, c1, c2, hk⟩
    refine W.done _ _ _ hsi fun h₅ t7 hk₅ => ⟨rfl, ?_⟩
    have kI : ∀ b o, b ≠ I → h.get? b = some o → h₅.get? b = some o := fun b o q e => hk₅ b o (fun r => q (List.mem_singleton.mp r)) e
    have G₅ := FL.low G (h' := h₅) fun b o hb e => kI b o (Nat.ne_of_lt (Nat.lt_of_le_of_lt hb hIL)) e
    refine hQ h₅ t7 D cm' ⟨hDs, vs, hl.isList.at fun o e => kI _ _ (Nat.ne_of_lt hDI) e, hi⟩ c1 c2 G₅ fun b o q e => ?_
    have hb : b < hp.objs.size := Heap.lt_size e
    have hbD : b ≠ D := Nat.ne_of_lt (Nat.lt_of_lt_of_le hb hD)
    have hbI : b ≠ I := Nat.ne_of_lt (Nat.lt_trans (Nat.lt_of_lt_of_le hb hD) hDI)
    exact kI b o hbI (hk b o q hbD hbI e)
end
end Mine

open PySem PySem.W PyProof.Rows
namespace Mine
set_option maxRecDepth 100000

theorem preSum_abs (f : Nat → Int) (B : Nat) (h : ∀ i, (f i).natAbs ≤ B) : ∀ j, (preSum f j).natAbs ≤ j * B
  | 0 => by simp [preSum]
  | j + 1 => by
    have := preSum_abs f B h j
    have := h j
    rw [preSum, Nat.succ_mul]
    omega
theorem preSum_mul (k : Int) (f : Nat → Int) : ∀ j, preSum (fun i => k * f i) j = k * preSum f j
  | 0 => by simp [preSum]
  | j + 1 => by rw [preSum, preSum, preSum_mul k f j, Int.mul_add]
def fn (xs : List Int) (i : Nat) : Int := xs.getD i 0
/-- the sum of the products, the second row turned -/
def Sxy (n : Nat) (x y : Nat → Int) (t : Nat) : Int := preSum (fun i => x i * y ((i + t) % n)) n
def Rxy (n : Nat) (x y : Nat → Int) (t : Nat) : Int := n * n * Sxy n x y t - n * preSum x n * preSum y n

theorem cov_first {n : Nat} (hn : 3 ≤ n) (hn' : n ≤ 5) (x y : Nat → Int) :
    preSum (fun i => (n : Int) * (x i - 2)) n = n * (preSum x n - 2 * n) ∧ preSum (fun i => (n : Int) * (n - 1) * y i) n = n * ((n - 1) * preSum y n) ∧
    preSum (fun i => ((n : Int) * (x i - 2) - (preSum x n - 2 * n)) * ((n : Int) * (n - 1) * y i - (n - 1) * preSum y n)) n = ((n : Int) - 1) * Rxy n x y 0 := by
  have : n = 3 ∨ n = 4 ∨ n = 5 := by omega
  rcases this with rfl | rfl | rfl <;> simp only [preSum, Rxy, Sxy] <;> refine ⟨?_, ?_, ?_⟩ <;> grind
theorem cov_turn {n : Nat} (hn : 3 ≤ n) (hn' : n ≤ 5) (t : Nat) (ht : t < n) (x y : Nat → Int) :
    preSum (fun i => (n : Int) * (n - 1) * y ((i + t) % n)) n = n * ((n - 1) * preSum y n) ∧
    preSum (fun i => ((n : Int) * (n - 1) * y ((i + t) % n) - (n - 1) * preSum y n) * ((n : Int) * (x i - 2) - (preSum x n - 2 * n))) n = ((n : Int) - 1) * Rxy n x y t := by
  have : n = 3 ∨ n = 4 ∨ n = 5 := by omega
  have h2 : t = 0 ∨ t = 1 ∨ t = 2 ∨ t = 3 ∨ t = 4 := by omega
  rcases this with rfl | rfl | rfl <;> rcases h2 with rfl | rfl | rfl | rfl | rfl <;> first | omega | (simp only [preSum, Rxy, Sxy]; refine ⟨?_, ?_⟩ <;> grind)

section
variable {prog : Program} {w : World} {A : Around} {E : Value → Shared → Prop} {hp : Heap} {g : Array GenState} {d : Drawn} {t : Nat} {os : OsState} {mg mb mN : Str → Option Value}
variable {h₀ : Heap} {L a : Addr} {cd : Value} {m cm : Str → Option Value}

/-- covariance of two lists, each its numbers' k sixteenths -/
theorem covK (T : Tp mg mb mN hp) (N : Names mg mb mN) (Tq' : Tq mg hp) (hfar : 76 < hp.objs.size) (k kk : Int) (hk : k = 16 ∧ kk = 16 ∨ k = 4 ∧ kk = 1) {l1 l2 : Addr} {vs1 vs2 : List Value} {n : Nat} (hl1 : hp.IsList l1 vs1.toArray) (hl2 : hp.IsList l2 vs2.toArray) (h172 : l1 ≠ 72) (h272 : l2 ≠ 72)
    (hn1 : vs1.length = n) (hn2 : vs2.length = n) (hn : 3 ≤ n) (hn' : n ≤ 5) (X Y : Nat → Int) (p q R : Int) (hX : ∀ i v, vs1[i]? = some v → NumV v (k * X i)) (hY : ∀ i v, vs2[i]? = some v → NumV v (k * Y i))
    (bX : ∀ i, (X i).natAbs ≤ 100) (bY : ∀ i, (Y i).natAbs ≤ 100) (hp' : preSum X n = n * p) (hq : preSum Y n = n * q) (bp : p.natAbs ≤ 100) (bq : q.natAbs ≤ 100)
    (hR : preSum (fun i => (X i - p) * (Y i - q)) n = ((n : Int) - 1) * R) (bR : R.natAbs ≤ 1000000)
    (hh : A.handled = none) (hroom : A.depth + 1 < recursionLimit) {Q : Value → Shared → Prop}
    (hQ : ∀ h' g' t' v, KeepT hp h' → Cd hp h' → (AllBare g → AllBare g') → FltV v (kk * R) → Q v ⟨h', g', d, t', os⟩) :
    wpAny (model prog w) A (call (.ref 77) [.ref l1, .ref l2]) Q E ⟨hp, g, d, t, os⟩ := by
  have bc : ∀ i, ((X i - p) * (Y i - q)).natAbs ≤ 200 * 200 := fun i => by
    rw [Int.natAbs_mul]
    exact Nat.mul_le_mul (by have := bX i; omega) (by have := bY i; omega)
  have b1 := preSum_abs X 100 bX
  have b2 := preSum_abs Y 100 bY
  have b3 := preSum_abs _ _ bc
  have lt5 : ∀ j, j ≤ n → ∀ B : Nat, j * B ≤ 5 * B := fun j hj B => Nat.mul_le_mul_right _ (by omega)
  have hk16 : k.natAbs ≤ 16 ∧ kk.natAbs ≤ 16 := by omega
  have mk : ∀ (z : Int) (B : Nat), z.natAbs ≤ B → (k * z).natAbs ≤ 16 * B := fun z B h => by rw [Int.natAbs_mul]; exact Nat.mul_le_mul hk16.1 h
  have mkk : ∀ (z : Int) (B : Nat), z.natAbs ≤ B → (kk * z).natAbs ≤ 16 * B := fun z B h => by rw [Int.natAbs_mul]; exact Nat.mul_le_mul hk16.2 h
  refine cov_spec T N Tq' hfar (by decide) hl1 hl2 h172 h272 hn1 hn2 (by omega) (by omega) (fun i => k * X i) (fun i => k * Y i) (fun i => kk * ((X i - p) * (Y i - q))) (k * p) (k * q) (kk * R) hX hY
    (fun i => by have := mk _ _ (bX i); omega) (fun i => by have := mk _ _ (bY i); omega)
    (fun j hj => by rw [preSum_mul]; have := mk _ _ (b1 j); have := lt5 j hj 100; omega) (fun j hj => by rw [preSum_mul]; have := mk _ _ (b2 j); have := lt5 j hj 100; omega)
    (by rw [preSum_mul, hp']; exact Int.mul_left_comm _ _ _) (by rw [preSum_mul, hq]; exact Int.mul_left_comm _ _ _)
    (by have := mk _ _ bp; omega) (by have := mk _ _ bq; omega)
    (fun i _ => ?_) (fun j _ => by have := mkk _ _ (bc j); omega) (fun j hj => by rw [preSum_mul]; have := mkk _ _ (b3 j); have := lt5 j hj (200 * 200); omega)
    (by rw [preSum_mul, hR]; exact Int.mul_left_comm _ _ _) (by have := mkk _ _ bR; omega) hh hroom hQ
  rcases hk with ⟨rfl, rfl⟩ | ⟨rfl, rfl⟩ <;> grind

theorem cwF {env : Env} {f : Addr} {fd : FuncData} {pos : Pos} {e : Expr} {rest : List Expr} {Q : Value → Shared → Prop} {s : Shared} {h₀ : Heap} (hf : FnAt h₀ f fd)
    (h : wpAny (model prog w) A (spliced (backTo pos (starEach (e :: rest) env))) (fun vs s₁ => Keep h₀ s₁.heap ∧ wpAny (model prog w) A (call (.ref f) vs) Q E s₁) E s)
    (he : starEach (e :: rest) env = (false, eval e env) :: starEach rest env := by rfl) :
    wpAny (model prog w) A (callWith pos (.ref f) [] (backTo pos (starEach (e :: rest) env)) []) Q E s := by
  obtain ⟨⟨o, ho, hcl, hdat⟩, _⟩ := hf
  exact callWith_def hdat (wpAny_mono h (fun vs s₁ h₁ => ⟨h₁.1 _ _ ho, h₁.2⟩) fun _ _ q => q) he

/-- a list of numbers, each its z sixteenths, off the frame -/
def LN (L : Addr) (h : Heap) (r : Addr) (n : Nat) (z : Nat → Int) : Prop := Sf L r ∧ ∃ vs, h.IsList r (List.toArray vs) ∧ vs.length = n ∧ ∀ i v, vs[i]? = some v → NumV v (z i)
theorem LN.keep {L : Addr} {h h' : Heap} {r : Addr} {n : Nat} {z : Nat → Int} (x : LN L h r n z) (k : KeepS L h h') : LN L h' r n z :=
  let ⟨s, vs, l, y⟩ := x; ⟨s, vs, l.at fun o e => k _ o s e, y⟩
theorem LI.num {L : Addr} {h : Heap} {r : Addr} {n : Nat} {z : Nat → Int} (x : LI L h r ((List.range n).map z)) : LN L h r n (fun i => 16 * z i) := by
  obtain ⟨s, vs, l, hi⟩ := x
  have hlen := hi.length
  simp only [List.length_map, List.length_range] at hlen
  refine ⟨s, vs, l, hlen, fun i v e => ?_⟩
  obtain ⟨u, rfl⟩ := hi.int_at i v e
  have hi' : i < n := by rw [← hlen]; exact (List.getElem?_eq_some_iff.mp e).1
  refine .inl ⟨_, u, rfl, ?_⟩
  rw [List.getD_eq_getElem?_getD, List.getElem?_map, List.getElem?_range hi']; rfl

set_option maxHeartbeats 8000000 in
theorem sA10 (F : FL h₀ L a cd hp m cm) (hh : A.handled = none) {n : Nat} {un : Tok} (hn' : n ≤ 5) (hcn : cm "n" = some (.int n un)) {xs : List Int} {ax : Addr} (hcx : cm "xs" = some (.ref ax)) (hxs : LI L hp ax xs) (hxn : xs.length = n) {Q : Flow → Shared → Prop}
    (hQ : ∀ h' t' D, LI L h' D ((List.range n).map fun i => (n : Int) * (fn xs i - 2)) → FL h₀ L a cd h' (fun y => if y = "wide" then some (.ref D) else m y) cm → KeepS L hp h' → Q .next ⟨h', g, d, t', os⟩) :
    wpAny (model prog w) A (exec (lawStmt 10) (lawEnv L a cd)) Q E ⟨hp, g, d, t, os⟩ := by
  obtain ⟨hs, vs, hl, hi⟩ := hxs
  have hlen := hi.length
  refine asNL (g := g) (d := d) (os := os) (h₀ := h₀) (footInt fun i => (n : Int) * (fn xs i - 2)) hh rfl rfl (by decide) rfl (by decide) rfl rfl rfl ?_
  refine cnC F (c := L + 2) rfl hcx ?_
  refine ⟨ax, vs, hp, t, m, cm, rfl, rfl, F, hl, by omega, fun C i v h₁ t1 m' hC hiv hns hm hk => ?_, fun D h' t' ys hD hpl hle hF F' hk => ?_⟩
  · obtain ⟨ux, rfl⟩ := hi.int_at i _ hiv
    refine wpAny_BinOp ?_
    refine ceC (c := L + 1) (v := .int n un) (by rw [← hcn]; exact let ⟨o, e, q⟩ := F.cell "n" (L + 1) rfl; ⟨o, hk _ _ e, q⟩) rfl ?_
    refine wpAny_BinOp ?_
    refine ceL hns hm ?_
    refine cInt fun u1 t1 => ?_
    refine subI fun u2 t2 => ?_
    refine mulI (by omega) (by omega) fun u3 t3 => ?_
    exact ⟨_, _, rfl, fun _ _ e => e, u3, rfl⟩
  · have hi4 := intsOf _ ys hF
    rw [hle, hlen, hxn] at hi4
    exact hQ h' t' D ⟨FL.sf F hD, ys, hpl.isList, hi4⟩ F' (KeepS.ofL hk)

set_option maxHeartbeats 8000000 in
theorem sA11 (F : FL h₀ L a cd hp m cm) (hh : A.handled = none) {n : Nat} {un : Tok} (hn : 1 ≤ n) (hn' : n ≤ 5) (hcn : cm "n" = some (.int n un)) {ys : List Int} {ay : Addr} (hcy : cm "ys" = some (.ref ay)) (hys : LI L hp ay ys) (hyn : ys.length = n) {Q : Flow → Shared → Prop}
    (hQ : ∀ h' t' D, LI L h' D ((List.range n).map fun i => (n : Int) * (n - 1) * fn ys i) → FL h₀ L a cd h' (fun y => if y = "tall" then some (.ref D) else m y) cm → KeepS L hp h' → Q .next ⟨h', g, d, t', os⟩) :
    wpAny (model prog w) A (exec (lawStmt 11) (lawEnv L a cd)) Q E ⟨hp, g, d, t, os⟩ := by
  obtain ⟨hs, vs, hl, hi⟩ := hys
  have hlen := hi.length
  have hb : (n : Int) * (n - 1) ≤ 25 := by
    have : n = 1 ∨ n = 2 ∨ n = 3 ∨ n = 4 ∨ n = 5 := by omega
    rcases this with rfl | rfl | rfl | rfl | rfl <;> decide
  have hb0 : 0 ≤ (n : Int) * (n - 1) := Int.mul_nonneg (by omega) (by omega)
  refine asNL (g := g) (d := d) (os := os) (h₀ := h₀) (footInt fun i => (n : Int) * (n - 1) * fn ys i) hh rfl rfl (by decide) rfl (by decide) rfl rfl rfl ?_
  refine cnC F (c := L + 3) rfl hcy ?_
  refine ⟨ay, vs, hp, t, m, cm, rfl, rfl, F, hl, by omega, fun C i v h₁ t1 m' hC hiv hns hm hk => ?_, fun D h' t' zs hD hpl hle hF F' hk => ?_⟩
  · obtain ⟨ux, rfl⟩ := hi.int_at i _ hiv
    have hcn₁ : h₁.IsCell (L + 1) (some (.int n un)) := by rw [← hcn]; exact let ⟨o, e, q⟩ := F.cell "n" (L + 1) rfl; ⟨o, hk _ _ e, q⟩
    refine wpAny_BinOp ?_
    refine wpAny_BinOp ?_
    refine ceC hcn₁ rfl ?_
    refine wpAny_BinOp ?_
    refine ceC hcn₁ rfl ?_
    refine cInt fun u1 t1 => ?_
    refine subI fun u2 t2 => ?_
    refine mulI (by omega) (by omega) fun u3 t3 => ?_
    refine ceL hns hm ?_
    refine mulI (by omega) (by omega) fun u4 t4 => ?_
    exact ⟨_, _, rfl, fun _ _ e => e, u4, rfl⟩
  · have hi4 := intsOf _ zs hF
    rw [hle, hlen, hyn] at hi4
    exact hQ h' t' D ⟨FL.sf F hD, zs, hpl.isList, hi4⟩ F' (KeepS.ofL hk)
end
end Mine

open PySem PySem.W PyProof.Rows
namespace Mine
set_option maxRecDepth 100000

theorem fn_bound {n : Nat} {hi : Int} (h0 : 0 ≤ hi) {xs : List Int} (h : Row n hi xs) (i : Nat) : 0 ≤ fn xs i ∧ fn xs i ≤ hi := by
  unfold fn
  rw [List.getD_eq_getElem?_getD]
  cases e : xs[i]? with
  | none => exact ⟨Int.le_refl _, h0⟩
  | some x => exact h.2 x (List.mem_of_getElem? e)
theorem preSum_pos (f : Nat → Int) (B : Int) (h : ∀ i, 0 ≤ f i ∧ f i ≤ B) : ∀ j : Nat, 0 ≤ preSum f j ∧ preSum f j ≤ j * B
  | 0 => by simp [preSum]
  | j + 1 => by
    have h1 := preSum_pos f B h j
    have h2 := h j
    have e : ((j + 1 : Nat) : Int) * B = j * B + B := by push_cast; grind
    rw [preSum, e]
    omega
theorem Rxy_bound {n : Nat} (hn' : n ≤ 5) (x y : Nat → Int) (t : Nat) (hx : ∀ i, 0 ≤ x i ∧ x i ≤ 3) (hy : ∀ i, 0 ≤ y i ∧ y i ≤ 3) : (Rxy n x y t).natAbs ≤ 10000 := by
  have h1 := preSum_pos x 3 hx n
  have h2 := preSum_pos y 3 hy n
  have h3 : (Sxy n x y t).natAbs ≤ 45 := by
    have := preSum_abs (fun i => x i * y ((i + t) % n)) 9 (fun i => by
      rw [Int.natAbs_mul]
      have a := hx i
      have b := hy ((i + t) % n)
      exact Nat.mul_le_mul (show (x i).natAbs ≤ 3 by omega) (show (y ((i + t) % n)).natAbs ≤ 3 by omega)) n
    unfold Sxy
    omega
  have a1 : ((n : Int) * n * Sxy n x y t).natAbs ≤ 5 * 5 * 45 := by
    rw [Int.natAbs_mul, Int.natAbs_mul]
    exact Nat.mul_le_mul (Nat.mul_le_mul (by omega) (by omega)) h3
  have a2 : ((n : Int) * preSum x n * preSum y n).natAbs ≤ 5 * 15 * 15 := by
    rw [Int.natAbs_mul, Int.natAbs_mul]
    exact Nat.mul_le_mul (Nat.mul_le_mul (by omega) (by omega)) (by omega)
  unfold Rxy
  omega

section
variable {prog : Program} {w : World} {A : Around} {E : Value → Shared → Prop} {hp : Heap} {g : Array GenState} {d : Drawn} {t : Nat} {os : OsState} {mg mb mN : Str → Option Value}
variable {h₀ : Heap} {L a : Addr} {cd : Value} {m cm : Str → Option Value}

/-- covariance(x, y) as an expression of the law, x and y its locals -/
theorem covE (T : Tp mg mb mN h₀) (N : Names mg mb mN) (Tq' : Tq mg h₀) (F : FL h₀ L a cd hp m cm) (hh : A.handled = none) (hroom : A.depth + 1 < recursionLimit) (k kk : Int) (hk : k = 16 ∧ kk = 16 ∨ k = 4 ∧ kk = 1) {nx ny : Str} {p0 p1 p2 pos : Pos} {l1 l2 : Addr} {n : Nat} (hn : 3 ≤ n) (hn' : n ≤ 5) (X Y : Nat → Int) (p q R : Int)
    (hm1 : m nx = some (.ref l1)) (hm2 : m ny = some (.ref l2)) (h1 : LN L hp l1 n (fun i => k * X i)) (h2 : LN L hp l2 n (fun i => k * Y i))
    (bX : ∀ i, (X i).natAbs ≤ 100) (bY : ∀ i, (Y i).natAbs ≤ 100) (hp' : preSum X n = n * p) (hq : preSum Y n = n * q) (bp : p.natAbs ≤ 100) (bq : q.natAbs ≤ 100)
    (hR : preSum (fun i => (X i - p) * (Y i - q)) n = ((n : Int) - 1) * R) (bR : R.natAbs ≤ 1000000) {Q : Value → Shared → Prop}
    (hQ : ∀ h' g' t' v, FL h₀ L a cd h' m cm → KeepS L hp h' → (AllBare g → AllBare g') → FltV v (kk * R) → Q v ⟨h', g', d, t', os⟩)
    (hl1 : (lawEnv L a cd).kindOf nx = some .local := by rfl) (hl2 : (lawEnv L a cd).kindOf ny = some .local := by rfl) (hd1 : (nx == ("__debug__" : Str)) = false := by decide) (hd2 : (ny == ("__debug__" : Str)) = false := by decide) :
    wpAny (model prog w) A (eval (.Call (.Name "covariance" p0) [.Name nx p1, .Name ny p2] [] pos) (lawEnv L a cd)) Q E ⟨hp, g, d, t, os⟩ := by
  obtain ⟨s1, vs1, hl1', hn1, hX⟩ := h1
  obtain ⟨s2, vs2, hl2', hn2, hY⟩ := h2
  refine callN ?_
  refine cnG (FL.tp F T) N.cov ?_
  refine cwF (FL.tp F T).fCov ?_
  refine args_cons ?_
  refine cnL F hm1 ?_ hl1 rfl hd1
  refine args_cons ?_
  refine cnL F hm2 ?_ hl2 rfl hd2
  refine args_nil ⟨fun _ _ e => e, ?_⟩
  have hsz := FL.size F
  refine covK (FL.tp F T) N (Tq'.moves F.keep F.code.self) (Nat.lt_trans (Nat.lt_of_lt_of_le (FL.far F) (Nat.le_add_right L 7)) hsz) k kk hk hl1' hl2' s1.1 s2.1 hn1 hn2 hn hn' X Y p q R hX hY bX bY hp' hq bp bq hR bR hh hroom fun h' g' t' v kT hc hb hf => ?_
  exact hQ h' g' t' v (F.moves kT (F.code.trans hc)) (KeepS.ofT kT) hb hf

set_option maxHeartbeats 8000000 in
theorem sA12 (T : Tp mg mb mN h₀) (N : Names mg mb mN) (Tq' : Tq mg h₀) (F : FL h₀ L a cd hp m cm) (hh : A.handled = none) (hroom : A.depth + 1 < recursionLimit) {n : Nat} (hn : 3 ≤ n) (hn' : n ≤ 5) {xs ys : List Int} (hx : Row n 3 xs) (hy : Row n 3 ys) {aw at' : Addr} (hmw : m "wide" = some (.ref aw)) (hmt : m "tall" = some (.ref at'))
    (hw : LI L hp aw ((List.range n).map fun i => (n : Int) * (fn xs i - 2))) (ht : LI L hp at' ((List.range n).map fun i => (n : Int) * (n - 1) * fn ys i)) {Q : Flow → Shared → Prop}
    (hQ : ∀ h' g' t' v, FltV v (16 * Rxy n (fn xs) (fn ys) 0) → (AllBare g → AllBare g') → FL h₀ L a cd h' (fun y => if y = "first" then some v else m y) cm → KeepS L hp h' → Q .next ⟨h', g', d, t', os⟩) :
    wpAny (model prog w) A (exec (lawStmt 12) (lawEnv L a cd)) Q E ⟨hp, g, d, t, os⟩ := by
  have fx := fn_bound (by decide) hx
  have fy := fn_bound (by decide) hy
  obtain ⟨e1, e2, e3⟩ := cov_first hn hn' (fn xs) (fn ys)
  have p1 := preSum_pos _ 3 fx n
  have p2 := preSum_pos _ 3 fy n
  have hb := Rxy_bound hn' (fn xs) (fn ys) 0 fx fy
  refine wpAny_Assign_Name ?_
  refine covE T N Tq' F hh hroom 16 16 (.inl ⟨rfl, rfl⟩) hn hn' (fun i => (n : Int) * (fn xs i - 2)) (fun i => (n : Int) * (n - 1) * fn ys i) (preSum (fn xs) n - 2 * n) ((n - 1) * preSum (fn ys) n) (Rxy n (fn xs) (fn ys) 0) hmw hmt hw.num ht.num
    (fun i => ?_) (fun i => ?_) e1 e2 (by omega) ?_ e3 (by omega) fun h' g' t' v F' k' hb' hf => ?_
  · have := fx i
    rw [Int.natAbs_mul]
    exact Nat.le_trans (Nat.mul_le_mul (show (n : Int).natAbs ≤ 5 by omega) (show (fn xs i - 2).natAbs ≤ 2 by omega)) (by decide)
  · have := fy i
    rw [Int.natAbs_mul, Int.natAbs_mul]
    exact Nat.le_trans (Nat.mul_le_mul (Nat.mul_le_mul (show (n : Int).natAbs ≤ 5 by omega) (show ((n : Int) - 1).natAbs ≤ 4 by omega)) (show (fn ys i).natAbs ≤ 3 by omega)) (by decide)
  · rw [Int.natAbs_mul]
    exact Nat.le_trans (Nat.mul_le_mul (show ((n : Int) - 1).natAbs ≤ 4 by omega) (show (preSum (fn ys) n).natAbs ≤ 15 by omega)) (by decide)
  · refine csL F' fun h₂ t2 F₂ s₂ => ?_
    exact hQ h₂ g' t2 v hf hb' F₂ (KeepS.trans k' (KeepS.sameL s₂))

theorem footNum (z : Nat → Int) : Foot (fun _ _ i y => NumV y (z i)) := ⟨fun _ _ _ _ _ x _ => x, fun _ _ _ _ _ x _ => x⟩

/-- quarters of a list of ints -/
theorem quart {k : Nat} {nx ny : Str} (hk : (k = 13 ∧ nx = "wide" ∧ ny = "narrow") ∨ (k = 14 ∧ nx = "tall" ∧ ny = "low")) (F : FL h₀ L a cd hp m cm) (hh : A.handled = none) {n : Nat} (hn' : n ≤ 5) {z : Nat → Int} (bz : ∀ i, (z i).natAbs ≤ 100) {aw : Addr} (hmw : m nx = some (.ref aw)) (hw : LI L hp aw ((List.range n).map z)) {Q : Flow → Shared → Prop}
    (hQ : ∀ h' t' D, LN L h' D n (fun i => 4 * z i) → FL h₀ L a cd h' (fun y => if y = ny then some (.ref D) else m y) cm → KeepS L hp h' → Q .next ⟨h', g, d, t', os⟩) :
    wpAny (model prog w) A (exec (lawStmt k) (lawEnv L a cd)) Q E ⟨hp, g, d, t, os⟩ := by
  obtain ⟨hs, vs, hl, hi⟩ := hw
  have hlen := hi.length
  simp only [List.length_map, List.length_range] at hlen
  have elt : ∀ (env1 : Env) (C i : Nat) (v : Value) (h₁ : Heap) (t₁ : Nat) (m' : Str → Option Value) (q1 q2 q3 q4 q5 q6 q7 q8 q9 q10 q11 q12 : Pos), vs[i]? = some v → h₁.Ns C m' → m' "z" = some v → env1.locals = C → env1.kindOf "z" = some .local → env1.scope.kind = .function →
      wpAny (model prog w) A (eval (.IfExp (.Compare (.BinOp (.Name "z" q1) .Mod (.Constant (.int 4) 0 q2) q3) [.Eq] [.Constant (.int 0) 0 q4] q5) (.BinOp (.Name "z" q6) .FloorDiv (.Constant (.int 4) 0 q7) q8) (.BinOp (.Name "z" q9) .Div (.Constant (.int 4) 0 q10) q11) q12) env1)
        (fun y s' => ∃ h' t', s' = ⟨h', g, d, t', os⟩ ∧ Keep h₁ h' ∧ NumV y (4 * z i)) NoE ⟨h₁, g, d, t₁, os⟩ := by
    intro env1 C i v h₁ t₁ m' q1 q2 q3 q4 q5 q6 q7 q8 q9 q10 q11 q12 hiv hns hm hC hl hk
    obtain ⟨ux, rfl⟩ := hi.int_at i _ hiv
    have hin : i < n := by rw [← hlen]; exact (List.getElem?_eq_some_iff.mp hiv).1
    have ez : ((List.range n).map z).getD i 0 = z i := by rw [List.getD_eq_getElem?_getD, List.getElem?_map, List.getElem?_range hin]; rfl
    rw [ez] at hm
    have hb := bz i
    refine wpAny_IfExp ?_
    refine wpAny_isTrue_Compare1 ?_
    refine wpAny_BinOp ?_
    refine ceL hns hm ?_ hC hl hk
    refine cInt fun u1 t1 => ?_
    refine modI (by decide) fun u2 t2 => ?_
    refine cInt fun u3 t3 => ?_
    refine P.eq_int ?_
    refine wpAny_truthy_bool ?_
    by_cases q : (z i % 4 == 0) = true
    · rw [q]
      have q' := eq_of_beq q
      refine wpAny_BinOp ?_
      refine ceL hns hm ?_ hC hl hk
      refine cInt fun u4 t4 => ?_
      refine Mine.divI (by decide) (by decide) fun u5 t5 => ?_
      exact ⟨_, _, rfl, fun _ _ e => e, .inl ⟨_, u5, rfl, by omega⟩⟩
    · rw [Bool.not_eq_true] at q
      rw [q]
      refine wpAny_BinOp ?_
      refine ceL hns hm ?_ hC hl hk
      refine cInt fun u4 t4 => ?_
      refine div4 (by omega) fun r t5 hr => ?_
      exact ⟨_, _, rfl, fun _ _ e => e, hr.num⟩
  have fin : ∀ D h' t' (ys : List Value), hp.objs.size ≤ D → h'.PlainList D ys.toArray → ys.length = vs.length → (∀ i y, ys[i]? = some y → NumV y (4 * z i)) → Fc h₀ (lawEnv L a cd) h' (fun y => if y = ny then some (.ref D) else m y) cm → KeepL (lawEnv L a cd).locals hp h' → Q .next ⟨h', g, d, t', os⟩ :=
    fun D h' t' ys hD hpl hle hF F' hk => hQ h' t' D ⟨FL.sf F hD, ys, hpl.isList, by omega, hF⟩ F' (KeepS.ofL hk)
  rcases hk with ⟨rfl, rfl, rfl⟩ | ⟨rfl, rfl, rfl⟩
  · refine asNL (g := g) (d := d) (os := os) (h₀ := h₀) (footNum fun i => 4 * z i) hh rfl rfl (by decide) rfl (by decide) rfl rfl rfl ?_
    refine cnL F hmw ?_
    exact ⟨aw, vs, hp, t, m, cm, rfl, rfl, F, hl, by omega, fun C i v h₁ t1 m' hC hiv hns hm hk => elt _ C i v h₁ t1 m' _ _ _ _ _ _ _ _ _ _ _ _ hiv hns hm rfl rfl rfl, fin⟩
  · refine asNL (g := g) (d := d) (os := os) (h₀ := h₀) (footNum fun i => 4 * z i) hh rfl rfl (by decide) rfl (by decide) rfl rfl rfl ?_
    refine cnL F hmw ?_
    exact ⟨aw, vs, hp, t, m, cm, rfl, rfl, F, hl, by omega, fun C i v h₁ t1 m' hC hiv hns hm hk => elt _ C i v h₁ t1 m' _ _ _ _ _ _ _ _ _ _ _ _ hiv hns hm rfl rfl rfl, fin⟩

set_option maxHeartbeats 8000000 in
theorem sA15 (T : Tp mg mb mN h₀) (N : Names mg mb mN) (Tq' : Tq mg h₀) (F : FL h₀ L a cd hp m cm) (hh : A.handled = none) (hroom : A.depth + 1 < recursionLimit) {n : Nat} (hn : 3 ≤ n) (hn' : n ≤ 5) {xs ys : List Int} (hx : Row n 3 xs) (hy : Row n 3 ys) {aw at' : Addr} {vf : Value} (hmw : m "narrow" = some (.ref aw)) (hmt : m "low" = some (.ref at')) (hmf : m "first" = some vf) (hvf : FltV vf (16 * Rxy n (fn xs) (fn ys) 0))
    (hw : LN L hp aw n (fun i => 4 * ((n : Int) * (fn xs i - 2)))) (ht : LN L hp at' n (fun i => 4 * ((n : Int) * (n - 1) * fn ys i))) {Q : Flow → Shared → Prop}
    (hQ : ∀ h' g' t', (AllBare g → AllBare g') → FL h₀ L a cd h' m cm → KeepS L hp h' → Q .next ⟨h', g', d, t', os⟩) :
    wpAny (model prog w) A (exec (lawStmt 15) (lawEnv L a cd)) Q E ⟨hp, g, d, t, os⟩ := by
  have fx := fn_bound (by decide) hx
  have fy := fn_bound (by decide) hy
  obtain ⟨e1, e2, e3⟩ := cov_first hn hn' (fn xs) (fn ys)
  have p1 := preSum_pos _ 3 fx n
  have p2 := preSum_pos _ 3 fy n
  have hb := Rxy_bound hn' (fn xs) (fn ys) 0 fx fy
  refine wpAny_If ?_
  refine wpAny_isTrue_Compare1 ?_
  refine wpAny_BinOp ?_
  refine cInt fun u1 t1 => ?_
  refine covE T N Tq' F hh hroom 4 1 (.inr ⟨rfl, rfl⟩) hn hn' (fun i => (n : Int) * (fn xs i - 2)) (fun i => (n : Int) * (n - 1) * fn ys i) (preSum (fn xs) n - 2 * n) ((n - 1) * preSum (fn ys) n) (Rxy n (fn xs) (fn ys) 0) hmw hmt hw ht
    (fun i => ?_) (fun i => ?_) e1 e2 (by omega) ?_ e3 (by omega) fun h' g' t' v F' k' hb' hf => ?_
  · have := fx i
    rw [Int.natAbs_mul]
    exact Nat.le_trans (Nat.mul_le_mul (show (n : Int).natAbs ≤ 5 by omega) (show (fn xs i - 2).natAbs ≤ 2 by omega)) (by decide)
  · have := fy i
    rw [Int.natAbs_mul, Int.natAbs_mul]
    exact Nat.le_trans (Nat.mul_le_mul (Nat.mul_le_mul (show (n : Int).natAbs ≤ 5 by omega) (show ((n : Int) - 1).natAbs ≤ 4 by omega)) (show (fn ys i).natAbs ≤ 3 by omega)) (by decide)
  · rw [Int.natAbs_mul]
    exact Nat.le_trans (Nat.mul_le_mul (show ((n : Int) - 1).natAbs ≤ 4 by omega) (show (preSum (fn ys) n).natAbs ≤ 15 by omega)) (by decide)
  · rw [Int.one_mul] at hf
    refine mulIF hf (by decide) rfl (by omega) fun r t2 hr => ?_
    refine cnL F' hmf ?_
    refine neFF hr hvf ?_
    refine wpAny_truthy_bool ?_
    rw [decide_eq_true (rfl : (16 : Int) * Rxy n (fn xs) (fn ys) 0 = 16 * Rxy n (fn xs) (fn ys) 0)]
    refine wpAny_execs_nil ?_
    exact hQ h' g' t2 hb' F' k'

theorem sA16 (F : FL h₀ L a cd hp m cm) {Q : Flow → Shared → Prop}
    (hQ : ∀ h' t' u, FL h₀ L a cd h' (fun y => if y = "total" then some (.int 0 u) else m y) cm → KeepS L hp h' → Q .next ⟨h', g, d, t', os⟩) :
    wpAny (model prog w) A (exec (lawStmt 16) (lawEnv L a cd)) Q E ⟨hp, g, d, t, os⟩ := by
  refine wpAny_Assign_Name ?_
  refine cInt fun u1 t1 => ?_
  refine csL F fun h₂ t2 F₂ s₂ => ?_
  exact hQ h₂ t2 u1 F₂ (KeepS.sameL s₂)
end
end Mine

open PySem PySem.W PyProof.Rows
namespace Mine
set_option maxRecDepth 100000

def forBody : Stmt → List Stmt | .For _ _ b _ _ => b | _ => []
def bodySt (k : Nat) : Stmt := (forBody (lawStmt 17)).getD k (.Pass default)

/-- what stands through the turns -/
structure LB (L : Addr) (h : Heap) (m cm : Str → Option Value) (n bh : Nat) (xs ys : List Int) (vf : Value) : Prop where
  rows : ∃ D, m "rows" = some (.ref D) ∧ ListsAt L h D n (rowOf n xs ys)
  leads : ∃ D, m "leads" = some (.ref D) ∧ LeadsAt L h D n (rowOf n xs ys) bh
  wide : ∃ D, m "wide" = some (.ref D) ∧ LI L h D ((List.range n).map fun i => (n : Int) * (fn xs i - 2))
  tall : ∃ D, m "tall" = some (.ref D) ∧ LI L h D ((List.range n).map fun i => (n : Int) * (n - 1) * fn ys i)
  first : m "first" = some vf
  cn : ∃ u, cm "n" = some (.int n u)
  cb : ∃ u, cm "behind" = some (.int bh u)
  ct : ∃ D, cm "totients" = some (.ref D) ∧ LI L h D phi
theorem LB.step {L : Addr} {h h' : Heap} {m cm m' cm' : Str → Option Value} {n bh : Nat} {xs ys : List Int} {vf : Value} (x : LB L h m cm n bh xs ys vf) (k : KeepS L h h')
    (hm : m' "rows" = m "rows" ∧ m' "leads" = m "leads" ∧ m' "wide" = m "wide" ∧ m' "tall" = m "tall" ∧ m' "first" = m "first") (hc : cm' "n" = cm "n" ∧ cm' "behind" = cm "behind" ∧ cm' "totients" = cm "totients") : LB L h' m' cm' n bh xs ys vf where
  rows := let ⟨D, e, y⟩ := x.rows; ⟨D, hm.1.trans e, y.keep k⟩
  leads := let ⟨D, e, y⟩ := x.leads; ⟨D, hm.2.1.trans e, y.keep k⟩
  wide := let ⟨D, e, y⟩ := x.wide; ⟨D, hm.2.2.1.trans e, y.keep k⟩
  tall := let ⟨D, e, y⟩ := x.tall; ⟨D, hm.2.2.2.1.trans e, y.keep k⟩
  first := hm.2.2.2.2.trans x.first
  cn := let ⟨u, e⟩ := x.cn; ⟨u, hc.1.trans e⟩
  cb := let ⟨u, e⟩ := x.cb; ⟨u, hc.2.1.trans e⟩
  ct := let ⟨D, e, y⟩ := x.ct; ⟨D, hc.2.2.trans e, y.keep k⟩

section
variable {prog : Program} {w : World} {A : Around} {E : Value → Shared → Prop} {hp : Heap} {g : Array GenState} {d : Drawn} {t : Nat} {os : OsState} {mg mb mN : Str → Option Value}
variable {h₀ : Heap} {L a : Addr} {cd : Value} {m cm : Str → Option Value} {n bh : Nat} {xs ys : List Int} {vf : Value}

theorem FL.keepL (F : FL h₀ L a cd hp m cm) {h' : Heap} {m' : Str → Option Value} (hn : h'.Ns L m') (k : KeepL L hp h') : FL h₀ L a cd h' m' cm where
  ns := hn
  cell := fun n c hc => let ⟨o, e, r⟩ := F.cell n c hc; ⟨o, k _ _ (Nat.ne_of_gt (F.above n c (mem_of_lookup hc))) e, r⟩
  apart := F.apart
  above := F.above
  keep := fun b o hb e => k b o (Nat.ne_of_lt (Nat.lt_of_lt_of_le (Heap.lt_size e) F.base)) (F.keep b o hb e)
  base := F.base
  far := Fc.far F
  code := F.code.at2 (fun o e => k _ _ (Nat.ne_of_lt (FL.far F)) e) (fun o e => k _ _ (Nat.ne_of_lt (Nat.lt_trans (by decide) (FL.far F))) e)

/-- an item of a list of lists -/
theorem ListsAt.item {L : Addr} {h : Heap} {D : Addr} {row : Nat → List Int} (x : ListsAt L h D n row) {i : Nat} (hi : i < n) : ∃ vs r, h.IsList D (List.toArray vs) ∧ vs[i]? = some (.ref r) ∧ LI L h r (row i) := by
  obtain ⟨s, vs, l, hn, f⟩ := x
  have hi' : i < vs.length := by omega
  obtain ⟨r, e, y⟩ := f i _ (List.getElem?_eq_getElem hi')
  exact ⟨vs, r, l, by rw [List.getElem?_eq_getElem hi', e], y⟩
theorem LeadsAt.item {L : Addr} {h : Heap} {D : Addr} {row : Nat → List Int} (x : LeadsAt L h D n row bh) {i : Nat} (hi : i < n) : ∃ vs r, h.IsList D (List.toArray vs) ∧ vs[i]? = some (.ref r) ∧ WsAt (Sf L) h r (countOf (row i)) (bh : Int) ((row i).length : Int) := by
  obtain ⟨s, vs, l, hn, f⟩ := x
  have hi' : i < vs.length := by omega
  obtain ⟨r, e, y⟩ := f i _ (List.getElem?_eq_getElem hi')
  exact ⟨vs, r, l, by rw [List.getElem?_eq_getElem hi', e], y⟩

set_option maxHeartbeats 8000000 in
theorem sB0 (T : Tp mg mb mN h₀) (N : Names mg mb mN) (F : FL h₀ L a cd hp m cm) (hh : A.handled = none) (B : LB L hp m cm n bh xs ys vf) (hn : 3 ≤ n) (hn' : n ≤ 5) (hr : ∀ i, Row n 6 (rowOf n xs ys i)) (hbh : bh ≤ 2) {j : Nat} {uj : Tok} (hj : j < n) (hmj : m "turn" = some (.int j uj)) {Q : Flow → Shared → Prop}
    (hQ : ∀ h' t' (M : Nat) u, M ≤ 6 → (M : Int) ∈ rowOf n xs ys 0 ++ rowOf n xs ys j ++ [(bh : Int)] → (∀ x ∈ rowOf n xs ys 0 ++ rowOf n xs ys j ++ [(bh : Int)], x ≤ (M : Int)) → FL h₀ L a cd h' (fun y => if y = "top" then some (.int ((M + 1 : Nat) : Int) u) else m y) cm → KeepS L hp h' → Q .next ⟨h', g, d, t', os⟩) :
    wpAny (model prog w) A (exec (bodySt 0) (lawEnv L a cd)) Q E ⟨hp, g, d, t, os⟩ := by
  obtain ⟨D, hmD, hD⟩ := B.rows
  obtain ⟨ub, hcb⟩ := B.cb
  obtain ⟨vs, r0, hl, hv0, _, v0, hl0, hi0⟩ := ListsAt.item hD (show 0 < n by omega)
  obtain ⟨vs', rj, hl', hvj, _, vj, hlj, hij⟩ := ListsAt.item hD hj
  have z0 := hi0.length
  have zj := hij.length
  have l0 := (hr 0).1
  have lj := (hr j).1
  refine wpAny_Assign_Name ?_
  refine wpAny_BinOp ?_
  refine callN ?_
  refine cnB (FL.tp F T) N.nmax N.max ?_
  refine PyProof.Rows.callWith_builtin1 ?_
  refine args_cons ?_
  refine wpAny_BinOp ?_
  refine wpAny_BinOp ?_
  refine wpAny_Subscript_Constant_late ?_
  refine cnL F hmD ?_
  refine cInt fun u1 t1 => ?_
  refine itemL hl (by decide) (by decide) (v := .ref r0) hv0 ?_
  refine wpAny_Subscript_Name_late ?_
  refine cnL F hmD ?_
  refine cnL F hmj ?_
  refine itemL hl' (by omega) (by omega) (v := .ref rj) (by rw [Int.toNat_natCast]; exact hvj) ?_
  refine addLs (FL.ns' F) hl0 hlj (by omega) fun h₁ l1 n₁ k₁ q₁ hl1 => ?_
  have F₁ := FL.keepL F n₁ k₁
  refine lstE ?_
  refine args_cons ?_
  refine cnC F₁ (c := L + 4) rfl hcb ?_
  refine args_nil ⟨by show 1 ≤ 1000; decide, fun h₂ l2 k₂ q₂ hl2 => ?_⟩
  have F₂ := F₁.keeps k₂
  have hl1' : h₂.IsList l1 (v0 ++ vj).toArray := hl1.isList.at fun o e => k₂ _ _ e
  refine addLs (FL.ns' F₂) hl1' ⟨_, hl2, rfl, 0, rfl⟩ (by simp; omega) fun h₃ l3 n₃ k₃ q₃ hl3 => ?_
  have F₃ := FL.keepL F₂ n₃ k₃
  have hi3 : IntsAre (v0 ++ vj ++ [.int (bh : Int) ub]) (rowOf n xs ys 0 ++ rowOf n xs ys j ++ [(bh : Int)]) := (hi0.append hij).append (.cons _ _ .nil)
  refine args_nil ?_
  refine maxI hh hl3.isList hi3 (by simp; omega) fun h₄ t4 M u4 k₄ hM hle => ?_
  have F₄ := F₃.keeps k₄
  have hM0 : 0 ≤ M := Int.le_trans (by omega) (hle (bh : Int) (by simp))
  have hM6 : M ≤ 6 := by
    rcases List.mem_append.mp hM with hM | hM
    · rcases List.mem_append.mp hM with hM | hM
      · exact ((hr 0).2 M hM).2
      · exact ((hr j).2 M hM).2
    · have := List.mem_singleton.mp hM
      omega
  refine cInt fun u5 t5 => ?_
  refine addI fun u6 t6 => ?_
  have eM : M + 1 = ((M.toNat + 1 : Nat) : Int) := by omega
  have eM' : (M.toNat : Int) = M := by omega
  rw [eM]
  refine csL F₄ fun h₅ t7 F₅ s₅ => ?_
  refine hQ h₅ t7 M.toNat u6 (by omega) (by rw [eM']; exact hM) (by rw [eM']; exact hle) F₅ ?_
  exact KeepS.trans (KeepS.trans (KeepS.trans (KeepS.trans (KeepS.ofL k₁) (KeepS.of k₂)) (KeepS.ofL k₃)) (KeepS.of k₄)) (KeepS.sameL s₅)
end
end Mine

open PySem PySem.W PyProof.Rows
namespace Mine
set_option maxRecDepth 100000

/-- the stops of a row by tab size d -/
def lev (row : List Int) (bh : Nat) (d : Nat) : Int := (bh : Int) + (row.map fun (r : Int) => r + (d : Int) - r % (d : Int)).sum
theorem mapRange {α : Type} (G : Int → α) (row : List Int) : ((List.range row.length).map fun i => G (row.getD i 0)) = row.map G := by
  apply List.ext_getElem
  · simp
  · intro j h1 h2
    simp only [List.getElem_map, List.getElem_range]
    rw [List.getD_eq_getElem?_getD, List.getElem?_eq_getElem (by simpa using h2)]
    rfl
def runScope : Scope := { kind := .function, names := [(Str.ofString ".0", .local), (Str.ofString "run", .local), (Str.ofString "d", .free)], isGenerator := false, isCoroutine := false, more := [] }
/-- triples of ints off the frame -/
def TrpS (L : Addr) (h : Heap) (v : Value) (p : Int × Int × Int) : Prop := ∃ a u1 u2 u3 n, v = Value.ref a ∧ Sf L a ∧ IsT h a #[.int p.1 u1, .int p.2.1 u2, .int p.2.2 u3] n
def TS (L : Addr) (h : Heap) (D : Addr) (ps : List (Int × Int × Int)) : Prop := Sf L D ∧ ∃ vs, h.IsList D (List.toArray vs) ∧ Paired (TrpS L h) vs ps
theorem TrpS.keep {L : Addr} {h h' : Heap} {v : Value} {p : Int × Int × Int} (x : TrpS L h v p) (k : KeepS L h h') : TrpS L h' v p := let ⟨a, u1, u2, u3, n, e, s, t⟩ := x; ⟨a, u1, u2, u3, n, e, s, k _ _ s t⟩
theorem TS.keep {L : Addr} {h h' : Heap} {D : Addr} {ps : List (Int × Int × Int)} (x : TS L h D ps) (k : KeepS L h h') : TS L h' D ps := let ⟨s, vs, l, p⟩ := x; ⟨s, vs, l.at fun o e => k _ o s e, Paired.imp (fun _ _ y => TrpS.keep y k) p⟩
theorem TS.of {L : Addr} {h : Heap} {lo D : Addr} {ps : List (Int × Int × Int)} (hL : 76 < L) (hlo : L + 7 < lo) (s : Sf L D) (x : TripsAt h lo D ps) : TS L h D ps :=
  let ⟨vs, l, p⟩ := x
  ⟨s, vs, l.isList, Paired.imp (fun _ _ y => let ⟨a, u1, u2, u3, n, e, hl, t⟩ := y; ⟨a, u1, u2, u3, n, e, Sf.of_lt hL (Nat.lt_trans hlo hl), t⟩) p⟩

section
variable {prog : Program} {w : World} {A : Around} {E : Value → Shared → Prop} {hp : Heap} {g : Array GenState} {d : Drawn} {t : Nat} {os : OsState} {mg mb mN : Str → Option Value}
variable {h₀ : Heap} {L a : Addr} {cd : Value} {m cm : Str → Option Value} {n bh : Nat} {xs ys : List Int} {vf : Value}

theorem levE (T : Tp mg mb mN h₀) (N : Names mg mb mN) (F : FL h₀ L a cd hp m cm) (hh : A.handled = none) {ub ud : Tok} (hcb : cm "behind" = some (.int bh ub)) {dd : Nat} (hd1 : 1 ≤ dd) (hd7 : dd ≤ 100) (hcd : cm "d" = some (.int dd ud)) {iter : Expr} {r : Addr} {row : List Int}
    (hr : LI L hp r row) (hrow : row.length ≤ 5 ∧ ∀ x ∈ row, 0 ≤ x ∧ x ≤ 6)
    (hit : ∀ {t : Nat} {Q' : Value → Shared → Prop}, (∀ t', Q' (.ref r) ⟨hp, g, d, t', os⟩) → wpAny (model prog w) A (eval iter (lawEnv L a cd)) Q' E ⟨hp, g, d, t, os⟩)
    {p1 p2 p3 p4 p5 p6 p7 p8 p9 p10 p11 p12 : Pos} {Q : Value → Shared → Prop} (hQ : ∀ h' t' u, Keep hp h' → Q (.int (lev row bh dd) u) ⟨h', g, d, t', os⟩)
    (hs : ∀ x, foldedSetIterable iter (lawEnv L a cd) x = pure x := by intro _; rfl) :
    wpAny (model prog w) A (eval (.BinOp (.Name "behind" p1) .Add (.Call (.Name "sum" p2) [.ListComp (.BinOp (.BinOp (.Name "run" p3) .Add (.Name "d" p4) p5) .Sub (.BinOp (.Name "run" p6) .Mod (.Name "d" p7) p8) p9) [⟨.Name "run" p10, iter, [], 0⟩] runScope p11] [] p12) pos) (lawEnv L a cd)) Q E ⟨hp, g, d, t, os⟩ := by
  obtain ⟨sr, vr, hlr, hir⟩ := hr
  have hlen := hir.length
  refine wpAny_BinOp ?_
  refine cnC F (c := L + 4) rfl hcb ?_
  refine callN ?_
  refine cnB (FL.tp F T) N.nsum N.sum ?_
  refine PyProof.Rows.callWith_builtin1 ?_
  refine args_cons ?_
  refine evNL (g := g) (d := d) (os := os) (footInt fun i => row.getD i 0 + dd - row.getD i 0 % dd) hh rfl (by decide) rfl (by decide) rfl ?_ hs
  refine hit fun t' => ?_
  refine ⟨r, vr, hp, t', rfl, rfl, hlr, by omega, fun C i v h₁ t1 m' hC hiv hns hm hk => ?_, fun D h' t' zs hD hpl hle hF hk => ?_⟩
  · obtain ⟨ux, rfl⟩ := hir.int_at i _ hiv
    have hcd₁ : h₁.IsCell (L + 6) (some (.int dd ud)) := by rw [← hcd]; exact let ⟨o, e, q⟩ := F.cell "d" (L + 6) rfl; ⟨o, hk _ _ e, q⟩
    refine wpAny_BinOp ?_
    refine wpAny_BinOp ?_
    refine ceL hns hm ?_
    refine ceC hcd₁ rfl ?_
    refine addI fun u1 t1 => ?_
    refine wpAny_BinOp ?_
    refine ceL hns hm ?_
    refine ceC hcd₁ rfl ?_
    refine modI (by omega) fun u2 t2 => ?_
    refine subI fun u3 t3 => ?_
    exact ⟨_, _, rfl, fun _ _ e => e, u3, rfl⟩
  · have hi4 := intsOf _ zs hF
    rw [hle, hlen, mapRange (fun x => x + dd - x % dd) row] at hi4
    refine args_nil ?_
    refine sumI hh hpl.isList hi4 (fun x hx => ?_) (by rw [List.length_map]; omega) fun h₂ t2 u2 k₂ => ?_
    · obtain ⟨y, hy, rfl⟩ := List.mem_map.mp hx
      have := hrow.2 y hy
      have h1 := Int.emod_nonneg y (show (dd : Int) ≠ 0 by omega)
      have h2 := Int.emod_lt_of_pos y (show (0 : Int) < dd by omega)
      omega
    refine addI fun u3 t3 => ?_
    exact hQ h₂ t3 u3 fun b o e => k₂ _ _ (hk _ _ e)

set_option maxHeartbeats 8000000 in
theorem sB12 (T : Tp mg mb mN h₀) (N : Names mg mb mN) (F : FL h₀ L a cd hp m cm) (hh : A.handled = none) (B : LB L hp m cm n bh xs ys vf) (hn : 3 ≤ n) (hn' : n ≤ 5) (hr : ∀ i, Row n 6 (rowOf n xs ys i)) (hbh : bh ≤ 2) {j : Nat} {uj : Tok} (hj : j < n) (hmj : m "turn" = some (.int j uj))
    {M : Nat} {um : Tok} (hM : M ≤ 6) (hmM : m "top" = some (.int ((M + 1 : Nat) : Int) um)) {rest : List Stmt} {Q : Flow → Shared → Prop}
    (hQ : ∀ h' t' D m' cm', TS L h' D (witL (lev (rowOf n xs ys 0) bh) (lev (rowOf n xs ys j) bh) (M + 1)) → m' "due" = some (.ref D) → (∀ y : Str, y ≠ "due" → y ≠ "one" → y ≠ "two" → m' y = m y) → (∀ y : Str, y ≠ "d" → cm' y = cm y) → FL h₀ L a cd h' m' cm' → KeepS L hp h' →
      wpAny (model prog w) A (execs rest (lawEnv L a cd)) Q E ⟨h', g, d, t', os⟩) :
    wpAny (model prog w) A (execs (bodySt 1 :: bodySt 2 :: rest) (lawEnv L a cd)) Q E ⟨hp, g, d, t, os⟩ := by
  refine wpAny_execs_cons ?_
  refine wpAny_Assign_Name ?_
  refine lstE ?_
  refine args_nil ⟨by decide, fun h₁ D k₁ hD hl₁ => ?_⟩
  have F₁ := F.keeps k₁
  have hDs : Sf L D := FL.sf F hD
  have hDL : L + 7 < D := Nat.lt_of_lt_of_le (FL.size F) hD
  refine csL F₁ fun h₂ t2 F₂ s₂ => ?_
  have hl₂ : h₂.PlainList D ([] : List Value).toArray := ⟨0, s₂.extBut _ _ hDs.ne hl₁⟩
  have K₂ : ∀ b o, Sf L b → hp.get? b = some o → h₂.get? b = some o := KeepS.trans (KeepS.of k₁) (KeepS.sameL s₂)
  refine wpAny_execs_cons ?_
  refine wpAny_For ?_
  refine callN ?_
  refine cnB (FL.tp F₂ T) N.nrange N.range ?_
  refine PyProof.Rows.callWith_type1 ?_
  refine args_cons (cInt fun u3 t3 => ?_)
  refine args_cons ?_
  refine wpAny_BinOp ?_
  refine cnL F₂ (by exact hmM) ?_
  refine cInt fun u4 t4 => ?_
  refine addI fun u5 t5 => ?_
  refine args_nil ?_
  refine rangeCall fun r h₃ t6 u6 v6 k₃ _ hr3 _ => ?_
  refine rangeIterO hr3 (by omega) (by omega) (by omega) (by omega) hh fun I h₄ t7 St k₄ hI W hst hlive => ?_
  have ez : (((M + 1 : Nat) : Int) + 1 - 1).toNat = M + 1 := by omega
  rw [ez] at W
  have F₄ := (F₂.keeps k₃).keeps k₄
  have hIL : L + 7 < I := Nat.lt_of_lt_of_le (FL.size (F₂.keeps k₃)) hI
  have hDI : D < I := by
    obtain ⟨n, e⟩ := hl₂
    exact Nat.lt_of_lt_of_le (Heap.lt_size (k₃ _ _ e)) hI
  have hIs : Sf L I := Sf.of_lt (FL.far F) hIL
  have K₄ : ∀ b o, Sf L b → b ≠ D → b ≠ I → hp.get? b = some o → h₄.get? b = some o := fun b o q _ _ e => k₄ _ _ (k₃ _ _ (K₂ b o q e))
  show codeAny _ _ (.forLoop _ (.ref I) _ [] _) _ _
  refine forAny (fun i s => ∃ h t m' cm', s = ⟨h, g, d, t, os⟩ ∧ FL h₀ L a cd h m' cm' ∧ St i h ∧ TripsAt h I D (witL (lev (rowOf n xs ys 0) bh) (lev (rowOf n xs ys j) bh) i) ∧ m' "due" = some (.ref D) ∧ (∀ y : Str, y ≠ "due" → y ≠ "one" → y ≠ "two" → m' y = m y) ∧ (∀ y : Str, y ≠ "d" → cm' y = cm y) ∧
    (∀ b o, Sf L b → b ≠ D → b ≠ I → hp.get? b = some o → h.get? b = some o)) (M + 1) ?_ ?_
    ⟨h₄, t7, _, cm, rfl, F₄, hst, ⟨[], hl₂.at fun o e => k₄ _ _ (k₃ _ _ e), .nil⟩, rfl, fun y q _ _ => if_neg q, fun _ _ => rfl, K₄⟩
  · rintro i s ⟨h, t, m', cm', rfl, G, hsi, ⟨vs, hl, hp'⟩, m1, m2, c2, hk⟩ hiM
    refine W.item i _ _ _ hiM hsi fun v h₅ t8 hP hst₅ hk₅ => ⟨v, rfl, ?_⟩
    obtain ⟨uv, rfl⟩ := hP
    rw [show (1 : Int) + (i : Int) = ((i + 1 : Nat) : Int) by omega]
    refine wpAny_of_eq (rfl : letOwnedTupleGo (.Name _ _) (.ref I) _ = pure ()) ?_
    have kI : ∀ b o, b ≠ I → h.get? b = some o → h₅.get? b = some o := fun b o q e => hk₅ b o (fun r => q (List.mem_singleton.mp r)) e
    have G₅ := FL.low G (h' := h₅) fun b o hb e => kI b o (Nat.ne_of_lt (Nat.lt_of_le_of_lt hb hIL)) e
    refine wpAny_assign_Name (csC G₅ (c := L + 6) rfl fun h₆ t9 G₆ s₆ => ?_)
    have k₆ : ∀ b o, Sf L b → b ≠ I → h.get? b = some o → h₆.get? b = some o := fun b o q1 q2 e => s₆.extBut b o (q1.neC (by decide)) (kI b o q2 e)
    have hst₆ : St (i + 1) h₆ := W.frame _ _ _ hst₅ fun b hb o e => s₆.extBut b o (by rw [List.mem_singleton.mp hb]; exact hIs.neC (by decide)) e
    have hl₆ : h₆.PlainList D vs.toArray := hl.at fun o e => k₆ _ _ hDs (Nat.ne_of_lt hDI) e
    have hp₆ : Paired (TripAt h₆ I) vs (witL (lev (rowOf n xs ys 0) bh) (lev (rowOf n xs ys j) bh) i) := Paired.imp (fun _ _ y => TripAt.offs y fun b o hb e _ => k₆ b o (Sf.of_lt (FL.far F) (Nat.lt_trans hIL hb)) (Nat.ne_of_gt hb) e) hp'
    have hk6 : ∀ b o, Sf L b → b ≠ D → b ≠ I → hp.get? b = some o → h₆.get? b = some o := fun b o q1 q2 q3 e => k₆ b o q1 q3 (hk b o q1 q2 q3 e)
    obtain ⟨ub, hcb⟩ := B.cb
    have hcb6 : (fun y : Str => if y = "d" then some (Value.int ((i + 1 : Nat) : Int) uv) else cm' y) "behind" = some (.int bh ub) := by
      show (if (Str.ofString "behind") = (Str.ofString "d") then _ else _) = _
      rw [if_neg (by decide), c2 _ (by decide)]; exact hcb
    obtain ⟨Dr, hmr, hRows⟩ := B.rows
    -- the rows at the heap at hand
    have itemsAt : ∀ {q : Nat}, q < n → ∃ vs r, hp.IsList Dr (List.toArray vs) ∧ vs[q]? = some (.ref r) ∧ LI L hp r (rowOf n xs ys q) := fun hq => ListsAt.item hRows hq
    have hDr : Dr ≠ D ∧ Dr ≠ I := by
      obtain ⟨_, _, ⟨o, e, _⟩, _⟩ := hRows
      have : Dr < D := Nat.lt_of_lt_of_le (Heap.lt_size e) hD
      exact ⟨Nat.ne_of_lt this, Nat.ne_of_lt (Nat.lt_trans this hDI)⟩
    have liAt : ∀ {r : Addr} {cs : List Int} {h' : Heap}, LI L hp r cs → (∀ b o, Sf L b → b ≠ D → b ≠ I → hp.get? b = some o → h'.get? b = some o) → LI L h' r cs := by
      rintro r cs h' ⟨s, vs, ⟨o, e, q⟩, hi⟩ k
      have : r < D := Nat.lt_of_lt_of_le (Heap.lt_size e) hD
      exact ⟨s, vs, ⟨o, k _ _ s (Nat.ne_of_lt this) (Nat.ne_of_lt (Nat.lt_trans this hDI)) e, q⟩, hi⟩
    obtain ⟨vs0, r0, hl0, hv0, hr0⟩ := itemsAt (show 0 < n by omega)
    obtain ⟨vsj, rj, hlj, hvj, hrj⟩ := itemsAt hj
    have hrowB : ∀ q, (rowOf n xs ys q).length ≤ 5 ∧ ∀ x ∈ rowOf n xs ys q, 0 ≤ x ∧ x ≤ 6 := fun q => ⟨by have := (hr q).1; omega, (hr q).2⟩
    refine wpAny_execs_cons ?_
    refine wpAny_Assign_Name ?_
    refine levE T N G₆ hh hcb6 (dd := i + 1) (by omega) (by omega) rfl (liAt hr0 hk6) (hrowB 0) (fun {t} {Q'} hq => ?_) fun h₇ t10 u10 k₇ => ?_
    · refine wpAny_Subscript_Constant_late ?_
      refine cnL G₆ (by rw [m2 _ (by decide) (by decide) (by decide)]; exact hmr) ?_
      refine cInt fun u1 t1 => ?_
      exact itemL (hl0.at fun o e => hk6 _ _ hRows.1 hDr.1 hDr.2 e) (by decide) (by decide) (v := .ref r0) hv0 (hq _)
    refine csL (G₆.keeps k₇) fun h₈ t11 G₈ s₈ => ?_
    have k₈ : ∀ b o, Sf L b → h₆.get? b = some o → h₈.get? b = some o := KeepS.trans (KeepS.of k₇) (KeepS.sameL s₈)
    have hk8 : ∀ b o, Sf L b → b ≠ D → b ≠ I → hp.get? b = some o → h₈.get? b = some o := fun b o q1 q2 q3 e => k₈ b o q1 (hk6 b o q1 q2 q3 e)
    refine wpAny_execs_cons ?_
    refine wpAny_Assign_Name ?_
    refine levE T N G₈ hh hcb6 (dd := i + 1) (by omega) (by omega) rfl (liAt hrj hk8) (hrowB j) (fun {t} {Q'} hq => ?_) fun h₉ t12 u12 k₉ => ?_
    · refine wpAny_Subscript_Name_late ?_
      refine cnL G₈ (by show (if (Str.ofString "rows") = (Str.ofString "one") then _ else _) = _; rw [if_neg (by decide), m2 _ (by decide) (by decide) (by decide)]; exact hmr) ?_
      refine cnL G₈ (by show (if (Str.ofString "turn") = (Str.ofString "one") then _ else _) = _; rw [if_neg (by decide), m2 _ (by decide) (by decide) (by decide)]; exact hmj) ?_
      exact itemL (hlj.at fun o e => hk8 _ _ hRows.1 hDr.1 hDr.2 e) (by omega) (by omega) (v := .ref rj) (by rw [Int.toNat_natCast]; exact hvj) (hq _)
    refine csL (G₈.keeps k₉) fun h₁₀ t13 G₁₀ s₁₀ => ?_
    have k₁₀ : ∀ b o, Sf L b → h₆.get? b = some o → h₁₀.get? b = some o := KeepS.trans k₈ (KeepS.trans (KeepS.of k₉) (KeepS.sameL s₁₀))
    have hl₁₀ : h₁₀.PlainList D vs.toArray := hl₆.at fun o e => k₁₀ _ _ hDs e
    have hp₁₀ : Paired (TripAt h₁₀ I) vs (witL (lev (rowOf n xs ys 0) bh) (lev (rowOf n xs ys j) bh) i) := Paired.imp (fun _ _ y => TripAt.offs y fun b o hb e _ => k₁₀ b o (Sf.of_lt (FL.far F) (Nat.lt_trans hIL hb)) e) hp₆
    have hst₁₀ : St (i + 1) h₁₀ := W.frame _ _ _ hst₆ fun b hb o e => k₁₀ b o (by rw [List.mem_singleton.mp hb]; exact hIs) e
    have hk10 : ∀ b o, Sf L b → b ≠ D → b ≠ I → hp.get? b = some o → h₁₀.get? b = some o := fun b o q1 q2 q3 e => k₁₀ b o q1 (hk6 b o q1 q2 q3 e)
    have mKeep : ∀ (z1 z2 : Value) (y : Str), y ≠ "due" → y ≠ "one" → y ≠ "two" → (if y = "two" then some z1 else if y = "one" then some z2 else m' y) = m y := fun z1 z2 y q1 q2 q3 => by rw [if_neg q3, if_neg q2]; exact m2 y q1 q2 q3
    have mDue : ∀ (z1 z2 : Value), (if (Str.ofString "due") = (Str.ofString "two") then some z1 else if (Str.ofString "due") = (Str.ofString "one") then some z2 else m' "due") = some (.ref D) := fun z1 z2 => by rw [if_neg (by decide), if_neg (by decide)]; exact m1
    have cKeep : ∀ (y : Str), y ≠ "d" → (if y = "d" then some (Value.int ((i + 1 : Nat) : Int) uv) else cm' y) = cm y := fun y q => by rw [if_neg q]; exact c2 y q
    refine wpAny_execs_cons ?_
    refine wpAny_If ?_
    refine wpAny_isTrue_Compare1 ?_
    refine cnL G₁₀ (v := .int (lev (rowOf n xs ys 0) bh (i + 1)) u10) rfl ?_
    refine cnL G₁₀ (v := .int (lev (rowOf n xs ys j) bh (i + 1)) u12) rfl ?_
    refine P.ne_int ?_
    refine wpAny_truthy_bool ?_
    by_cases hd : lev (rowOf n xs ys 0) bh (i + 1) = lev (rowOf n xs ys j) bh (i + 1)
    · rw [show (lev (rowOf n xs ys 0) bh (i + 1) != lev (rowOf n xs ys j) bh (i + 1)) = false by simp [hd]]
      refine wpAny_execs_nil ?_
      refine wpAny_execs_nil ?_
      refine ⟨h₁₀, t13, _, _, rfl, G₁₀, hst₁₀, ?_, mDue _ _, mKeep _ _, cKeep, hk10⟩
      simp only [witL, if_pos hd, List.append_nil]
      exact ⟨vs, hl₁₀, hp₁₀⟩
    · rw [show (lev (rowOf n xs ys 0) bh (i + 1) != lev (rowOf n xs ys j) bh (i + 1)) = true by simp [hd]]
      refine wpAny_execs_cons ?_
      refine wpAny_Expr ?_
      refine MethodCall_ ?_
      refine cnL G₁₀ (mDue _ _) ?_
      obtain ⟨nl, hnl⟩ := id hl₁₀
      refine PySem.Calls.getMethod_list_append hnl rfl rfl ?_
      refine callWith_method1 ?_
      refine args_cons ?_
      refine wpAny_Tuple ?_
      refine args_cons ?_
      refine cnC G₁₀ (c := L + 6) rfl (v := .int ((i + 1 : Nat) : Int) uv) rfl ?_
      refine args_cons ?_
      refine cnL G₁₀ (v := .int (lev (rowOf n xs ys 0) bh (i + 1)) u10) rfl ?_
      refine args_cons ?_
      refine cnL G₁₀ (v := .int (lev (rowOf n xs ys j) bh (i + 1)) u12) rfl ?_
      refine args_nil ⟨by show 3 ≤ sizeLine; decide, ?_⟩
      refine args_nil ?_
      have hvs : vs.length ≤ i := by have := hp'.length; have := witL_length (lev (rowOf n xs ys 0) bh) (lev (rowOf n xs ys j) bh) i; omega
      obtain ⟨oI, eI⟩ := hlive _ _ hst₁₀
      have hge : I < h₁₀.objs.size := Heap.lt_size eI
      refine wpAny_list_append_plain (hl₁₀.at fun o e => Heap.get?_push_of_some _ e) (fun he hle hse => ?_) (by simp only [List.size_toArray]; rw [sizeLine_eq]; omega)
      refine wpAny_execs_nil ?_
      refine wpAny_execs_nil ?_
      have kf : ∀ b o, b ≠ D → h₁₀.get? b = some o → he.get? b = some o := fun b o hb e => hse.extBut b o hb (Heap.get?_push_of_some _ e)
      refine ⟨he, t13, _, _, rfl, FL.low G₁₀ (fun b o hb e => kf b o (Nat.ne_of_lt (Nat.lt_of_le_of_lt hb hDL)) e), W.frame _ _ _ hst₁₀ (fun b hb o e => kf b o (by rw [List.mem_singleton.mp hb]; exact Nat.ne_of_gt hDI) e), ?_, mDue _ _, mKeep _ _, cKeep, fun b o q1 q2 q3 e => kf b o q2 (hk10 b o q1 q2 q3 e)⟩
      refine ⟨vs ++ [.ref h₁₀.objs.size], by simpa using hle, ?_⟩
      simp only [witL, if_neg hd]
      refine Paired.snoc (Paired.imp (fun _ _ y => TripAt.offs y fun b o hb e _ => kf b o (Nat.ne_of_gt (Nat.lt_trans hDI hb)) e) hp₁₀) ?_
      exact ⟨h₁₀.objs.size, _, _, _, 0, rfl, hge, hse.extBut _ _ (Nat.ne_of_gt (Nat.lt_trans hDI hge)) (Heap.get?_push_size _ rfl)⟩
  · rintro s ⟨h, t, m', cm', rfl, G, hsi, hT, m1, m2, c2, hk⟩
    refine W.done _ _ _ hsi fun h₅ t8 hk₅ => ⟨rfl, ?_⟩
    have kI : ∀ b o, b ≠ I → h.get? b = some o → h₅.get? b = some o := fun b o q e => hk₅ b o (fun r => q (List.mem_singleton.mp r)) e
    have G₅ := FL.low G (h' := h₅) fun b o hb e => kI b o (Nat.ne_of_lt (Nat.lt_of_le_of_lt hb hIL)) e
    obtain ⟨vs, hl, hp'⟩ := hT
    have hT5 : TripsAt h₅ I D (witL (lev (rowOf n xs ys 0) bh) (lev (rowOf n xs ys j) bh) (M + 1)) := ⟨vs, hl.at fun o e => kI _ _ (Nat.ne_of_lt hDI) e, Paired.imp (fun _ _ y => TripAt.offs y fun b o hb e _ => kI b o (Nat.ne_of_gt hb) e) hp'⟩
    refine hQ h₅ t8 D m' cm' (TS.of (FL.far F) hIL hDs hT5) m1 m2 c2 G₅ fun b o q e => ?_
    have hb : b < hp.objs.size := Heap.lt_size e
    have hbD : b ≠ D := Nat.ne_of_lt (Nat.lt_of_lt_of_le hb hD)
    have hbI : b ≠ I := Nat.ne_of_lt (Nat.lt_trans (Nat.lt_of_lt_of_le hb hD) hDI)
    exact kI b o hbI (hk b o q hbD hbI e)
end
end Mine

open PySem PySem.W PyProof.Rows
namespace Mine

theorem getD_append_zeros (cs : List Int) (k i : Nat) : (cs ++ List.replicate k 0).getD i 0 = cs.getD i 0 := by
  simp only [List.getD_eq_getElem?_getD]
  by_cases h : i < cs.length
  · rw [List.getElem?_append_left h]
  · rw [List.getElem?_append_right (by omega), List.getElem?_eq_none (l := cs) (by omega)]
    by_cases h2 : i - cs.length < k
    · rw [List.getElem?_replicate_of_lt h2]; rfl
    · rw [List.getElem?_eq_none (by simp; omega)]
theorem getD_set (cs : List Int) (b i : Nat) (x : Int) (hb : b < cs.length) : (cs.set b x).getD i 0 = if i = b then x else cs.getD i 0 := by
  simp only [List.getD_eq_getElem?_getD, List.getElem?_set]
  by_cases h : b = i
  · subst h; simp [hb]
  · rw [if_neg h, if_neg (Ne.symm h)]
theorem bump_getD (cs : List Int) (b i : Nat) : (bump cs b).getD i 0 = cs.getD i 0 + if i = b then 1 else 0 := by
  unfold bump
  by_cases h : cs.length ≤ b
  · simp only [if_pos h]
    rw [getD_set _ _ _ _ (by simp; omega), getD_append_zeros, getD_append_zeros]
    split <;> simp_all
  · simp only [if_neg h]
    rw [getD_set _ _ _ _ (by omega)]
    split <;> simp_all
theorem bump_len (cs : List Int) (b : Nat) : (bump cs b).length = max cs.length (b + 1) := by
  unfold bump
  by_cases h : cs.length ≤ b
  · simp only [if_pos h, List.length_set, List.length_append, List.length_replicate]; omega
  · simp only [if_neg h, List.length_set]; omega
theorem fold_getD : ∀ (row : List Int) (cs : List Int) (i : Nat), (∀ r ∈ row, 0 ≤ r) → (row.foldl (fun cs r => bump cs r.toNat) cs).getD i 0 = cs.getD i 0 + (row.count (i : Int) : Int)
  | [], cs, i, _ => by simp
  | r :: row, cs, i, h => by
    rw [List.foldl_cons, fold_getD row _ i fun x hx => h x (by simp [hx]), bump_getD, List.count_cons]
    have hr := h r (by simp)
    by_cases q : i = r.toNat
    · rw [if_pos q, if_pos (by simp; omega)]; push_cast; omega
    · rw [if_neg q, if_neg (by simp; omega)]; push_cast; omega
theorem fold_len : ∀ (row : List Int) (cs : List Int), cs.length ≤ (row.foldl (fun cs r => bump cs r.toNat) cs).length ∧ (∀ r ∈ row, r.toNat + 1 ≤ (row.foldl (fun cs r => bump cs r.toNat) cs).length) ∧
    ((row.foldl (fun cs r => bump cs r.toNat) cs).length = cs.length ∨ ∃ r ∈ row, (row.foldl (fun cs r => bump cs r.toNat) cs).length = r.toNat + 1)
  | [], cs => by simp
  | r :: row, cs => by
    obtain ⟨h1, h2, h3⟩ := fold_len row (bump cs r.toNat)
    have hb := bump_len cs r.toNat
    rw [List.foldl_cons]
    refine ⟨by omega, fun x hx => ?_, ?_⟩
    · rcases List.mem_cons.mp hx with rfl | hx
      · omega
      · exact h2 x hx
    · rcases h3 with h3 | ⟨x, hx, h3⟩
      · by_cases q : cs.length ≤ r.toNat + 1
        · exact .inr ⟨r, by simp, by omega⟩
        · exact .inl (by omega)
      · exact .inr ⟨x, by simp [hx], h3⟩
/-- the longest run of a row -/
theorem count_len {n : Nat} (hn : 0 < n) {row : List Int} (h : Row n 6 row) : ∃ mx : Nat, (mx : Int) ∈ row ∧ (∀ r ∈ row, r ≤ mx) ∧ (countOf row).length = mx + 1 := by
  obtain ⟨h1, h2, h3⟩ := fold_len row []
  rcases h3 with h3 | ⟨x, hx, h3⟩
  · obtain ⟨x, hx⟩ : ∃ x, x ∈ row := List.exists_mem_of_length_pos (by rw [h.1]; exact hn)
    have := h2 x hx
    simp only [List.length_nil] at h3
    omega
  · have hx0 := h.2 x hx
    refine ⟨x.toNat, by rw [show ((x.toNat : Nat) : Int) = x by omega]; exact hx, fun r hr => ?_, h3⟩
    have := h2 r hr
    have := h.2 r hr
    omega
theorem count_getD {n : Nat} {row : List Int} (h : Row n 6 row) (i : Nat) : (countOf row).getD i 0 = (row.count (i : Int) : Int) := by
  unfold countOf
  rw [fold_getD row [] i fun r hr => (h.2 r hr).1]; simp

theorem ilS_pre (ts : Nat) (cs : List Int) : ∀ k, ilS ts cs k = preSum (fun i => ((i / ts : Nat) : Int) * cs.getD i 0) (ts + k)
  | 0 => by
    have : ∀ j, j ≤ ts → preSum (fun i => ((i / ts : Nat) : Int) * cs.getD i 0) j = 0 := by
      intro j
      induction j with
      | zero => intro _; rfl
      | succ j ih => intro hj; rw [preSum, ih (by omega), Nat.div_eq_of_lt (by omega)]; simp
    rw [ilS, Nat.add_zero, this ts (Nat.le_refl _)]
  | k + 1 => by rw [ilS, ilS_pre ts cs k, ← Nat.add_assoc, preSum]
theorem preSum_ext (f g : Nat → Int) : ∀ n, (∀ i, i < n → f i = g i) → preSum f n = preSum g n
  | 0, _ => rfl
  | n + 1, h => by rw [preSum, preSum, preSum_ext f g n fun i hi => h i (by omega), h n (by omega)]
theorem preSum_tail (f : Nat → Int) (a : Nat) (h : ∀ i, a ≤ i → f i = 0) : ∀ k, preSum f (a + k) = preSum f a
  | 0 => rfl
  | k + 1 => by rw [← Nat.add_assoc, preSum, preSum_tail f a h k, h _ (by omega), Int.add_zero]
theorem preSum_add (f g : Nat → Int) : ∀ n, preSum (fun i => f i + g i) n = preSum f n + preSum g n
  | 0 => rfl
  | n + 1 => by rw [preSum, preSum, preSum, preSum_add f g n]; omega
theorem preSum_one (w : Nat → Int) (b : Nat) : ∀ n, preSum (fun i => w i * if i = b then 1 else 0) n = if b < n then w b else 0
  | 0 => by simp [preSum]
  | n + 1 => by
    rw [preSum, preSum_one w b n]
    by_cases h : n = b
    · subst h; simp
    · rw [if_neg h]
      by_cases q : b < n
      · rw [if_pos q, if_pos (by omega)]; simp
      · rw [if_neg q, if_neg (by omega)]; simp
/-- a weighted sum over the counts is the sum over the row -/
theorem count_sum (w : Nat → Int) (N : Nat) : ∀ (row : List Int), (∀ r ∈ row, 0 ≤ r ∧ r < N) → preSum (fun i => w i * (row.count (i : Int) : Int)) N = (row.map fun r => w r.toNat).sum
  | [], _ => by
    simp only [List.count_nil, List.map_nil, List.sum_nil]
    have : ∀ n, preSum (fun i => w i * ((0 : Nat) : Int)) n = 0 := by
      intro n
      induction n with
      | zero => rfl
      | succ n ih => rw [preSum, ih]; simp
    exact this N
  | r :: row, h => by
    have hr := h r (by simp)
    have e : ∀ i : Nat, w i * ((r :: row).count (i : Int) : Int) = w i * (row.count (i : Int) : Int) + w i * (if i = r.toNat then 1 else 0) := by
      intro i
      rw [List.count_cons, ← Int.mul_add]
      congr 1
      by_cases q : i = r.toNat
      · rw [if_pos q, if_pos (by simp; omega)]; push_cast; rfl
      · rw [if_neg q, if_neg (by simp; omega)]; push_cast; rfl
    rw [show (fun i : Nat => w i * ((r :: row).count (i : Int) : Int)) = fun i => w i * (row.count (i : Int) : Int) + w i * (if i = r.toNat then 1 else 0) from funext e, preSum_add, count_sum w N row fun x hx => h x (by simp [hx]), preSum_one, if_pos (by omega), List.map_cons, List.sum_cons, Int.add_comm]

/-- how often d goes into the runs -/
def Fs (row : List Int) (d : Nat) : Int := (row.map fun r => r / (d : Int)).sum
theorem Fs_count (row : List Int) (d N : Nat) (h : ∀ r ∈ row, 0 ≤ r ∧ r < (N : Int)) : preSum (fun i => ((i / d : Nat) : Int) * (row.count (i : Int) : Int)) N = Fs row d := by
  rw [count_sum (fun i => ((i / d : Nat) : Int)) N row h]
  unfold Fs
  congr 1
  apply List.map_congr_left
  intro r hr
  have := h r hr
  push_cast
  rw [show ((r.toNat : Nat) : Int) = r by omega]
theorem lvl_is {n : Nat} (hn : 0 < n) {row : List Int} (h : Row n 6 row) (bh d : Nat) : lvl (countOf row) bh n d = bh + d * (Fs row d + n) := by
  obtain ⟨mx, h1, h2, h3⟩ := count_len hn h
  have hmx := h.2 _ h1
  unfold lvl
  rw [ilS_pre]
  have hz : ∀ i, (countOf row).length ≤ i → ((i / d : Nat) : Int) * (countOf row).getD i 0 = 0 := fun i hi => by
    rw [List.getD_eq_getElem?_getD, List.getElem?_eq_none hi]; simp
  have e1 : preSum (fun i => ((i / d : Nat) : Int) * (countOf row).getD i 0) (d + ((countOf row).length - d)) = preSum (fun i => ((i / d : Nat) : Int) * (countOf row).getD i 0) (d + ((countOf row).length - d) + 7) :=
    (preSum_tail _ _ (fun i hi => hz i (by omega)) 7).symm
  have e2 : preSum (fun i => ((i / d : Nat) : Int) * (countOf row).getD i 0) (d + ((countOf row).length - d) + 7) = Fs row d := by
    rw [← Fs_count row d (d + ((countOf row).length - d) + 7) fun r hr => by have := h.2 r hr; omega]
    exact preSum_ext _ _ _ fun i _ => by rw [count_getD h]
  rw [e1, e2]
theorem lev_is (row : List Int) (bh d : Nat) : lev row bh d = bh + d * (Fs row d + row.length) := by
  unfold lev Fs
  congr 1
  induction row with
  | nil => simp
  | cons r row ih =>
    rw [List.map_cons, List.sum_cons, ih, List.map_cons, List.sum_cons, List.length_cons]
    have := Int.mul_ediv_add_emod r d
    push_cast
    grind
theorem lvl_lev {n : Nat} (hn : 0 < n) {row : List Int} (h : Row n 6 row) (bh d : Nat) : lvl (countOf row) bh n d = lev row bh d := by
  rw [lvl_is hn h, lev_is, h.1]
theorem witL_nil {f1 f2 : Nat → Int} : ∀ {k : Nat}, witL f1 f2 k = [] ↔ ∀ d, 1 ≤ d → d ≤ k → f1 d = f2 d
  | 0 => ⟨fun _ d h1 h2 => by omega, fun _ => rfl⟩
  | k + 1 => by
    rw [witL, List.append_eq_nil_iff, witL_nil (k := k)]
    constructor
    · rintro ⟨h1, h2⟩ d d1 d2
      by_cases q : d ≤ k
      · exact h1 d d1 q
      · have : d = k + 1 := by omega
        subst this
        by_cases r : f1 (k + 1) = f2 (k + 1)
        · exact r
        · rw [if_neg r] at h2; cases h2
    · intro h
      exact ⟨fun d d1 d2 => h d d1 (by omega), by rw [if_pos (h (k + 1) (by omega) (Nat.le_refl _))]⟩
theorem Fs_zero {row : List Int} {d : Nat} (h : ∀ r ∈ row, 0 ≤ r ∧ r < (d : Int)) : Fs row d = 0 := by
  unfold Fs
  induction row with
  | nil => rfl
  | cons r row ih =>
    have := h r (by simp)
    rw [List.map_cons, List.sum_cons, ih fun x hx => h x (by simp [hx]), Int.ediv_eq_zero_of_lt this.1 this.2]; rfl
/-- equal stops at every size: equal counts -/
theorem count_eq {n : Nat} (hn : 0 < n) {r0 r1 : List Int} (h0 : Row n 6 r0) (h1 : Row n 6 r1) (bh M : Nat) (hM0 : ∀ r ∈ r0, r ≤ (M : Int)) (hM1 : ∀ r ∈ r1, r ≤ (M : Int)) : countOf r0 = countOf r1 ↔ witL (lev r0 bh) (lev r1 bh) (M + 1) = [] := by
  rw [witL_nil]
  constructor
  · intro h d _ _
    rw [← lvl_lev hn h0, ← lvl_lev hn h1, h]
  · intro h
    have hF : ∀ d, 1 ≤ d → Fs r0 d = Fs r1 d := by
      intro d hd
      by_cases q : d ≤ M + 1
      · have := h d hd q
        rw [lev_is, lev_is, h0.1, h1.1] at this
        have h2 : (d : Int) * (Fs r0 d + n) = d * (Fs r1 d + n) := by omega
        have := Int.eq_of_mul_eq_mul_left (show (d : Int) ≠ 0 by omega) h2
        omega
      · rw [Fs_zero fun r hr => ⟨(h0.2 r hr).1, by have := hM0 r hr; omega⟩, Fs_zero fun r hr => ⟨(h1.2 r hr).1, by have := hM1 r hr; omega⟩]
    have b0 : ∀ r ∈ r0, 0 ≤ r ∧ r < ((7 : Nat) : Int) := fun r hr => by have := h0.2 r hr; omega
    have b1 : ∀ r ∈ r1, 0 ≤ r ∧ r < ((7 : Nat) : Int) := fun r hr => by have := h1.2 r hr; omega
    have hc : ∀ i : Nat, (r0.count (i : Int) : Int) = (r1.count (i : Int) : Int) := by
      have len0 : preSum (fun i => (1 : Int) * (r0.count (i : Int) : Int)) 7 = n := by
        rw [count_sum (fun _ => 1) 7 r0 b0]
        have : ∀ l : List Int, (l.map fun _ => (1 : Int)).sum = l.length := by
          intro l; induction l with
          | nil => rfl
          | cons x l ih => rw [List.map_cons, List.sum_cons, ih, List.length_cons]; push_cast; omega
        rw [this, h0.1]
      have len1 : preSum (fun i => (1 : Int) * (r1.count (i : Int) : Int)) 7 = n := by
        rw [count_sum (fun _ => 1) 7 r1 b1]
        have : ∀ l : List Int, (l.map fun _ => (1 : Int)).sum = l.length := by
          intro l; induction l with
          | nil => rfl
          | cons x l ih => rw [List.map_cons, List.sum_cons, ih, List.length_cons]; push_cast; omega
        rw [this, h1.1]
      have e : ∀ d, 1 ≤ d → preSum (fun i => ((i / d : Nat) : Int) * (r0.count (i : Int) : Int)) 7 = preSum (fun i => ((i / d : Nat) : Int) * (r1.count (i : Int) : Int)) 7 := fun d hd => by
        rw [Fs_count r0 d 7 b0, Fs_count r1 d 7 b1, hF d hd]
      have q1 := e 1 (by decide)
      have q2 := e 2 (by decide)
      have q3 := e 3 (by decide)
      have q4 := e 4 (by decide)
      have q5 := e 5 (by decide)
      have q6 := e 6 (by decide)
      simp only [preSum] at len0 len1 q1 q2 q3 q4 q5 q6
      simp at len0 len1 q1 q2 q3 q4 q5 q6
      intro i
      by_cases hi : i < 7
      · have : i = 0 ∨ i = 1 ∨ i = 2 ∨ i = 3 ∨ i = 4 ∨ i = 5 ∨ i = 6 := by omega
        rcases this with rfl | rfl | rfl | rfl | rfl | rfl | rfl <;> (simp; omega)
      · rw [List.count_eq_zero.mpr fun q => by have := b0 _ q; omega, List.count_eq_zero.mpr fun q => by have := b1 _ q; omega]
    have hg : ∀ i, (countOf r0).getD i 0 = (countOf r1).getD i 0 := fun i => by rw [count_getD h0, count_getD h1, hc i]
    obtain ⟨m0, a1, a2, a3⟩ := count_len hn h0
    obtain ⟨m1, c1, c2, c3⟩ := count_len hn h1
    have hm : m0 = m1 := by
      have x1 : (m0 : Int) ∈ r1 := by
        have : 0 < r0.count (m0 : Int) := List.count_pos_iff.mpr a1
        have := hc m0
        exact List.count_pos_iff.mp (by omega)
      have x2 : (m1 : Int) ∈ r0 := by
        have : 0 < r1.count (m1 : Int) := List.count_pos_iff.mpr c1
        have := hc m1
        exact List.count_pos_iff.mp (by omega)
      have := c2 _ x1
      have := a2 _ x2
      omega
    apply List.ext_getElem (by omega)
    intro i i1 i2
    have := hg i
    rwa [List.getD_eq_getElem?_getD, List.getD_eq_getElem?_getD, List.getElem?_eq_getElem i1, List.getElem?_eq_getElem i2] at this
end Mine

open PySem PySem.W PyProof.Rows
namespace Mine
set_option maxRecDepth 100000

theorem witL_congr {f1 f2 g1 g2 : Nat → Int} : ∀ (k : Nat), (∀ d, 1 ≤ d → d ≤ k → f1 d = g1 d ∧ f2 d = g2 d) → witL f1 f2 k = witL g1 g2 k
  | 0, _ => rfl
  | k + 1, h => by
    have := h (k + 1) (by omega) (Nat.le_refl _)
    simp only [witL, this.1, this.2, witL_congr k fun d h1 h2 => h d h1 (by omega)]
theorem pairedGet {α β : Type} {F : α → β → Prop} : ∀ {l₁ : List α} {l₂ : List β}, Paired F l₁ l₂ → ∀ (j : Nat) (h1 : j < l₁.length) (h2 : j < l₂.length), F l₁[j] l₂[j]
  | _, _, .nil, j, h1, _ => absurd h1 (Nat.not_lt_zero _)
  | _, _, .cons x _, 0, _, _ => x
  | _, _, .cons _ t, j + 1, h1, h2 => pairedGet t j (Nat.lt_of_succ_lt_succ h1) (Nat.lt_of_succ_lt_succ h2)
theorem allTrue (n : Nat) : (List.range n).all (fun _ => true) = true := by simp

section
variable {prog : Program} {w : World} {A : Around} {E : Value → Shared → Prop} {hp : Heap} {g : Array GenState} {d : Drawn} {t : Nat} {os : OsState} {mg mb mN : Str → Option Value}
variable {h₀ : Heap} {L a : Addr} {cd : Value} {m cm : Str → Option Value} {n bh : Nat} {xs ys : List Int} {vf : Value}

/-- the two lists of triples hold the same -/
theorem neTrips {D1 D2 : Addr} {ps : List (Int × Int × Int)} {Q : Value → Shared → Prop} (h1 : TS L hp D1 ps) (h2 : TS L hp D2 ps) (hu : A.units + 10 < cLine) (h : Q (.bool false) ⟨hp, g, d, t, os⟩) :
    wpAny (model prog w) A (compareOp .NotEq (.ref D1) (.ref D2)) Q E ⟨hp, g, d, t, os⟩ := by
  obtain ⟨s1, vs1, l1, p1⟩ := h1
  obtain ⟨s2, vs2, l2, p2⟩ := h2
  have e1 := p1.length
  have e2 := p2.length
  have := SeqAt.RcNeAt.lists (A := A) (s := ⟨hp, g, d, t, os⟩) (e := fun _ => true) l1 l2 (by simp; omega) (by omega) fun j q1 q2 => by
    simp only [List.size_toArray] at q1 q2
    have hj : j < ps.length := by omega
    obtain ⟨a1, u1, u2, u3, k1, ea, _, t1⟩ : TrpS L hp vs1[j] ps[j] := pairedGet p1 j q1 hj
    obtain ⟨b1, w1, w2, w3, k2, eb, _, t2⟩ : TrpS L hp vs2[j] ps[j] := pairedGet p2 j q2 hj
    show SeqAt.EqAt A.in1 _ vs1[j] vs2[j] true
    rw [ea, eb]
    by_cases hab : a1 = b1
    · subst hab; exact SeqAt.EqAt.same _
    · refine SeqAt.EqAt.of_refs hab ?_
      have := SeqAt.RcAt.tuples (A := A.in1) (s := ⟨hp, g, d, t, os⟩) (e := fun _ => true) ⟨_, t1, rfl, k1, rfl⟩ ⟨_, t2, rfl, k2, rfl⟩ (by show A.units + 1 < _; omega) fun i r1 r2 => by
        match i, r1 with
        | 0, _ => have := SeqAt.EqAt.int_int (A := A.in1.in1) (s := ⟨hp, g, d, t, os⟩) ps[j].1 u1 ps[j].1 w1; rwa [show (ps[j].1 == ps[j].1) = true by simp] at this
        | 1, _ => have := SeqAt.EqAt.int_int (A := A.in1.in1) (s := ⟨hp, g, d, t, os⟩) ps[j].2.1 u2 ps[j].2.1 w2; rwa [show (ps[j].2.1 == ps[j].2.1) = true by simp] at this
        | 2, _ => have := SeqAt.EqAt.int_int (A := A.in1.in1) (s := ⟨hp, g, d, t, os⟩) ps[j].2.2 u3 ps[j].2.2 w3; rwa [show (ps[j].2.2 == ps[j].2.2) = true by simp] at this
      have e3 : ((List.range (min (#[Value.int ps[j].1 u1, .int ps[j].2.1 u2, .int ps[j].2.2 u3] : Array Value).size (#[Value.int ps[j].1 w1, .int ps[j].2.1 w2, .int ps[j].2.2 w3] : Array Value).size)).all (fun _ => true) && (#[Value.int ps[j].1 u1, .int ps[j].2.1 u2, .int ps[j].2.2 u3] : Array Value).size == (#[Value.int ps[j].1 w1, .int ps[j].2.1 w2, .int ps[j].2.2 w3] : Array Value).size) = true := by simp
      rw [e3] at this
      exact this
  refine this prog w E Q ?_
  rw [allTrue]
  exact h

/-- a list compared with the empty one -/
theorem eqNil {D1 D2 : Addr} {vs : List Value} {Q : Value → Shared → Prop} (l1 : hp.IsList D1 vs.toArray) (l2 : hp.IsList D2 ([] : List Value).toArray) (hu : A.units + 10 < cLine) (h : Q (.bool (decide (vs = []))) ⟨hp, g, d, t, os⟩) :
    wpAny (model prog w) A (compareOp .Eq (.ref D1) (.ref D2)) Q E ⟨hp, g, d, t, os⟩ := by
  cases vs with
  | nil => exact SeqAt.eq_listAt (e := fun _ => true) l1 l2 rfl (by omega) (fun j h1 _ => absurd h1 (Nat.not_lt_zero _)) h
  | cons v vs => exact SeqAt.eq_list_lengthsAt l1 l2 (by simp) (by omega) h

set_option maxHeartbeats 8000000 in
theorem sB3 (T : Tp mg mb mN h₀) (N : Names mg mb mN) (F : FL h₀ L a cd hp m cm) (hh : A.handled = none) (hroom : A.depth + 2 < recursionLimit) (B : LB L hp m cm n bh xs ys vf) (hn : 3 ≤ n) (hr : ∀ i, Row n 6 (rowOf n xs ys i)) (hbh : bh ≤ 2) {j : Nat} {uj : Tok} (hj : j < n) (hn' : n ≤ 5) (hmj : m "turn" = some (.int j uj))
    {M : Nat} (hz0 : (countOf (rowOf n xs ys 0)).length ≤ 7) (hzj : (countOf (rowOf n xs ys j)).length ≤ 7) (hk : ((M + 1 : Nat) : Int) = max (max (((countOf (rowOf n xs ys 0)).length : Int) - 1) bh) (max (((countOf (rowOf n xs ys j)).length : Int) - 1) bh) + 1)
    (hlv : ∀ d, 1 ≤ d → d ≤ M + 1 → lvl (countOf (rowOf n xs ys 0)) bh n d = lev (rowOf n xs ys 0) bh d ∧ lvl (countOf (rowOf n xs ys j)) bh n d = lev (rowOf n xs ys j) bh d) {Q : Flow → Shared → Prop}
    (hQ : ∀ h' t' D, TS L h' D (witL (lev (rowOf n xs ys 0) bh) (lev (rowOf n xs ys j) bh) (M + 1)) → FL h₀ L a cd h' (fun y => if y = "found" then some (.ref D) else m y) cm → KeepS L hp h' → Q .next ⟨h', g, d, t', os⟩) :
    wpAny (model prog w) A (exec (bodySt 3) (lawEnv L a cd)) Q E ⟨hp, g, d, t, os⟩ := by
  obtain ⟨D, hmD, hD⟩ := B.leads
  obtain ⟨vs, x0, hl, hv0, W0⟩ := LeadsAt.item hD (show 0 < n by omega)
  obtain ⟨vs', xj, hl', hvj, Wj⟩ := LeadsAt.item hD hj
  rw [(hr 0).1] at W0
  rw [(hr j).1] at Wj
  have T' := FL.tp F T
  refine wpAny_Assign_Name ?_
  refine MethodCall_ ?_
  refine wpAny_Subscript_Constant_late ?_
  refine cnL F hmD ?_
  refine cInt fun u1 t1 => ?_
  refine itemL hl (by decide) (by decide) (v := .ref x0) hv0 ?_
  obtain ⟨mA, tu, c, vsn, n1, n2, tb, tnt, I0, a1, a2, a3, a4, a5, r1, r2, r3, r4, _⟩ := id W0
  refine methW T' N I0 N.wit T'.fWit r4 ?_
  refine cwM T'.fWit ?_
  refine args_cons ?_
  refine wpAny_Subscript_Name_late ?_
  refine cnL F hmD ?_
  refine cnL F hmj ?_
  refine itemL hl' (by omega) (by omega) (v := .ref xj) (by rw [Int.toNat_natCast]; exact hvj) ?_
  refine args_nil ⟨fun _ _ e => e, ?_⟩
  refine wit_spec T' N W0 Wj (by omega) (by omega) (by omega) (by omega) (by omega) (by omega) hk hh (by omega) fun h' t' lo l k hlz hlo hT => ?_
  rw [witL_congr (M + 1) hlv] at hT
  have hs : Sf L l := FL.sf F hlz
  have hloL : L + 7 < lo := Nat.lt_of_lt_of_le (FL.size F) hlo
  have hT2 := TS.of (FL.far F) hloL hs hT
  refine csL (F.keeps k) fun h₂ t2 F₂ s₂ => ?_
  exact hQ h₂ t2 l (hT2.keep (KeepS.sameL s₂)) F₂ (KeepS.trans (KeepS.of k) (KeepS.sameL s₂))

set_option maxHeartbeats 8000000 in
theorem sB4 (T : Tp mg mb mN h₀) (N : Names mg mb mN) (F : FL h₀ L a cd hp m cm) (hh : A.handled = none) (hu : A.units + 30 < cLine) (hroom : A.depth + 2 < recursionLimit) (B : LB L hp m cm n bh xs ys vf) (hn : 3 ≤ n) {j : Nat} {uj : Tok} (hj : j < n) (hn' : n ≤ 5) (hmj : m "turn" = some (.int j uj))
    {ps : List (Int × Int × Int)} {Df Dd : Addr} (hmf : m "found" = some (.ref Df)) (hmd : m "due" = some (.ref Dd)) (hf : TS L hp Df ps) (hd : TS L hp Dd ps) (hiff : countOf (rowOf n xs ys 0) = countOf (rowOf n xs ys j) ↔ ps = []) {Q : Flow → Shared → Prop}
    (hQ : ∀ h' t', FL h₀ L a cd h' m cm → KeepS L hp h' → Q .next ⟨h', g, d, t', os⟩) :
    wpAny (model prog w) A (exec (bodySt 4) (lawEnv L a cd)) Q E ⟨hp, g, d, t, os⟩ := by
  obtain ⟨D, hmD, hD⟩ := B.leads
  obtain ⟨vs, x0, hl, hv0, W0⟩ := LeadsAt.item hD (show 0 < n by omega)
  obtain ⟨vs', xj, hl', hvj, Wj⟩ := LeadsAt.item hD hj
  have T' := FL.tp F T
  refine wpAny_If ?_
  refine isTrue_or ?_
  refine wpAny_isTrue_Compare1 ?_
  refine cnL F hmf ?_
  refine cnL F hmd ?_
  refine neTrips hf hd (by omega) ?_
  refine wpAny_truthy_bool ?_
  refine isTrue_or ?_
  refine wpAny_isTrue_Compare1 ?_
  refine MethodCall_ ?_
  refine wpAny_Subscript_Constant_late ?_
  refine cnL F hmD ?_
  refine cInt fun u1 t1 => ?_
  refine itemL hl (by decide) (by decide) (v := .ref x0) hv0 ?_
  obtain ⟨mA, tu, c, vsn, n1, n2, tb, tnt, I0, a1, a2, a3, a4, a5, r1, r2, r3, r4, _⟩ := id W0
  refine methW T' N I0 N.equal T'.fEqual r3 ?_
  refine cwM T'.fEqual ?_
  refine args_cons ?_
  refine wpAny_Subscript_Name_late ?_
  refine cnL F hmD ?_
  refine cnL F hmj ?_
  refine itemL hl' (by omega) (by omega) (v := .ref xj) (by rw [Int.toNat_natCast]; exact hvj) ?_
  refine args_nil ⟨fun _ _ e => e, ?_⟩
  refine equal_spec T' N W0 Wj (by omega) (by omega) fun h' t' k => ?_
  have F' := F.keeps k
  refine wpAny_Compare1 ?_
  refine cnL F' hmd ?_
  refine lstE ?_
  refine args_nil ⟨by decide, fun h₂ l2 k₂ q₂ hl2 => ?_⟩
  have F₂ := F'.keeps k₂
  obtain ⟨_, vd, hvd, hpd⟩ := hd
  have hlen := hpd.length
  refine eqNil (hvd.at fun o e => k₂ _ _ (k _ _ e)) ⟨_, hl2, rfl, 0, rfl⟩ (by omega) ?_
  refine wpAny_isNot_plain rfl ?_
  refine wpAny_truthy_bool ?_
  have e : (!(Value.bool (decide (countOf (rowOf n xs ys 0) = countOf (rowOf n xs ys j)) && decide ((bh : Int) = bh)) == Value.bool (decide (vd = [])))) = false := by
    have : decide (vd = []) = decide (ps = []) := by
      cases vd <;> cases ps <;> simp_all
    rw [this, decide_eq_true (rfl : (bh : Int) = bh), Bool.and_true]
    by_cases q : ps = []
    · rw [decide_eq_true q, decide_eq_true (hiff.mpr q)]; rfl
    · rw [decide_eq_false q, decide_eq_false (fun r => q (hiff.mp r))]; rfl
  rw [e]
  refine isTrue_or_nil ?_
  refine wpAny_execs_nil ?_
  exact hQ h₂ t' F₂ (KeepS.of fun b o e => k₂ _ _ (k _ _ e))
end
end Mine

open PySem PySem.W PyProof.Rows
namespace Mine
set_option maxRecDepth 100000

def gset (gs : List Int) (p : Int × Int × Int) : List Int := gs.set (p.1 - 1).toNat ((p.2.1 - p.2.2) / p.1)
theorem gset_len (gs : List Int) : ∀ ps, (List.foldl gset gs ps).length = gs.length
  | [] => rfl
  | p :: ps => by rw [List.foldl_cons, gset_len, gset, List.length_set]
theorem witL_mem {f1 f2 : Nat → Int} : ∀ {k : Nat} {p : Int × Int × Int}, p ∈ witL f1 f2 k → 1 ≤ p.1 ∧ p.1 ≤ k
  | 0, p, h => by simp [witL] at h
  | k + 1, p, h => by
    rw [witL] at h
    rcases List.mem_append.mp h with h | h
    · have := witL_mem h; push_cast; omega
    · split at h
      · simp at h
      · rw [List.mem_singleton.mp h]; push_cast; simp; omega

section
variable {prog : Program} {w : World} {A : Around} {E : Value → Shared → Prop} {hp : Heap} {g : Array GenState} {d : Drawn} {t : Nat} {os : OsState} {mg mb mN : Str → Option Value}
variable {h₀ : Heap} {L a : Addr} {cd : Value} {m cm : Str → Option Value} {n bh : Nat} {xs ys : List Int} {vf : Value}

set_option maxHeartbeats 8000000 in
theorem sB56 (F : FL h₀ L a cd hp m cm) (hh : A.handled = none) {M : Nat} {um : Tok} (hM : M ≤ 6) (hmM : m "top" = some (.int ((M + 1 : Nat) : Int) um)) {Df : Addr} {ps : List (Int × Int × Int)} (hmf : m "found" = some (.ref Df)) (hf : TS L hp Df ps) (hps : ∀ p ∈ ps, 1 ≤ p.1 ∧ p.1 ≤ ((M + 1 : Nat) : Int)) (hpl : ps.length ≤ 100) {rest : List Stmt} {Q : Flow → Shared → Prop}
    (hQ : ∀ h' t' D m' cm', LI L h' D (ps.foldl gset (List.replicate (M + 1) 0)) → m' "gains" = some (.ref D) → (∀ y : Str, y ≠ "gains" → y ≠ "one" → y ≠ "two" → m' y = m y) → (∀ y : Str, y ≠ "d" → cm' y = cm y) → FL h₀ L a cd h' m' cm' → KeepS L hp h' →
      wpAny (model prog w) A (execs rest (lawEnv L a cd)) Q E ⟨h', g, d, t', os⟩) :
    wpAny (model prog w) A (execs (bodySt 5 :: bodySt 6 :: rest) (lawEnv L a cd)) Q E ⟨hp, g, d, t, os⟩ := by
  obtain ⟨sf, vs, hlf, hpf⟩ := hf
  have hlen := hpf.length
  refine wpAny_execs_cons ?_
  refine wpAny_Assign_Name ?_
  refine wpAny_BinOp ?_
  refine lstE ?_
  refine args_cons (cInt fun u1 t1 => ?_)
  refine args_nil ⟨by show 1 ≤ 1000; decide, fun h₁ l1 k₁ hl1 hll1 => ?_⟩
  have F₁ := F.keeps k₁
  refine cnL F₁ hmM ?_
  refine mulLs (FL.ns' F₁) hll1 (by omega) (by omega) (by show 1 ≤ 1000; decide) fun h₂ D n₂ k₂ hD hl₂ => ?_
  have F₂ := FL.keepL F₁ n₂ k₂
  have hrep : (List.replicate (((M + 1 : Nat) : Int)).toNat [Value.int 0 u1]).flatten = List.replicate (M + 1) (Value.int 0 u1) := by
    rw [Int.toNat_natCast]
    generalize M + 1 = k
    induction k with
    | zero => rfl
    | succ k ih => rw [List.replicate_succ, List.flatten_cons, ih]; rfl
  rw [hrep] at hl₂
  have hDs : Sf L D := FL.sf F₁ hD
  have hDL : L + 7 < D := Nat.lt_of_lt_of_le (FL.size F₁) hD
  have hDp : hp.objs.size ≤ D := by
    have : hp.objs.size ≤ l1 := hl1
    exact Nat.le_trans (Nat.le_trans this (Nat.le_of_lt (Heap.lt_size hll1))) hD
  refine csL F₂ fun h₃ t3 F₃ s₃ => ?_
  have hl₃ : h₃.PlainList D (List.replicate (M + 1) (Value.int 0 u1)).toArray := hl₂.at fun o e => s₃.extBut _ _ hDs.ne e
  have K₃ : ∀ b o, Sf L b → hp.get? b = some o → h₃.get? b = some o := KeepS.trans (KeepS.trans (KeepS.of k₁) (KeepS.ofL k₂)) (KeepS.sameL s₃)
  refine wpAny_execs_cons ?_
  refine wpAny_For ?_
  refine cnL F₃ (by exact hmf) ?_
  have hlf₃ := hlf.at fun o e => K₃ _ o sf e
  obtain ⟨of, ef, _⟩ := id hlf
  have hDfp : Df < hp.objs.size := Heap.lt_size ef
  refine wpAny_pyIter_list hlf₃ ?_
  have hIt := iterL hlf₃
  have hne : Df ≠ h₃.objs.size := by obtain ⟨o, e, _⟩ := hlf₃; exact Nat.ne_of_lt (Heap.lt_size e)
  have W := Walks.list (prog := prog) (w := w) (A := A) hh h₃.objs.size Df hne vs.toArray
  have hz : vs.toArray.size = vs.length := by simp
  rw [hz] at W
  have hIL : L + 7 < h₃.objs.size := FL.size F₃
  have hDI : D < h₃.objs.size := by obtain ⟨n, e⟩ := hl₃; exact Heap.lt_size e
  have kp : Keep h₃ (h₃.push { cls := .type "list_iterator", data := .fields #[.ref Df, .int 0 0] }) := fun b o e => Heap.get?_push_of_some _ e
  have F₄ := F₃.keeps kp
  have hl₄ := hl₃.at fun o e => kp _ o e
  have K₄ : ∀ b o, Sf L b → b ≠ D → b ≠ h₃.objs.size → hp.get? b = some o → (h₃.push { cls := .type "list_iterator", data := .fields #[.ref Df, .int 0 0] }).get? b = some o := fun b o q _ _ e => kp _ _ (K₃ b o q e)
  show codeAny _ _ (.forLoop _ (.ref h₃.objs.size) _ [] _) _ ⟨h₃.push { cls := .type "list_iterator", data := .fields #[.ref Df, .int 0 0] }, g, d, _, os⟩
  generalize h₃.push { cls := .type "list_iterator", data := .fields #[.ref Df, .int 0 0] } = h₄ at *
  generalize hI : h₃.objs.size = I at *
  have hIs : Sf L I := Sf.of_lt (FL.far F) hIL
  have hDfD : Df ≠ D := Nat.ne_of_lt (Nat.lt_of_lt_of_le hDfp hDp)
  have hDfI : Df ≠ I := hne
  refine forAny (fun i s => ∃ h t m' cm' gv, s = ⟨h, g, d, t, os⟩ ∧ FL h₀ L a cd h m' cm' ∧ (h.IsListIter I Df i ∧ h.IsList Df vs.toArray) ∧ h.IsList D (List.toArray gv) ∧ IntsAre gv ((ps.take i).foldl gset (List.replicate (M + 1) 0)) ∧ m' "gains" = some (.ref D) ∧ (∀ y : Str, y ≠ "gains" → y ≠ "one" → y ≠ "two" → m' y = m y) ∧ (∀ y : Str, y ≠ "d" → cm' y = cm y) ∧
    (∀ b o, Sf L b → b ≠ D → b ≠ I → hp.get? b = some o → h.get? b = some o)) vs.length ?_ ?_
    ⟨h₄, _, _, cm, _, rfl, F₄, hIt, hl₄.isList, intsAre_replicate u1 _, rfl, fun y q _ _ => if_neg q, fun _ _ => rfl, K₄⟩
  · rintro i s ⟨h, t, m', cm', gv, rfl, G, hsi, hl, hgi, m1, m2, c2, hk⟩ hiv
    refine W.item i _ _ _ hiv hsi fun v h₅ t5 hP hst₅ hk₅ => ⟨v, rfl, ?_⟩
    have hv : vs[i] = v := by have := hP; simpa [List.getElem?_eq_getElem hiv] using this
    have hip : i < ps.length := by omega
    obtain ⟨ta, u1', u2', u3', kt, ea, sa, hta⟩ : TrpS L hp vs[i] ps[i] := pairedGet hpf i hiv hip
    rw [hv] at ea
    subst ea
    have kI : ∀ b o, b ≠ I → h.get? b = some o → h₅.get? b = some o := fun b o q e => hk₅ b o (fun r => q (List.mem_singleton.mp r)) e
    have G₅ := FL.low G (h' := h₅) fun b o hb e => kI b o (Nat.ne_of_lt (Nat.lt_of_le_of_lt hb hIL)) e
    have hl₅ := hl.at fun o e => kI _ o (Nat.ne_of_lt hDI) e
    have hk5 : ∀ b o, Sf L b → b ≠ D → b ≠ I → hp.get? b = some o → h₅.get? b = some o := fun b o q1 q2 q3 e => kI b o q3 (hk b o q1 q2 q3 e)
    have htap : ta < hp.objs.size := Heap.lt_size hta
    have hta5 : IsT h₅ ta #[.int ps[i].1 u1', .int ps[i].2.1 u2', .int ps[i].2.2 u3'] kt := hk5 _ _ sa (Nat.ne_of_lt (Nat.lt_of_lt_of_le htap hDp)) (fun q => by
      have : hp.objs.size ≤ I := Nat.le_trans hDp (Nat.le_of_lt hDI)
      exact absurd (Nat.lt_of_lt_of_le htap this) (by rw [q]; exact Nat.lt_irrefl _)) hta
    refine wpAny_letOwnedTupleGo_listiter hst₅.1 ?_
    refine wpAny_assign_Tuple hh ⟨_, hta5, rfl, kt, rfl⟩ rfl rfl fun h₆ hx₆ => ?_
    have k₆ : Keep h₅ h₆ := fun b o e => hx₆ b o (Nat.ne_of_lt (Heap.lt_size e)) e
    show wpAny _ _ (assignInOrder [assign (.Name "d" _) (lawEnv L a cd), assign (.Name "one" _) (lawEnv L a cd), assign (.Name "two" _) (lawEnv L a cd)] [.int ps[i].1 u1', .int ps[i].2.1 u2', .int ps[i].2.2 u3']) _ _ _
    refine wpAny_bind (wpAny_holding (wpAny_assign_Name (csC (G₅.keeps k₆) (c := L + 6) rfl fun h₇ t7 G₇ s₇ => ?_)))
    refine wpAny_bind (wpAny_holding (wpAny_assign_Name (csL G₇ fun h₈ t8 G₈ s₈ => ?_)))
    refine wpAny_bind (wpAny_holding (wpAny_assign_Name (csL G₈ fun h₉ t9 G₉ s₉ => wpAny_pure ?_)))
    have k₉ : ∀ b o, Sf L b → h₅.get? b = some o → h₉.get? b = some o := KeepS.trans (KeepS.trans (KeepS.trans (KeepS.of k₆) (KeepS.same s₇ (by decide))) (KeepS.sameL s₈)) (KeepS.sameL s₉)
    have hl₉ := hl₅.at fun o e => k₉ _ o hDs e
    have hb := hps ps[i] (List.getElem_mem hip)
    have hgl : ((ps.take i).foldl gset (List.replicate (M + 1) 0)).length = M + 1 := by rw [gset_len]; simp
    have hgv := hgi.length
    refine wpAny_execs_cons ?_
    refine wpAny_Assign_Subscript ?_
    refine wpAny_BinOp ?_
    refine wpAny_BinOp ?_
    refine cnL G₉ (v := .int ps[i].2.1 u2') rfl ?_
    refine cnL G₉ (v := .int ps[i].2.2 u3') rfl ?_
    refine subI fun u10 t10 => ?_
    refine cnC G₉ (c := L + 6) rfl (v := .int ps[i].1 u1') rfl ?_
    refine Mine.divI (by omega) (by omega) fun u11 t11 => ?_
    refine cnL G₉ (v := .ref D) (by exact m1) ?_
    refine wpAny_BinOp ?_
    refine cnC G₉ (c := L + 6) rfl (v := .int ps[i].1 u1') rfl ?_
    refine cInt fun u12 t12 => ?_
    refine subI fun u13 t13 => ?_
    refine setL hl₉ (by omega) (by omega) (by omega) fun h₁₀ hl₁₀ s₁₀ => ?_
    refine wpAny_execs_nil ?_
    have k₁₀ : ∀ b o, b ≠ D → h₉.get? b = some o → h₁₀.get? b = some o := fun b o q e => s₁₀.extBut b o q e
    refine ⟨h₁₀, t13, _, _, _, rfl, FL.low G₉ (fun b o hb e => k₁₀ b o (Nat.ne_of_lt (Nat.lt_of_le_of_lt hb hDL)) e), ⟨?_, ?_⟩, hl₁₀, ?_, by exact m1, fun y q1 q2 q3 => ?_, fun y q => ?_, fun b o q1 q2 q3 e => k₁₀ b o q2 (k₉ b o q1 (hk5 b o q1 q2 q3 e))⟩
    · exact hst₅.1.at fun o e => k₁₀ _ _ (Nat.ne_of_gt hDI) (k₉ _ _ hIs e)
    · exact hst₅.2.at fun o e => k₁₀ _ _ hDfD (k₉ _ _ sf e)
    · rw [List.take_succ_eq_append_getElem hip, List.foldl_append, List.foldl_cons, List.foldl_nil]
      exact intsAre_set _ _ _ hgi
    · show (if y = Str.ofString "two" then _ else if y = Str.ofString "one" then _ else m' y) = _
      rw [if_neg q3, if_neg q2]; exact m2 y q1 q2 q3
    · show (if y = Str.ofString "d" then _ else cm' y) = _
      rw [if_neg q]; exact c2 y q
  · rintro s ⟨h, t, m', cm', gv, rfl, G, hsi, hl, hgi, m1, m2, c2, hk⟩
    refine W.done _ _ _ hsi fun h₅ t5 hk₅ => ⟨rfl, ?_⟩
    have kI : ∀ b o, b ≠ I → h.get? b = some o → h₅.get? b = some o := fun b o q e => hk₅ b o (fun r => q (List.mem_singleton.mp r)) e
    have G₅ := FL.low G (h' := h₅) fun b o hb e => kI b o (Nat.ne_of_lt (Nat.lt_of_le_of_lt hb hIL)) e
    rw [hlen, List.take_length] at hgi
    refine hQ h₅ t5 D m' cm' ⟨hDs, gv, hl.at fun o e => kI _ o (Nat.ne_of_lt hDI) e, hgi⟩ m1 m2 c2 G₅ fun b o q e => ?_
    have hb : b < hp.objs.size := Heap.lt_size e
    have hbD : b ≠ D := Nat.ne_of_lt (Nat.lt_of_lt_of_le hb hDp)
    have hbI : b ≠ I := Nat.ne_of_lt (Nat.lt_trans (Nat.lt_of_lt_of_le hb hDp) hDI)
    exact kI b o hbI (hk b o q hbD hbI e)
end
end Mine

open PySem PySem.W PyProof.Rows
namespace Mine

theorem fold_gains (f1 f2 : Nat → Int) (T : Nat) : ∀ k, k ≤ T → ∀ i, ((witL f1 f2 k).foldl gset (List.replicate T 0)).getD i 0 = if i < k then (f1 (i + 1) - f2 (i + 1)) / ((i + 1 : Nat) : Int) else 0
  | 0, _, i => by
    simp only [witL, List.foldl_nil, List.getD_eq_getElem?_getD]
    by_cases h : i < T
    · rw [List.getElem?_replicate_of_lt h]; simp
    · rw [List.getElem?_eq_none (by simp; omega)]; simp
  | k + 1, hk, i => by
    have ih := fold_gains f1 f2 T k (by omega) i
    rw [witL, List.foldl_append]
    by_cases h : f1 (k + 1) = f2 (k + 1)
    · rw [if_pos h, List.foldl_nil, ih]
      by_cases q : i < k
      · rw [if_pos q, if_pos (by omega)]
      · rw [if_neg q]
        by_cases r : i = k
        · subst r; rw [if_pos (by omega), h]; simp
        · rw [if_neg (by omega)]
    · rw [if_neg h, List.foldl_cons, List.foldl_nil]
      show (List.set _ (((k + 1 : Nat) : Int) - 1).toNat ((f1 (k + 1) - f2 (k + 1)) / ((k + 1 : Nat) : Int))).getD i 0 = _
      have e : (((k + 1 : Nat) : Int) - 1).toNat = k := by omega
      rw [e, getD_set _ _ _ _ (by rw [gset_len]; simp; omega), ih]
      by_cases r : i = k
      · subst r; rw [if_pos rfl, if_pos (by omega)]
      · rw [if_neg r]
        by_cases q : i < k
        · rw [if_pos q, if_pos (by omega)]
        · rw [if_neg q, if_neg (by omega)]

/-- half of r (r + 1), twice -/
theorem tot_law : ∀ M : Nat, M ≤ 6 → ∀ r : Nat, r ≤ M → 2 * preSum (fun i => ((r / (i + 1) : Nat) : Int) * phi.getD i 0) (M + 1) = r * (r + 1) := by
  have h : ∀ M : Fin 7, ∀ r : Fin 7, r.1 ≤ M.1 → 2 * preSum (fun i => ((r.1 / (i + 1) : Nat) : Int) * phi.getD i 0) (M.1 + 1) = (r.1 : Int) * ((r.1 : Int) + 1) := by decide
  intro M hM r hr
  exact h ⟨M, by omega⟩ ⟨r, by omega⟩ hr
theorem gsum_row (M : Nat) (hM : M ≤ 6) : ∀ (row : List Int), (∀ r ∈ row, 0 ≤ r ∧ r ≤ (M : Int)) → 2 * preSum (fun i => Fs row (i + 1) * phi.getD i 0) (M + 1) = (row.map fun r => r * (r + 1)).sum
  | [], _ => by
    have : ∀ n, preSum (fun i => Fs [] (i + 1) * phi.getD i 0) n = 0 := by
      intro n
      induction n with
      | zero => rfl
      | succ n ih => rw [preSum, ih]; simp [Fs]
    rw [this]; rfl
  | r :: row, h => by
    have hr := h r (by simp)
    have e : ∀ i : Nat, Fs (r :: row) (i + 1) * phi.getD i 0 = ((r.toNat / (i + 1) : Nat) : Int) * phi.getD i 0 + Fs row (i + 1) * phi.getD i 0 := by
      intro i
      rw [← Int.add_mul]
      congr 1
      unfold Fs
      rw [List.map_cons, List.sum_cons]
      push_cast
      rw [show ((r.toNat : Nat) : Int) = r by omega]
    rw [show (fun i => Fs (r :: row) (i + 1) * phi.getD i 0) = fun i => ((r.toNat / (i + 1) : Nat) : Int) * phi.getD i 0 + Fs row (i + 1) * phi.getD i 0 from funext e, preSum_add, Int.mul_add, gsum_row M hM row fun x hx => h x (by simp [hx]), tot_law M hM r.toNat (by omega), List.map_cons, List.sum_cons, show ((r.toNat : Nat) : Int) = r by omega]
theorem row_sq {n : Nat} (xs ys : List Int) (t : Nat) : ((rowOf n xs ys t).map fun r => r * (r + 1)).sum = preSum (fun i => (fn xs i + fn ys ((i + t) % n)) * (fn xs i + fn ys ((i + t) % n) + 1)) n := by
  unfold rowOf
  rw [List.map_map]
  show ((List.range n).map fun i => (fn xs i + fn ys ((i + t) % n)) * (fn xs i + fn ys ((i + t) % n) + 1)).sum = _
  generalize (fun i => (fn xs i + fn ys ((i + t) % n)) * (fn xs i + fn ys ((i + t) % n) + 1)) = f
  induction n with
  | zero => rfl
  | succ n ih => rw [List.range_succ, List.map_append, List.sum_append, ih, preSum]; simp
theorem sq_law {n : Nat} (hn : 3 ≤ n) (hn' : n ≤ 5) (t : Nat) (ht : t < n) (x y : Nat → Int) :
    preSum (fun i => (x i + y ((i + 0) % n)) * (x i + y ((i + 0) % n) + 1)) n - preSum (fun i => (x i + y ((i + t) % n)) * (x i + y ((i + t) % n) + 1)) n = 2 * (Sxy n x y 0 - Sxy n x y t) := by
  have : n = 3 ∨ n = 4 ∨ n = 5 := by omega
  have h2 : t = 0 ∨ t = 1 ∨ t = 2 ∨ t = 3 ∨ t = 4 := by omega
  rcases this with rfl | rfl | rfl <;> rcases h2 with rfl | rfl | rfl | rfl | rfl <;> first | omega | (simp only [preSum, Sxy]; grind)
/-- the gains weighed by the totients -/
theorem gain_law {n : Nat} (hn : 3 ≤ n) (hn' : n ≤ 5) {xs ys : List Int} (hr : ∀ i, Row n 6 (rowOf n xs ys i)) (j : Nat) (hj : j < n) (bh M : Nat) (hM : M ≤ 6) (h0 : ∀ r ∈ rowOf n xs ys 0, r ≤ (M : Int)) (h1 : ∀ r ∈ rowOf n xs ys j, r ≤ (M : Int)) :
    preSum (fun i => ((witL (lev (rowOf n xs ys 0) bh) (lev (rowOf n xs ys j) bh) (M + 1)).foldl gset (List.replicate (M + 1) 0)).getD i 0 * (phi.take (M + 1)).getD i 0) (M + 1) = Sxy n (fn xs) (fn ys) 0 - Sxy n (fn xs) (fn ys) j := by
  have e : ∀ i, i < M + 1 → ((witL (lev (rowOf n xs ys 0) bh) (lev (rowOf n xs ys j) bh) (M + 1)).foldl gset (List.replicate (M + 1) 0)).getD i 0 * (phi.take (M + 1)).getD i 0 = Fs (rowOf n xs ys 0) (i + 1) * phi.getD i 0 + (-1) * (Fs (rowOf n xs ys j) (i + 1) * phi.getD i 0) := by
    intro i hi
    rw [fold_gains _ _ _ _ (Nat.le_refl _), if_pos hi, lev_is, lev_is, (hr 0).1, (hr j).1]
    have e1 : (bh : Int) + ((i + 1 : Nat) : Int) * (Fs (rowOf n xs ys 0) (i + 1) + n) - (bh + ((i + 1 : Nat) : Int) * (Fs (rowOf n xs ys j) (i + 1) + n)) = ((i + 1 : Nat) : Int) * (Fs (rowOf n xs ys 0) (i + 1) - Fs (rowOf n xs ys j) (i + 1)) := by grind
    rw [e1, Int.mul_ediv_cancel_left _ (by omega)]
    have e2 : (phi.take (M + 1)).getD i 0 = phi.getD i 0 := by
      simp only [List.getD_eq_getElem?_getD, List.getElem?_take_of_lt hi]
    rw [e2]
    grind
  rw [preSum_ext _ _ _ e, preSum_add, preSum_mul]
  have g0 := gsum_row M hM (rowOf n xs ys 0) fun r hr' => ⟨((hr 0).2 r hr').1, h0 r hr'⟩
  have g1 := gsum_row M hM (rowOf n xs ys j) fun r hr' => ⟨((hr j).2 r hr').1, h1 r hr'⟩
  rw [row_sq] at g0 g1
  have := sq_law hn hn' j hj (fn xs) (fn ys)
  omega
theorem phi_sum (M : Nat) (hM : M ≤ 6) : (phi.take (M + 1)).sum = (if M = 0 then 1 else 2 * ((phi.take (M + 1)).sum / 2)) ∧ 1 ≤ (phi.take (M + 1)).sum ∧ (phi.take (M + 1)).sum ≤ 18 := by
  have : M = 0 ∨ M = 1 ∨ M = 2 ∨ M = 3 ∨ M = 4 ∨ M = 5 ∨ M = 6 := by omega
  rcases this with rfl | rfl | rfl | rfl | rfl | rfl | rfl <;> decide
theorem all_turns {n : Nat} (hn : 3 ≤ n) (hn' : n ≤ 5) (x y : Nat → Int) : (n : Int) * preSum (fun j => Sxy n x y 0 - Sxy n x y (j + 1)) (n - 1) = Rxy n x y 0 := by
  have : n = 3 ∨ n = 4 ∨ n = 5 := by omega
  rcases this with rfl | rfl | rfl <;> simp only [preSum, Rxy, Sxy] <;> grind
theorem turn_diff (n : Nat) (x y : Nat → Int) (t : Nat) : Rxy n x y t = Rxy n x y 0 - (n : Int) * n * (Sxy n x y 0 - Sxy n x y t) := by unfold Rxy; grind
end Mine

open PySem PySem.W PyProof.Rows
namespace Mine
set_option maxRecDepth 100000

theorem Fs_bound (d : Nat) : ∀ (row : List Int), (∀ r ∈ row, 0 ≤ r ∧ r ≤ 6) → 0 ≤ Fs row d ∧ Fs row d ≤ 6 * row.length
  | [], _ => by simp [Fs]
  | r :: row, h => by
    have hr := h r (by simp)
    have ih := Fs_bound d row fun x hx => h x (by simp [hx])
    have e : Fs (r :: row) d = r / (d : Int) + Fs row d := by unfold Fs; rw [List.map_cons, List.sum_cons]
    have h1 : 0 ≤ r / (d : Int) := Int.ediv_nonneg hr.1 (by omega)
    have h2 : r / (d : Int) ≤ r := Int.ediv_le_self _ hr.1
    rw [e, List.length_cons]; push_cast; omega
/-- the gains -/
def gainsOf (n : Nat) (xs ys : List Int) (bh j M : Nat) : List Int := (witL (lev (rowOf n xs ys 0) bh) (lev (rowOf n xs ys j) bh) (M + 1)).foldl gset (List.replicate (M + 1) 0)
theorem gains_bound {n : Nat} (hn' : n ≤ 5) {xs ys : List Int} (hr : ∀ i, Row n 6 (rowOf n xs ys i)) (bh j M i : Nat) : ((gainsOf n xs ys bh j M).getD i 0).natAbs ≤ 60 := by
  unfold gainsOf
  rw [fold_gains _ _ _ _ (Nat.le_refl _)]
  split
  · rw [lev_is, lev_is, (hr 0).1, (hr j).1]
    have e1 : (bh : Int) + ((i + 1 : Nat) : Int) * (Fs (rowOf n xs ys 0) (i + 1) + n) - (bh + ((i + 1 : Nat) : Int) * (Fs (rowOf n xs ys j) (i + 1) + n)) = ((i + 1 : Nat) : Int) * (Fs (rowOf n xs ys 0) (i + 1) - Fs (rowOf n xs ys j) (i + 1)) := by grind
    rw [e1, Int.mul_ediv_cancel_left _ (by omega)]
    have b0 := Fs_bound (i + 1) _ (hr 0).2
    have b1 := Fs_bound (i + 1) _ (hr j).2
    rw [(hr 0).1] at b0
    rw [(hr j).1] at b1
    omega
  · decide
theorem phi_bound (M i : Nat) : ((phi.take (M + 1)).getD i 0).natAbs ≤ 6 := by
  rw [List.getD_eq_getElem?_getD]
  cases e0 : (phi.take (M + 1))[i]? with
  | none => decide
  | some z =>
    have hz := List.mem_of_mem_take (List.mem_of_getElem? e0)
    have : ∀ z ∈ phi, z.natAbs ≤ 6 := by decide
    exact this z hz
theorem turned_is {n : Nat} (hn : 3 ≤ n) (hn' : n ≤ 5) (j : Nat) (hj : j < n) (Y : Nat → Int) : ((List.range n).map Y).drop j ++ ((List.range n).map Y).take j = (List.range n).map fun i => Y ((i + j) % n) := by
  have : n = 3 ∨ n = 4 ∨ n = 5 := by omega
  have h2 : j = 0 ∨ j = 1 ∨ j = 2 ∨ j = 3 ∨ j = 4 := by omega
  rcases this with rfl | rfl | rfl <;> rcases h2 with rfl | rfl | rfl | rfl | rfl <;> first | omega | rfl

section
variable {prog : Program} {w : World} {A : Around} {E : Value → Shared → Prop} {hp : Heap} {g : Array GenState} {d : Drawn} {t : Nat} {os : OsState} {mg mb mN : Str → Option Value}
variable {h₀ : Heap} {L a : Addr} {cd : Value} {m cm : Str → Option Value} {n bh : Nat} {xs ys : List Int} {vf : Value}

theorem sB7 (F : FL h₀ L a cd hp m cm) (B : LB L hp m cm n bh xs ys vf) {M : Nat} {um : Tok} (hM : M ≤ 6) (hmM : m "top" = some (.int ((M + 1 : Nat) : Int) um)) {Q : Flow → Shared → Prop}
    (hQ : ∀ h' t' D, LI L h' D (phi.take (M + 1)) → FL h₀ L a cd h' m (fun y => if y = "weights" then some (.ref D) else cm y) → KeepS L hp h' → Q .next ⟨h', g, d, t', os⟩) :
    wpAny (model prog w) A (exec (bodySt 7) (lawEnv L a cd)) Q E ⟨hp, g, d, t, os⟩ := by
  obtain ⟨D, hcD, _, vs, hl, hi⟩ := B.ct
  have hlen := hi.length
  have hph : phi.length = 7 := rfl
  refine wpAny_Assign_Name ?_
  refine slcE (g := g) (d := d) (os := os) ?_
  refine cnC F (c := L + 5) rfl hcD ?_
  refine wpAny_evalPart_none ?_
  refine wpAny_evalPart_some ?_
  refine cnL F hmM ?_
  refine ⟨_, _, _, _, _, _, _, rfl, rfl, hl, by omega, .none, .int _ _, slice_ints_uptoW hi (y := ((M + 1 : Nat) : Int)) (by omega), fun h₃ D3 vs3 k₃ hD3 hl3 hi3 => ?_⟩
  rw [Int.toNat_natCast] at hi3
  have hs : Sf L D3 := FL.sf F hD3
  refine csC (F.keeps k₃) (c := L + 7) rfl fun h₄ t4 F₄ s₄ => ?_
  exact hQ h₄ t4 D3 ⟨hs, vs3, hl3.at fun o e => s₄.extBut _ _ (hs.neC (by decide)) e, hi3⟩ F₄ (KeepS.trans (KeepS.of k₃) (KeepS.same s₄ (by decide)))

set_option maxHeartbeats 8000000 in
theorem sB8 (T : Tp mg mb mN h₀) (N : Names mg mb mN) (hd63 : ∃ o n, h₀.get? 63 = some o ∧ o.data = .seq #[.none] n) (F : FL h₀ L a cd hp m cm) (hh : A.handled = none) (hroom : A.depth + 1 < recursionLimit) (hn : 3 ≤ n) (hn' : n ≤ 5) (hr : ∀ i, Row n 6 (rowOf n xs ys i)) {j M : Nat} (hj : j < n) (hM : M ≤ 6) (hM0 : ∀ r ∈ rowOf n xs ys 0, r ≤ (M : Int)) (hMj : ∀ r ∈ rowOf n xs ys j, r ≤ (M : Int))
    {Dg Dw : Addr} (hmg' : m "gains" = some (.ref Dg)) (hg : LI L hp Dg (gainsOf n xs ys bh j M)) (hcw : cm "weights" = some (.ref Dw)) (hw : LI L hp Dw (phi.take (M + 1))) {Q : Flow → Shared → Prop}
    (hQ : ∀ h' t' v, FltV v (16 * (Sxy n (fn xs) (fn ys) 0 - Sxy n (fn xs) (fn ys) j)) → FL h₀ L a cd h' (fun y => if y = "gain" then some v else m y) cm → KeepS L hp h' → Q .next ⟨h', g, d, t', os⟩) :
    wpAny (model prog w) A (exec (bodySt 8) (lawEnv L a cd)) Q E ⟨hp, g, d, t, os⟩ := by
  obtain ⟨sg, vg, hlg, hig⟩ := hg
  have hlg' := hig.length
  have hgl : (gainsOf n xs ys bh j M).length = M + 1 := by unfold gainsOf; rw [gset_len]; simp
  have hwl : (phi.take (M + 1)).length = M + 1 := by rw [List.length_take]; show min (M + 1) 7 = _; omega
  obtain ⟨pw1, pw2, pw3⟩ := phi_sum M hM
  have hG := gain_law hn hn' hr j hj bh M hM hM0 hMj
  generalize hW : (phi.take (M + 1)).sum = Wt at *
  refine wpAny_Assign_Name ?_
  refine wpAny_BinOp ?_
  refine cInt fun u1 t1 => ?_
  refine callN ?_
  refine cnG (FL.tp F T) N.fmean ?_
  refine cwF (FL.tp F T).fMean ?_
  refine args_cons ?_
  refine evNL (g := g) (d := d) (os := os) (footInt fun i => Wt / 2 * (gainsOf n xs ys bh j M).getD i 0) hh rfl (by decide) rfl (by decide) rfl ?_
  refine cnL F hmg' ?_
  refine ⟨Dg, vg, hp, t1, rfl, rfl, hlg, by omega, fun C i v h₁ t2 m' hC hiv hns hm hk => ?_, fun D h₂ t2 zs hD hpl hle hF hk => ?_⟩
  · obtain ⟨ux, rfl⟩ := hig.int_at i _ hiv
    obtain ⟨_, vw, hlw, hiw⟩ := hw.keep (KeepS.of hk)
    have hcw₁ : h₁.IsCell (L + 7) (some (.ref Dw)) := by rw [← hcw]; exact let ⟨o, e, q⟩ := F.cell "weights" (L + 7) rfl; ⟨o, hk _ _ e, q⟩
    have hb := gains_bound hn' hr bh j M i
    refine wpAny_BinOp ?_
    refine wpAny_BinOp ?_
    refine callN ?_
    refine cnB ((FL.tp F T).keeps hk) N.nsum N.sum ?_
    refine PyProof.Rows.callWith_builtin1 ?_
    refine args_cons ?_
    refine ceC hcw₁ rfl ?_
    refine args_nil ?_
    refine sumI hh hlw hiw (fun x hx => ?_) (by omega) fun h₃ t3 u3 k₃ => ?_
    · have hz := List.mem_of_mem_take hx
      have : ∀ z ∈ phi, z.natAbs ≤ 2 ^ 40 := by decide
      exact this x hz
    rw [hW]
    refine cInt fun u4 t4 => ?_
    refine Mine.divI (by decide) (by decide) fun u5 t5 => ?_
    refine ceL (hns.at' fun o e => k₃ _ _ e) hm ?_
    refine mulI (by omega) (by omega) fun u6 t6 => ?_
    exact ⟨_, _, rfl, k₃, u6, rfl⟩
  have F₂ := F.keeps hk
  obtain ⟨sw, vw, hlw, hiw⟩ := hw.keep (KeepS.of hk)
  have hlw' := hiw.length
  refine args_cons ?_
  refine cnC F₂ (c := L + 7) rfl hcw ?_
  refine args_nil ⟨hk, ?_⟩
  have hsz := FL.size F₂
  have hDs : Sf L D := FL.sf F hD
  have hph : preSum (fun i => (phi.take (M + 1)).getD i 0) (M + 1) = Wt := by rw [preSum_take _ _ (by omega), List.take_of_length_le (by omega), hW]
  have ba : ∀ i, (Wt / 2 * (gainsOf n xs ys bh j M).getD i 0).natAbs ≤ 9 * 60 := fun i => by
    rw [Int.natAbs_mul]
    exact Nat.mul_le_mul (by omega) (gains_bound hn' hr bh j M i)
  have bb := phi_bound M
  have bab : ∀ i, (Wt / 2 * (gainsOf n xs ys bh j M).getD i 0 * (phi.take (M + 1)).getD i 0).natAbs ≤ 9 * 60 * 6 := fun i => by
    rw [Int.natAbs_mul]
    exact Nat.mul_le_mul (ba i) (bb i)
  have hnum : preSum (fun i => Wt / 2 * (gainsOf n xs ys bh j M).getD i 0 * (phi.take (M + 1)).getD i 0) (M + 1) = Wt / 2 * (Sxy n (fn xs) (fn ys) 0 - Sxy n (fn xs) (fn ys) j) := by
    rw [← hG, ← preSum_mul]
    exact preSum_ext _ _ _ fun i _ => Int.mul_assoc _ _ _
  have hden : preSum (fun i => 16 * (phi.take (M + 1)).getD i 0) (M + 1) = 16 * Wt := by rw [preSum_mul, hph]
  have hGb : (Sxy n (fn xs) (fn ys) 0 - Sxy n (fn xs) (fn ys) j).natAbs ≤ 7 * (60 * 6) := by
    rw [← hG]
    have := preSum_abs (fun i => ((witL (lev (rowOf n xs ys 0) bh) (lev (rowOf n xs ys j) bh) (M + 1)).foldl gset (List.replicate (M + 1) 0)).getD i 0 * (phi.take (M + 1)).getD i 0) (60 * 6) (fun i => by
      rw [Int.natAbs_mul]
      exact Nat.mul_le_mul (gains_bound hn' hr bh j M i) (bb i)) (M + 1)
    exact Nat.le_trans this (Nat.mul_le_mul_right _ (by omega))
  refine mean_spec (FL.tp F₂ T) N (let ⟨o, k, e, q⟩ := hd63; ⟨o, k, F₂.keep _ _ (by decide) e, q⟩) (Nat.lt_trans (Nat.lt_of_lt_of_le (FL.far F₂) (Nat.le_add_right L 7)) hsz) F₂.code.self hpl.isList hlw hDs.1 sw.1 (n := M + 1) (by omega) (by omega) (by omega) (fun i => Wt / 2 * (gainsOf n xs ys bh j M).getD i 0) (fun i => (phi.take (M + 1)).getD i 0) (8 * (Sxy n (fn xs) (fn ys) 0 - Sxy n (fn xs) (fn ys) j))
    hF (fun i v e => hiw.int_at i v e) (fun i => by have := ba i; omega) (fun i => by have := bb i; omega) (fun q hq => by have := preSum_abs _ _ bab q; have : q * (9 * 60 * 6) ≤ 7 * (9 * 60 * 6) := Nat.mul_le_mul_right _ (by omega); omega)
    (fun q hq => by rw [preSum_mul, Int.natAbs_mul, show (16 : Int).natAbs = 16 from rfl]; have := preSum_abs _ _ bb q; have : q * 6 ≤ 7 * 6 := Nat.mul_le_mul_right _ (by omega); omega)
    (by rw [hden]; omega) ?_ (by omega) hh hroom fun h' t' v kT hc hf => ?_
  · rw [hnum, hden]
    by_cases q : M = 0
    · rw [if_pos q] at pw1
      have hz : Sxy n (fn xs) (fn ys) 0 - Sxy n (fn xs) (fn ys) j = 0 := by
        rw [← hG]
        subst q
        have e0 : Fs (rowOf n xs ys 0) 1 = 0 := Fs_zero fun r hr' => ⟨((hr 0).2 r hr').1, by have := hM0 r hr'; omega⟩
        have e1 : Fs (rowOf n xs ys j) 1 = 0 := Fs_zero fun r hr' => ⟨((hr j).2 r hr').1, by have := hMj r hr'; omega⟩
        show preSum _ 1 = 0
        rw [preSum, preSum, fold_gains _ _ _ _ (Nat.le_refl _), if_pos (by decide), lev_is, lev_is, e0, e1, (hr 0).1, (hr j).1]
        simp
      rw [hz]; simp
    · rw [if_neg q] at pw1
      generalize Wt / 2 = H at *
      generalize Sxy n (fn xs) (fn ys) 0 - Sxy n (fn xs) (fn ys) j = G at *
      subst pw1
      grind
  · refine mulIF hf (by decide) rfl (by omega) fun r t3 hr3 => ?_
    have F₃ := F₂.moves kT (F₂.code.trans hc)
    refine csL F₃ fun h₄ t4 F₄ s₄ => ?_
    rw [show (2 : Int) * (8 * (Sxy n (fn xs) (fn ys) 0 - Sxy n (fn xs) (fn ys) j)) = 16 * (Sxy n (fn xs) (fn ys) 0 - Sxy n (fn xs) (fn ys) j) by omega] at hr3
    exact hQ h₄ t4 r hr3 F₄ (KeepS.trans (KeepS.trans (KeepS.of hk) (KeepS.ofT kT)) (KeepS.sameL s₄))

set_option maxHeartbeats 8000000 in
theorem sB9 (F : FL h₀ L a cd hp m cm) (B : LB L hp m cm n bh xs ys vf) (hn : 3 ≤ n) (hn' : n ≤ 5) {j : Nat} {uj : Tok} (hj : j < n) (hmj : m "turn" = some (.int j uj)) {Q : Flow → Shared → Prop}
    (hQ : ∀ h' t' D, LI L h' D ((List.range n).map fun i => (n : Int) * (n - 1) * fn ys ((i + j) % n)) → FL h₀ L a cd h' (fun y => if y = "turned" then some (.ref D) else m y) cm → KeepS L hp h' → Q .next ⟨h', g, d, t', os⟩) :
    wpAny (model prog w) A (exec (bodySt 9) (lawEnv L a cd)) Q E ⟨hp, g, d, t, os⟩ := by
  obtain ⟨D, hmD, sD, vs, hl, hi⟩ := B.tall
  have hlen := hi.length
  simp only [List.length_map, List.length_range] at hlen
  refine wpAny_Assign_Name ?_
  refine wpAny_BinOp ?_
  refine slcE (g := g) (d := d) (os := os) ?_
  refine cnL F hmD ?_
  refine wpAny_evalPart_some ?_
  refine cnL F hmj ?_
  refine wpAny_evalPart_none ?_
  refine ⟨_, _, _, _, _, _, _, rfl, rfl, hl, by omega, .int _ _, .none, slice_ints_fromW hi (x := (j : Int)) (by omega), fun h₁ D1 v1 k₁ hD1 hl1 hi1 => ?_⟩
  have F₁ := F.keeps k₁
  refine slcE (g := g) (d := d) (os := os) ?_
  refine cnL F₁ hmD ?_
  refine wpAny_evalPart_none ?_
  refine wpAny_evalPart_some ?_
  refine cnL F₁ hmj ?_
  refine ⟨_, _, _, _, _, _, _, rfl, rfl, hl.at fun o e => k₁ _ _ e, by omega, .none, .int _ _, slice_ints_uptoW hi (y := (j : Int)) (by omega), fun h₂ D2 v2 k₂ hD2 hl2 hi2 => ?_⟩
  have F₂ := F₁.keeps k₂
  rw [Int.toNat_natCast] at hi1 hi2
  have e1 := hi1.length
  have e2 := hi2.length
  simp only [List.length_drop, List.length_take, List.length_map, List.length_range] at e1 e2
  refine addLs (FL.ns' F₂) (hl1.at fun o e => k₂ _ _ e) hl2 (by omega) fun h₃ D3 n₃ k₃ hD3 hl3 => ?_
  have F₃ := FL.keepL F₂ n₃ k₃
  have hi3 := hi1.append hi2
  rw [turned_is hn hn' j hj (fun i => (n : Int) * (n - 1) * fn ys i)] at hi3
  have hs : Sf L D3 := FL.sf F₂ hD3
  refine csL F₃ fun h₄ t4 F₄ s₄ => ?_
  exact hQ h₄ t4 D3 ⟨hs, _, hl3.isList.at fun o e => s₄.extBut _ _ hs.ne e, hi3⟩ F₄ (KeepS.trans (KeepS.trans (KeepS.trans (KeepS.of k₁) (KeepS.of k₂)) (KeepS.ofL k₃)) (KeepS.sameL s₄))

set_option maxHeartbeats 8000000 in
theorem sB10 (T : Tp mg mb mN h₀) (N : Names mg mb mN) (Tq' : Tq mg h₀) (F : FL h₀ L a cd hp m cm) (hh : A.handled = none) (hroom : A.depth + 1 < recursionLimit) (B : LB L hp m cm n bh xs ys vf) (hn : 3 ≤ n) (hn' : n ≤ 5) (hx : Row n 3 xs) (hy : Row n 3 ys) {j : Nat} (hj : j < n) (hvf : FltV vf (16 * Rxy n (fn xs) (fn ys) 0))
    {vg : Value} (hmg' : m "gain" = some vg) (hvg : FltV vg (16 * (Sxy n (fn xs) (fn ys) 0 - Sxy n (fn xs) (fn ys) j))) {Dt : Addr} (hmt : m "turned" = some (.ref Dt)) (ht : LI L hp Dt ((List.range n).map fun i => (n : Int) * (n - 1) * fn ys ((i + j) % n))) {Q : Flow → Shared → Prop}
    (hQ : ∀ h' g' t', (AllBare g → AllBare g') → FL h₀ L a cd h' m cm → KeepS L hp h' → Q .next ⟨h', g', d, t', os⟩) :
    wpAny (model prog w) A (exec (bodySt 10) (lawEnv L a cd)) Q E ⟨hp, g, d, t, os⟩ := by
  have fx := fn_bound (by decide) hx
  have fy := fn_bound (by decide) hy
  obtain ⟨e1, _, _⟩ := cov_first hn hn' (fn xs) (fn ys)
  obtain ⟨e2, e3⟩ := cov_turn hn hn' j hj (fn xs) (fn ys)
  have p1 := preSum_pos _ 3 fx n
  have p2 := preSum_pos _ 3 fy n
  have hb := Rxy_bound hn' (fn xs) (fn ys) j fx fy
  have hb0 := Rxy_bound hn' (fn xs) (fn ys) 0 fx fy
  have hdiff := turn_diff n (fn xs) (fn ys) j
  obtain ⟨Dw, hmw, hw⟩ := B.wide
  obtain ⟨un, hcn⟩ := B.cn
  refine wpAny_If ?_
  refine isTrue_or ?_
  refine isTrue_not ?_
  refine isTrue_plain ?_
  refine callN ?_
  refine cnB (FL.tp F T) N.nisi N.isi ?_
  refine PyProof.Rows.callWith_builtin1 ?_
  refine args_cons ?_
  refine cnL F hmg' ?_
  refine args_cons ?_
  refine cnB (FL.tp F T) N.nfloat N.float ?_
  refine args_nil ?_
  refine isFlt hvg ?_
  refine wpAny_truthy_bool ?_
  refine isTrue_or ?_
  refine wpAny_isTrue_Compare1 ?_
  refine covE T N Tq' F hh hroom 16 16 (.inl ⟨rfl, rfl⟩) hn hn' (fun i => (n : Int) * (n - 1) * fn ys ((i + j) % n)) (fun i => (n : Int) * (fn xs i - 2)) ((n - 1) * preSum (fn ys) n) (preSum (fn xs) n - 2 * n) (Rxy n (fn xs) (fn ys) j) hmt hmw ht.num hw.num
    (fun i => ?_) (fun i => ?_) e2 e1 ?_ (by omega) e3 (by omega) fun h' g' t' v F' k' hb' hf => ?_
  · have := fy ((i + j) % n)
    rw [Int.natAbs_mul, Int.natAbs_mul]
    exact Nat.le_trans (Nat.mul_le_mul (Nat.mul_le_mul (show (n : Int).natAbs ≤ 5 by omega) (show ((n : Int) - 1).natAbs ≤ 4 by omega)) (show (fn ys ((i + j) % n)).natAbs ≤ 3 by omega)) (by decide)
  · have := fx i
    rw [Int.natAbs_mul]
    exact Nat.le_trans (Nat.mul_le_mul (show (n : Int).natAbs ≤ 5 by omega) (show (fn xs i - 2).natAbs ≤ 2 by omega)) (by decide)
  · rw [Int.natAbs_mul]
    exact Nat.le_trans (Nat.mul_le_mul (show ((n : Int) - 1).natAbs ≤ 4 by omega) (show (preSum (fn ys) n).natAbs ≤ 15 by omega)) (by decide)
  · refine wpAny_BinOp ?_
    refine cnL F' (by exact B.first) ?_
    refine wpAny_BinOp ?_
    refine wpAny_BinOp ?_
    refine cnC F' (c := L + 1) rfl hcn ?_
    refine cnC F' (c := L + 1) rfl hcn ?_
    refine mulI (by omega) (by omega) fun u3 t3 => ?_
    refine cnL F' hmg' ?_
    have hnn : ((n : Int) * n).natAbs ≤ 25 := by
      rw [Int.natAbs_mul]; exact Nat.mul_le_mul (show (n : Int).natAbs ≤ 5 by omega) (show (n : Int).natAbs ≤ 5 by omega)
    have hc : 16 * ((n : Int) * n * (Sxy n (fn xs) (fn ys) 0 - Sxy n (fn xs) (fn ys) j)) = (n : Int) * n * (16 * (Sxy n (fn xs) (fn ys) 0 - Sxy n (fn xs) (fn ys) j)) := Int.mul_left_comm _ _ _
    generalize hZ : (n : Int) * n * (Sxy n (fn xs) (fn ys) 0 - Sxy n (fn xs) (fn ys) j) = Z at *
    refine mulIF hvg (by omega) hc (by omega) fun r4 t4 hr4 => ?_
    refine subFF hvf hr4 (by omega) fun r5 t5 hr5 => ?_
    refine neFF hf hr5 ?_
    refine wpAny_truthy_bool ?_
    rw [decide_eq_true (by omega : (16 : Int) * Rxy n (fn xs) (fn ys) j = 16 * Rxy n (fn xs) (fn ys) 0 - 16 * Z)]
    refine isTrue_or_nil ?_
    refine wpAny_execs_nil ?_
    exact hQ h' g' t5 hb' F' k'

theorem sB11 (F : FL h₀ L a cd hp m cm) {vt vg : Value} {kt kg : Int} (hmt : m "total" = some vt) (hvt : NumV vt kt) (hmg' : m "gain" = some vg) (hvg : FltV vg kg) (bt : kt.natAbs < 2 ^ 40) (bg : kg.natAbs < 2 ^ 40) {Q : Flow → Shared → Prop}
    (hQ : ∀ h' t' v, FltV v (kt + kg) → FL h₀ L a cd h' (fun y => if y = "total" then some v else m y) cm → KeepS L hp h' → Q .next ⟨h', g, d, t', os⟩) :
    wpAny (model prog w) A (exec (bodySt 11) (lawEnv L a cd)) Q E ⟨hp, g, d, t, os⟩ := by
  refine wpAny_AugAssign_Name ?_
  refine wpAny_loadName_local rfl rfl F.ns hmt ?_
  refine cnL F hmg' ?_
  refine iaddNF hvt hvg (by omega) (by omega) fun r t1 hr => ?_
  refine csL F fun h₂ t2 F₂ s₂ => ?_
  exact hQ h₂ t2 r hr F₂ (KeepS.sameL s₂)
end
end Mine

open PySem PySem.W PyProof.Rows
namespace Mine
set_option maxRecDepth 100000

theorem rows_row {n : Nat} {xs ys : List Int} (hx : Row n 3 xs) (hy : Row n 3 ys) (i : Nat) : Row n 6 (rowOf n xs ys i) := by
  refine ⟨by simp [rowOf], fun x h => ?_⟩
  obtain ⟨j, _, rfl⟩ := List.mem_map.mp h
  have a := fn_bound (by decide) hx j
  have b := fn_bound (by decide) hy ((j + i) % n)
  unfold fn at a b
  omega
theorem Sxy_bound {n : Nat} (hn' : n ≤ 5) (x y : Nat → Int) (t : Nat) (hx : ∀ i, 0 ≤ x i ∧ x i ≤ 3) (hy : ∀ i, 0 ≤ y i ∧ y i ≤ 3) : (Sxy n x y t).natAbs ≤ 45 := by
  have := preSum_abs (fun i => x i * y ((i + t) % n)) 9 (fun i => by
    rw [Int.natAbs_mul]
    have a := hx i
    have b := hy ((i + t) % n)
    exact Nat.mul_le_mul (show (x i).natAbs ≤ 3 by omega) (show (y ((i + t) % n)).natAbs ≤ 3 by omega)) n
  unfold Sxy
  omega

section
variable {prog : Program} {w : World} {A : Around} {E : Value → Shared → Prop} {hp : Heap} {g : Array GenState} {d : Drawn} {t : Nat} {os : OsState} {mg mb mN : Str → Option Value}
variable {h₀ : Heap} {L a : Addr} {cd : Value} {m cm : Str → Option Value} {n bh : Nat} {xs ys : List Int} {vf : Value}

set_option maxHeartbeats 8000000 in
theorem turnBody (T : Tp mg mb mN h₀) (N : Names mg mb mN) (Tq' : Tq mg h₀) (hd63 : ∃ o n, h₀.get? 63 = some o ∧ o.data = .seq #[.none] n) (F : FL h₀ L a cd hp m cm) (hh : A.handled = none) (hu : A.units + 30 < cLine) (hroom : A.depth + 2 < recursionLimit) (B : LB L hp m cm n bh xs ys vf) (hn : 3 ≤ n) (hn' : n ≤ 5) (hbh : bh ≤ 2) (hx : Row n 3 xs) (hy : Row n 3 ys)
    {j : Nat} {uj : Tok} (hj : j < n) (hmj : m "turn" = some (.int j uj)) (hvf : FltV vf (16 * Rxy n (fn xs) (fn ys) 0)) {vt : Value} {kt : Int} (hmt : m "total" = some vt) (hvt : NumV vt kt) (bt : kt.natAbs < 2 ^ 40) {Q : Flow → Shared → Prop}
    (hQ : ∀ h' g' t' m' cm' v, (AllBare g → AllBare g') → FL h₀ L a cd h' m' cm' → LB L h' m' cm' n bh xs ys vf → (m' "rows" = m "rows" ∧ m' "leads" = m "leads" ∧ m' "wide" = m "wide" ∧ m' "tall" = m "tall" ∧ m' "first" = m "first") → (cm' "n" = cm "n" ∧ cm' "behind" = cm "behind" ∧ cm' "totients" = cm "totients") → m' "total" = some v → FltV v (kt + 16 * (Sxy n (fn xs) (fn ys) 0 - Sxy n (fn xs) (fn ys) j)) → KeepS L hp h' → Q .next ⟨h', g', d, t', os⟩) :
    wpAny (model prog w) A (execs (forBody (lawStmt 17)) (lawEnv L a cd)) Q E ⟨hp, g, d, t, os⟩ := by
  have hr := rows_row hx hy
  have fx := fn_bound (by decide) hx
  have fy := fn_bound (by decide) hy
  have sb0 := Sxy_bound hn' (fn xs) (fn ys) 0 fx fy
  have sbj := Sxy_bound hn' (fn xs) (fn ys) j fx fy
  show wpAny _ _ (execs (bodySt 0 :: bodySt 1 :: bodySt 2 :: bodySt 3 :: bodySt 4 :: bodySt 5 :: bodySt 6 :: bodySt 7 :: bodySt 8 :: bodySt 9 :: bodySt 10 :: bodySt 11 :: []) (lawEnv L a cd)) _ _ _
  refine wpAny_execs_cons ?_
  refine sB0 T N F hh B hn hn' hr hbh hj hmj fun h1 t1 M u1 hM6 hMm hMle F1 k1 => ?_
  have B1 : LB L h1 _ cm n bh xs ys vf := B.step k1 (m' := fun y => if y = "top" then some (.int ((M + 1 : Nat) : Int) u1) else m y) (cm' := cm) ⟨rfl, rfl, rfl, rfl, rfl⟩ ⟨rfl, rfl, rfl⟩
  have hM0 : ∀ r ∈ rowOf n xs ys 0, r ≤ (M : Int) := fun r hr => hMle r (by simp [hr])
  have hMj : ∀ r ∈ rowOf n xs ys j, r ≤ (M : Int) := fun r hr => hMle r (by simp [hr])
  have hMb : (bh : Int) ≤ M := hMle _ (by simp)
  obtain ⟨m0, a1, a2, a3⟩ := count_len (show 0 < n by omega) (hr 0)
  obtain ⟨mj, b1, b2, b3⟩ := count_len (show 0 < n by omega) (hr j)
  have c0 := (hr 0).2 _ a1
  have cj := (hr j).2 _ b1
  have hk : ((M + 1 : Nat) : Int) = max (max (((countOf (rowOf n xs ys 0)).length : Int) - 1) bh) (max (((countOf (rowOf n xs ys j)).length : Int) - 1) bh) + 1 := by
    have x0 := hM0 _ a1
    have xj := hMj _ b1
    rw [a3, b3]
    rcases List.mem_append.mp hMm with q | q
    · rcases List.mem_append.mp q with q | q
      · have := a2 _ q; omega
      · have := b2 _ q; omega
    · have := List.mem_singleton.mp q; omega
  refine sB12 T N F1 hh B1 hn hn' hr hbh hj (by exact hmj) hM6 rfl fun h2 t2 Dd m2 cm2 hdue md2 mk2 ck2 F2 k2 => ?_
  have B2 : LB L h2 m2 cm2 n bh xs ys vf := B1.step k2 ⟨mk2 _ (by decide) (by decide) (by decide), mk2 _ (by decide) (by decide) (by decide), mk2 _ (by decide) (by decide) (by decide), mk2 _ (by decide) (by decide) (by decide), mk2 _ (by decide) (by decide) (by decide)⟩ ⟨ck2 _ (by decide), ck2 _ (by decide), ck2 _ (by decide)⟩
  have hmj2 : m2 "turn" = some (.int j uj) := (mk2 "turn" (by decide) (by decide) (by decide)).trans hmj
  have hmM2 : m2 "top" = some (.int ((M + 1 : Nat) : Int) u1) := mk2 "top" (by decide) (by decide) (by decide)
  have hmt2 : m2 "total" = some vt := (mk2 "total" (by decide) (by decide) (by decide)).trans hmt
  refine wpAny_execs_cons ?_
  refine sB3 T N F2 hh hroom B2 hn hr hbh hj hn' hmj2 (by omega) (by omega) hk (fun dd _ _ => ⟨lvl_lev (by omega) (hr 0) bh dd, lvl_lev (by omega) (hr j) bh dd⟩) fun h3 t3 Df hf3 F3 k3 => ?_
  have B3 := B2.step k3 (m' := fun y => if y = "found" then some (.ref Df) else m2 y) (cm' := cm2) ⟨rfl, rfl, rfl, rfl, rfl⟩ ⟨rfl, rfl, rfl⟩
  refine wpAny_execs_cons ?_
  refine sB4 T N F3 hh hu hroom B3 hn hj hn' (by exact hmj2) rfl (by exact md2) hf3 (hdue.keep k3) (count_eq (by omega) (hr 0) (hr j) bh M hM0 hMj) fun h4 t4 F4 k4 => ?_
  have B4 := B3.step k4 (m' := fun y => if y = "found" then some (.ref Df) else m2 y) (cm' := cm2) ⟨rfl, rfl, rfl, rfl, rfl⟩ ⟨rfl, rfl, rfl⟩
  have hpl : (witL (lev (rowOf n xs ys 0) bh) (lev (rowOf n xs ys j) bh) (M + 1)).length ≤ 100 := by have := witL_length (lev (rowOf n xs ys 0) bh) (lev (rowOf n xs ys j) bh) (M + 1); omega
  refine sB56 F4 hh hM6 (by exact hmM2) rfl (hf3.keep k4) (fun p hp => witL_mem hp) hpl fun h5 t5 Dg m5 cm5 hg5 mg5 mk5 ck5 F5 k5 => ?_
  have B5 : LB L h5 m5 cm5 n bh xs ys vf := B4.step k5 ⟨mk5 _ (by decide) (by decide) (by decide), mk5 _ (by decide) (by decide) (by decide), mk5 _ (by decide) (by decide) (by decide), mk5 _ (by decide) (by decide) (by decide), mk5 _ (by decide) (by decide) (by decide)⟩ ⟨ck5 _ (by decide), ck5 _ (by decide), ck5 _ (by decide)⟩
  have hmj5 : m5 "turn" = some (.int j uj) := (mk5 "turn" (by decide) (by decide) (by decide)).trans hmj2
  have hmM5 : m5 "top" = some (.int ((M + 1 : Nat) : Int) u1) := (mk5 "top" (by decide) (by decide) (by decide)).trans hmM2
  have hmt5 : m5 "total" = some vt := (mk5 "total" (by decide) (by decide) (by decide)).trans hmt2
  refine wpAny_execs_cons ?_
  refine sB7 F5 B5 hM6 hmM5 fun h6 t6 Dw hw6 F6 k6 => ?_
  have B6 := B5.step k6 (m' := m5) (cm' := fun y => if y = "weights" then some (.ref Dw) else cm5 y) ⟨rfl, rfl, rfl, rfl, rfl⟩ ⟨rfl, rfl, rfl⟩
  refine wpAny_execs_cons ?_
  refine sB8 T N hd63 F6 hh (by omega) hn hn' hr hj hM6 hM0 hMj mg5 (hg5.keep k6) rfl hw6 fun h7 t7 vg hvg F7 k7 => ?_
  have B7 := B6.step k7 (m' := fun y => if y = "gain" then some vg else m5 y) (cm' := fun y => if y = "weights" then some (.ref Dw) else cm5 y) ⟨rfl, rfl, rfl, rfl, rfl⟩ ⟨rfl, rfl, rfl⟩
  refine wpAny_execs_cons ?_
  refine sB9 F7 B7 hn hn' hj (by exact hmj5) fun h8 t8 Dt ht8 F8 k8 => ?_
  have B8 := B7.step k8 (m' := fun y => if y = "turned" then some (.ref Dt) else if y = "gain" then some vg else m5 y) (cm' := fun y => if y = "weights" then some (.ref Dw) else cm5 y) ⟨rfl, rfl, rfl, rfl, rfl⟩ ⟨rfl, rfl, rfl⟩
  refine wpAny_execs_cons ?_
  refine sB10 T N Tq' F8 hh (by omega) B8 hn hn' hx hy hj hvf rfl hvg rfl ht8 fun h9 g9 t9 hb9 F9 k9 => ?_
  have B9 := B8.step k9 (m' := fun y => if y = "turned" then some (.ref Dt) else if y = "gain" then some vg else m5 y) (cm' := fun y => if y = "weights" then some (.ref Dw) else cm5 y) ⟨rfl, rfl, rfl, rfl, rfl⟩ ⟨rfl, rfl, rfl⟩
  refine wpAny_execs_cons ?_
  refine sB11 F9 (by exact hmt5) hvt rfl hvg bt (by omega) fun h10 t10 v10 hv10 F10 k10 => ?_
  refine wpAny_execs_nil ?_
  have mk : ∀ y : Str, y ≠ "gains" → y ≠ "one" → y ≠ "two" → y ≠ "due" → y ≠ "found" → y ≠ "top" → m5 y = m y := fun y q1 q2 q3 q4 q5 q6 => by
    rw [mk5 y q1 q2 q3]
    show (if y = Str.ofString "found" then _ else m2 y) = _
    rw [if_neg q5, mk2 y q4 q2 q3]
    exact if_neg q6
  have ck : ∀ y : Str, y ≠ "d" → cm5 y = cm y := fun y q => (ck5 y q).trans (ck2 y q)
  refine hQ h10 g9 t10 _ _ v10 hb9 F10 (B9.step k10 ⟨rfl, rfl, rfl, rfl, rfl⟩ ⟨rfl, rfl, rfl⟩) ⟨mk _ (by decide) (by decide) (by decide) (by decide) (by decide) (by decide), mk _ (by decide) (by decide) (by decide) (by decide) (by decide) (by decide), mk _ (by decide) (by decide) (by decide) (by decide) (by decide) (by decide), mk _ (by decide) (by decide) (by decide) (by decide) (by decide) (by decide), mk _ (by decide) (by decide) (by decide) (by decide) (by decide) (by decide)⟩ ⟨ck _ (by decide), ck _ (by decide), ck _ (by decide)⟩ rfl hv10 ?_
  exact KeepS.trans k1 (KeepS.trans k2 (KeepS.trans k3 (KeepS.trans k4 (KeepS.trans k5 (KeepS.trans k6 (KeepS.trans k7 (KeepS.trans k8 (KeepS.trans k9 k10))))))))
end
end Mine

open PySem PySem.W PyProof.Rows
namespace Mine
set_option maxRecDepth 100000
section
variable {prog : Program} {w : World} {A : Around} {E : Value → Shared → Prop} {hp : Heap} {g : Array GenState} {d : Drawn} {t : Nat} {os : OsState} {mg mb mN : Str → Option Value}
variable {h₀ : Heap} {L a : Addr} {cd : Value} {m cm : Str → Option Value} {n bh : Nat} {xs ys : List Int} {vf : Value}

set_option maxHeartbeats 8000000 in
theorem sA17 (T : Tp mg mb mN h₀) (N : Names mg mb mN) (Tq' : Tq mg h₀) (hd63 : ∃ o n, h₀.get? 63 = some o ∧ o.data = .seq #[.none] n) (F : FL h₀ L a cd hp m cm) (hh : A.handled = none) (hu : A.units + 30 < cLine) (hroom : A.depth + 2 < recursionLimit) (B : LB L hp m cm n bh xs ys vf) (hn : 3 ≤ n) (hn' : n ≤ 5) (hbh : bh ≤ 2) (hx : Row n 3 xs) (hy : Row n 3 ys)
    (hvf : FltV vf (16 * Rxy n (fn xs) (fn ys) 0)) {u0 : Tok} (hmt : m "total" = some (.int 0 u0)) {Q : Flow → Shared → Prop}
    (hQ : ∀ h' g' t' m' cm' v, (AllBare g → AllBare g') → FL h₀ L a cd h' m' cm' → LB L h' m' cm' n bh xs ys vf → m' "total" = some v → FltV v (16 * preSum (fun j => Sxy n (fn xs) (fn ys) 0 - Sxy n (fn xs) (fn ys) (j + 1)) (n - 1)) → Q .next ⟨h', g', d, t', os⟩) :
    wpAny (model prog w) A (exec (lawStmt 17) (lawEnv L a cd)) Q E ⟨hp, g, d, t, os⟩ := by
  have fx := fn_bound (by decide) hx
  have fy := fn_bound (by decide) hy
  obtain ⟨un, hcn⟩ := B.cn
  have hpb : ∀ i, i ≤ n → (preSum (fun j => Sxy n (fn xs) (fn ys) 0 - Sxy n (fn xs) (fn ys) (j + 1)) i).natAbs ≤ 5 * 90 := fun i hi => by
    have := preSum_abs (fun j => Sxy n (fn xs) (fn ys) 0 - Sxy n (fn xs) (fn ys) (j + 1)) 90 (fun j => by
      have a := Sxy_bound hn' (fn xs) (fn ys) 0 fx fy
      have b := Sxy_bound hn' (fn xs) (fn ys) (j + 1) fx fy
      omega) i
    exact Nat.le_trans this (Nat.mul_le_mul_right _ (by omega))
  refine wpAny_For ?_
  refine callN ?_
  refine cnB (FL.tp F T) N.nrange N.range ?_
  refine PyProof.Rows.callWith_type1 ?_
  refine args_cons (cInt fun u3 t3 => ?_)
  refine args_cons ?_
  refine cnC F (c := L + 1) rfl hcn ?_
  refine args_nil ?_
  refine rangeCall fun r h₃ t5 u5 v5 k₃ hr3 hr _ => ?_
  refine rangeIterO hr (by decide) (by decide) (by omega) (by omega) hh fun I h₄ t6 St k₄ hI W hst hlive => ?_
  have ez : ((n : Int) - 1).toNat = n - 1 := by omega
  rw [ez] at W
  have F₄ := (F.keeps k₃).keeps k₄
  have hIL : L + 7 < I := Nat.lt_of_lt_of_le (FL.size (F.keeps k₃)) hI
  have hIs : Sf L I := Sf.of_lt (FL.far F) hIL
  have hpI : ∀ b o, hp.get? b = some o → b ≠ I := fun b o e => Nat.ne_of_lt (Nat.lt_of_lt_of_le (Heap.lt_size (k₃ _ _ e)) hI)
  show codeAny _ _ (.forLoop _ (.ref I) (forBody (lawStmt 17)) [] _) _ _
  refine forAny (fun i s => ∃ h g' t m' cm' v, s = ⟨h, g', d, t, os⟩ ∧ (AllBare g → AllBare g') ∧ FL h₀ L a cd h m' cm' ∧ St i h ∧ KeepS L hp h ∧ (m' "rows" = m "rows" ∧ m' "leads" = m "leads" ∧ m' "wide" = m "wide" ∧ m' "tall" = m "tall" ∧ m' "first" = m "first") ∧ (cm' "n" = cm "n" ∧ cm' "behind" = cm "behind" ∧ cm' "totients" = cm "totients") ∧
    m' "total" = some v ∧ NumV v (16 * preSum (fun j => Sxy n (fn xs) (fn ys) 0 - Sxy n (fn xs) (fn ys) (j + 1)) i) ∧ (0 < i → FltV v (16 * preSum (fun j => Sxy n (fn xs) (fn ys) 0 - Sxy n (fn xs) (fn ys) (j + 1)) i))) (n - 1) ?_ ?_
    ⟨h₄, g, t6, m, cm, _, rfl, id, F₄, hst, KeepS.trans (KeepS.of k₃) (KeepS.of k₄), ⟨rfl, rfl, rfl, rfl, rfl⟩, ⟨rfl, rfl, rfl⟩, hmt, .inl ⟨0, u0, rfl, rfl⟩, fun q => absurd q (Nat.lt_irrefl _)⟩
  · rintro i s ⟨h, g', t, m', cm', v0, rfl, hb, G, hsi, hk, hm, hc, mt, hv0, _⟩ hi
    refine W.item i _ _ _ hi hsi fun v h₅ t7 hP hst₅ hk₅ => ⟨v, rfl, ?_⟩
    obtain ⟨uv, rfl⟩ := hP
    rw [show (1 : Int) + (i : Int) = ((i + 1 : Nat) : Int) by omega]
    refine wpAny_of_eq (rfl : letOwnedTupleGo (.Name _ _) (.ref I) _ = pure ()) ?_
    have kI : ∀ b o, b ≠ I → h.get? b = some o → h₅.get? b = some o := fun b o q e => hk₅ b o (fun r => q (List.mem_singleton.mp r)) e
    have G₅ := FL.low G (h' := h₅) fun b o hb e => kI b o (Nat.ne_of_lt (Nat.lt_of_le_of_lt hb hIL)) e
    refine wpAny_assign_Name (csL G₅ fun h₆ t8 G₆ s₆ => ?_)
    have hk6 : KeepS L hp h₆ := fun b o q e => s₆.extBut b o q.ne (kI b o (hpI b o e) (hk b o q e))
    have hst₆ : St (i + 1) h₆ := W.frame _ _ _ hst₅ fun b hb o e => s₆.extBut b o (by rw [List.mem_singleton.mp hb]; exact hIs.ne) e
    have B₆ : LB L h₆ (fun y => if y = "turn" then some (.int ((i + 1 : Nat) : Int) uv) else m' y) cm' n bh xs ys vf := B.step hk6 hm hc
    refine turnBody T N Tq' hd63 G₆ hh hu hroom B₆ hn hn' hbh hx hy (j := i + 1) (by omega) rfl hvf (by exact mt) hv0 (by have := hpb i (by omega); omega) fun h' g'' t' m'' cm'' v' hb' G' B' hm' hc' mt' hv' hk' => ?_
    refine ⟨h', g'', t', m'', cm'', v', rfl, fun x => hb' (hb x), G', W.frame _ _ _ hst₆ (fun b hb o e => hk' b o (by rw [List.mem_singleton.mp hb]; exact hIs) e), KeepS.trans hk6 hk', ⟨hm'.1.trans hm.1, hm'.2.1.trans hm.2.1, hm'.2.2.1.trans hm.2.2.1, hm'.2.2.2.1.trans hm.2.2.2.1, hm'.2.2.2.2.trans hm.2.2.2.2⟩, ⟨hc'.1.trans hc.1, hc'.2.1.trans hc.2.1, hc'.2.2.trans hc.2.2⟩, mt', ?_, fun _ => ?_⟩
    · rw [preSum, Int.mul_add]; exact hv'.num
    · rw [preSum, Int.mul_add]; exact hv'
  · rintro s ⟨h, g', t, m', cm', v0, rfl, hb, G, hsi, hk, hm, hc, mt, hv0, hf⟩
    refine W.done _ _ _ hsi fun h₅ t7 hk₅ => ⟨rfl, ?_⟩
    have kI : ∀ b o, b ≠ I → h.get? b = some o → h₅.get? b = some o := fun b o q e => hk₅ b o (fun r => q (List.mem_singleton.mp r)) e
    have G₅ := FL.low G (h' := h₅) fun b o hb e => kI b o (Nat.ne_of_lt (Nat.lt_of_le_of_lt hb hIL)) e
    have hk5 : KeepS L hp h₅ := fun b o q e => kI b o (hpI b o e) (hk b o q e)
    exact hQ h₅ g' t7 m' cm' v0 hb G₅ (B.step hk5 hm hc) mt (hf (by omega))

set_option maxHeartbeats 8000000 in
theorem sA18 (T : Tp mg mb mN h₀) (N : Names mg mb mN) (F : FL h₀ L a cd hp m cm) (B : LB L hp m cm n bh xs ys vf) (hn : 3 ≤ n) (hn' : n ≤ 5) (hx : Row n 3 xs) (hy : Row n 3 ys) (hvf : FltV vf (16 * Rxy n (fn xs) (fn ys) 0)) {vt : Value} (hmt : m "total" = some vt) (hvt : FltV vt (16 * preSum (fun j => Sxy n (fn xs) (fn ys) 0 - Sxy n (fn xs) (fn ys) (j + 1)) (n - 1))) {Q : Flow → Shared → Prop}
    (hQ : ∀ t', Q (.ret (.bool true)) ⟨hp, g, d, t', os⟩) : wpAny (model prog w) A (exec (lawStmt 18) (lawEnv L a cd)) Q E ⟨hp, g, d, t, os⟩ := by
  have fx := fn_bound (by decide) hx
  have fy := fn_bound (by decide) hy
  have hb0 := Rxy_bound hn' (fn xs) (fn ys) 0 fx fy
  have hall := all_turns hn hn' (fn xs) (fn ys)
  obtain ⟨un, hcn⟩ := B.cn
  refine wpAny_Return_some ?_
  refine BoolOp_and ?_
  refine callN ?_
  refine cnB (FL.tp F T) N.nisi N.isi ?_
  refine PyProof.Rows.callWith_builtin1 ?_
  refine args_cons ?_
  refine cnL F B.first ?_
  refine args_cons ?_
  refine cnB (FL.tp F T) N.nfloat N.float ?_
  refine args_nil ?_
  refine isFlt hvf ?_
  refine wpAny_truthy_bool ?_
  refine BoolOp_one ?_
  refine wpAny_Compare1 ?_
  refine cnL F B.first ?_
  refine wpAny_BinOp ?_
  refine cnC F (c := L + 1) rfl hcn ?_
  refine cnL F hmt ?_
  have hc : 16 * Rxy n (fn xs) (fn ys) 0 = (n : Int) * (16 * preSum (fun j => Sxy n (fn xs) (fn ys) 0 - Sxy n (fn xs) (fn ys) (j + 1)) (n - 1)) := by rw [← hall]; exact Int.mul_left_comm _ _ _
  refine mulIF hvt (by omega) hc (by omega) fun r t1 hr => ?_
  refine eqFF hvf hr ?_
  rw [decide_eq_true rfl]
  exact hQ t1
end
end Mine

open PySem PySem.W PyProof.Rows
namespace Mine
set_option maxRecDepth 100000
theorem list19 {α : Type} (x : α) : ∀ (l : List α), l.length = 19 → l = [l.getD 0 x, l.getD 1 x, l.getD 2 x, l.getD 3 x, l.getD 4 x, l.getD 5 x, l.getD 6 x, l.getD 7 x, l.getD 8 x, l.getD 9 x, l.getD 10 x, l.getD 11 x, l.getD 12 x, l.getD 13 x, l.getD 14 x, l.getD 15 x, l.getD 16 x, l.getD 17 x, l.getD 18 x]
  | [_, _, _, _, _, _, _, _, _, _, _, _, _, _, _, _, _, _, _], _ => rfl
theorem lawBody_is : defBody (topStmt 9) = [lawStmt 0, lawStmt 1, lawStmt 2, lawStmt 3, lawStmt 4, lawStmt 5, lawStmt 6, lawStmt 7, lawStmt 8, lawStmt 9, lawStmt 10, lawStmt 11, lawStmt 12, lawStmt 13, lawStmt 14, lawStmt 15, lawStmt 16, lawStmt 17, lawStmt 18] :=
  list19 (.Pass default) (defBody (topStmt 9)) rfl
section
variable {prog : Program} {w : World} {A : Around} {E : Value → Shared → Prop} {hp : Heap} {g : Array GenState} {d : Drawn} {t : Nat} {os : OsState} {mg mb mN : Str → Option Value}

theorem mkLB {h₀ : Heap} {L a : Addr} {cd : Value} {m cm : Str → Option Value} {n bh : Nat} {xs ys : List Int} {vf : Value} (hF : FL h₀ L a cd hp m cm)
    (rows : ∃ D, m "rows" = some (.ref D) ∧ ListsAt L hp D n (rowOf n xs ys))
    (leads : ∃ D, m "leads" = some (.ref D) ∧ LeadsAt L hp D n (rowOf n xs ys) bh)
    (wide : ∃ D, m "wide" = some (.ref D) ∧ LI L hp D ((List.range n).map fun i => (n : Int) * (fn xs i - 2)))
    (tall : ∃ D, m "tall" = some (.ref D) ∧ LI L hp D ((List.range n).map fun i => (n : Int) * (n - 1) * fn ys i))
    (first : m "first" = some vf) (cn : ∃ u, cm "n" = some (.int n u)) (cb : ∃ u, cm "behind" = some (.int bh u)) (ct : ∃ D, cm "totients" = some (.ref D) ∧ LI L hp D phi) : LB L hp m cm n bh xs ys vf :=
  ⟨rows, leads, wide, tall, first, cn, cb, ct⟩

set_option maxHeartbeats 8000000 in
theorem law_body {h₀ : Heap} {L fa : Addr} {cd : Value} {m0 cm0 : Str → Option Value} {A' : Around} (T : Tp mg mb mN h₀) (N : Names mg mb mN) (Tq' : Tq mg h₀) (hd63 : ∃ o n, h₀.get? 63 = some o ∧ o.data = .seq #[.none] n) (F : FL h₀ L fa cd hp m0 cm0) (hh' : A'.handled = none) (hu' : A'.units + 30 < cLine) (hr' : A'.depth + 2 < recursionLimit)
    {sa : Addr} (hmS : m0 "script" = some (.ref sa)) {vss : List Value} {ns : List Int} (hs : h₀.IsList sa vss.toArray) (hsa : sa ≠ 72) (hns : IntsAre vss ns) (hlen : ns.length ≤ 63) {Q : Flow → Shared → Prop}
    (hQ : ∀ h' g' t', (AllBare g → AllBare g') → KeepT h₀ h' → Cd h₀ h' → Q (.ret (.bool true)) ⟨h', g', d, t', os⟩) :
    wpAny (model prog w) A' (execs [lawStmt 0, lawStmt 1, lawStmt 2, lawStmt 3, lawStmt 4, lawStmt 5, lawStmt 6, lawStmt 7, lawStmt 8, lawStmt 9, lawStmt 10, lawStmt 11, lawStmt 12, lawStmt 13, lawStmt 14, lawStmt 15, lawStmt 16, lawStmt 17, lawStmt 18] (lawEnv L fa cd)) Q E ⟨hp, g, d, t, os⟩ := by
  have hl := hns.length
  refine wpAny_execs_cons ?_
  with_reducible refine sA0 F fun h2 t2 D F2 hDL hC2 => ?_
  refine wpAny_execs_cons ?_
  refine sA1 T N F2 hh' hs hsa hns hlen (by exact hmS) rfl hDL hC2 fun h3 t3 m3 F3 hC3 mD3 mS3 => ?_
  have cellsKeep : ∀ {h h' : Heap}, KeepS L h h' → Cells h D 60 → Cells h' D 60 := fun k ⟨vs, cs, l, r⟩ => ⟨vs, cs, l.at fun o e => k _ o (Sf.of_lt (FL.far F) hDL) e, r⟩
  refine wpAny_execs_cons ?_
  refine sA2 T N F3 hs hsa (by omega) mS3 fun h4 t4 n un hn hn' F4 k4 => ?_
  refine wpAny_execs_cons ?_
  refine sA3 F4 hh' mD3 (cellsKeep k4 hC3) hn hn' rfl fun h5 t5 xs ax hx hax F5 k5 => ?_
  refine wpAny_execs_cons ?_
  refine sA4 F5 hh' mD3 (cellsKeep k5 (cellsKeep k4 hC3)) hn hn' rfl fun h6 t6 ys ay hy hay F6 k6 => ?_
  refine wpAny_execs_cons ?_
  refine sA5 T N F6 hh' mD3 (cellsKeep k6 (cellsKeep k5 (cellsKeep k4 hC3))) fun h7 t7 bh ub hbh F7 k7 => ?_
  refine wpAny_execs_cons ?_
  refine sA6 T N F7 hh' hn hn' (un := un) rfl (ax := ax) rfl (ay := ay) rfl ((hax.keep k6).keep k7) (hay.keep k7) hx.1 hy.1 fun h8 t8 Dr hDr F8 k8 => ?_
  refine wpAny_execs_cons ?_
  refine sA7 T N F8 hh' hr' hn' hbh (ub := ub) rfl (fun i _ => rows_row hx hy i) rfl hDr fun h9 t9 Dl hDl F9 k9 => ?_
  refine sA89 T N F9 hh' fun h10 t10 Dt cm10 hDt ct10 ck10 F10 k10 => ?_
  have hcn10 : cm10 "n" = some (.int n un) := ck10 "n" (by decide) (by decide)
  have hcx10 : cm10 "xs" = some (.ref ax) := ck10 "xs" (by decide) (by decide)
  have hcy10 : cm10 "ys" = some (.ref ay) := ck10 "ys" (by decide) (by decide)
  have hcb10 : cm10 "behind" = some (.int bh ub) := ck10 "behind" (by decide) (by decide)
  have k710 : KeepS L h7 h10 := KeepS.trans k8 (KeepS.trans k9 k10)
  refine wpAny_execs_cons ?_
  refine sA10 F10 hh' hn' hcn10 hcx10 (((hax.keep k6).keep k7).keep k710) hx.1 fun h11 t11 Dw hDw F11 k11 => ?_
  refine wpAny_execs_cons ?_
  refine sA11 F11 hh' (by omega) hn' hcn10 hcy10 (((hay.keep k7).keep k710).keep k11) hy.1 fun h12 t12 Da hDa F12 k12 => ?_
  refine wpAny_execs_cons ?_
  refine sA12 T N Tq' F12 hh' (by omega) hn hn' hx hy rfl rfl (hDw.keep k12) hDa fun h13 g13 t13 vf hvf hb13 F13 k13 => ?_
  have fx := fn_bound (by decide) hx
  have fy := fn_bound (by decide) hy
  refine wpAny_execs_cons ?_
  refine quart (.inl ⟨rfl, rfl, rfl⟩) F13 hh' hn' (z := fun i => (n : Int) * (fn xs i - 2)) (fun i => ?_) rfl ((hDw.keep k12).keep k13) fun h14 t14 Dn hDn F14 k14 => ?_
  · have := fx i
    rw [Int.natAbs_mul]
    exact Nat.le_trans (Nat.mul_le_mul (show (n : Int).natAbs ≤ 5 by omega) (show (fn xs i - 2).natAbs ≤ 2 by omega)) (by decide)
  refine wpAny_execs_cons ?_
  refine quart (.inr ⟨rfl, rfl, rfl⟩) F14 hh' hn' (z := fun i => (n : Int) * (n - 1) * fn ys i) (fun i => ?_) rfl ((hDa.keep k13).keep k14) fun h15 t15 Do hDo F15 k15 => ?_
  · have := fy i
    rw [Int.natAbs_mul, Int.natAbs_mul]
    exact Nat.le_trans (Nat.mul_le_mul (Nat.mul_le_mul (show (n : Int).natAbs ≤ 5 by omega) (show ((n : Int) - 1).natAbs ≤ 4 by omega)) (show (fn ys i).natAbs ≤ 3 by omega)) (by decide)
  refine wpAny_execs_cons ?_
  refine sA15 T N Tq' F15 hh' (by omega) hn hn' hx hy rfl rfl rfl hvf (hDn.keep k15) hDo fun h16 g16 t16 hb16 F16 k16 => ?_
  refine wpAny_execs_cons ?_
  refine sA16 F16 fun h17 t17 u17 F17 k17 => ?_
  have kA : KeepS L h10 h17 := KeepS.trans k11 (KeepS.trans k12 (KeepS.trans k13 (KeepS.trans k14 (KeepS.trans k15 (KeepS.trans k16 k17)))))
  have kB : KeepS L h12 h17 := KeepS.trans k13 (KeepS.trans k14 (KeepS.trans k15 (KeepS.trans k16 k17)))
  have B17 := mkLB (n := n) (bh := bh) (xs := xs) (ys := ys) (vf := vf) F17 ⟨Dr, rfl, ((hDr.keep k9).keep k10).keep kA⟩ ⟨Dl, rfl, (hDl.keep k10).keep kA⟩ ⟨Dw, rfl, (hDw.keep k12).keep kB⟩ ⟨Da, rfl, hDa.keep kB⟩ rfl ⟨un, hcn10⟩ ⟨ub, hcb10⟩ ⟨Dt, ct10, hDt.keep kA⟩
  refine wpAny_execs_cons ?_
  refine sA17 T N Tq' hd63 F17 hh' hu' hr' B17 hn hn' hbh hx hy hvf rfl fun h18 g18 t18 m18 cm18 v18 hb18 F18 B18 mt18 hv18 => ?_
  refine wpAny_execs_cons ?_
  refine sA18 T N F18 B18 hn hn' hx hy hvf mt18 hv18 fun t19 => ?_
  exact hQ h18 g18 t19 (fun x => hb18 (hb16 (hb13 x))) F18.keep F18.code

/-- entering a def with cells, its object's class not asked -/
theorem callDefO {a : Addr} {fd : FuncData} {o : Obj} {vals : List Value} {binds : List (Str × Value)} {Q : Value → Shared → Prop}
    (ho : hp.get? a = some o) (hd : o.data = .func fd) (hcd : hp.CodeRec fd.code fd.qualname) (hlim : hp.NoLimit) (hroom : A.depth < recursionLimit) (hfar : 76 < hp.objs.size) (hcode : Cd hp hp) (body : List Stmt) (hbody : fd.body = .stmts body) (hbind : bindArgs fd ⟨vals, []⟩ = pure binds) (hclo : fd.closure = [])
    (hkind : ∀ x ∈ binds, fd.scope.names.lookup x.1 = some .local ∨ (fd.scope.names.lookup x.1 = some .cell ∧ ((cellsFrom (hp.objs.size + 1) fd.scope.names []).lookup x.1).isSome = true))
    (hco : fd.scope.isCoroutine = false) (hgen : fd.scope.isGenerator = false) (hk : fd.scope.kind = .function)
    (h : ∀ h₁ t', Fc hp (callEnvC fd hp.objs.size a) h₁ (bindL (callEnvC fd hp.objs.size a).kindOf binds fun _ => none) (bindC (callEnvC fd hp.objs.size a).kindOf binds fun _ => none) → Keep hp h₁ →
      wpAny (model prog w) (A.deeper (callEnvC fd hp.objs.size a)) (execs body (callEnvC fd hp.objs.size a)) (fun f s' => Q (match f with | .ret v => v | _ => .none) s') (fun _ _ => False) ⟨h₁, g, d, t', os⟩) :
    wpAny (model prog w) A (call (.ref a) vals) Q E ⟨hp, g, d, t, os⟩ := by
  refine wpAny_call (codeAny_call_cells hroom ho hd hlim hcd hbody hbind hclo hkind (fun s₁ X => ?_) hco hgen hk)
  obtain ⟨h₁, tk, rfl⟩ := X.toInCall.same
  refine wpAny_mono (h h₁ tk ⟨X.toInCall.ns, X.cell, X.apart, X.above, fun b o _ e => X.toInCall.keep b o e, X.toInCall.fresh, hfar, (hcode.keeps X.toInCall.keep)⟩ X.toInCall.keep) (fun f s' x => x) (fun _ _ x => x.elim)

set_option maxHeartbeats 8000000 in
theorem law_spec (T : Tp mg mb mN hp) (N : Names mg mb mN) (Tq' : Tq mg hp) (hd63 : ∃ o n, hp.get? 63 = some o ∧ o.data = .seq #[.none] n) (hfar : 76 < hp.objs.size) (hh : A.handled = none) (hu : A.units + 40 < cLine) (hroom : A.depth + 3 < recursionLimit)
    {fa : Addr} {fd : FuncData} {cd : Value} {o : Obj} (ho : hp.get? fa = some o) (hd : o.data = .func fd) (hrec : hp.CodeRec fd.code fd.qualname) (hsc : fd.scope = lawScope) (hbody : fd.body = .stmts (defBody (topStmt 9))) (hgl : fd.globals = 3) (hclo : fd.closure = []) (hbi : fd.builtins = 0) (hqn : fd.qualname = Str.ofString "law") (hcd : fd.code = cd)
    {sa : Addr} (hbind : bindArgs fd ⟨[.ref sa], []⟩ = pure [(Str.ofString "script", Value.ref sa)]) {vss : List Value} {ns : List Int} (hs : hp.IsList sa vss.toArray) (hsa : sa ≠ 72) (hns : IntsAre vss ns) (hlen : ns.length ≤ 63) {Q : Value → Shared → Prop}
    (hQ : ∀ h' g' t', (AllBare g → AllBare g') → KeepT hp h' → Cd hp h' → Q (.bool true) ⟨h', g', d, t', os⟩) :
    wpAny (model prog w) A (call (.ref fa) [.ref sa]) Q E ⟨hp, g, d, t, os⟩ := by
  have hl := hns.length
  have henv : ∀ L : Addr, callEnvC fd L fa = lawEnv L fa cd := fun L => by
    unfold callEnvC lawEnv
    rw [hsc, hgl, hbi, hqn, hcd]
  refine callDefO ho hd hrec T.nolim (by omega) hfar Tq'.c _ hbody hbind hclo (fun x hx => .inl (by rw [hsc]; exact locs rfl x hx)) (by rw [hsc]; rfl) (by rw [hsc]; rfl) (by rw [hsc]; rfl) fun h₁ t1 F0 k₁ => ?_
  rw [henv] at F0 ⊢
  generalize hL : hp.objs.size = L at *
  have F : FL hp L fa cd h₁ _ _ := F0
  have hmS : bindL (lawEnv L fa cd).kindOf [(Str.ofString "script", Value.ref sa)] (fun _ => none) "script" = some (.ref sa) := rfl
  have hh' : (A.deeper (lawEnv L fa cd)).handled = none := hh
  have hu' : (A.deeper (lawEnv L fa cd)).units + 30 < cLine := by show A.units + 3 + 30 < _; omega
  have hr' : (A.deeper (lawEnv L fa cd)).depth + 2 < recursionLimit := by show A.depth + 1 + 2 < _; omega
  rw [lawBody_is]
  with_reducible exact law_body T N Tq' hd63 F hh' hu' hr' hmS hs hsa hns hlen fun h' g' t' x1 x2 x3 => hQ h' g' t' x1 x2 x3
end
end Mine

open PySem PySem.W PyProof.Rows
namespace Mine
set_option maxRecDepth 100000
theorem ns_val {h : Heap} {a : Addr} {m : Str → Option Value} {o : Obj} {es : Array DictEntry} {ep : Nat} (hn : h.Ns a m) (ho : h.get? a = some o) (hd : o.data = .dict es ep) (x : Str) : m x = nsFind es x := by
  obtain ⟨o', es', ep', e1, e2, _, e3⟩ := hn
  obtain rfl := Option.some.inj (ho.symm.trans e1)
  rw [hd] at e2
  injection e2 with e4
  rw [← e3 x, e4]
theorem fnAt_of {h : Heap} {a c : Addr} {fd : FuncData} {o oc : Obj} {vs : Array Value} {t : Tok} (e : h.get? a = some o) (hc : o.cls = .type "function") (hd : o.data = .func fd) (hcode : fd.code = .ref c) (ec : h.get? c = some oc) (hcd : oc.data = .fields vs) (hq : vs[1]? = some (.str fd.qualname t)) : FnAt h a fd :=
  ⟨⟨o, e, hc, hd⟩, c, oc, vs, t, hcode, ec, hcd, hq⟩
theorem oldK_of {h h' : Heap} (k : KeepT h h') (c : Cd h h') : OldK h h' := by
  obtain ⟨ps, more, a, _, b⟩ := c
  refine ⟨fun b' o e => ?_, fun b' o e => ?_⟩
  · by_cases q : b' = 72
    · subst q
      have : o = { cls := .none, data := .fields ps } := Option.some.inj (e.symm.trans a.2)
      subst this
      exact .inr (.inl ⟨a.isCodeTable, rfl, ps, more, rfl, b.2⟩)
    · exact .inl (k _ _ q e)
  · by_cases q : b' = 72
    · subst q; exact ⟨_, b.2⟩
    · exact ⟨o, k _ _ q e⟩
theorem ns_of {h : Heap} {a : Addr} {o : Obj} {es : Array DictEntry} {ep : Nat} (ho : h.get? a = some o) (hd : o.data = .dict es ep) (hk : (es.toList.all fun e => match e.key with | .str _ _ => true | _ => false) = true) : h.Ns a (nsFind es) := by
  refine ⟨o, es, ep, ho, hd, fun e he => ?_, fun _ => rfl⟩
  have := List.all_eq_true.mp hk e (by simpa using he)
  cases hq : e.key <;> rw [hq] at this <;> first | exact ⟨_, _, rfl⟩ | cases this
theorem clsK_of {h : Heap} {o1 o2 o3 : Obj} (e1 : h.get? 139 = some o1) (e2 : h.get? 138 = some o2) (e3 : h.get? 2 = some o3) (r1 : readsIn [(139, o1), (138, o2), (2, o3)] 139 (.type "type") = true)
    (r2 : findCls [(139, o1), (138, o2), (2, o3)] (.ref 139) (.type "type") "S" = some (.val (.str " " 447))) (r3 : findCls [(139, o1), (138, o2), (2, o3)] (.ref 139) (.type "type") "T" = some (.val (.str "\t" 448))) :
    ∃ K : Frag, K.In h ∧ readsIn K 139 (.type "type") = true ∧ findCls K (.ref 139) (.type "type") "S" = some (.val (.str " " 447)) ∧ findCls K (.ref 139) (.type "type") "T" = some (.val (.str "\t" 448)) ∧ K.lookup 72 = none := by
  refine ⟨[(139, o1), (138, o2), (2, o3)], fun a o e => ?_, r1, r2, r3, rfl⟩
  simp only [List.lookup_cons] at e
  by_cases q : a = 139
  · subst q; simp at e; rw [e1, e]
  · rw [show (a == 139) = false by simpa using q] at e
    by_cases r : a = 138
    · subst r; simp at e; rw [e2, e]
    · rw [show (a == 138) = false by simpa using r] at e
      by_cases t : a = 2
      · subst t; simp at e; rw [e3, e]
      · rw [show (a == 2) = false by simpa using t] at e; simp at e

section
variable {prog : Program} {w : World} {E : Value → Shared → Prop} {mg mb : Str → Option Value}
theorem caller_facts : callerA.handled = none ∧ callerA.units + 40 < cLine ∧ callerA.depth + 3 < recursionLimit := ⟨rfl, by decide, by decide⟩
theorem law_join {h : Heap} {g : Array GenState} {d : Drawn} {t : Nat} {os : OsState} (hlim : h.NoLimit) (hg : h.Ns 3 mg) (hb : h.Ns 0 mb) (hbi : ∀ x : Str, x ≠ "__name__" → mb x = bootBuiltins x) (hbm : ∃ bm ob, mg "__builtins__" = some (.ref bm) ∧ bm ≠ builtinsNs ∧ h.get? bm = some ob ∧ ob.cls = .type "module" ∧ ob.dict = some builtinsNs ∧ ob.data = .plain)
    (hcls : ∃ mN : Str → Option Value, ClsAt h 139 138 mN ∧ mN "S" = some (.str " " 447) ∧ mN "T" = some (.str "\t" 448) ∧ mN "__init__" = some (.ref 94) ∧ mN "longest_run_of_spaces" = some (.ref 101) ∧ mN "indent_level" = some (.ref 108) ∧ mN "equal" = some (.ref 115) ∧ mN "not_equal_witness" = some (.ref 122) ∧
      mN "__getattribute__" = none ∧ mN "__getattr__" = none ∧ mN "__setattr__" = none ∧ mN "raw" = none ∧ mN "n" = none ∧ mN "nt" = none ∧ mN "norm" = none ∧ mN "is_simple" = none)
    (hclsK : ∃ K : Frag, K.In h ∧ readsIn K 139 (.type "type") = true ∧ findCls K (.ref 139) (.type "type") "S" = some (.val (.str " " 447)) ∧ findCls K (.ref 139) (.type "type") "T" = some (.val (.str "\t" 448)) ∧ K.lookup 72 = none)
    (f70 : FnAt h 70 fdMean) (f77 : FnAt h 77 fdCov) (f94 : FnAt h 94 fdInit) (f101 : FnAt h 101 fdLong) (f108 : FnAt h 108 fdIndent) (f115 : FnAt h 115 fdEqual) (f122 : FnAt h 122 fdWit)
    (hm : mg "fsum" = some (.builtin "math.fsum") ∧ mg "sumprod" = some (.builtin "math.sumprod") ∧ mg "fmean" = some (.ref 70) ∧ mg "covariance" = some (.ref 77) ∧ mg "Whitespace" = some (.ref 139) ∧
      mg "len" = none ∧ mg "range" = none ∧ mg "max" = none ∧ mg "sum" = none ∧ mg "isinstance" = none ∧ mg "float" = none ∧ mg "list" = none ∧ mg "tuple" = none ∧ mg "enumerate" = none)
    (h63 : ∃ o n, h.get? 63 = some o ∧ o.data = .seq #[.none] n) (h76 : h.IsCode 76 72 #[]) (h72 : h.TableAt 76 72 #[]) (hsz : 76 < h.objs.size)
    {fa : Addr} {fd : FuncData} {cd : Value} {o : Obj} (ho : h.get? fa = some o) (hd : o.data = .func fd) (hrec : h.CodeRec fd.code fd.qualname) (hsc : fd.scope = lawScope) (hbody : fd.body = .stmts (defBody (topStmt 9))) (hgl : fd.globals = 3) (hclo : fd.closure = []) (hbt : fd.builtins = 0) (hqn : fd.qualname = Str.ofString "law") (hcd : fd.code = cd)
    {sa : Addr} (hbind : bindArgs fd ⟨[.ref sa], []⟩ = pure [(Str.ofString "script", Value.ref sa)]) {vss : List Value} {ns : List Int} (hs : h.IsList sa vss.toArray) (hsa : sa ≠ 72) (hns : IntsAre vss ns) (hlen : ns.length ≤ 63) {Q : Value → Shared → Prop}
    (hQ : ∀ h' g' t', (AllBare g → AllBare g') → OldK h h' → Q (.bool true) ⟨h', g', d, t', os⟩) :
    wpAny (model prog w) callerA (call (.ref fa) [.ref sa]) Q E ⟨h, g, d, t, os⟩ := by
  obtain ⟨mN, c0, c1, c2, c3, c4, c5, c6, c7, c8, c9, c10, c11, c12, c13, c14, c15⟩ := hcls
  obtain ⟨m1, m2, m3, m4, m5, m6, m7, m8, m9, m10, m11, m12, m13, m14⟩ := hm
  have hCd : Cd h h := ⟨#[], #[], h72, by simpa using h76, by simpa using h72⟩
  have T : Tp mg mb mN h := ⟨hlim, hg, hb, c0, hclsK, f70, f77, f94, f101, f108, f115, f122⟩
  have N : Names mg mb mN :=
    { fsum := m1, sumprod := m2, fmean := m3, cov := m4, ws := m5, nlen := m6, nrange := m7, nmax := m8, nsum := m9, nisi := m10, nfloat := m11, nlist := m12, ntuple := m13, nenum := m14
      len := (hbi _ (by decide)).trans (by decide +kernel), range := (hbi _ (by decide)).trans (by decide +kernel), max := (hbi _ (by decide)).trans (by decide +kernel), sum := (hbi _ (by decide)).trans (by decide +kernel)
      isi := (hbi _ (by decide)).trans (by decide +kernel), float := (hbi _ (by decide)).trans (by decide +kernel), list := (hbi _ (by decide)).trans (by decide +kernel), tuple := (hbi _ (by decide)).trans (by decide +kernel), enum := (hbi _ (by decide)).trans (by decide +kernel)
      S := c1, T := c2, init := c3, long := c4, indent := c5, equal := c6, wit := c7, nga := c8, ngh := c9, nsa := c10, nraw := c11, nn := c12, nnt := c13, nnorm := c14, nsimple := c15 }
  have hTq : Tq mg h := by
    obtain ⟨bm, ob, b1, b2, b3, b4, b5, b6⟩ := hbm
    refine ⟨⟨bm, ob, b1, b2, ?_, b3, b4, b5, b6⟩, hCd⟩
    rintro rfl
    rw [h72.2] at b3
    cases b3
    cases b4
  obtain ⟨k1, k2, k3⟩ := caller_facts
  exact law_spec T N hTq h63 hsz k1 k2 k3 ho hd hrec hsc hbody hgl hclo hbt hqn hcd hbind hs hsa hns hlen fun h' g' t' x1 x2 x3 => hQ h' g' t' x1 (oldK_of x2 x3)
end
end Mine

open PySem PySem.W PyProof.Rows PySem.W.X PySem.W.ZRun
set_option maxRecDepth 100000 in
set_option maxHeartbeats 0 in
theorem PySem.Challenge.cw_rs0135_01_holds : PySem.Challenge.rw_rs0135_01.Holds := by
  w_on
  o_law
  z_head
  case hw => w_witness2
  k_fill
  intro w s₀ s₁ mg mb G y fa o pm cd doc dV kV ho hd hcd hD hmg hg args vals as L hpre hlay hrd hwl hlo
  z_open y L KX ZH ZN ZT
  refine Ground.open G ?_
  intro T B D TE TW
  wrow_args hpre hlay hrd hwl hlo
  obtain ⟨hat, hsz⟩ := script_at L
  have htk := script_toks L ZT
  rw [ZN] at hat hsz
  subst hat
  x_fa T KX hmg
  rename_i ns _ _ _ _ _ _ _ vss _ _ hI _ hcond _ hL _ _
  have hdv : dV = .none := by
    rcases hD.pos with ⟨_, q⟩ | ⟨q, _⟩
    · exact q
    · exact absurd rfl q
  subst hdv
  have hgens := hg
  have hlen : ns.length ≤ 63 := by omega
  obtain ⟨h, g, d, t, os⟩ := s₁
  have hg' : g = #[] := hgens
  refine Mine.law_join (mg := mg) (mb := mb) T.nolimit T.g T.b T.builtins T.bmain ?_ ?_ ?_ ?_ ?_ ?_ ?_ ?_ ?_ ?_ ?_ ?_ ?_ ?_ ho hd hcd rfl rfl rfl rfl rfl rfl rfl rfl hL (by decide) hI hlen ?_
  case refine_1 => exact ⟨_, ⟨⟨_, _, _, _, _, _, _, _, _, _, _, _, KX 139 _ rfl⟩, Mine.ns_of (KX 138 _ rfl) rfl rfl⟩, rfl, rfl, rfl, rfl, rfl, rfl, rfl, rfl, rfl, rfl, rfl, rfl, rfl, rfl, rfl⟩
  case refine_2 => exact Mine.clsK_of (KX 139 _ rfl) (KX 138 _ rfl) (KX 2 _ rfl) rfl rfl rfl
  case refine_3 => exact Mine.fnAt_of (KX 70 _ rfl) rfl rfl rfl (KX 69 _ rfl) rfl rfl
  case refine_4 => exact Mine.fnAt_of (KX 77 _ rfl) rfl rfl rfl (KX 76 _ rfl) rfl rfl
  case refine_5 => exact Mine.fnAt_of (KX 94 _ rfl) rfl rfl rfl (KX 93 _ rfl) rfl rfl
  case refine_6 => exact Mine.fnAt_of (KX 101 _ rfl) rfl rfl rfl (KX 100 _ rfl) rfl rfl
  case refine_7 => exact Mine.fnAt_of (KX 108 _ rfl) rfl rfl rfl (KX 107 _ rfl) rfl rfl
  case refine_8 => exact Mine.fnAt_of (KX 115 _ rfl) rfl rfl rfl (KX 114 _ rfl) rfl rfl
  case refine_9 => exact Mine.fnAt_of (KX 122 _ rfl) rfl rfl rfl (KX 121 _ rfl) rfl rfl
  case refine_10 =>
    have e := Mine.ns_val T.g (KX 3 _ rfl) rfl
    refine ⟨?_, ?_, ?_, ?_, ?_, ?_, ?_, ?_, ?_, ?_, ?_, ?_, ?_, ?_⟩ <;> (rw [e]; rfl)
  case refine_11 => exact ⟨_, _, KX 63 _ rfl, rfl⟩
  case refine_12 => exact ⟨_, _, _, _, _, _, _, _, _, _, KX 76 _ rfl, rfl, rfl, rfl, rfl, rfl, rfl, KX 72 _ rfl, rfl, trivial, by decide⟩
  case refine_13 => exact ⟨⟨_, _, KX 76 _ rfl, rfl, rfl, rfl⟩, KX 72 _ rfl⟩
  case refine_14 => rw [hsz]; decide
  case refine_15 =>
    intro h' g' t' hb hK
    refine ⟨.inl ⟨_, _, [], rfl, fun _ => rfl, ReadsW.bool true, ?_, fun _ => ⟨List.nodup_nil, fun _ hm => (nomatch hm)⟩⟩, hK, rfl, hb (by rw [hg']; exact AllBare.empty)⟩
    first | rfl | wrow_post
