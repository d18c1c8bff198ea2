import PyProof.Rows.All
import Wide.All
import OpenK.AllK
import Wide.FinOn
import PySem.Challenge.RW_rs0116_01
set_option Elab.async false
section
open PySem PySem.W PyProof.Rows
namespace Mine
set_option maxRecDepth 100000 in
set_option maxHeartbeats 8000000 in
open_top hd for PySem.Challenge.rw_rs0116_01
end Mine
end
section
open PySem PySem.Float64
namespace Mine
theorem K2n : (2 : Nat) ^ 1074 = 2 * 2 ^ 1073 := by rw [Nat.mul_comm]; exact Nat.pow_succ 2 1073
theorem K2i : (2 : Int) ^ 1074 = 2 * 2 ^ 1073 := by rw [Int.mul_comm]; exact Int.pow_succ ..
/-- x is the float of v halves -/
def Hv (x : UInt64) (v : Int) : Prop := (∃ a m e, decode x = .fin a m e) ∧ val x = v * 2 ^ 1073
theorem reach (w : Nat) (h : w ≤ 2 ^ 53) : ∃ t, t < infMag ∧ V t = w * 2 ^ 1073 := by
  have hi : infMag = 2047 * 2 ^ 52 := rfl
  by_cases h0 : w = 0
  · exact ⟨0, by rw [hi]; decide, by rw [V_zero, h0, Nat.zero_mul]⟩
  by_cases h53 : 2 ^ 52 ≤ w
  · exact ⟨1073 * 2 ^ 52 + w, by omega, V_at h (.inl h53)⟩
  · have hl : w.log2 ≤ 51 := by
      have := (Nat.log2_lt h0).mpr (show w < 2 ^ 52 by omega)
      omega
    have h1 : 2 ^ w.log2 ≤ w := Nat.log2_self_le h0
    have h2 : w < 2 ^ (w.log2 + 1) := Nat.lt_log2_self
    generalize w.log2 = l at *
    have e1 : 2 ^ l * 2 ^ (52 - l) = 2 ^ 52 := by rw [← Nat.pow_add]; congr 1; omega
    have e2 : 2 ^ (l + 1) * 2 ^ (52 - l) = 2 ^ 53 := by rw [← Nat.pow_add]; congr 1; omega
    have q1 : 2 ^ 52 ≤ w * 2 ^ (52 - l) := by rw [← e1]; exact Nat.mul_le_mul_right _ h1
    have q2 : w * 2 ^ (52 - l) ≤ 2 ^ 53 := by rw [← e2]; exact Nat.mul_le_mul_right _ (Nat.le_of_lt h2)
    refine ⟨(1073 - (52 - l)) * 2 ^ 52 + w * 2 ^ (52 - l), ?_, ?_⟩
    · have : (1073 - (52 - l)) * 2 ^ 52 ≤ 1073 * 2 ^ 52 := Nat.mul_le_mul_right _ (Nat.sub_le _ _)
      omega
    · rw [V_at q2 (.inl q1), Nat.mul_assoc, ← Nat.pow_add]
      congr 2
      omega
theorem dist_self (a : Nat) : dist a a = 0 := by unfold dist; omega
theorem eq_of_dist {a b : Nat} (h : dist a b ≤ 0) : a = b := by unfold dist at h; omega
theorem K_top {w : Nat} (h : w ≤ 2 ^ 53) : 2 * (w * 2 ^ 1073) < (2 ^ 54 - 1) * 2 ^ 2045 := by
  have h1 : 2 * (w * 2 ^ 1073) ≤ 2 * (2 ^ 53 * 2 ^ 1073) := Nat.mul_le_mul_left _ (Nat.mul_le_mul_right _ h)
  exact Nat.lt_of_le_of_lt h1 (by decide +kernel)
theorem cancel {D a b : Nat} (hD : 0 < D) (h : D * a ≤ 2 * (D * b)) : a ≤ 2 * b := by
  rw [Nat.mul_left_comm] at h
  exact Nat.le_of_mul_le_mul_left h hD
theorem right_exact {r : UInt64} {neg : Bool} {W D : Nat} (R : Right r neg W D) (hD : 0 < D) {w : Nat} (hw : w ≤ 2 ^ 53) (hW : W = D * (w * 2 ^ 1073)) : ∃ t, r = pack neg t ∧ t < infMag ∧ V t = w * 2 ^ 1073 := by
  obtain ⟨t, hr, hle, hov, hn⟩ := R
  have ht : t < infMag := by
    rcases Nat.lt_or_eq_of_le hle with h | h
    · exact h
    · have h9 := hov.mp h
      rw [hW] at h9
      exact absurd (K_top hw) (Nat.not_lt.mpr (cancel hD h9))
  obtain ⟨t0, _, hv⟩ := reach w hw
  refine ⟨t, hr, ht, ?_⟩
  have := (hn ht t0).1
  rw [hv, hW, dist_self] at this
  exact (Nat.eq_of_mul_eq_mul_left hD (eq_of_dist this)).symm
theorem hv_right {r : UInt64} {neg : Bool} {W D : Nat} (R : Right r neg W D) (hD : 0 < D) {w : Nat} (hw : w ≤ 2 ^ 53) (hW : W = D * (w * 2 ^ 1073)) : Hv r (sgn neg w) := by
  obtain ⟨t, rfl, ht, hv⟩ := right_exact R hD hw hW
  obtain ⟨m, e, hd, _⟩ := decode_pack neg ht
  refine ⟨⟨_, _, _, hd⟩, ?_⟩
  rw [val_pack neg ht, hv, sgn_mul]
  rfl
theorem K_pos : (0 : Int) < 2 ^ 1073 := Int.pow_pos (by decide)
theorem hv_zero (b : Bool) : Hv (zero b) 0 := by
  have hi : 0 < infMag := by decide
  obtain ⟨m, e, hd, hv⟩ := decode_pack b hi
  refine ⟨⟨_, _, _, hd⟩, ?_⟩
  show val (pack b 0) = _
  rw [val_pack b hi, V_zero, Int.zero_mul]
  cases b <;> rfl
theorem sgn_self (u : Int) : sgn (decide (u < 0)) u.natAbs = u := by
  unfold sgn
  by_cases h : u < 0
  · simp [h]; omega
  · simp [h]; omega
theorem natAbs_K (u : Int) : (u * 2 ^ 1073).natAbs = u.natAbs * 2 ^ 1073 := by
  rw [Int.natAbs_mul]
  congr 1
theorem hv_add {x y : UInt64} {u v : Int} (hx : Hv x u) (hy : Hv y v) (h : (u + v).natAbs ≤ 2 ^ 53) : Hv (add x y) (u + v) := by
  obtain ⟨⟨a, m, e, dx⟩, vx⟩ := hx
  obtain ⟨⟨b, k, f, dy⟩, vy⟩ := hy
  have R := add_right dx dy
  have hs : val x + val y = (u + v) * 2 ^ 1073 := by rw [vx, vy, Int.add_mul]
  by_cases hz : u + v = 0
  · rw [R.1 (by rw [hs, hz, Int.zero_mul]), hz]
    exact hv_zero _
  · have hne : val x + val y ≠ 0 := by
      rw [hs]
      exact Int.mul_ne_zero hz (Int.ne_of_gt K_pos)
    have R2 := R.2 hne
    have hlt : decide (val x + val y < 0) = decide (u + v < 0) := by
      rw [hs]
      refine decide_eq_decide.mpr ⟨fun h => ?_, fun h => ?_⟩
      · rcases Int.lt_or_le (u + v) 0 with q | q
        · exact q
        · exact absurd h (Int.not_lt.mpr (Int.mul_nonneg q (Int.le_of_lt K_pos)))
      · exact Int.mul_neg_of_neg_of_pos h K_pos
    rw [hlt] at R2
    have := hv_right R2 Nat.one_pos h (by rw [hs, natAbs_K, Nat.one_mul])
    rw [sgn_self] at this
    exact this
theorem hv_neg {y : UInt64} {v : Int} (hy : Hv y v) : Hv (neg y) (-v) := by
  obtain ⟨⟨b, k, f, dy⟩, vy⟩ := hy
  exact ⟨⟨_, _, _, neg_decode dy⟩, by rw [neg_val dy, vy, Int.neg_mul]⟩
theorem hv_sub {x y : UInt64} {u v : Int} (hx : Hv x u) (hy : Hv y v) (h : (u - v).natAbs ≤ 2 ^ 53) : Hv (sub x y) (u - v) := by
  rw [Int.sub_eq_add_neg] at h ⊢
  unfold Float64.sub
  exact hv_add hx (hv_neg hy) h
theorem val_sgn {x : UInt64} {a : Bool} {m : Nat} {e : Int} (h : decode x = .fin a m e) : val x = sgn a (val x).natAbs := by rw [val_natAbs h, val_eq h]
theorem sgn_K {a : Bool} {u : Int} (h : u * 2 ^ 1073 = sgn a (u * 2 ^ 1073).natAbs) : u = sgn a u.natAbs := by
  rw [natAbs_K, sgn_mul] at h
  exact Int.eq_of_mul_eq_mul_right (Int.ne_of_gt K_pos) h
theorem sgn_xor (a b : Bool) (m k : Nat) : sgn (a != b) (m * k) = sgn a m * sgn b k := by
  unfold sgn
  cases a <;> cases b <;> simp [Int.mul_neg, Int.neg_mul]
theorem hv_mul {x y : UInt64} {u v : Int} (hx : Hv x (2 * u)) (hy : Hv y v) (h : (u * v).natAbs ≤ 2 ^ 53) : Hv (mul x y) (u * v) := by
  obtain ⟨⟨a, m, e, dx⟩, vx⟩ := hx
  obtain ⟨⟨b, k, f, dy⟩, vy⟩ := hy
  have R := mul_right dx dy
  rw [Int.natAbs_mul] at h
  have := hv_right R (Nat.two_pow_pos _) h (by
    rw [vx, vy, natAbs_K, natAbs_K, Int.natAbs_mul, K2n]
    generalize (2 : Nat) ^ 1073 = K
    show (2 * u.natAbs) * K * (v.natAbs * K) = 2 * K * (u.natAbs * v.natAbs * K)
    ac_rfl)
  have e1 : 2 * u = sgn a (2 * u).natAbs := by
    refine sgn_K ?_
    rw [← vx]; exact val_sgn dx
  have e2 : v = sgn b v.natAbs := by
    refine sgn_K ?_
    rw [← vy]; exact val_sgn dy
  have e3 : u = sgn a u.natAbs := by
    unfold sgn at e1 ⊢
    cases a <;> simp at e1 ⊢ <;> omega
  rw [sgn_xor, ← e2, ← e3] at this
  exact this
theorem hv_div {x y : UInt64} {q d : Int} (hx : Hv x (q * d)) (hy : Hv y (2 * d)) (hd : 0 < d) (h : q.natAbs ≤ 2 ^ 53) : Hv (div x y) q := by
  obtain ⟨⟨a, m, e, dx⟩, vx⟩ := hx
  obtain ⟨⟨b, k, f, dy⟩, vy⟩ := hy
  have hvy : (val y).natAbs = 2 * d.natAbs * 2 ^ 1073 := by rw [vy, natAbs_K, Int.natAbs_mul]; rfl
  have hdn : 0 < d.natAbs := by omega
  have hpos : 0 < (val y).natAbs := by
    rw [hvy]
    exact Nat.mul_pos (by omega) (Nat.two_pow_pos _)
  have hk : k ≠ 0 := by
    intro hk
    rw [val_natAbs dy, hk, Nat.zero_mul] at hpos
    exact Nat.lt_irrefl _ hpos
  have R := div_right dx dy hk
  have := hv_right R hpos h (by
    rw [vx, hvy, natAbs_K, Int.natAbs_mul, K2n]
    generalize (2 : Nat) ^ 1073 = K
    ac_rfl)
  have e2 : 2 * d = sgn b (2 * d).natAbs := by
    refine sgn_K ?_
    rw [← vy]; exact val_sgn dy
  have hb : b = false := by
    unfold sgn at e2
    cases b
    · rfl
    · simp at e2; omega
  have e1 : q * d = sgn a (q * d).natAbs := by
    refine sgn_K ?_
    rw [← vx]; exact val_sgn dx
  have e3 : q = sgn a q.natAbs := by
    rw [Int.natAbs_mul, sgn_mul] at e1
    have : ((d.natAbs : Nat) : Int) = d := by omega
    rw [this] at e1
    exact Int.eq_of_mul_eq_mul_right (Int.ne_of_gt hd) e1
  rw [hb] at this
  simp only [Bool.bne_false] at this
  rw [← e3] at this
  exact this
theorem hv_ofInt {i : Int} (h : 2 * i.natAbs ≤ 2 ^ 53) : Hv (ofInt i) (2 * i) := by
  have := hv_right (ofInt_right i) Nat.one_pos h (by
    rw [K2n]
    generalize (2 : Nat) ^ 1073 = K
    rw [Nat.one_mul]
    ac_rfl)
  rw [show sgn (decide (i < 0)) (2 * i.natAbs) = 2 * i by
    rw [Nat.mul_comm, sgn_mul, sgn_self, Int.mul_comm]; rfl] at this
  exact this
theorem hv_finite {x : UInt64} {v : Int} (h : Hv x v) : isFinite x = true := by
  obtain ⟨⟨a, m, e, d⟩, _⟩ := h
  unfold isFinite
  rw [d]
theorem hv_cmpInt {x : UInt64} {i : Int} (h : Hv x (2 * i)) : cmpInt x i = some .eq := by
  obtain ⟨⟨a, m, e, d⟩, hv⟩ := h
  rw [cmpInt_right d, hv, show (2 : Int) * i * 2 ^ 1073 = i * 2 ^ 1074 by
    rw [K2i]
    generalize (2 : Int) ^ 1073 = K
    ac_rfl]
  simp
theorem hv_isZero {x : UInt64} (h : Hv x 0) : isZero x = true := by
  obtain ⟨⟨a, m, e, d⟩, hv⟩ := h
  unfold isZero
  rw [d]
  have := val_natAbs d
  rw [hv, Int.zero_mul] at this
  have h2 : m = 0 := by
    have h3 : m * 2 ^ (e + 1074).toNat = 0 := this.symm
    exact (Nat.mul_eq_zero.mp h3).resolve_right (Nat.ne_of_gt (Nat.two_pow_pos _))
  simp [h2]
theorem hv_zero_of {x : UInt64} {v : Int} (h : Hv x v) (hz : isZero x = true) : v = 0 := by
  obtain ⟨⟨a, m, e, d⟩, hv⟩ := h
  unfold isZero at hz
  rw [d] at hz
  have hm : m = 0 := by
    cases m with
    | zero => rfl
    | succ m => cases hz
  have := val_natAbs d
  rw [hv, hm, Nat.zero_mul, natAbs_K] at this
  have := (Nat.mul_eq_zero.mp this).resolve_right (Nat.ne_of_gt (Nat.two_pow_pos _))
  omega
theorem hv_fma {x y z : UInt64} {u v : Int} (hx : Hv x (2 * u)) (hy : Hv y v) (hz : Hv z (-(u * v))) : Hv (fma x y z) 0 := by
  obtain ⟨⟨a, m, e, dx⟩, vx⟩ := hx
  obtain ⟨⟨b, k, f, dy⟩, vy⟩ := hy
  obtain ⟨⟨c, n, g, dz⟩, vz⟩ := hz
  have he := decode_ge dx
  have hf := decode_ge dy
  have hg := decode_ge dz
  have hp : (sgn (a != b) (m * k * 2 ^ (e + f - min (e + f) g).toNat) + sgn c (n * 2 ^ (g - min (e + f) g).toNat)) = 0 := by
    have hP : (0 : Int) < ((2 ^ (min (e + f) g + 2148).toNat : Nat) : Int) := Int.ofNat_lt.mpr (Nat.two_pow_pos _)
    refine Int.eq_of_mul_eq_mul_right (Int.ne_of_gt hP) ?_
    rw [Int.zero_mul, Int.add_mul, ← sgn_mul, ← sgn_mul, Nat.mul_assoc, Nat.mul_assoc n, ← Nat.pow_add, ← Nat.pow_add,
      show (e + f - min (e + f) g).toNat + (min (e + f) g + 2148).toNat = (e + 1074).toNat + (f + 1074).toNat by omega,
      show (g - min (e + f) g).toNat + (min (e + f) g + 2148).toNat = (g + 1074).toNat + 1074 by omega, Nat.pow_add, Nat.pow_add _ _ 1074,
      show m * k * (2 ^ (e + 1074).toNat * 2 ^ (f + 1074).toNat) = (m * 2 ^ (e + 1074).toNat) * (k * 2 ^ (f + 1074).toNat) by ac_rfl, sgn_xor, ← Nat.mul_assoc n, sgn_mul c,
      ← val_eq dx, ← val_eq dy, ← val_eq dz, vx, vy, vz, show ((2 ^ 1074 : Nat) : Int) = 2 * 2 ^ 1073 by rw [Int.natCast_pow]; exact K2i]
    generalize (2 : Int) ^ 1073 = K
    rw [show 2 * u * K * (v * K) = u * v * K * (2 * K) by ac_rfl, Int.neg_mul, Int.neg_mul, Int.add_right_neg]
  have hfma : fma x y z = zero (if m * k == 0 && n == 0 then (a != b) && c else false) := by
    unfold fma
    rw [dx, dy, dz]
    show (if sgn (a != b) (m * k * 2 ^ (e + f - min (e + f) g).toNat) + sgn c (n * 2 ^ (g - min (e + f) g).toNat) == 0 then _ else _) = _
    rw [hp]
    rfl
  rw [hfma]
  exact hv_zero _
end Mine
end
section
namespace Mine
open PySem

theorem fdiv2 (l r : Int) : (l + r).fdiv (2 ^ Int.toNat 1) = (l + r) / 2 := by
  have : (2 : Int) ^ Int.toNat 1 = 2 := rfl
  rw [this, Int.fdiv_eq_ediv_of_nonneg _ (by decide)]
theorem mid_lt {l r : Int} (h : l < r) (h1 : l + 1 ≠ r) : l < (l + r) / 2 ∧ (l + r) / 2 < r := by omega
theorem two_pow_pos' (k : Nat) : (0 : Int) < 2 ^ k := Int.pow_pos (by decide)

theorem bitAnd_high (x : Nat) (k : Nat) : Builtin.bitAnd (x : Int) (((x / 2 ^ k * 2 ^ k : Nat)) : Int) = ((x / 2 ^ k * 2 ^ k : Nat) : Int) := by
  have e : x &&& (x / 2 ^ k * 2 ^ k) = x / 2 ^ k * 2 ^ k := by
    apply Nat.eq_of_testBit_eq
    intro i
    rw [Nat.testBit_and, ← Nat.shiftRight_eq_div_pow, ← Nat.shiftLeft_eq, Nat.testBit_shiftLeft, Nat.testBit_shiftRight]
    by_cases h : k ≤ i
    · rw [Nat.add_sub_cancel' h]; simp [h]
    · simp [h]
  show ((x &&& (x / 2 ^ k * 2 ^ k) : Nat) : Int) = _
  rw [e]
theorem xor_low {x : Int} (hx : 0 ≤ x) (k : Nat) : Builtin.bitXor x (x.fdiv (2 ^ k) * 2 ^ k) = x % 2 ^ k := by
  obtain ⟨y, rfl⟩ := Int.eq_ofNat_of_zero_le hx
  have e1 : ((y : Int).fdiv (2 ^ k) * 2 ^ k) = ((y / 2 ^ k * 2 ^ k : Nat) : Int) := by
    rw [Int.fdiv_eq_ediv_of_nonneg _ (Int.le_of_lt (two_pow_pos' k))]
    push_cast
    rfl
  rw [PyProof.Rows.bitXor_and, e1, bitAnd_high]
  have := Int.emod_add_mul_ediv (y : Int) (2 ^ k)
  push_cast
  rw [Int.mul_comm] at this
  omega

theorem mod_mul_div (x : Int) {a : Int} (ha : 0 < a) (b : Int) : x % (a * b) / a = x / a % b := by
  have h1 : x % (a * b) = x + a * (-(b * (x / (a * b)))) := by rw [Int.emod_def, Int.mul_assoc, Int.mul_neg]; omega
  rw [h1, Int.add_mul_ediv_left _ _ (Int.ne_of_gt ha), Int.emod_def, Int.ediv_ediv_of_nonneg (Int.le_of_lt ha)]
  omega
/-- the digits, the lowest first -/
def digs (n : Nat) : Nat → Int → List Int
  | 0, _ => []
  | k + 1, x => x % 2 ^ n :: digs n k (x / 2 ^ n)
theorem digs_length (n : Nat) : ∀ (k : Nat) (x : Int), (digs n k x).length = k
  | 0, _ => rfl
  | k + 1, x => by rw [digs, List.length_cons, digs_length]
theorem digs_append (n : Nat) : ∀ (a b : Nat) (x : Int), digs n (a + b) x = digs n a x ++ digs n b (x / 2 ^ (n * a))
  | 0, b, x => by simp [digs]
  | a + 1, b, x => by
    rw [Nat.add_right_comm a 1 b, digs, digs_append n a b, digs, List.cons_append, Nat.mul_succ, Nat.add_comm (n * a) n, Int.pow_add, Int.ediv_ediv_of_nonneg (Int.le_of_lt (two_pow_pos' n))]
theorem digs_mod (n : Nat) : ∀ (a : Nat) (x : Int), digs n a (x % 2 ^ (n * a)) = digs n a x
  | 0, x => rfl
  | a + 1, x => by
    have hd : (2 : Int) ^ n ∣ 2 ^ (n * (a + 1)) := by rw [Nat.mul_succ, Int.pow_add]; exact Int.dvd_mul_left _ _
    rw [digs, digs, Int.emod_emod_of_dvd _ hd]
    congr 1
    have e : x % 2 ^ (n * (a + 1)) / 2 ^ n = x / 2 ^ n % 2 ^ (n * a) := by
      rw [Nat.mul_succ, Nat.add_comm, Int.pow_add]
      exact mod_mul_div x (two_pow_pos' n) _
    rw [e, digs_mod n a]

/-- the places l to r - 1 hold x's digits -/
def wr (ns : List Int) (n l r : Nat) (x : Int) : List Int := ns.take l ++ digs n (r - l) x ++ ns.drop r
theorem wr_length {ns : List Int} {n l r : Nat} {x : Int} (h1 : l ≤ r) (h2 : r ≤ ns.length) : (wr ns n l r x).length = ns.length := by
  simp only [wr, List.length_append, List.length_take, List.length_drop, digs_length]; omega
theorem wr_one {ns : List Int} {n l : Nat} {x : Int} (hl : l < ns.length) (h0 : 0 ≤ x) (hx : x < 2 ^ n) : ns.set l x = wr ns n l (l + 1) x := by
  have e : l + 1 - l = 1 := by omega
  rw [wr, e, digs, digs, Int.emod_eq_of_lt h0 hx, List.set_eq_take_append_cons_drop, if_pos hl, List.append_assoc]
  rfl
theorem wr_two {ns : List Int} {n l m r : Nat} {x : Int} (h1 : l ≤ m) (h2 : m ≤ r) (h3 : r ≤ ns.length) :
    wr (wr ns n l m (x % 2 ^ (n * (m - l)))) n m r (x / 2 ^ (n * (m - l))) = wr ns n l r x := by
  have e : r - l = (m - l) + (r - m) := by omega
  have hA : (ns.take l ++ digs n (m - l) x).length = m := by rw [List.length_append, List.length_take, digs_length]; omega
  rw [wr, wr, wr, digs_mod, e, digs_append]
  rw [List.take_append_of_le_length (by omega), List.take_of_length_le (by omega), List.drop_append, hA, List.drop_eq_nil_of_le (by omega), List.drop_drop]
  simp only [List.nil_append, List.append_assoc]
  congr 4
  omega
theorem shift_fits {x : Int} {n k sh : Nat} (h0 : 0 ≤ x) (hx : x < 2 ^ (n * k)) (hs : sh ≤ n * k) (hk : n * k ≤ 2 ^ 26) : (Builtin.Int.intBits (x.fdiv (2 ^ sh)) : Int) + (sh : Int) ≤ 2 ^ 27 := by
  have : Builtin.Int.intBits (x.fdiv (2 ^ sh)) ≤ n * k := by
    refine intBits_fdiv_le (intBits_le_iff.mpr ?_)
    have : (x.natAbs : Int) < ((2 ^ (n * k) : Nat) : Int) := by push_cast; omega
    omega
  omega

/-- what the digits stand for -/
def val (n : Nat) : List Int → Int
  | [] => 0
  | d :: r => d + 2 ^ n * val n r
theorem val_append (n : Nat) : ∀ (a b : List Int), val n (a ++ b) = val n a + 2 ^ (n * a.length) * val n b
  | [], b => by simp [val]
  | d :: r, b => by
    rw [List.cons_append, val, val, val_append n r b, List.length_cons, Nat.mul_succ, Nat.add_comm (n * r.length) n, Int.pow_add, Int.mul_add, Int.mul_assoc]
    omega
def DigOk (n : Nat) (ns : List Int) : Prop := ∀ d ∈ ns, 0 ≤ d ∧ d < 2 ^ n
theorem val_bounds {n : Nat} : ∀ {ns : List Int}, DigOk n ns → 0 ≤ val n ns ∧ val n ns < 2 ^ (n * ns.length)
  | [], _ => by simp [val]
  | d :: r, h => by
    have ih := val_bounds (n := n) (ns := r) (fun x hx => h x (.tail _ hx))
    have hd := h d (.head _)
    have h2 := two_pow_pos' n
    rw [val, List.length_cons, Nat.mul_succ, Nat.add_comm (n * r.length) n, Int.pow_add]
    refine ⟨Int.add_nonneg hd.1 (Int.mul_nonneg (Int.le_of_lt h2) ih.1), ?_⟩
    have : (2 : Int) ^ n * (val n r + 1) ≤ 2 ^ n * 2 ^ (n * r.length) := Int.mul_le_mul_of_nonneg_left (by omega) (Int.le_of_lt h2)
    rw [Int.mul_add] at this
    omega
theorem val_digs (n : Nat) : ∀ (k : Nat) (x : Int), 0 ≤ x → x < 2 ^ (n * k) → val n (digs n k x) = x
  | 0, x, h0, h1 => by
    rw [Nat.mul_zero, Int.pow_zero] at h1
    rw [digs, val]
    omega
  | k + 1, x, h0, h1 => by
    rw [Nat.mul_succ, Nat.add_comm (n * k) n, Int.pow_add] at h1
    rw [digs, val, val_digs n k _ (Int.ediv_nonneg h0 (Int.le_of_lt (two_pow_pos' n))) (Int.ediv_lt_of_lt_mul (two_pow_pos' n) (by rw [Int.mul_comm]; exact h1))]
    exact Int.emod_add_mul_ediv x (2 ^ n)
theorem digs_ok (n : Nat) : ∀ (k : Nat) (x : Int), DigOk n (digs n k x)
  | 0, _ => fun _ h => nomatch h
  | k + 1, x => fun d h => by
    rw [digs] at h
    rcases List.mem_cons.mp h with h | h
    · rw [h]; exact ⟨Int.emod_nonneg _ (Int.ne_of_gt (two_pow_pos' n)), Int.emod_lt_of_pos _ (two_pow_pos' n)⟩
    · exact digs_ok n k _ d h
/-- the digits of the places l to r - 1 -/
abbrev cut (ns : List Int) (l r : Nat) : List Int := (ns.drop l).take (r - l)
theorem cut_length {ns : List Int} {l r : Nat} (h : l ≤ r) (h2 : r ≤ ns.length) : (cut ns l r).length = r - l := by
  rw [List.length_take, List.length_drop]; omega
theorem cut_two {ns : List Int} {l m r : Nat} (h1 : l ≤ m) (h2 : m ≤ r) : cut ns l r = cut ns l m ++ cut ns m r := by
  have e : r - l = (m - l) + (r - m) := by omega
  unfold cut
  rw [e, List.take_add, List.drop_drop]
  have : l + (m - l) = m := by omega
  rw [this]
theorem cut_ok {n : Nat} {ns : List Int} (h : DigOk n ns) (l r : Nat) : DigOk n (cut ns l r) := fun d hd => h d (List.mem_of_mem_drop (List.mem_of_mem_take hd))
theorem cut_one {ns : List Int} {n l : Nat} (h : l < ns.length) : val n (cut ns l (l + 1)) = ns.getD l 0 := by
  have e : l + 1 - l = 1 := by omega
  unfold cut
  rw [e, List.drop_eq_getElem_cons h, List.take_succ_cons, List.take_zero, val, val]
  simp [List.getD_eq_getElem?_getD, h]
theorem cut_all (ns : List Int) : cut ns 0 ns.length = ns := by
  unfold cut
  simp

/-- one digit more of the long division -/
def dmStep (n : Nat) (b : Int) (x : List Int × Int) (d : Int) : List Int × Int := (x.1 ++ [(x.2 * 2 ^ n + d) / b], (x.2 * 2 ^ n + d) % b)
def dm (n : Nat) (b : Int) (xs : List Int) : List Int × Int := xs.foldl (dmStep n b) ([], 0)
theorem dm_snoc (n : Nat) (b : Int) (xs : List Int) (d : Int) : dm n b (xs ++ [d]) = dmStep n b (dm n b xs) d := by
  rw [dm, List.foldl_append]; rfl
structure DmOk (n : Nat) (b : Int) (xs : List Int) (x : List Int × Int) : Prop where
  val : val n xs.reverse = val n x.1.reverse * b + x.2
  lo : 0 ≤ x.2
  hi : x.2 < b
  ok : DigOk n x.1
  len : x.1.length = xs.length
theorem dm_step {n : Nat} {b : Int} {xs : List Int} {x : List Int × Int} {d : Int} (hb : 0 < b) (h : DmOk n b xs x) (h0 : 0 ≤ d) (h1 : d < 2 ^ n) : DmOk n b (xs ++ [d]) (dmStep n b x d) := by
  obtain ⟨hv, lo, hi, ok, len⟩ := h
  have hp := two_pow_pos' n
  have hnn : 0 ≤ x.2 * 2 ^ n + d := Int.add_nonneg (Int.mul_nonneg lo (Int.le_of_lt hp)) h0
  have hlt : x.2 * 2 ^ n + d < 2 ^ n * b := by
    have : (x.2 + 1) * 2 ^ n ≤ b * 2 ^ n := Int.mul_le_mul_of_nonneg_right (by omega) (Int.le_of_lt hp)
    rw [Int.add_mul, Int.one_mul, Int.mul_comm b] at this
    omega
  refine ⟨?_, Int.emod_nonneg _ (Int.ne_of_gt hb), Int.emod_lt_of_pos _ hb, ?_, ?_⟩
  · show Mine.val n (xs ++ [d]).reverse = Mine.val n (x.1 ++ [(x.2 * 2 ^ n + d) / b]).reverse * b + (x.2 * 2 ^ n + d) % b
    rw [List.reverse_append, List.reverse_append]
    show Mine.val n (d :: xs.reverse) = Mine.val n ((x.2 * 2 ^ n + d) / b :: x.1.reverse) * b + (x.2 * 2 ^ n + d) % b
    rw [Mine.val, Mine.val, hv, Int.add_mul, Int.mul_add]
    have e := Int.emod_add_mul_ediv (x.2 * 2 ^ n + d) b
    rw [Int.mul_comm b] at e
    rw [Int.mul_comm x.2] at e ⊢
    rw [Int.mul_assoc]
    omega
  · intro q hq
    rcases List.mem_append.mp hq with h | h
    · exact ok q h
    · rw [List.mem_singleton.mp h]
      exact ⟨Int.ediv_nonneg hnn (Int.le_of_lt hb), Int.ediv_lt_of_lt_mul hb hlt⟩
  · show (x.1 ++ [_]).length = (xs ++ [d]).length
    rw [List.length_append, List.length_append, len]; rfl
theorem dm_nil {n : Nat} {b : Int} (hb : 0 < b) : DmOk n b [] (dm n b []) := ⟨by simp [dm, Mine.val], Int.le_refl _, hb, fun _ h => (nomatch h), rfl⟩
theorem dm_end {n : Nat} {a b : Int} {ds : List Int} {x : List Int × Int} (hb : 0 < b) (h : DmOk n b ds.reverse x) (ha : val n ds = a) : val n x.1.reverse = a / b ∧ x.2 = a % b := by
  have hv := h.val
  rw [List.reverse_reverse, ha] at hv
  have e1 : a / b = val n x.1.reverse := by
    rw [hv, Int.add_comm, Int.add_mul_ediv_right _ _ (Int.ne_of_gt hb), Int.ediv_eq_zero_of_lt h.lo h.hi, Int.zero_add]
  have e2 : a % b = x.2 := by
    rw [hv, Int.add_comm, Int.add_mul_emod_self_right, Int.emod_eq_of_lt h.lo h.hi]
  exact ⟨e1.symm, e2.symm⟩

/-- how many digits -/
abbrev nd (a : Int) (n : Nat) : Nat := (Builtin.Int.intBits a + n - 1) / n
theorem nd_int (a : Int) {n : Nat} (hn : 0 < n) : (((Builtin.Int.intBits a : Nat) : Int) + (n : Int) - 1).fdiv (n : Int) = (nd a n : Nat) := by
  rw [Int.fdiv_eq_ediv_of_nonneg _ (Int.natCast_nonneg _)]
  have : ((Builtin.Int.intBits a : Nat) : Int) + (n : Int) - 1 = ((Builtin.Int.intBits a + n - 1 : Nat) : Int) := by omega
  rw [this]
  rfl
theorem nd_mul (a : Int) {n : Nat} (hn : 0 < n) : n * nd a n ≤ Builtin.Int.intBits a + n - 1 ∧ Builtin.Int.intBits a ≤ n * nd a n := by
  have h := Nat.div_add_mod (Builtin.Int.intBits a + n - 1) n
  have h2 := Nat.mod_lt (Builtin.Int.intBits a + n - 1) hn
  unfold nd
  omega
theorem nd_le (a : Int) {n : Nat} (hn : 0 < n) : nd a n ≤ Builtin.Int.intBits a := by
  have h := (nd_mul a hn).1
  have h2 : n * nd a n ≤ n * (Builtin.Int.intBits a) ∨ Builtin.Int.intBits a = 0 := by
    rcases Nat.eq_zero_or_pos (Builtin.Int.intBits a) with e | e
    · exact .inr e
    · left
      have : Builtin.Int.intBits a + n ≤ n * Builtin.Int.intBits a + 1 := by
        obtain ⟨b, hb⟩ : ∃ b, Builtin.Int.intBits a = b + 1 := ⟨_, (Nat.succ_pred_eq_of_pos e).symm⟩
        rw [hb, Nat.mul_succ]
        have := Nat.le_mul_of_pos_left b hn
        omega
      omega
  rcases h2 with h2 | h2
  · exact Nat.le_of_mul_le_mul_left h2 hn
  · rw [h2] at h ⊢
    have : n * nd a n < n * 1 := by omega
    have := Nat.lt_of_mul_lt_mul_left this
    omega
theorem nd_zero {n : Nat} (hn : 0 < n) : nd 0 n = 0 := by
  have h0 : Builtin.Int.intBits 0 = 0 := rfl
  have := nd_le 0 hn
  omega
theorem nd_pos {a : Int} {n : Nat} (hn : 0 < n) (ha : a ≠ 0) : 0 < nd a n := by
  have h0 : 0 < Builtin.Int.intBits a := by
    unfold Builtin.Int.intBits
    have : (a == 0) = false := by simpa using ha
    rw [this]
    simp
  rcases Nat.eq_zero_or_pos (nd a n) with e | e
  · have := (nd_mul a hn).2
    rw [e] at this
    omega
  · exact e
theorem lt_nd {a : Int} {n : Nat} (hn : 0 < n) (h0 : 0 ≤ a) : a < 2 ^ (n * nd a n) := by
  have h := intBits_le_iff.mp ((nd_mul a hn).2)
  have h1 : (a.natAbs : Int) < ((2 ^ (n * nd a n) : Nat) : Int) := Int.ofNat_lt.mpr h
  push_cast at h1
  omega
theorem wr_all (n k : Nat) (x : Int) (ns : List Int) (h : ns.length = k) : wr ns n 0 k x = digs n k x := by
  rw [wr, List.take_zero, List.nil_append, List.drop_eq_nil_of_le (by omega), List.append_nil, Nat.sub_zero]
end Mine
end
section
open PySem PySem.W PyProof.Rows PySem.Spec PySem.Calls
namespace Mine

def Ext (h h' : Heap) : Prop := ∀ b o, b ≠ 58 → b ≠ 65 → b ≠ 107 → h.get? b = some o → h'.get? b = some o
def Keep (h h' : Heap) : Prop := ∀ b o, h.get? b = some o → h'.get? b = some o

theorem Keep.refl (h : Heap) : Keep h h := fun _ _ e => e
theorem Keep.trans {a b c : Heap} (x : Keep a b) (y : Keep b c) : Keep a c := fun _ _ e => y _ _ (x _ _ e)
theorem Keep.ext {a b : Heap} (x : Keep a b) : Ext a b := fun _ _ _ _ _ e => x _ _ e
theorem Ext.refl (h : Heap) : Ext h h := fun _ _ _ _ _ e => e
theorem Ext.trans {a b c : Heap} (x : Ext a b) (y : Ext b c) : Ext a c := fun _ _ h1 h2 h3 e => y _ _ h1 h2 h3 (x _ _ h1 h2 h3 e)

/-- the root: a part of the heap that no call turns: the written objects, the top's facts, the code records; the three code tables are not in it -/
structure Root (w : World) (p : Program) (loose : List Str) (mean : ExcName → Option Value) (mg mb : Str → Option Value) (g : Heap) : Prop where
  X : (hd.heap_39 w.params).In g
  T : Top p loose mean mg mb g
  c1 : CodeHd g 62 58
  c2 : CodeHd g 69 65
  c3 : CodeHd g 111 107
  n1 : g.get? 58 = none
  n2 : g.get? 65 = none
  n3 : g.get? 107 = none

/-- a heap upon the root -/
structure On (g h : Heap) : Prop where
  keep : Keep g h

section
variable {w : World} {p : Program} {loose : List Str} {mean : ExcName → Option Value} {mg mb : Str → Option Value} {g h h' : Heap}
theorem Root.ne (R : Root w p loose mean mg mb g) {b : Addr} {o : Obj} (e : g.get? b = some o) : b ≠ 58 ∧ b ≠ 65 ∧ b ≠ 107 :=
  ⟨fun q => (by rw [q, R.n1] at e; cases e), fun q => (by rw [q, R.n2] at e; cases e), fun q => (by rw [q, R.n3] at e; cases e)⟩
theorem On.ext (R : Root w p loose mean mg mb g) (O : On g h) (x : Ext h h') : On g h' :=
  ⟨fun b o e => x b o (R.ne e).1 (R.ne e).2.1 (R.ne e).2.2 (O.keep b o e)⟩
/-- a base for a frame: the heap, some of its objects hidden -/
theorem base_of (R : Root w p loose mean mg mb g) (O : On g h) (S : List Addr) (hS : ∀ b ∈ S, g.get? b = none) :
    ∃ h₀, Keep h₀ h ∧ h₀.objs.size ≤ h.objs.size ∧ (∀ b ∈ S, h₀.get? b = none) ∧ (∀ b o, b ∉ S → h.get? b = some o → h₀.get? b = some o) ∧ (hd.heap_39 w.params).In h₀ ∧ Top p loose mean mg mb h₀ ∧ Keep g h₀ := by
  have k : Keep g (hideAll h S) := fun b o e => hideAll_get _ (O.keep b o e) fun hb => by rw [hS b hb] at e; cases e
  exact ⟨hideAll h S, fun _ _ e => of_hideAll _ e, Nat.le_of_eq (hideAll_size _ _), fun b hb => hideAll_none _ hb, fun b o hb e => hideAll_get _ e hb, R.X.keeps k, R.T.keeps k, k⟩
theorem On.but (O : On g h) {S : List Addr} (x : ∀ b o, b ∉ S → h.get? b = some o → h'.get? b = some o) (hS : ∀ b ∈ S, g.get? b = none) : On g h' :=
  ⟨fun b o e => x b o (fun hb => by rw [hS b hb] at e; cases e) (O.keep b o e)⟩
theorem On.lo (R : Root w p loose mean mg mb g) (O : On g h) : 111 < h.objs.size := by
  obtain ⟨o, vs, file, tf, flags, tg, inF, text, tt, e, r⟩ := R.c3
  exact Heap.lt_size (O.keep _ _ e)
theorem On.T (R : Root w p loose mean mg mb g) (O : On g h) : Top p loose mean mg mb h := R.T.keeps O.keep
theorem On.X (R : Root w p loose mean mg mb g) (O : On g h) : (hd.heap_39 w.params).In h := R.X.keeps O.keep
end

section
variable {prog : Program} {w : World} {A : Around} {s : Shared} {K : Frag} {p : Program} {loose : List Str} {mean : ExcName → Option Value} {mg mb : Str → Option Value}
/-- a plain def of the written part is entered: the base is any part of the heap -/
theorem enter {R : Result → Shared → Prop} {name qual : Str} {params : Arguments} {body : List Stmt} {scope : Scope} {dV kV doc pm cdv ct oc : Value} {an od : Option Addr} {osl : Array (Option Value)} {f : Addr} {args : Args} {binds : List (Str × Value)} {h₀ : Heap} {news : List (Addr × Obj)}
    (X : K.In s.heap) (T : Top p loose mean mg mb s.heap) (hk : Keep h₀ s.heap) (hs : h₀.objs.size ≤ s.heap.objs.size) (hn : ∀ q ∈ news, s.heap.get? q.1 = some q.2 ∧ h₀.get? q.1 = none)
    (ho : K.lookup f = some ⟨oc, od, .func (fnOf name qual params body scope dV kV doc pm an cdv ct), osl⟩) (hcd : codeIn K cdv qual = true) (hroom : A.depth < recursionLimit)
    (hbind : BindsTo s (fnOf name qual params body scope dV kV doc pm an cdv ct) args binds) (hloc : ∀ y ∈ binds, scope.names.lookup y.1 = some .local)
    (h : ∀ L h₁, s.heap.objs.size ≤ L → Fr h₀ L h₁ (fun y => binds.reverse.lookup y) → News h₀ L h₁ news → Keep s.heap h₁ →
      wpAny (model prog w) (A.deeper (envOf qual scope L f cdv)) (execs body (envOf qual scope L f cdv))
        (fun fl s' => R (.ok (.ret (match fl with | .ret v => v | _ => .none))) s')
        (fun e s' => wpAny (model prog w) (A.deeper (envOf qual scope L f cdv)) (leaving (envOf qual scope L f cdv) e) (fun _ s'' => R (.error e) s'') (fun e' s'' => R (.error e') s'') s')
        { s with heap := h₁, toks := s.toks + binds.length })
    (hco : scope.isCoroutine = false) (hgen : scope.isGenerator = false) (hkd : scope.kind = .function)
    (hcell : ∀ x ∈ scope.names, x.2 ≠ .cell) : codeAny (model prog w) A (.call (.ref f) args) R s :=
  codeAny_call_def (fd := fnOf name qual params body scope dV kV doc pm an cdv ct) (body := body) (binds := binds) hroom (X _ _ ho) rfl T.nolimit (codeRec_of X hcd) rfl hbind hcell hloc
    (fun h₁ hns hk₁ => h s.heap.objs.size h₁ (Nat.le_refl _) ⟨hns, fun b o e => hk₁ b o (hk b o e), hs⟩
      (fun q hq => ⟨hk₁ _ _ (hn q hq).1, Nat.ne_of_lt (Heap.lt_size (hn q hq).1), (hn q hq).2⟩) hk₁) hco hgen hkd
end

section
variable {prog : Program} {w : World} {A : Around} {s : Shared} {p : Program} {loose : List Str} {mean : ExcName → Option Value} {mg mb : Str → Option Value}
/-- a function object of the heap is entered (a closure, too) -/
theorem enterX {R : Result → Shared → Prop} {name qual : Str} {params : Arguments} {body : List Stmt} {scope : Scope} {cl : List (Str × Addr)} {dV kV doc pm cdv ct : Value} {an : Option Addr} {fo : Obj} {f : Addr} {args : Args} {binds : List (Str × Value)} {h₀ : Heap} {news : List (Addr × Obj)}
    (T : Top p loose mean mg mb s.heap) (hk : Keep h₀ s.heap) (hs : h₀.objs.size ≤ s.heap.objs.size) (hn : ∀ q ∈ news, s.heap.get? q.1 = some q.2 ∧ h₀.get? q.1 = none)
    (ho : s.heap.get? f = some fo) (hd : fo.data = .func (fnX name qual params body scope cl dV kV doc pm an cdv ct)) (hcd : s.heap.CodeRec cdv qual) (hroom : A.depth < recursionLimit)
    (hbind : BindsTo s (fnX name qual params body scope cl dV kV doc pm an cdv ct) args binds) (hloc : ∀ y ∈ binds, scope.names.lookup y.1 = some .local)
    (h : ∀ L h₁, s.heap.objs.size ≤ L → Fr h₀ L h₁ (fun y => binds.reverse.lookup y) → News h₀ L h₁ news → Keep s.heap h₁ →
      wpAny (model prog w) (A.deeper (envX qual scope L f cdv cl)) (execs body (envX qual scope L f cdv cl))
        (fun fl s' => R (.ok (.ret (match fl with | .ret v => v | _ => .none))) s')
        (fun e s' => wpAny (model prog w) (A.deeper (envX qual scope L f cdv cl)) (leaving (envX qual scope L f cdv cl) e) (fun _ s'' => R (.error e) s'') (fun e' s'' => R (.error e') s'') s')
        { s with heap := h₁, toks := s.toks + binds.length })
    (hco : scope.isCoroutine = false) (hgen : scope.isGenerator = false) (hkd : scope.kind = .function)
    (hcell : ∀ x ∈ scope.names, x.2 ≠ .cell) : codeAny (model prog w) A (.call (.ref f) args) R s :=
  codeAny_call_def (fd := fnX name qual params body scope cl dV kV doc pm an cdv ct) (body := body) (binds := binds) hroom ho hd T.nolimit hcd rfl hbind hcell hloc
    (fun h₁ hns hk₁ => h s.heap.objs.size h₁ (Nat.le_refl _) ⟨hns, fun b o e => hk₁ b o (hk b o e), hs⟩
      (fun q hq => ⟨hk₁ _ _ (hn q hq).1, Nat.ne_of_lt (Heap.lt_size (hn q hq).1), (hn q hq).2⟩) hk₁) hco hgen hkd

/-- the same of a def that keeps cells -/
theorem enterC {R : Result → Shared → Prop} {name qual : Str} {params : Arguments} {body : List Stmt} {scope : Scope} {dV kV doc pm cdv ct : Value} {an : Option Addr} {fo : Obj} {f : Addr} {args : Args} {binds : List (Str × Value)} {h₀ : Heap} {news : List (Addr × Obj)}
    (T : Top p loose mean mg mb s.heap) (hk : Keep h₀ s.heap) (hs : h₀.objs.size ≤ s.heap.objs.size) (hn : ∀ q ∈ news, s.heap.get? q.1 = some q.2 ∧ h₀.get? q.1 = none)
    (ho : s.heap.get? f = some fo) (hd : fo.data = .func (fnX name qual params body scope [] dV kV doc pm an cdv ct)) (hcd : s.heap.CodeRec cdv qual) (hroom : A.depth < recursionLimit)
    (hbind : BindsTo s (fnX name qual params body scope [] dV kV doc pm an cdv ct) args binds) (hkind : (binds.all fun y => scope.names.lookup y.1 == some .local || scope.names.lookup y.1 == some .cell) = true)
    (hnd : ((cellsFrom 0 scope.names []).map (·.1)).Nodup)
    (h : ∀ L h₁ tk cells, s.heap.objs.size ≤ L → Fr h₀ L h₁ (bindL (envOfC qual scope L f cdv).kindOf binds fun _ => none) → News h₀ L h₁ (cells ++ news) →
      CellsAre (bindC (envOfC qual scope L f cdv).kindOf binds fun _ => none) (cellsFrom (L + 1) scope.names []) cells → Keep s.heap h₁ →
      wpAny (model prog w) (A.deeper (envOfC qual scope L f cdv)) (execs body (envOfC qual scope L f cdv))
        (fun fl s' => R (.ok (.ret (match fl with | .ret v => v | _ => .none))) s')
        (fun e s' => wpAny (model prog w) (A.deeper (envOfC qual scope L f cdv)) (leaving (envOfC qual scope L f cdv) e) (fun _ s'' => R (.error e) s'') (fun e' s'' => R (.error e') s'') s')
        { s with heap := h₁, toks := tk })
    (hco : scope.isCoroutine = false) (hgen : scope.isGenerator = false) (hkd : scope.kind = .function) : codeAny (model prog w) A (.call (.ref f) args) R s := by
  refine codeAny_call_function hroom ho hd hco hgen rfl hcd (hbind _ _ _ _ ?_)
  refine wpAny_newFunctionEnv_cells hkd (kindsX hkind _) fun env' he s' x => ?_
  subst he
  refine ⟨T.nolimit.keeps x.toInCall.keep, codeAny_func ?_⟩
  obtain ⟨h₁, tk, rfl, _⟩ := x.done
  have hk₁ := x.toInCall.keep
  obtain ⟨cells, NC, Y⟩ := Cl.news (h₀ := s.heap) (Nat.le_refl _) fun n c hm => ⟨x.cell n c (lookup_of_mem_nodup (cellsFrom_names scope.names 0 (s.heap.objs.size + 1) [] [] rfl ▸ hnd) hm), x.above n c hm⟩
  refine h s.heap.objs.size h₁ tk cells (Nat.le_refl _) ⟨x.toInCall.ns, fun b o e => hk₁ b o (hk b o e), hs⟩ (fun q hq => ?_) Y hk₁
  rcases List.mem_append.mp hq with hq | hq
  · refine ⟨(NC q hq).1, (NC q hq).2.1, ?_⟩
    cases e : h₀.get? q.1 with
    | none => rfl
    | some o => have := hk _ _ e; rw [(NC q hq).2.2] at this; cases this
  · exact ⟨hk₁ _ _ (hn q hq).1, Nat.ne_of_lt (Heap.lt_size (hn q hq).1), (hn q hq).2⟩
end

section
variable {prog : Program} {w : World} {A : Around} {s : Shared} {K : Frag} {p : Program} {loose : List Str} {mean : ExcName → Option Value} {mg mb : Str → Option Value}
theorem enterCK {R : Result → Shared → Prop} {name qual : Str} {params : Arguments} {body : List Stmt} {scope : Scope} {dV kV doc pm cdv ct oc : Value} {an od : Option Addr} {osl : Array (Option Value)} {f : Addr} {args : Args} {binds : List (Str × Value)} {h₀ : Heap} {news : List (Addr × Obj)}
    (X : K.In s.heap) (T : Top p loose mean mg mb s.heap) (hk : Keep h₀ s.heap) (hs : h₀.objs.size ≤ s.heap.objs.size) (hn : ∀ q ∈ news, s.heap.get? q.1 = some q.2 ∧ h₀.get? q.1 = none)
    (ho : K.lookup f = some ⟨oc, od, .func (fnX name qual params body scope [] dV kV doc pm an cdv ct), osl⟩) (hcd : codeIn K cdv qual = true) (hroom : A.depth < recursionLimit)
    (hbind : BindsTo s (fnX name qual params body scope [] dV kV doc pm an cdv ct) args binds) (hkind : (binds.all fun y => scope.names.lookup y.1 == some .local || scope.names.lookup y.1 == some .cell) = true)
    (hnd : ((cellsFrom 0 scope.names []).map (·.1)).Nodup)
    (h : ∀ L h₁ tk cells, s.heap.objs.size ≤ L → Fr h₀ L h₁ (bindL (envOfC qual scope L f cdv).kindOf binds fun _ => none) → News h₀ L h₁ (cells ++ news) →
      CellsAre (bindC (envOfC qual scope L f cdv).kindOf binds fun _ => none) (cellsFrom (L + 1) scope.names []) cells → Keep s.heap h₁ →
      wpAny (model prog w) (A.deeper (envOfC qual scope L f cdv)) (execs body (envOfC qual scope L f cdv))
        (fun fl s' => R (.ok (.ret (match fl with | .ret v => v | _ => .none))) s')
        (fun e s' => wpAny (model prog w) (A.deeper (envOfC qual scope L f cdv)) (leaving (envOfC qual scope L f cdv) e) (fun _ s'' => R (.error e) s'') (fun e' s'' => R (.error e') s'') s')
        { s with heap := h₁, toks := tk })
    (hco : scope.isCoroutine = false) (hgen : scope.isGenerator = false) (hkd : scope.kind = .function) : codeAny (model prog w) A (.call (.ref f) args) R s :=
  enterC T hk hs hn (X _ _ ho) rfl (codeRec_of X hcd) hroom hbind hkind hnd h hco hgen hkd
end
/-- all but some objects are kept -/
def But (S : List Addr) (h h' : Heap) : Prop := ∀ b o, b ∉ S → h.get? b = some o → h'.get? b = some o
theorem But.fr {S : List Addr} {h₀ h h' : Heap} {L : Addr} {m : Str → Option Value} (x : But S h h') (F : Fr h₀ L h m) (hS : ∀ b ∈ S, h₀.get? b = none) (hL : L ∉ S) : Fr h₀ L h' m := by
  obtain ⟨o, es, ep, e, r⟩ := F.ns
  exact ⟨⟨o, es, ep, x _ _ hL e, r⟩, fun b o e => x _ _ (fun hb => by rw [hS b hb] at e; cases e) (F.keep b o e), F.above⟩
theorem But.news {S : List Addr} {h₀ h h' : Heap} {L : Addr} {news : List (Addr × Obj)} (x : But S h h') (N : News h₀ L h news) (hS : ∀ q ∈ news, q.1 ∉ S) : News h₀ L h' news :=
  fun q hq => ⟨x _ _ (hS q hq) (N q hq).1, (N q hq).2⟩
theorem news_cons {h₀ h : Heap} {L a : Addr} {o : Obj} {news : List (Addr × Obj)} (e : h.get? a = some o) (h1 : a ≠ L) (h2 : h₀.get? a = none) (N : News h₀ L h news) : News h₀ L h ((a, o) :: news) := fun q hq => by
  rcases List.mem_cons.mp hq with rfl | hq
  · exact ⟨e, h1, h2⟩
  · exact N q hq
theorem news_sub {h₀ h : Heap} {L : Addr} {l l' : List (Addr × Obj)} (N : News h₀ L h l') (x : l.Sublist l') : News h₀ L h l := fun q hq => N q (x.subset hq)
theorem news_tail {h₀ h : Heap} {L : Addr} {q : Addr × Obj} {news : List (Addr × Obj)} (N : News h₀ L h (q :: news)) : News h₀ L h news := fun r hr => N r (.tail _ hr)

/-- a frame's end: all is kept but the objects that were turned -/
theorem but_end {h₀ h h' : Heap} {L : Addr} {m : Str → Option Value} {S : List Addr} {news : List (Addr × Obj)} (F : Fr h₀ L h' m) (N : News h₀ L h' news) (hb : ∀ b o, b ∉ S ++ news.map (·.1) → h.get? b = some o → h₀.get? b = some o)
    (hN : ∀ q ∈ news, q.1 ∉ S → h.get? q.1 = some q.2) : But S h h' := fun b o hS e => by
  by_cases hm : b ∈ news.map (·.1)
  · obtain ⟨q, hq, rfl⟩ := List.mem_map.mp hm
    rw [hN q hq hS] at e
    rw [← e]
    exact (N q hq).1
  · exact F.keep b o (hb b o (fun h9 => (List.mem_append.mp h9).elim hS hm) e)

theorem but_end2 {h₀ h h' : Heap} {L : Addr} {m : Str → Option Value} {S S' : List Addr} {news : List (Addr × Obj)} (F : Fr h₀ L h' m) (N : News h₀ L h' news) (hb : ∀ b o, b ∉ S' → h.get? b = some o → h₀.get? b = some o)
    (hx : ∀ b ∈ S', b ∉ S → ∃ o, (b, o) ∈ news ∧ h.get? b = some o) : But S h h' := fun b o hS e => by
  by_cases hm : b ∈ S'
  · obtain ⟨o', h1, h2⟩ := hx b hm hS
    rw [h2] at e
    rw [← e]
    exact (N _ h1).1
  · exact F.keep b o (hb b o hm e)

/-- the def nested as the statement i of the def at a: parameters, body, scope -/
def nestOf (K : Frag) (a : Addr) (i : Nat) : Option (Arguments × List Stmt × Scope × Pos) := match K.lookup a with
  | some ⟨_, _, .func fd, _⟩ => (match fd.body with
    | .stmts l => (match l[i]? with
      | some (.FunctionDef _ ps bd _ _ _ sc _ _ pos) => some (ps, bd, sc, pos)
      | _ => none)
    | _ => none)
  | _ => none
noncomputable def inA (w : World) : Arguments × List Stmt × Scope × Pos := (nestOf (hd.heap_39 w.params) 63 1).getD default
noncomputable def inAbody (w : World) : List Stmt := (inA w).2.1
noncomputable def inAscope (w : World) : Scope := (inA w).2.2.1
noncomputable def inApar (w : World) : Arguments := (inA w).1
noncomputable def inB (w : World) : Arguments × List Stmt × Scope × Pos := (nestOf (hd.heap_39 w.params) 70 0).getD default
noncomputable def inBbody (w : World) : List Stmt := (inB w).2.1
noncomputable def inBscope (w : World) : Scope := (inB w).2.2.1
noncomputable def inBpar (w : World) : Arguments := (inB w).1

abbrev qA : Str := "_int2digits.<locals>.inner"
abbrev qB : Str := "_digits2int.<locals>.inner"
/-- a code table: empty, or with the one nested code -/
def TabOk (g : Heap) (P line col : Nat) (qual : Str) (h : Heap) : Prop :=
  h.get? P = some (tabObj #[]) ∨ ∃ c oc vs t, h.get? P = some (tabObj #[rawInt line, rawInt col, .ref c]) ∧ h.get? c = some oc ∧ oc.data = .fields vs ∧ vs[1]? = some (.str qual t) ∧ g.get? c = none ∧ c ≠ 58 ∧ c ≠ 65 ∧ c ≠ 107

theorem TabOk.but {g h h' : Heap} {P line col : Nat} {qual : Str} {S : List Addr} (x : TabOk g P line col qual h) (k : But S h h') (hP : P ∉ S) (hS : ∀ b ∈ S, b = 58 ∨ b = 65 ∨ b = 107) : TabOk g P line col qual h' := by
  rcases x with e | ⟨c, oc, vs, t, e1, e2, r1, r2, r3, n1, n2, n3⟩
  · exact .inl (k _ _ hP e)
  · exact .inr ⟨c, oc, vs, t, k _ _ hP e1, k _ _ (fun hb => (hS c hb).elim n1 (fun h => h.elim n2 n3)) e2, r1, r2, r3, n1, n2, n3⟩
theorem TabOk.get {g h : Heap} {P line col : Nat} {qual : Str} (x : TabOk g P line col qual h) : ∃ ps, h.get? P = some (tabObj ps) := by
  rcases x with e | ⟨c, oc, vs, t, e1, _⟩
  · exact ⟨_, e⟩
  · exact ⟨_, e1⟩
theorem But.trans {S S' S'' : List Addr} {a b c : Heap} (x : But S a b) (y : But S' b c) (h1 : ∀ z ∈ S, z ∈ S'') (h2 : ∀ z ∈ S', z ∈ S'') : But S'' a c :=
  fun q o hq e => y q o (fun h => hq (h2 q h)) (x q o (fun h => hq (h1 q h)) e)

theorem TabOk.of {g h h' : Heap} {P line col : Nat} {qual : Str} (x : TabOk g P line col qual h) (hP : ∀ o, h.get? P = some o → h'.get? P = some o) (k : Ext h h') : TabOk g P line col qual h' := by
  rcases x with e | ⟨c, oc, vs, t, e1, e2, r1, r2, r3, n1, n2, n3⟩
  · exact .inl (hP _ e)
  · exact .inr ⟨c, oc, vs, t, hP _ e1, k _ _ n1 n2 n3 e2, r1, r2, r3, n1, n2, n3⟩
/-- what of a table's facts the ledger must carry -/
theorem TabOk.carry {g h₀ h : Heap} {L : Addr} {m : Str → Option Value} {P line col : Nat} {qual : Str} (x : TabOk g P line col qual h) (F : Fr h₀ L h m) :
    ∃ tl : List (Addr × Obj), News h₀ L h tl ∧ (∀ q ∈ tl, q.1 ≠ 58 ∧ q.1 ≠ 65 ∧ q.1 ≠ 107) ∧
      ∀ h', Keep h₀ h' → (∀ q ∈ tl, h'.get? q.1 = some q.2) → (∀ o, h.get? P = some o → h'.get? P = some o) → TabOk g P line col qual h' := by
  rcases x with e | ⟨c, oc, vs, t, e1, e2, r1, r2, r3, n1, n2, n3⟩
  · exact ⟨[], .nil, fun _ h => (nomatch h), fun h' _ _ hP => .inl (hP _ e)⟩
  · rcases Option.eq_none_or_eq_some (h₀.get? c) with q | ⟨o, q⟩
    · refine ⟨[(c, oc)], ?_, ?_, fun h' _ ht hP => .inr ⟨c, oc, vs, t, hP _ e1, ht (c, oc) List.mem_cons_self, r1, r2, r3, n1, n2, n3⟩⟩
      · refine news_cons e2 ?_ q .nil
        intro h9
        obtain ⟨o, es, ep, e, hd, _⟩ := F.ns
        rw [← h9, e2] at e
        have e4 : oc = o := Option.some.inj e
        subst e4
        rw [r1] at hd
        exact Data.noConfusion hd
      · intro q hq
        rw [List.mem_singleton.mp hq]
        exact ⟨n1, n2, n3⟩
    · have e3 := F.keep _ _ q
      rw [e2] at e3
      have e4 : oc = o := Option.some.inj e3
      subst e4
      exact ⟨[], .nil, fun _ h => (nomatch h), fun h' k _ hP => .inr ⟨c, oc, vs, t, hP _ e1, k _ _ q, r1, r2, r3, n1, n2, n3⟩⟩
theorem allLt_mem {d : Nat} {l : List (Addr × Obj)} (h : AllLt d l) (q : Addr × Obj) (hq : q ∈ l) : @LT.lt Nat _ q.1 d := by
  induction l with
  | nil => exact absurd hq List.not_mem_nil
  | cons p r ih =>
    rcases List.mem_cons.mp hq with e | e
    · rw [e]; exact h.1
    · exact ih h.2 e
theorem news_append {h₀ h : Heap} {L : Addr} {l l' : List (Addr × Obj)} (N : News h₀ L h l) (N' : News h₀ L h l') : News h₀ L h (l ++ l') := fun q hq => (List.mem_append.mp hq).elim (N q) (N' q)
end Mine
end
section
open PySem PySem.W PyProof.Rows PySem.Spec PySem.Calls
namespace Mine
set_option maxRecDepth 100000 in
set_option maxHeartbeats 8000000 in
theorem div2_spec {w : World} {p : Program} {loose : List Str} {mean : ExcName → Option Value} {mg mb : Str → Option Value} {g : Heap} {A : Around} {s : Shared} {Q E : Value → Shared → Prop} {x y n : Int} {tx ty tn : Tok}
    (R : Root w p loose mean mg mb g) (O : On g s.heap) (hA : A.handled = none) (hdp : A.depth + 10 < recursionLimit) (hun : A.units + 40 < cLine)
    (hx : 0 ≤ x) (hx1 : x < 2 ^ 63) (hy : 0 < y) (hy1 : y < 2 ^ 29) (hn : 0 ≤ n)
    (hret : ∀ r h' tk' t1 t2, Keep s.heap h' → s.heap.get? r = none → h'.get? r = some { cls := .type "tuple", data := .seq #[.int (x.fdiv y) t1, .int (x.fmod y) t2] } → Q (.ref r) { s with heap := h', toks := tk' }) :
    wpAny (model PySem.Challenge.rw_rs0116_01.row.prog w) A (call (.ref 49) [.int x tx, .int y ty, .int n tn]) Q E s := by
  w_on
  have hbits : ((Builtin.Int.intBits x : Nat) : Int) - n ≤ 4000 := by
    have := intBits_le_64 (k := x) (by omega) (by omega)
    omega
  have X := O.X R
  have T := O.T R
  revert X
  k_fill
  intro X
  obtain ⟨ah, dp, fr, gd, un⟩ := A
  dsimp only at hA hdp hun
  subst hA
  refine wpAny_call ?_
  k_dflt (refine' enter (news := []) X T (Keep.refl _) (Nat.le_refl _) (by intro q hq; cases hq) ?k6 ?k7 ?k8 ?k9 ?kB ?_ ?c2 ?c3 ?c4 ?c5; (case k6 => k_is); (case k7 => k_is); (case k8 => (dsimp only; omega)); (case k9 => exact BindsTo.of_eq rfl); (case kB => exact locs rfl);  (case c5 => decide); (case c2 => exact rfl); (case c3 => exact rfl); (case c4 => exact rfl))
  intro L h₁ hL F N hk1
  k_steps
  rename_i F' N'
  exact hret _ _ _ _ _ F'.keep (N' _ (List.mem_cons_self)).2.2 (N' _ (List.mem_cons_self)).1
end Mine
end
section
open PySem PySem.W PyProof.Rows PySem.Spec PySem.Calls
namespace Mine
section
variable {M : Model} {A : Around} {E : Value → Shared → Prop} {s : Shared} {h₀ : Heap} {L a : Addr} {cn : Str} {cs : Scope} {ccd : Value} {cl : List (Str × Addr)} {x : Str} {pos : Pos} {v : Value} {Q : Value → Shared → Prop} {c : Addr} {oc : Obj} {news : List (Addr × Obj)}
/-- a free name whose cell lies in the ledger -/
theorem free_N (N : News h₀ L s.heap news) (hc : cl.lookup x = some c) (hm : (c, oc) ∈ news) (hd : oc.data = .cell (some v)) (h : Q v s)
    (hk : cs.kind = .function) (hx : (envX cn cs L a ccd cl).kindOf x = some .free) (hb : (x == ("__debug__" : Str)) = false) (hn : (x == ("__classdict__" : Str)) = false) :
    wpAny M A (eval (.Name x pos) (envX cn cs L a ccd cl)) Q E s := wpAny_Name (wpAny_loadName_free hk hx hc ⟨_, (N _ hm).1, hd⟩ h hn) hb
end
theorem fnAt_mem {h₀ h : Heap} {L f : Addr} {fo : Obj} {fd : FuncData} {news : List (Addr × Obj)} (N : News h₀ L h news) (hm : (f, fo) ∈ news) (hd : fo.data = .func fd) : FnAt f h := by
  obtain ⟨c, d, dt, sl⟩ := fo
  dsimp only at hd
  subst hd
  exact ⟨c, d, fd, sl, (N _ hm).1⟩
noncomputable abbrev fdA (w : World) (cA cI cN cc : Addr) (doc pm ctv : Value) : FuncData := fnX "inner" qA (inApar w) (inAbody w) (inAscope w) [("n", cN), ("inner", cI), ("a_digits", cA)] .none .none doc pm none (.ref cc) ctv
local macro_rules | `(tactic| walk_at "eval Name") => `(tactic| (k_here; kc_free; k_dflt (refine' free_N ?N ?c ?m ?d ?_ ?a ?b ?e ?f; (case b => exact rfl); (case a => exact rfl); (case c => exact rfl); (case N => with_reducible assumption); (case m => k_mem); (case d => with_reducible assumption); (case e => decide); (case f => decide); k_whole)))
local macro_rules | `(tactic| walk_at "binaryOp RShift int int") => `(tactic| (k_here; (refine' rshift_int ?a ?_; (case a => first | with_reducible assumption | decide); k_whole)))
local macro_rules | `(tactic| walk_at "binaryOp LShift int int") => `(tactic| (k_here; (refine' lshift_int ?a ?b ?_; (case a => with_reducible assumption); (case b => with_reducible assumption); k_whole)))
local macro_rules | `(tactic| walk_at "callWith") => `(tactic| (k_here; k_dflt (refine' callWith_F ?a ?_ ?b ?c; (case b => rfl); (case c => rfl); (case a => (refine' fnAt_mem ?N ?m ?d; (case N => with_reducible assumption); (case m => k_mem); (case d => with_reducible assumption))))))

set_option maxRecDepth 100000 in
set_option maxHeartbeats 1000000 in
theorem innerA_spec {w : World} {p : Program} {loose : List Str} {mean : ExcName → Option Value} {mg mb : Str → Option Value} {g : Heap} {f cA cI cN lst cc : Addr} {doc pm ctv : Value} {n : Nat} {tn tq : Tok} {oA oI oN oc fo : Obj} {vs : Array Value}
    (Rt : Root w p loose mean mg mb g) (hn : 0 < n) (hn1 : n ≤ 64)
    (dA : oA.data = .cell (some (.ref lst))) (dI : oI.data = .cell (some (.ref f))) (dN : oN.data = .cell (some (.int n tn))) (dc : oc.data = .fields vs) (dv : vs[1]? = some (.str qA tq))
    (df : fo.data = .func (fdA w cA cI cN cc doc pm ctv))
    (l1 : f ≠ lst) (l2 : cc ≠ lst) (l3 : cA ≠ lst) (l4 : cI ≠ lst) (l5 : cN ≠ lst) (hg : ∀ b ∈ [lst, f, cc, cA, cI, cN], g.get? b = none) (k : Nat) :
    ∀ (A : Around) (s : Shared) (Q E : Value → Shared → Prop) (x l r : Int) (tx tL tR : Tok) (vals : List Value) (ns : List Int) (ep : Nat),
    On g s.heap → A.handled = none → A.depth + k + 10 < recursionLimit → A.units + 3 * k + 40 < cLine →
    IntsAre vals ns → (∀ q ∈ [(lst, listOf vals.toArray ep), (f, fo), (cc, oc), (cA, oA), (cI, oI), (cN, oN)], s.heap.get? q.1 = some q.2) →
    0 ≤ l → l < r → r ≤ ns.length → n * ns.length ≤ 2 ^ 26 → 0 ≤ x → x < 2 ^ (n * (r - l).toNat) → r - l ≤ 2 ^ k →
    (∀ h' tk' vals', But [lst] s.heap h' → h'.get? lst = some (listOf vals'.toArray ep) → IntsAre vals' (wr ns n l.toNat r.toNat x) → Q .none { s with heap := h', toks := tk' }) →
    wpAny (model PySem.Challenge.rw_rs0116_01.row.prog w) A (call (.ref f) [.int x tx, .int l tL, .int r tR]) Q E s := by
  induction k using Nat.strongRecOn with
  | ind k IH =>
  intro A s Q E x l r tx tL tR vals ns ep O hA hdp hun hi hN hl0 hLR hR hfit hx hx1 hk hret
  w_on
  obtain ⟨h₀, hk0, hs0, hh0, hb0, X, T, hg0⟩ := base_of Rt O [lst, f, cc, cA, cI, cN] hg
  have hbl := hh0 lst (by simp)
  revert X
  k_fill
  intro X
  have hm := fdiv2 l r
  have hns : ns.length ≤ n * ns.length := Nat.le_mul_of_pos_left _ hn
  have hsh : 0 ≤ ((l + r).fdiv (2 ^ Int.toNat 1) - l) * n := by
    rw [hm]
    refine Int.mul_nonneg ?_ (Int.natCast_nonneg _)
    omega
  have hse : (((l + r).fdiv (2 ^ Int.toNat 1) - l) * n) = ((n * (((l + r) / 2).toNat - l.toNat) : Nat) : Int) := by
    rw [hm, Int.natCast_mul, Int.mul_comm]
    congr 1
    omega
  have hsz : (Builtin.Int.intBits (x.fdiv (2 ^ Int.toNat (((l + r).fdiv (2 ^ Int.toNat 1) - l) * n))) : Int) + (((l + r).fdiv (2 ^ Int.toNat 1) - l) * n) ≤ 2 ^ 27 := by
    rw [hse, Int.toNat_natCast]
    refine shift_fits hx hx1 (Nat.mul_le_mul_left _ (by omega)) (Nat.le_trans (Nat.mul_le_mul_left _ ?_) hfit)
    omega
  obtain ⟨ah, dp, fr, gd, un⟩ := A
  dsimp only at hA hdp hun
  subst hA
  refine wpAny_call ?_
  have df' := df
  dsimp only [fdA] at df'
  conv at df' in (inAbody w) => whnf
  conv at df' in (inApar w) => whnf
  conv at df' in (inAscope w) => whnf
  k_dflt (refine' enterX (binds := [("x", .int x tx), ("L", .int l tL), ("R", .int r tR)]) (O.T Rt) hk0 hs0 ?k3 (hN _ (List.mem_cons_of_mem _ (List.mem_cons_self))) df' ?k7 ?k8 ?k9 ?kB ?_ ?c2 ?c3 ?c4 ?c5;  (case k8 => (dsimp only; omega)); (case k9 => exact BindsTo.of_eq rfl); (case kB => exact locs rfl);  (case c5 => decide); (case c2 => exact rfl); (case c3 => exact rfl); (case c4 => exact rfl))
  case k3 => exact fun q hq => ⟨hN q hq, hh0 _ (by simp only [List.mem_cons, List.not_mem_nil, or_false] at hq ⊢; rcases hq with rfl | rfl | rfl | rfl | rfl | rfl <;> simp)⟩
  case k7 => exact ⟨cc, oc, vs, tq, rfl, hN (cc, oc) (by simp), dc, dv⟩
  clear df'
  intro L h₁ hL F N hk1
  have hLl : L ∉ [lst] := by
    have := Heap.lt_size (hN (lst, _) List.mem_cons_self)
    simp only [List.mem_cons, List.not_mem_nil, or_false]
    exact fun q => by rw [q] at hL; exact absurd this (Nat.not_lt.mpr hL)
  (try k_fold)
  k_steps
  · dsimp only
    rename l + 1 = r => hlr
    rename News _ _ _ _ => N2
    rename Fr _ _ _ _ => F2
    rename IntsAre _ _ => hi2
    subst hlr
    refine hret _ _ _ (but_end F2 N2 ?_ ?_) (N2 _ List.mem_cons_self).1 ?_
    · intro b o hb e
      exact hb0 b o (by simpa using hb) e
    · intro q hq hS
      simp only [List.mem_cons, List.not_mem_nil, or_false] at hq
      rcases hq with rfl | hq
      · simp at hS
      · exact hN q (List.mem_cons_of_mem _ (by simpa using hq))
    · have e : (l + 1).toNat = l.toNat + 1 := by omega
      have e2 : (l + 1 - l).toNat = 1 := by omega
      rw [e2, Nat.mul_one] at hx1
      rw [e, ← wr_one (by omega) hx hx1]
      exact hi2
  · exact fnAt_mem (by assumption) (by k_mem) df
  · rename l + 1 ≠ r => hlr
    rename News _ _ _ _ => N2
    rename Fr _ _ _ _ => F2
    have k1 : 1 ≤ k := by
      rcases Nat.eq_zero_or_pos k with h0 | h0
      · subst h0; omega
      · exact h0
    have kk : (2 : Int) ^ k = 2 * 2 ^ (k - 1) := by
      obtain ⟨j, rfl⟩ : ∃ j, k = j + 1 := ⟨k - 1, by omega⟩
      rw [Int.pow_succ, Int.mul_comm]; rfl
    have hmid := mid_lt hLR hlr
    rw [List.nil_append]
    refine' IH (k - 1) (by omega) _ _ _ _ _ _ _ _ _ _ vals ns ep ?o1 ?o2 ?o3 ?o4 hi ?o5 hl0 ?o6 ?o7 hfit ?o8 ?o9 ?o10 ?_
    case o1 => exact ⟨hg0.trans F2.keep⟩
    case o2 => rfl
    case o3 => show dp + 1 + (k - 1) + 10 < _; omega
    case o4 => show un + 3 + 3 * (k - 1) + 40 < _; omega
    case o5 => exact fun q hq => (N2 q hq).1
    case o6 => rw [hm]; omega
    case o7 => rw [hm]; omega
    case o8 => rw [xor_low hx]; exact Int.emod_nonneg _ (Int.ne_of_gt (two_pow_pos' _))
    case o9 =>
      rw [xor_low hx]
      refine Int.lt_of_lt_of_le (Int.emod_lt_of_pos _ (two_pow_pos' _)) (Int.le_of_eq ?_)
      congr 1
      rw [hse, Int.toNat_natCast, hm]
      congr 1
      omega
    case o10 => rw [hm]; omega
    intro h3 tk3 vals3 bt3 hl3 hi3
    dsimp only
    have F3 := bt3.fr F2 (by simpa using hbl) hLl
    have N3 := news_cons hl3 (by simpa using fun q => hLl (by simp [q])) hbl (bt3.news (news_tail N2) (by simp only [List.mem_cons, List.not_mem_nil, or_false]; rintro q (rfl | rfl | rfl | rfl | rfl) <;> assumption))
    clear N2 F2
    have e1 : ((l + r).fdiv (2 ^ Int.toNat 1)).toNat = ((l + r) / 2).toNat := by rw [hm]
    rw [e1, xor_low hx, hse, Int.toNat_natCast] at hi3
    have hw3 : (wr ns n l.toNat ((l + r) / 2).toNat (x % 2 ^ (n * (((l + r) / 2).toNat - l.toNat)))).length = ns.length := wr_length (by omega) (by omega)
    k_steps
    · exact fnAt_mem N3 (by k_mem) df
    · rw [List.nil_append]
      refine' IH (k - 1) (by omega) _ _ _ _ _ _ _ _ _ _ vals3 _ ep ?o1 ?o2 ?o3 ?o4 hi3 ?o5 ?o6 ?o7 ?o8 ?o9 ?o10 ?o11 ?o12 ?_
      case o1 => exact ⟨hg0.trans F3.keep⟩
      case o2 => rfl
      case o3 => show dp + 1 + (k - 1) + 10 < _; omega
      case o4 => show un + 3 + 3 * (k - 1) + 40 < _; omega
      case o5 => exact fun q hq => (N3 q hq).1
      case o6 => rw [hm]; omega
      case o7 => rw [hm]; omega
      case o8 => rw [hw3]; omega
      case o9 => rw [hw3]; exact hfit
      case o10 => rw [Int.fdiv_eq_ediv_of_nonneg _ (Int.le_of_lt (two_pow_pos' _))]; exact Int.ediv_nonneg hx (Int.le_of_lt (two_pow_pos' _))
      case o11 =>
        rw [Int.fdiv_eq_ediv_of_nonneg _ (Int.le_of_lt (two_pow_pos' _)), hse, Int.toNat_natCast, hm]
        refine Int.ediv_lt_of_lt_mul (two_pow_pos' _) ?_
        rw [← Int.pow_add, ← Nat.mul_add]
        have : (r - (l + r) / 2).toNat + (((l + r) / 2).toNat - l.toNat) = (r - l).toNat := by omega
        rw [this]
        exact hx1
      case o12 => rw [hm]; omega
      intro h4 tk4 vals4 bt4 hl4 hi4
      dsimp only
      have F4 := bt4.fr F3 (by simpa using hbl) hLl
      have N4 := news_cons hl4 (by simpa using fun q => hLl (by simp [q])) hbl (bt4.news (news_tail N3) (by simp only [List.mem_cons, List.not_mem_nil, or_false]; rintro q (rfl | rfl | rfl | rfl | rfl) <;> assumption))
      rw [e1, hse, Int.toNat_natCast, Int.fdiv_eq_ediv_of_nonneg _ (Int.le_of_lt (two_pow_pos' _)), wr_two (by omega) (by omega) (by omega)] at hi4
      clear N3 F3
      k_steps
      refine hret _ _ _ (but_end F4 N4 ?_ ?_) (N4 _ List.mem_cons_self).1 hi4
      · intro b o hb e
        exact hb0 b o (by simpa using hb) e
      · intro q hq hS
        simp only [List.mem_cons, List.not_mem_nil, or_false] at hq
        rcases hq with rfl | hq
        · simp at hS
        · exact hN q (List.mem_cons_of_mem _ (by simpa using hq))
end Mine
end
section
open PySem PySem.W PyProof.Rows PySem.Spec PySem.Calls
namespace Mine
section
variable {prog : Program} {w : World} {A : Around} {E : Value → Shared → Prop} {s : Shared} {h₀ : Heap} {L : Addr} {m : Str → Option Value} {news : List (Addr × Obj)} {l : Addr} {v : Value} {x : Int} {u : Tok} {ep : Nat} {Q : Value → Shared → Prop}
/-- a list of one item, many times -/
theorem rep_N (Fm : Fr h₀ L s.heap m) (N : News h₀ L s.heap news) (ho : s.heap.get? l = some (listOf #[v] ep)) (h0 : 0 ≤ x) (hsz : x ≤ 2 ^ 24)
    (h : ∀ D h', Fr h₀ L h' m → News h₀ L h' ((D, listOf (List.replicate x.toNat v).toArray 0) :: news) → (∀ p ∈ news, p.1 < D) → Q (.ref D) { s with heap := h' }) : wpAny (model prog w) A (binaryOp .Mult (.ref l) (.int x u)) Q E s := by
  have e : (List.replicate x.toNat [v]).flatten = List.replicate x.toNat v := by
    generalize x.toNat = k
    induction k with
    | zero => rfl
    | succ k ih => rw [List.replicate_succ, List.flatten_cons, ih, List.replicate_succ]; rfl
  refine wpAny_binaryOp_repeat_ref (T := "list") (U := "int") (by decide) ⟨_, ho, rfl⟩ (fun s' => typeIs_int s' x u) noFill_list_mul F.fills_int_mul F.slot_int_rmul repeat_list F.slot_int_index.lookup
    (call_meets F.slot_int_rmul (typeIs_int s x u) F.entry_int_rmul (F.args_int_rmul_2 _ _) (lm_int_rmul_list_any x u l [v].toArray ep none #[])
      ⟨ho, rfl, ⟨_, ho, rfl⟩, call_meets F.slot_list_mul ⟨_, ho, rfl⟩ F.entry_list_mul (F.args_list_mul_2 _ _)
        (lm_list_mul_any l [v].toArray ep none #[] x u (by simp [Builtin.List.listFitsIndex]; omega) (by simp; omega) (by simp [Builtin.List.listTooLong, sizeLine]; omega))
        ⟨ho, ?_⟩⟩)
  have N' := News.push Fm N { cls := Value.type "list", data := Data.seq (List.foldl (fun x1 x2 => x1 ++ x2) #[] (List.replicate (if [v].toArray.isEmpty = true then 0 else x.toNat) [v].toArray)) }
  rw [listMul_foldl_if, e] at N'
  rw [listMul_foldl_if, e]
  exact h _ _ (Fm.push _) N' (fun p hp => Heap.lt_size (N p hp).1)
end
section
variable {prog : Program} {w : World} {A : Around} {E : Value → Shared → Prop} {s : Shared} {h₀ : Heap} {L : Addr} {news : List (Addr × Obj)} {l : Addr} {items : Array Value} {ep : Nat} {Q : Value → Shared → Prop}
theorem len_led (N : News h₀ L s.heap news) (hm : (l, listOf items ep) ∈ news) (hfit : items.size < 2 ^ 62) (h : Q (.int items.size (s.toks + 1)) { s with toks := s.toks + 1 + 1 }) : wpAny (model prog w) A (call (.builtin "len") [.ref l]) Q E s :=
  len_list ⟨_, (N _ hm).1, rfl, _, rfl⟩ (by omega) h
end
theorem rep_flat {α : Type} (v : α) : ∀ k : Nat, (List.replicate k [v]).flatten = List.replicate k v
  | 0 => rfl
  | k + 1 => by rw [List.replicate_succ, List.flatten_cons, rep_flat v k, List.replicate_succ]; rfl
theorem ints_rep (t : Tok) : ∀ k : Nat, IntsAre (List.replicate k (.int 0 t)) (List.replicate k 0)
  | 0 => .nil
  | k + 1 => .cons 0 t (ints_rep t k)
theorem digs_zero (n : Nat) : ∀ k : Nat, digs n k 0 = List.replicate k 0
  | 0 => rfl
  | k + 1 => by rw [digs, List.replicate_succ]; simp [digs_zero n k]
set_option maxRecDepth 100000 in
set_option maxHeartbeats 1000000 in
theorem i2d_spec {w : World} {p : Program} {loose : List Str} {mean : ExcName → Option Value} {mg mb : Str → Option Value} {g : Heap} {A : Around} {s : Shared} {Q E : Value → Shared → Prop} {a : Int} {n : Nat} {ta tn : Tok}
    (Rt : Root w p loose mean mg mb g) (O : On g s.heap) (hA : A.handled = none) (hdp : A.depth + 60 < recursionLimit) (hun : A.units + 200 < cLine)
    (hn : 0 < n) (hn1 : n ≤ 64) (ha : 0 ≤ a) (hb : Builtin.Int.intBits a ≤ 2 ^ 21) (hT : TabOk g 58 33 4 qA s.heap)
    (hret : ∀ r h' tk' vals ep, But [58] s.heap h' → TabOk g 58 33 4 qA h' → s.heap.get? r = none → h'.get? r = some (listOf vals.toArray ep) → IntsAre vals (digs n (nd a n) a) → Q (.ref r) { s with heap := h', toks := tk' }) :
    wpAny (model PySem.Challenge.rw_rs0116_01.row.prog w) A (call (.ref 63) [.int a ta, .int n tn]) Q E s := by
  w_on
  obtain ⟨ah, dp, fr, gd, un⟩ := A
  dsimp only at hA hdp hun
  subst hA
  refine wpAny_call ?_
  have hLo := O.lo Rt
  have hnd := nd_int a hn
  have hnd1 := nd_mul a hn
  have hnd2 := nd_le a hn
  rcases hT with hT | ⟨c, oc, vs, t, hT, hc1, hc2, hc3, hc4, hc5, hc6, hc7⟩
  · obtain ⟨h₀, hk0, hs0, hh0, hb0, X, T, hg0⟩ := base_of Rt O [58] (by simpa using Rt.n1)
    revert X
    k_fill
    intro X
    have XS := O.X Rt
    k_dflt (refine' enterCK (binds := [("a", .int a ta), ("n", .int n tn)]) (news := [(58, tabObj #[])]) XS (O.T Rt) hk0 hs0 ?k3 ?k6 ?k7 ?k8 ?k9 ?kB ?kC ?_ ?c2 ?c3 ?c4; (case k6 => k_is); (case k7 => k_is); (case k8 => (dsimp only; omega)); (case k9 => exact BindsTo.of_eq rfl); (case kB => exact rfl); (case kC => decide); (case c2 => exact rfl); (case c3 => exact rfl); (case c4 => exact rfl))
    case k3 => 
      intro q hq
      simp only [List.mem_cons, List.not_mem_nil, or_false] at hq
      subst hq
      exact ⟨hT, hh0 58 (by simp)⟩
    intro L h₁ tk cells hL F N Y hk1
    (try k_fold)
    k_cells Y
    simp only [List.cons_append, List.nil_append] at N
    have C1 := Rt.c1.keeps hg0
    k_steps
    · rename News _ _ _ _ => N4
      rename Fr _ _ _ _ => F4
      rename a ≠ 0 => ha0
      rename_i o1 o2 o3 d1 d2 d3 lz hz lz1 D hD i1 n1 s1 e1 e2 e3 lD hE oA dA f c oc vs t ct dc hF tkF dc1 dc2 lc lf hG oI dI
      subst e1
      have hlen : (List.replicate ((↑(Builtin.Int.intBits a) + ↑n - 1 : Int).fdiv ↑n).toNat [(0 : Int)]).flatten.length = nd a n := by rw [hnd, Int.toNat_natCast, rep_flat, List.length_replicate]
      have hi4 : IntsAre (List.replicate ((↑(Builtin.Int.intBits a) + ↑n - 1 : Int).fdiv ↑n).toNat [Value.int 0 tk]).flatten (List.replicate (nd a n) 0) := by rw [hnd, Int.toNat_natCast, rep_flat]; exact ints_rep _ _
      rw [hlen, List.nil_append]
      have hgl : ∀ b, h₀.get? b = none → g.get? b = none := fun b e => by
        cases q : g.get? b with
        | none => rfl
        | some o => rw [hg0 _ _ q] at e; cases e
      refine' innerA_spec (f := f) (cA := L + 1 + 1) (cI := L + 1 + 1 + 1) (cN := L + 1) (lst := D) (cc := c) (n := n) (oA := oA) (oI := oI) (oN := o3) (oc := oc) Rt hn hn1 dA dI ?dN dc1 dc2 ?df ?l1 ?l2 ?l3 ?l4 ?l5 ?hg 22 _ _ _ _ _ _ _ _ _ _ _ _ 0 ?p1 ?p2 ?p3 ?p4 hi4 ?p5 ?p6 ?p7 ?p8 ?p9 ha ?p10 ?p11 ?_
      case p5 =>
        intro q hq
        simp only [List.mem_cons, List.not_mem_nil, or_false] at hq
        rcases hq with h | h | h | h | h | h <;> rw [h]
        · exact (N4 (D, _) (by k_mem)).1
        · exact (N4 (f, _) (by k_mem)).1
        · exact (N4 (c, _) (by k_mem)).1
        · exact (N4 (L + 1 + 1, _) (by k_mem)).1
        · exact (N4 (L + 1 + 1 + 1, _) (by k_mem)).1
        · exact (N4 (L + 1, _) (by k_mem)).1
      case dN => exact d3
      case df => exact rfl
      case l1 => refine neN ?_; omega
      case l2 => refine neN ?_; omega
      case l3 => refine neN ?_; omega
      case l4 => refine neN ?_; omega
      case l5 => refine neN ?_; omega
      case hg =>
        intro b hb
        apply hgl
        simp only [List.mem_cons, List.not_mem_nil, or_false] at hb
        rcases hb with h | h | h | h | h | h <;> rw [h]
        · exact (N4 (D, _) (by k_mem)).2.2
        · exact (N4 (f, _) (by k_mem)).2.2
        · exact (N4 (c, _) (by k_mem)).2.2
        · exact (N4 (L + 1 + 1, _) (by k_mem)).2.2
        · exact (N4 (L + 1 + 1 + 1, _) (by k_mem)).2.2
        · exact (N4 (L + 1, _) (by k_mem)).2.2
      case p1 => exact ⟨hg0.trans F4.keep⟩
      case p2 => rfl
      case p3 => show dp + 1 + 22 + 10 < _; omega
      case p4 => show un + 3 + 3 * 22 + 40 < _; omega
      case p6 => omega
      case p7 => have := nd_pos hn ha0; omega
      case p8 => rw [List.length_replicate]; omega
      case p9 => rw [List.length_replicate]; omega
      case p10 => rw [Int.sub_zero, Int.toNat_natCast]; exact lt_nd hn ha
      case p11 => omega
      intro h5 tk5 vals5 bt5 hl5 hi5
      dsimp only
      have e0 : Int.toNat 0 = 0 := rfl
      rw [e0, Int.toNat_natCast, wr_all _ _ _ _ (List.length_replicate ..)] at hi5
      have hDL : L ∉ [D] := by
        simp only [List.mem_cons, List.not_mem_nil, or_false]
        exact neN (by omega)
      have F5 := bt5.fr F4 (by simpa using (N4 (D, _) (by k_mem)).2.2) hDL
      have N5 := news_cons hl5 (by simpa using fun q => hDL (by simp [q])) (N4 (D, _) (by k_mem)).2.2 (bt5.news (news_sub N4 (.cons _ (.cons_cons _ (.cons _ (.cons _ (.cons_cons _ (.cons_cons _ (.cons_cons _ (.cons_cons _ .slnil)))))))))
        (by simp only [List.mem_cons, List.not_mem_nil, or_false]; rintro q (h | h | h | h | h) <;> rw [h] <;> exact neN (by dsimp only; omega)))
      clear N4 F4
      k_steps
      show Q _ _
      refine hret D _ _ vals5 0 (but_end2 F5 N5 hb0 (by intro b hb hS; exact absurd hb hS)) (.inr ⟨c, oc, vs, t, (N5 (58, _) (by k_mem)).1, (N5 (c, _) (by k_mem)).1, dc1, dc2, hgl _ (N5 (c, _) (by k_mem)).2.2, ?_, ?_, ?_⟩) ?_ hl5 hi5
      · exact neN (by omega)
      · exact neN (by omega)
      · exact neN (by omega)
      · cases q : s.heap.get? D with
        | none => rfl
        | some o => exact absurd (hb0 _ _ (by simp only [List.mem_cons, List.not_mem_nil, or_false]; exact neN (by omega)) q) (by rw [(N5 (D, _) (by k_mem)).2.2]; nofun)
    · rename News _ _ _ _ => N4
      rename Fr _ _ _ _ => F4
      rename a = 0 => ha0
      rename_i o1 o2 o3 d1 d2 d3 lz hz lz1 D hD i1 n1 s1 e1 e2 e3 lD hE oA dA f c oc vs t ct dc hF tkF dc1 dc2 lc lf hG oI dI
      have hi4 : IntsAre (List.replicate ((↑(Builtin.Int.intBits a) + ↑n - 1 : Int).fdiv ↑n).toNat [Value.int 0 tk]).flatten (List.replicate (nd a n) 0) := by rw [hnd, Int.toNat_natCast, rep_flat]; exact ints_rep _ _
      have hgl : ∀ b, h₀.get? b = none → g.get? b = none := fun b e => by
        cases q : g.get? b with
        | none => rfl
        | some o => rw [hg0 _ _ q] at e; cases e
      show Q _ _
      refine hret D _ _ _ 0 (but_end2 F4 N4 hb0 (by intro b hb hS; exact absurd hb hS)) (.inr ⟨c, oc, vs, t, (N4 (58, _) (by k_mem)).1, (N4 (c, _) (by k_mem)).1, dc1, dc2, hgl _ (N4 (c, _) (by k_mem)).2.2, ?_, ?_, ?_⟩) ?_ (N4 (D, _) (by k_mem)).1 ?_
      · exact neN (by omega)
      · exact neN (by omega)
      · exact neN (by omega)
      · cases q : s.heap.get? D with
        | none => rfl
        | some o => exact absurd (hb0 _ _ (by simp only [List.mem_cons, List.not_mem_nil, or_false]; exact neN (by omega)) q) (by rw [(N4 (D, _) (by k_mem)).2.2]; nofun)
      · have e : digs n (nd a n) a = List.replicate (nd a n) 0 := by rw [ha0]; exact digs_zero _ _
        rw [e]
        exact hi4
  · obtain ⟨h₀, hk0, hs0, hh0, hb0, X, T, hg0⟩ := base_of Rt O [58, c] (by
      intro b hb
      simp only [List.mem_cons, List.not_mem_nil, or_false] at hb
      rcases hb with h | h <;> rw [h]
      · exact Rt.n1
      · exact hc4)
    revert X
    k_fill
    intro X
    have XS := O.X Rt
    k_dflt (refine' enterCK (binds := [("a", .int a ta), ("n", .int n tn)]) (news := [(58, tabObj #[rawInt ((33 : Nat) : Int), rawInt ((4 : Nat) : Int), .ref c]), (c, oc)]) XS (O.T Rt) hk0 hs0 ?k3 ?k6 ?k7 ?k8 ?k9 ?kB ?kC ?_ ?c2 ?c3 ?c4; (case k6 => k_is); (case k7 => k_is); (case k8 => (dsimp only; omega)); (case k9 => exact BindsTo.of_eq rfl); (case kB => exact rfl); (case kC => decide); (case c2 => exact rfl); (case c3 => exact rfl); (case c4 => exact rfl))
    case k3 => 
      intro q hq
      simp only [List.mem_cons, List.not_mem_nil, or_false] at hq
      rcases hq with h | h <;> rw [h]
      · exact ⟨hT, hh0 58 (by simp)⟩
      · exact ⟨hc1, hh0 c (by simp)⟩
    have hcs := ltN (Heap.lt_size hc1)
    have hc5' := neN hc5
    have hc6' := neN hc6
    have hc7' := neN hc7
    intro L h₁ tk cells hL F N Y hk1
    (try k_fold)
    k_cells Y
    simp only [List.cons_append, List.nil_append] at N
    have C1 := Rt.c1.keeps hg0
    k_steps
    · rename News _ _ _ _ => N4
      rename Fr _ _ _ _ => F4
      rename a ≠ 0 => ha0
      rename_i o1 o2 o3 d1 d2 d3 lz hz lz1 D hD i1 n1 s1 e1 e2 e3 lD hE oA dA f ct dc hF tkF lf hG oI dI
      subst e1
      have hlen : (List.replicate ((↑(Builtin.Int.intBits a) + ↑n - 1 : Int).fdiv ↑n).toNat [(0 : Int)]).flatten.length = nd a n := by rw [hnd, Int.toNat_natCast, rep_flat, List.length_replicate]
      have hi4 : IntsAre (List.replicate ((↑(Builtin.Int.intBits a) + ↑n - 1 : Int).fdiv ↑n).toNat [Value.int 0 tk]).flatten (List.replicate (nd a n) 0) := by rw [hnd, Int.toNat_natCast, rep_flat]; exact ints_rep _ _
      rw [hlen, List.nil_append]
      have hgl : ∀ b, h₀.get? b = none → g.get? b = none := fun b e => by
        cases q : g.get? b with
        | none => rfl
        | some o => rw [hg0 _ _ q] at e; cases e
      refine' innerA_spec (f := f) (cA := L + 1 + 1) (cI := L + 1 + 1 + 1) (cN := L + 1) (lst := D) (cc := c) (n := n) (oA := oA) (oI := oI) (oN := o3) (oc := oc) Rt hn hn1 dA dI ?dN hc2 hc3 ?df ?l1 ?l2 ?l3 ?l4 ?l5 ?hg 22 _ _ _ _ _ _ _ _ _ _ _ _ 0 ?p1 ?p2 ?p3 ?p4 hi4 ?p5 ?p6 ?p7 ?p8 ?p9 ha ?p10 ?p11 ?_
      case p5 =>
        intro q hq
        simp only [List.mem_cons, List.not_mem_nil, or_false] at hq
        rcases hq with h | h | h | h | h | h <;> rw [h]
        · exact (N4 (D, _) (by k_mem)).1
        · exact (N4 (f, _) (by k_mem)).1
        · exact (N4 (c, _) (by k_mem)).1
        · exact (N4 (L + 1 + 1, _) (by k_mem)).1
        · exact (N4 (L + 1 + 1 + 1, _) (by k_mem)).1
        · exact (N4 (L + 1, _) (by k_mem)).1
      case dN => exact d3
      case df => exact rfl
      case l1 => refine neN ?_; omega
      case l2 => refine neN ?_; omega
      case l3 => refine neN ?_; omega
      case l4 => refine neN ?_; omega
      case l5 => refine neN ?_; omega
      case hg =>
        intro b hb
        apply hgl
        simp only [List.mem_cons, List.not_mem_nil, or_false] at hb
        rcases hb with h | h | h | h | h | h <;> rw [h]
        · exact (N4 (D, _) (by k_mem)).2.2
        · exact (N4 (f, _) (by k_mem)).2.2
        · exact (N4 (c, _) (by k_mem)).2.2
        · exact (N4 (L + 1 + 1, _) (by k_mem)).2.2
        · exact (N4 (L + 1 + 1 + 1, _) (by k_mem)).2.2
        · exact (N4 (L + 1, _) (by k_mem)).2.2
      case p1 => exact ⟨hg0.trans F4.keep⟩
      case p2 => rfl
      case p3 => show dp + 1 + 22 + 10 < _; omega
      case p4 => show un + 3 + 3 * 22 + 40 < _; omega
      case p6 => omega
      case p7 => have := nd_pos hn ha0; omega
      case p8 => rw [List.length_replicate]; omega
      case p9 => rw [List.length_replicate]; omega
      case p10 => rw [Int.sub_zero, Int.toNat_natCast]; exact lt_nd hn ha
      case p11 => omega
      intro h5 tk5 vals5 bt5 hl5 hi5
      dsimp only
      have e0 : Int.toNat 0 = 0 := rfl
      rw [e0, Int.toNat_natCast, wr_all _ _ _ _ (List.length_replicate ..)] at hi5
      have hDL : L ∉ [D] := by
        simp only [List.mem_cons, List.not_mem_nil, or_false]
        exact neN (by omega)
      have F5 := bt5.fr F4 (by simpa using (N4 (D, _) (by k_mem)).2.2) hDL
      have N5 := news_cons hl5 (by simpa using fun q => hDL (by simp [q])) (N4 (D, _) (by k_mem)).2.2 (bt5.news (news_sub N4 (.cons _ (.cons _ (.cons _ (.cons_cons _ (.cons_cons _ (.cons_cons _ (.cons_cons _ (.cons_cons _ .slnil)))))))))
        (by simp only [List.mem_cons, List.not_mem_nil, or_false]; rintro q (h | h | h | h | h) <;> rw [h] <;> exact neN (by dsimp only; omega)))
      clear N4 F4
      k_steps
      show Q _ _
      refine hret D _ _ vals5 0 (but_end2 F5 N5 hb0 (by intro b hb hS; simp only [List.mem_cons, List.not_mem_nil, or_false] at hb hS; rcases hb with h | h; exact absurd h hS; rw [h]; exact ⟨oc, by k_mem, hc1⟩)) (.inr ⟨c, oc, vs, t, (N5 (58, _) (by k_mem)).1, (N5 (c, _) (by k_mem)).1, hc2, hc3, hgl _ (N5 (c, _) (by k_mem)).2.2, ?_, ?_, ?_⟩) ?_ hl5 hi5
      · exact neN (by omega)
      · exact neN (by omega)
      · exact neN (by omega)
      · cases q : s.heap.get? D with
        | none => rfl
        | some o => exact absurd (hb0 _ _ (by simp only [List.mem_cons, List.not_mem_nil, or_false, not_or]; exact ⟨neN (by omega), neN (by omega)⟩) q) (by rw [(N5 (D, _) (by k_mem)).2.2]; nofun)
    · rename News _ _ _ _ => N4
      rename Fr _ _ _ _ => F4
      rename a = 0 => ha0
      rename_i o1 o2 o3 d1 d2 d3 lz hz lz1 D hD i1 n1 s1 e1 e2 e3 lD hE oA dA f ct dc hF tkF lf hG oI dI
      have hi4 : IntsAre (List.replicate ((↑(Builtin.Int.intBits a) + ↑n - 1 : Int).fdiv ↑n).toNat [Value.int 0 tk]).flatten (List.replicate (nd a n) 0) := by rw [hnd, Int.toNat_natCast, rep_flat]; exact ints_rep _ _
      have hgl : ∀ b, h₀.get? b = none → g.get? b = none := fun b e => by
        cases q : g.get? b with
        | none => rfl
        | some o => rw [hg0 _ _ q] at e; cases e
      show Q _ _
      refine hret D _ _ _ 0 (but_end2 F4 N4 hb0 (by intro b hb hS; simp only [List.mem_cons, List.not_mem_nil, or_false] at hb hS; rcases hb with h | h; exact absurd h hS; rw [h]; exact ⟨oc, by k_mem, hc1⟩)) (.inr ⟨c, oc, vs, t, (N4 (58, _) (by k_mem)).1, (N4 (c, _) (by k_mem)).1, hc2, hc3, hgl _ (N4 (c, _) (by k_mem)).2.2, ?_, ?_, ?_⟩) ?_ (N4 (D, _) (by k_mem)).1 ?_
      · exact neN (by omega)
      · exact neN (by omega)
      · exact neN (by omega)
      · cases q : s.heap.get? D with
        | none => rfl
        | some o => exact absurd (hb0 _ _ (by simp only [List.mem_cons, List.not_mem_nil, or_false, not_or]; exact ⟨neN (by omega), neN (by omega)⟩) q) (by rw [(N4 (D, _) (by k_mem)).2.2]; nofun)
      · have e : digs n (nd a n) a = List.replicate (nd a n) 0 := by rw [ha0]; exact digs_zero _ _
        rw [e]
        exact hi4
end Mine
end
section
open PySem PySem.W PyProof.Rows PySem.Spec PySem.Calls
namespace Mine
section
variable {M : Model} {A : Around} {E : Value → Shared → Prop} {s : Shared} {h₀ : Heap} {L a : Addr} {m : Str → Option Value} {cn : Str} {cs : Scope} {ccd : Value} {cl : List (Str × Addr)} {x : Str} {pos : Pos} {v : Value} {Q : Value → Shared → Prop} {c : Addr} {oc : Obj}
/-- a free name whose cell lies in the base -/
theorem free_B (F : Fr h₀ L s.heap m) (hc : cl.lookup x = some c) (hm : h₀.get? c = some oc) (hd : oc.data = .cell (some v)) (h : Q v s)
    (hk : cs.kind = .function) (hx : (envX cn cs L a ccd cl).kindOf x = some .free) (hb : (x == ("__debug__" : Str)) = false) (hn : (x == ("__classdict__" : Str)) = false) :
    wpAny M A (eval (.Name x pos) (envX cn cs L a ccd cl)) Q E s := wpAny_Name (wpAny_loadName_free hk hx hc ⟨_, F.keep _ _ hm, hd⟩ h hn) hb
end
theorem fnAt_get {h : Heap} {f : Addr} {fo : Obj} {fd : FuncData} (e : h.get? f = some fo) (hd : fo.data = .func fd) : FnAt f h := by
  obtain ⟨c, d, dt, sl⟩ := fo
  dsimp only at hd
  subst hd
  exact ⟨c, d, fd, sl, e⟩
noncomputable abbrev fdB (w : World) (cD cI cN cc : Addr) (doc pm ctv : Value) : FuncData := fnX "inner" qB (inBpar w) (inBbody w) (inBscope w) [("n", cN), ("inner", cI), ("digits", cD)] .none .none doc pm none (.ref cc) ctv
local macro_rules | `(tactic| walk_at "eval Name") => `(tactic| (k_here; kc_free; k_dflt (refine' free_B ?N ?c ?m ?d ?_ ?a ?b ?e ?f; (case b => exact rfl); (case a => exact rfl); (case c => exact rfl); (case N => with_reducible assumption); (case m => with_reducible assumption); (case d => with_reducible assumption); (case e => decide); (case f => decide); k_whole)))
local macro_rules | `(tactic| walk_at "binaryOp RShift int int") => `(tactic| (k_here; (refine' rshift_int ?a ?_; (case a => first | with_reducible assumption | decide); k_whole)))
local macro_rules | `(tactic| walk_at "binaryOp LShift int int") => `(tactic| (k_here; (refine' lshift_int ?a ?b ?_; (case a => with_reducible assumption); (case b => with_reducible assumption); k_whole)))
local macro_rules | `(tactic| walk_at "callWith") => `(tactic| (k_here; k_dflt (refine' callWith_F ?a ?_ ?b ?c; (case b => rfl); (case c => rfl); (case a => (refine' fnAt_get ?N ?d; (case N => exact Fr.keep (by with_reducible assumption) _ _ (by with_reducible assumption)); (case d => with_reducible assumption))))))
set_option maxRecDepth 100000 in
set_option maxHeartbeats 1000000 in
theorem innerB_spec {w : World} {p : Program} {loose : List Str} {mean : ExcName → Option Value} {mg mb : Str → Option Value} {g : Heap} {f cD cI cN lst cc : Addr} {doc pm ctv : Value} {n : Nat} {tn tq : Tok} {oD oI oN oc fo : Obj} {vs : Array Value} {vals : List Value} {ns : List Int} {ep : Nat}
    (Rt : Root w p loose mean mg mb g) (hn : 0 < n)
    (dD : oD.data = .cell (some (.ref lst))) (dI : oI.data = .cell (some (.ref f))) (dN : oN.data = .cell (some (.int n tn))) (dc : oc.data = .fields vs) (dv : vs[1]? = some (.str qB tq))
    (df : fo.data = .func (fdB w cD cI cN cc doc pm ctv)) (hi : IntsAre vals ns) (hok : DigOk n ns) (hfit : n * ns.length ≤ 2 ^ 26) (k : Nat) :
    ∀ (A : Around) (s : Shared) (Q E : Value → Shared → Prop) (l r : Int) (tL tR : Tok),
    On g s.heap → A.handled = none → A.depth + k + 10 < recursionLimit → A.units + 3 * k + 40 < cLine →
    s.heap.get? lst = some (listOf vals.toArray ep) → s.heap.get? f = some fo → s.heap.get? cc = some oc → s.heap.get? cD = some oD → s.heap.get? cI = some oI → s.heap.get? cN = some oN →
    0 ≤ l → l < r → r ≤ ns.length → r - l ≤ 2 ^ k →
    (∀ h' tk' t, Keep s.heap h' → Q (.int (val n (cut ns l.toNat r.toNat)) t) { s with heap := h', toks := tk' }) →
    wpAny (model PySem.Challenge.rw_rs0116_01.row.prog w) A (call (.ref f) [.int l tL, .int r tR]) Q E s := by
  induction k using Nat.strongRecOn with
  | ind k IH =>
  intro A s Q E l r tL tR O hA hdp hun hlst hf hcc hcD hcI hcN hl0 hLR hR hk hret
  w_on
  have X := O.X Rt
  have T := O.T Rt
  revert X
  k_fill
  intro X
  have hm := fdiv2 l r
  have hns : ns.length ≤ n * ns.length := Nat.le_mul_of_pos_left _ hn
  obtain ⟨ah, dp, fr, gd, un⟩ := A
  dsimp only at hA hdp hun
  subst hA
  refine wpAny_call ?_
  have df' := df
  dsimp only [fdB] at df'
  conv at df' in (inBbody w) => whnf
  conv at df' in (inBpar w) => whnf
  conv at df' in (inBscope w) => whnf
  k_dflt (refine' enterX (news := []) (binds := [("L", .int l tL), ("R", .int r tR)]) (O.T Rt) (Keep.refl _) (Nat.le_refl _) ?k3 hf df' ?k7 ?k8 ?k9 ?kB ?_ ?c2 ?c3 ?c4 ?c5;  (case k8 => (dsimp only; omega)); (case k9 => exact BindsTo.of_eq rfl); (case kB => exact locs rfl);  (case c5 => decide); (case c2 => exact rfl); (case c3 => exact rfl); (case c4 => exact rfl))
  case k3 => intro q hq; cases hq
  case k7 => exact ⟨cc, oc, vs, tq, rfl, hcc, dc, dv⟩
  clear df'
  intro L h₁ hL F N hk1
  have hIL : s.heap.IsList lst vals.toArray := ⟨_, hlst, rfl, _, rfl⟩
  (try k_fold)
  k_steps
  · rename l + 1 = r => hlr
    subst hlr
    show Q _ _
    have e : (l + 1).toNat = l.toNat + 1 := by omega
    have e2 := cut_one (ns := ns) (n := n) (l := l.toNat) (by omega)
    rw [← e2, ← e]
    exact hret _ _ _ F.keep
  · rename l + 1 ≠ r => hlr
    rename Fr _ _ _ _ => F2
    have k1 : 1 ≤ k := by
      rcases Nat.eq_zero_or_pos k with h0 | h0
      · subst h0; omega
      · exact h0
    have kk : (2 : Int) ^ k = 2 * 2 ^ (k - 1) := by
      obtain ⟨j, rfl⟩ : ∃ j, k = j + 1 := ⟨k - 1, by omega⟩
      rw [Int.pow_succ, Int.mul_comm]; rfl
    have hmid := mid_lt hLR hlr
    have hse : (((l + r).fdiv (2 ^ Int.toNat 1) - l) * n) = ((n * (((l + r) / 2).toNat - l.toNat) : Nat) : Int) := by
      rw [hm, Int.natCast_mul, Int.mul_comm]
      congr 1
      omega
    have e1 : ((l + r).fdiv (2 ^ Int.toNat 1)).toNat = ((l + r) / 2).toNat := by rw [hm]
    have hsh : 0 ≤ ((l + r).fdiv (2 ^ Int.toNat 1) - l) * n := by rw [hse]; exact Int.natCast_nonneg _
    have hhi := val_bounds (cut_ok hok ((l + r).fdiv (2 ^ Int.toNat 1)).toNat r.toNat)
    have hsz : (Builtin.Int.intBits (val n (cut ns ((l + r).fdiv (2 ^ Int.toNat 1)).toNat r.toNat)) : Int) + (((l + r).fdiv (2 ^ Int.toNat 1) - l) * n) ≤ 2 ^ 27 := by
      have hb : Builtin.Int.intBits (val n (cut ns ((l + r).fdiv (2 ^ Int.toNat 1)).toNat r.toNat)) ≤ n * ns.length := by
        refine intBits_le_iff.mpr ?_
        have h1 : (cut ns ((l + r).fdiv (2 ^ Int.toNat 1)).toNat r.toNat).length ≤ ns.length := by
          rw [List.length_take, List.length_drop]; omega
        have h2 : (2 : Int) ^ (n * (cut ns ((l + r).fdiv (2 ^ Int.toNat 1)).toNat r.toNat).length) ≤ ((2 ^ (n * ns.length) : Nat) : Int) := by
          push_cast
          exact_mod_cast Nat.pow_le_pow_right (by decide : 0 < 2) (Nat.mul_le_mul_left n h1)
        omega
      have hb2 : n * (((l + r) / 2).toNat - l.toNat) ≤ n * ns.length := Nat.mul_le_mul_left _ (by omega)
      rw [hse]
      omega
    refine' IH (k - 1) (by omega) _ _ _ _ _ _ _ _ ?o1 ?o2 ?o3 ?o4 (F2.keep _ _ hlst) (F2.keep _ _ hf) (F2.keep _ _ hcc) (F2.keep _ _ hcD) (F2.keep _ _ hcI) (F2.keep _ _ hcN) ?o5 ?o6 ?o7 ?o8 ?_
    case o1 => exact ⟨O.keep.trans F2.keep⟩
    case o2 => rfl
    case o3 => show dp + 1 + (k - 1) + 10 < _; omega
    case o4 => show un + 3 + 3 * (k - 1) + 40 < _; omega
    case o5 => rw [hm]; omega
    case o6 => rw [hm]; omega
    case o7 => omega
    case o8 => rw [hm]; omega
    intro h3 tk3 t3 hk3
    dsimp only
    have F3 := (show But [] _ _ from fun b o _ e => hk3 b o e).fr F2 (by simp) (by simp)
    have N3 : News s.heap L h3 [] := by intro q hq; cases hq
    clear F2
    k_steps
    refine' IH (k - 1) (by omega) _ _ _ _ _ _ _ _ ?o1 ?o2 ?o3 ?o4 (F3.keep _ _ hlst) (F3.keep _ _ hf) (F3.keep _ _ hcc) (F3.keep _ _ hcD) (F3.keep _ _ hcI) (F3.keep _ _ hcN) ?o5 ?o6 ?o7 ?o8 ?_
    case o1 => exact ⟨O.keep.trans F3.keep⟩
    case o2 => rfl
    case o3 => show dp + 1 + (k - 1) + 10 < _; omega
    case o4 => show un + 3 + 3 * (k - 1) + 40 < _; omega
    case o5 => omega
    case o6 => rw [hm]; omega
    case o7 => rw [hm]; omega
    case o8 => rw [hm]; omega
    intro h4 tk4 t4 hk4
    dsimp only
    have F4 := (show But [] _ _ from fun b o _ e => hk4 b o e).fr F3 (by simp) (by simp)
    have N4 : News s.heap L h4 [] := by intro q hq; cases hq
    clear F3
    k_steps
    show Q _ _
    have e5 : val n (cut ns ((l + r).fdiv (2 ^ Int.toNat 1)).toNat r.toNat) * 2 ^ (((l + r).fdiv (2 ^ Int.toNat 1) - l) * ↑n).toNat + val n (cut ns l.toNat ((l + r).fdiv (2 ^ Int.toNat 1)).toNat) = val n (cut ns l.toNat r.toNat) := by
      rw [hse, Int.toNat_natCast, e1, cut_two (ns := ns) (l := l.toNat) (m := ((l + r) / 2).toNat) (r := r.toNat) (by omega) (by omega), val_append, cut_length (by omega) (by omega), Int.add_comm, Int.mul_comm]
    rw [e5]
    exact hret _ _ _ F4.keep
end Mine
end
section
open PySem PySem.W PyProof.Rows PySem.Spec PySem.Calls
namespace Mine
set_option maxRecDepth 100000 in
set_option maxHeartbeats 1000000 in
theorem d2i_spec {w : World} {p : Program} {loose : List Str} {mean : ExcName → Option Value} {mg mb : Str → Option Value} {g : Heap} {A : Around} {s : Shared} {Q E : Value → Shared → Prop} {lst : Addr} {vals : List Value} {ns : List Int} {ep n : Nat} {tn : Tok}
    (Rt : Root w p loose mean mg mb g) (O : On g s.heap) (hA : A.handled = none) (hdp : A.depth + 60 < recursionLimit) (hun : A.units + 200 < cLine)
    (hn : 0 < n) (hlst : s.heap.get? lst = some (listOf vals.toArray ep)) (hi : IntsAre vals ns) (hok : DigOk n ns) (hfit : n * ns.length ≤ 2 ^ 26) (hlen : ns.length ≤ 2 ^ 21) (hT : TabOk g 65 48 4 qB s.heap)
    (hret : ∀ h' tk' t, But [65] s.heap h' → TabOk g 65 48 4 qB h' → Q (.int (val n ns) t) { s with heap := h', toks := tk' }) :
    wpAny (model PySem.Challenge.rw_rs0116_01.row.prog w) A (call (.ref 70) [.ref lst, .int n tn]) Q E s := by
  w_on
  obtain ⟨ah, dp, fr, gd, un⟩ := A
  dsimp only at hA hdp hun
  subst hA
  refine wpAny_call ?_
  have hLo := O.lo Rt
  have hvl := hi.length
  rcases hT with hT | ⟨c, oc, vs, t, hT, hc1, hc2, hc3, hc4, hc5, hc6, hc7⟩
  · obtain ⟨h₀, hk0, hs0, hh0, hb0, X, T, hg0⟩ := base_of Rt O [65] (by simpa using Rt.n2)
    have hl0 : h₀.get? lst = some (listOf vals.toArray ep) := hb0 _ _ (by
      simp only [List.mem_cons, List.not_mem_nil, or_false]
      intro h; rw [h, hT] at hlst; cases hlst) hlst
    have hIL : h₀.IsList lst vals.toArray := ⟨_, hl0, rfl, _, rfl⟩
    revert X
    k_fill
    intro X
    have XS := O.X Rt
    k_dflt (refine' enterCK (binds := [("digits", .ref lst), ("n", .int n tn)]) (news := [(65, tabObj #[])]) XS (O.T Rt) hk0 hs0 ?k3 ?k6 ?k7 ?k8 ?k9 ?kB ?kC ?_ ?c2 ?c3 ?c4; (case k6 => k_is); (case k7 => k_is); (case k8 => (dsimp only; omega)); (case k9 => exact BindsTo.of_eq rfl); (case kB => exact rfl); (case kC => decide); (case c2 => exact rfl); (case c3 => exact rfl); (case c4 => exact rfl))
    case k3 => 
      intro q hq
      simp only [List.mem_cons, List.not_mem_nil, or_false] at hq
      subst hq
      exact ⟨hT, hh0 65 (by simp)⟩
    intro L h₁ tk cells hL F N Y hk1
    (try k_fold)
    k_cells Y
    simp only [List.cons_append, List.nil_append] at N
    have C1 := Rt.c2.keeps hg0
    k_steps
    · rename News _ _ _ _ => N4
      rename Fr _ _ _ _ => F4
      rename 0 < ns.length => hpos
      rename_i o1 o2 o3 d1 d2 d3 f c oc vs t ct dc hF tkF dc1 dc2 lc lf hG oI dI
      have hgl : ∀ b, h₀.get? b = none → g.get? b = none := fun b e => by
        cases q : g.get? b with
        | none => rfl
        | some o => rw [hg0 _ _ q] at e; cases e
      rw [List.nil_append]
      refine' innerB_spec (f := f) (cD := L + 1) (cI := L + 1 + 1 + 1) (cN := L + 1 + 1) (lst := lst) (cc := c) (n := n) (oD := o3) (oI := oI) (oN := o2) (oc := oc) Rt hn ?dD dI ?dN dc1 dc2 ?df hi hok hfit 21 _ _ _ _ _ _ _ _ ?p1 ?p2 ?p3 ?p4 (F4.keep _ _ hl0) (N4 (f, _) (by k_mem)).1 (N4 (c, _) (by k_mem)).1 (N4 (L + 1, _) (by k_mem)).1 (N4 (L + 1 + 1 + 1, _) (by k_mem)).1 (N4 (L + 1 + 1, _) (by k_mem)).1 ?p6 ?p7 ?p8 ?p9 ?_
      case dD => exact d3
      case dN => exact d2
      case df => exact rfl
      case p1 => exact ⟨hg0.trans F4.keep⟩
      case p2 => rfl
      case p3 => show dp + 1 + 21 + 10 < _; omega
      case p4 => show un + 3 + 3 * 21 + 40 < _; omega
      case p6 => omega
      case p7 => omega
      case p8 => omega
      case p9 => omega
      intro h5 tk5 t5 hk5
      dsimp only
      have e0 : Int.toNat 0 = 0 := rfl
      rw [e0, Int.toNat_natCast, cut_all]
      have F5 := (show But [] _ _ from fun b o _ e => hk5 b o e).fr F4 (by simp) (by simp)
      have N5 := (show But [] _ _ from fun b o _ e => hk5 b o e).news N4 (by simp)
      show Q _ _
      refine hret _ _ _ (but_end2 F5 N5 hb0 (by intro b hb hS; exact absurd hb hS)) (.inr ⟨c, oc, vs, t, (N5 (65, _) (by k_mem)).1, (N5 (c, _) (by k_mem)).1, dc1, dc2, hgl _ (N5 (c, _) (by k_mem)).2.2, ?_, ?_, ?_⟩)
      · exact neN (by omega)
      · exact neN (by omega)
      · exact neN (by omega)
    · rename News _ _ _ _ => N4
      rename Fr _ _ _ _ => F4
      rename ¬ 0 < ns.length => hpos
      rename_i o1 o2 o3 d1 d2 d3 f c oc vs t ct dc hF tkF dc1 dc2 lc lf hG oI dI
      have hgl : ∀ b, h₀.get? b = none → g.get? b = none := fun b e => by
        cases q : g.get? b with
        | none => rfl
        | some o => rw [hg0 _ _ q] at e; cases e
      have e : ns = [] := List.eq_nil_of_length_eq_zero (by omega)
      have e2 : val n ns = 0 := by rw [e]; rfl
      rw [← e2]
      refine hret _ _ _ (but_end2 F4 N4 hb0 (by intro b hb hS; exact absurd hb hS)) (.inr ⟨c, oc, vs, t, (N4 (65, _) (by k_mem)).1, (N4 (c, _) (by k_mem)).1, dc1, dc2, hgl _ (N4 (c, _) (by k_mem)).2.2, ?_, ?_, ?_⟩)
      · exact neN (by omega)
      · exact neN (by omega)
      · exact neN (by omega)
  · obtain ⟨h₀, hk0, hs0, hh0, hb0, X, T, hg0⟩ := base_of Rt O [65, c] (by
      intro b hb
      simp only [List.mem_cons, List.not_mem_nil, or_false] at hb
      rcases hb with h | h <;> rw [h]
      · exact Rt.n2
      · exact hc4)
    have hl0 : h₀.get? lst = some (listOf vals.toArray ep) := hb0 _ _ (by
      simp only [List.mem_cons, List.not_mem_nil, or_false, not_or]
      refine ⟨?_, ?_⟩
      · intro h; rw [h, hT] at hlst; cases hlst
      · intro h; rw [h, hc1] at hlst; cases hlst; cases hc2) hlst
    have hIL : h₀.IsList lst vals.toArray := ⟨_, hl0, rfl, _, rfl⟩
    revert X
    k_fill
    intro X
    have XS := O.X Rt
    k_dflt (refine' enterCK (binds := [("digits", .ref lst), ("n", .int n tn)]) (news := [(65, tabObj #[rawInt ((48 : Nat) : Int), rawInt ((4 : Nat) : Int), .ref c]), (c, oc)]) XS (O.T Rt) hk0 hs0 ?k3 ?k6 ?k7 ?k8 ?k9 ?kB ?kC ?_ ?c2 ?c3 ?c4; (case k6 => k_is); (case k7 => k_is); (case k8 => (dsimp only; omega)); (case k9 => exact BindsTo.of_eq rfl); (case kB => exact rfl); (case kC => decide); (case c2 => exact rfl); (case c3 => exact rfl); (case c4 => exact rfl))
    case k3 => 
      intro q hq
      simp only [List.mem_cons, List.not_mem_nil, or_false] at hq
      rcases hq with h | h <;> rw [h]
      · exact ⟨hT, hh0 65 (by simp)⟩
      · exact ⟨hc1, hh0 c (by simp)⟩
    have hcs := ltN (Heap.lt_size hc1)
    have hc5' := neN hc5
    have hc6' := neN hc6
    have hc7' := neN hc7
    intro L h₁ tk cells hL F N Y hk1
    (try k_fold)
    k_cells Y
    simp only [List.cons_append, List.nil_append] at N
    have C1 := Rt.c2.keeps hg0
    k_steps
    · rename News _ _ _ _ => N4
      rename Fr _ _ _ _ => F4
      rename 0 < ns.length => hpos
      rename_i o1 o2 o3 d1 d2 d3 f ct dc hF tkF lf hG oI dI
      have hgl : ∀ b, h₀.get? b = none → g.get? b = none := fun b e => by
        cases q : g.get? b with
        | none => rfl
        | some o => rw [hg0 _ _ q] at e; cases e
      rw [List.nil_append]
      refine' innerB_spec (f := f) (cD := L + 1) (cI := L + 1 + 1 + 1) (cN := L + 1 + 1) (lst := lst) (cc := c) (n := n) (oD := o3) (oI := oI) (oN := o2) (oc := oc) Rt hn ?dD dI ?dN hc2 hc3 ?df hi hok hfit 21 _ _ _ _ _ _ _ _ ?p1 ?p2 ?p3 ?p4 (F4.keep _ _ hl0) (N4 (f, _) (by k_mem)).1 (N4 (c, _) (by k_mem)).1 (N4 (L + 1, _) (by k_mem)).1 (N4 (L + 1 + 1 + 1, _) (by k_mem)).1 (N4 (L + 1 + 1, _) (by k_mem)).1 ?p6 ?p7 ?p8 ?p9 ?_
      case dD => exact d3
      case dN => exact d2
      case df => exact rfl
      case p1 => exact ⟨hg0.trans F4.keep⟩
      case p2 => rfl
      case p3 => show dp + 1 + 21 + 10 < _; omega
      case p4 => show un + 3 + 3 * 21 + 40 < _; omega
      case p6 => omega
      case p7 => omega
      case p8 => omega
      case p9 => omega
      intro h5 tk5 t5 hk5
      dsimp only
      have e0 : Int.toNat 0 = 0 := rfl
      rw [e0, Int.toNat_natCast, cut_all]
      have F5 := (show But [] _ _ from fun b o _ e => hk5 b o e).fr F4 (by simp) (by simp)
      have N5 := (show But [] _ _ from fun b o _ e => hk5 b o e).news N4 (by simp)
      show Q _ _
      refine hret _ _ _ (but_end2 F5 N5 hb0 (by intro b hb hS; simp only [List.mem_cons, List.not_mem_nil, or_false] at hb hS; rcases hb with h | h; exact absurd h hS; rw [h]; exact ⟨oc, by k_mem, hc1⟩)) (.inr ⟨c, oc, vs, t, (N5 (65, _) (by k_mem)).1, (N5 (c, _) (by k_mem)).1, hc2, hc3, hgl _ (N5 (c, _) (by k_mem)).2.2, ?_, ?_, ?_⟩)
      · exact neN (by omega)
      · exact neN (by omega)
      · exact neN (by omega)
    · rename News _ _ _ _ => N4
      rename Fr _ _ _ _ => F4
      rename ¬ 0 < ns.length => hpos
      rename_i o1 o2 o3 d1 d2 d3 f ct dc hF tkF lf hG oI dI
      have hgl : ∀ b, h₀.get? b = none → g.get? b = none := fun b e => by
        cases q : g.get? b with
        | none => rfl
        | some o => rw [hg0 _ _ q] at e; cases e
      have e : ns = [] := List.eq_nil_of_length_eq_zero (by omega)
      have e2 : val n ns = 0 := by rw [e]; rfl
      rw [← e2]
      refine hret _ _ _ (but_end2 F4 N4 hb0 (by intro b hb hS; simp only [List.mem_cons, List.not_mem_nil, or_false] at hb hS; rcases hb with h | h; exact absurd h hS; rw [h]; exact ⟨oc, by k_mem, hc1⟩)) (.inr ⟨c, oc, vs, t, (N4 (65, _) (by k_mem)).1, (N4 (c, _) (by k_mem)).1, hc2, hc3, hgl _ (N4 (c, _) (by k_mem)).2.2, ?_, ?_, ?_⟩)
      · exact neN (by omega)
      · exact neN (by omega)
      · exact neN (by omega)
end Mine
end
section
open PySem PySem.W PyProof.Rows PySem.Spec PySem.Calls
namespace Mine
theorem ints_getElem {vals : List Value} {ns : List Int} (h : IntsAre vals ns) {j : Nat} {v : Value} (e : vals[j]? = some v) : ∃ d t, v = .int d t ∧ ns[j]? = some d := by
  induction h generalizing j with
  | nil => simp at e
  | cons i t h ih =>
    cases j with
    | zero => simp at e; exact ⟨i, t, e.symm, by simp⟩
    | succ j => simp at e; obtain ⟨d, u, e1, e2⟩ := ih e; exact ⟨d, u, e1, by simpa using e2⟩
theorem ints_snoc {vals : List Value} {ns : List Int} (h : IntsAre vals ns) (d : Int) (t : Tok) : IntsAre (vals ++ [.int d t]) (ns ++ [d]) := by
  induction h with
  | nil => exact .cons d t .nil
  | cons i u _ ih => exact .cons i u ih
theorem ints_append {vs ws : List Value} {ns ms : List Int} (h : IntsAre vs ns) (k : IntsAre ws ms) : IntsAre (vs ++ ws) (ns ++ ms) := by
  induction h with
  | nil => exact k
  | cons i u _ ih => exact .cons i u ih
theorem ints_reverse {vals : List Value} {ns : List Int} (h : IntsAre vals ns) : IntsAre vals.reverse ns.reverse := by
  induction h with
  | nil => exact .nil
  | cons i u _ ih => rw [List.reverse_cons, List.reverse_cons]; exact ints_snoc ih i u
theorem rev_take_succ {ns : List Int} {i : Nat} {d : Int} (hi : i < ns.length) (e : ns[ns.length - 1 - i]? = some d) : ns.reverse.take (i + 1) = ns.reverse.take i ++ [d] := by
  rw [List.take_add_one]
  have : ns.reverse[i]? = some d := by rw [List.getElem?_reverse hi, e]
  rw [this]; rfl
local macro_rules | `(tactic| walk_at "binaryOp LShift int int") => `(tactic| (k_here; (refine' lshift_int ?a ?b ?_; (case a => with_reducible assumption); (case b => with_reducible assumption); k_whole)))
/-- the loop's locals -/
abbrev M5 (n : Nat) (a b : Int) (ta tb tn : Tok) (ql lst : Addr) (r : Int) (tr : Tok) (B C : Option Value) : Str → Option Value := fun y => if y = Str.ofString "r" then some (.int r tr) else if y = Str.ofString "q_digit" then B else if y = Str.ofString "a_digit" then C else if y = Str.ofString "q_digits" then some (.ref ql) else if y = Str.ofString "a_digits" then some (.ref lst) else if y = Str.ofString "n" then some (.int n tn) else if y = Str.ofString "b" then some (.int b tb) else if y = Str.ofString "a" then some (.int a ta) else none
def J5 (n : Nat) (a b : Int) (ta tb tn : Tok) (ql lst : Addr) (tl : List (Addr × Obj)) (ds : List Int) (i : Nat) (m₁ : Str → Option Value) (news₁ : List (Addr × Obj)) : Prop :=
  ∃ (x : List Int × Int) (tr : Tok) (B C : Option Value) (qvals : List Value) (eq : Nat), m₁ = M5 n a b ta tb tn ql lst x.2 tr B C ∧ news₁ = (ql, listOf qvals.toArray eq) :: tl ∧ IntsAre qvals x.1 ∧ DmOk n b (ds.reverse.take i) x
set_option maxRecDepth 100000 in
set_option maxHeartbeats 1000000 in
theorem dmp_spec {w : World} {p : Program} {loose : List Str} {mean : ExcName → Option Value} {mg mb : Str → Option Value} {g : Heap} {A : Around} {s : Shared} {Q E : Value → Shared → Prop} {a b : Int} {ta tb : Tok}
    (Rt : Root w p loose mean mg mb g) (O : On g s.heap) (hA : A.handled = none) (hdp : A.depth + 70 < recursionLimit) (hun : A.units + 220 < cLine)
    (ha : 0 ≤ a) (hba : Builtin.Int.intBits a ≤ 2 ^ 21) (hb : 0 < b) (hb1 : b < 2 ^ 29) (hT1 : TabOk g 58 33 4 qA s.heap) (hT2 : TabOk g 65 48 4 qB s.heap)
    (hret : ∀ r h' tk' t1 t2, But [58, 65] s.heap h' → TabOk g 58 33 4 qA h' → TabOk g 65 48 4 qB h' → s.heap.get? r = none → h'.get? r = some { cls := .type "tuple", data := .seq #[.int (a / b) t1, .int (a % b) t2] } → Q (.ref r) { s with heap := h', toks := tk' }) :
    wpAny (model PySem.Challenge.rw_rs0116_01.row.prog w) A (call (.ref 77) [.int a ta, .int b tb]) Q E s := by
  w_on
  obtain ⟨ah, dp, fr, gd, un⟩ := A
  dsimp only at hA hdp hun
  subst hA
  refine wpAny_call ?_
  have hLo := O.lo Rt
  obtain ⟨h₀, hk0, hs0, hh0, hb0, X, T, hg0⟩ := base_of Rt O [58, 65] (by
    intro b hb
    simp only [List.mem_cons, List.not_mem_nil, or_false] at hb
    rcases hb with h | h <;> rw [h]
    · exact Rt.n1
    · exact Rt.n2)
  obtain ⟨p1, g1⟩ := hT1.get
  obtain ⟨p2, g2⟩ := hT2.get
  revert X
  k_fill
  intro X
  have XS := O.X Rt
  k_dflt (refine' enter (binds := [("a", .int a ta), ("b", .int b tb)]) (news := [(58, tabObj p1), (65, tabObj p2)]) XS (O.T Rt) hk0 hs0 ?k3 ?k6 ?k7 ?k8 ?k9 ?kB ?_ ?c2 ?c3 ?c4 ?c5; (case k6 => k_is); (case k7 => k_is); (case k8 => (dsimp only; omega)); (case k9 => exact BindsTo.of_eq rfl); (case kB => exact locs rfl); (case c5 => decide); (case c2 => exact rfl); (case c3 => exact rfl); (case c4 => exact rfl))
  case k3 => 
    intro q hq
    simp only [List.mem_cons, List.not_mem_nil, or_false] at hq
    rcases hq with h | h <;> rw [h]
    · exact ⟨g1, hh0 58 (by simp)⟩
    · exact ⟨g2, hh0 65 (by simp)⟩
  intro L h₁ hL F N hk1
  (try k_fold)
  k_steps
  rename News _ _ _ _ => N2
  rename Fr _ _ _ _ => F2
  have hLn : L ≠ 58 ∧ L ≠ 65 ∧ L ≠ 107 := ⟨neN (by omega), neN (by omega), neN (by omega)⟩
  have hn0 : 0 < Builtin.Int.intBits b := by
    rcases Nat.eq_zero_or_pos (Builtin.Int.intBits b) with h | h
    · have := intBits_le_iff.mp (Nat.le_of_eq h); omega
    · exact h
  have hn29 : Builtin.Int.intBits b ≤ 29 := intBits_le_iff.mpr (by omega)
  have K2 : But [] s.heap _ := but_end2 F2 N2 hb0 (by
    intro b hb _
    simp only [List.mem_cons, List.not_mem_nil, or_false] at hb
    rcases hb with h | h <;> rw [h]
    · exact ⟨_, by k_mem, g1⟩
    · exact ⟨_, by k_mem, g2⟩)
  refine' i2d_spec Rt ?o1 ?o2 ?o3 ?o4 hn0 (by omega) ha hba ?o5 ?_
  case o1 => exact ⟨hg0.trans F2.keep⟩
  case o2 => rfl
  case o3 => show dp + 1 + 60 < _; omega
  case o4 => show un + 3 + 200 < _; omega
  case o5 => exact hT1.but K2 (by simp) (by simp)
  intro lst h3 tk3 vals ep bt3 hT13 hln hlg hi3
  dsimp only
  obtain ⟨p3, g3⟩ := hT13.get
  have F3 := bt3.fr F2 (by simpa using hh0 58 (by simp)) (by simpa using hLn.1)
  have hl0 : h₀.get? lst = none := by
    cases q : h₀.get? lst with
    | none => rfl
    | some o => rw [F2.keep _ _ q] at hln; cases hln
  have hlL : lst ≠ L := by
    intro h
    obtain ⟨o, es, ep, e, _⟩ := F2.ns
    rw [h, e] at hln
    cases hln
  obtain ⟨tl, NT, htl, hcar⟩ := hT13.carry F3
  have N3 : News h₀ L h3 ((lst, listOf vals.toArray ep) :: (58, tabObj p3) :: (65, tabObj p2) :: tl) :=
    news_cons hlg hlL hl0 (news_cons g3 (fun h => hLn.1 h.symm) (hh0 58 (by simp)) (news_cons ((bt3.news (news_tail N2) (by simp)) (65, _) List.mem_cons_self).1 (fun h => hLn.2.1 h.symm) (hh0 65 (by simp)) NT))
  clear N2 F2
  have hIL : ∀ h, News h₀ L h [(lst, listOf vals.toArray ep)] → h.IsList lst vals.toArray := fun h N => ⟨_, (N _ List.mem_cons_self).1, rfl, _, rfl⟩
  k_steps
  rename News _ _ _ _ => N4
  rename Fr _ _ _ _ => F4
  rename_i hz1 hz2 hz3 ql hz4 lq hz5 D hD lD
  have htD : ∀ q ∈ tl, q.1 < D := allLt_mem lD.2.2.2.2
  have htQ : ∀ q ∈ tl, q.1 < ql := allLt_mem lq.2.2.2
  have hvl := hi3.length
  rw [digs_length] at hvl
  generalize hds : digs (Builtin.Int.intBits b) (nd a (Builtin.Int.intBits b)) a = ds at hi3
  have hdsl : ds.length = nd a (Builtin.Int.intBits b) := by rw [← hds, digs_length]
  have hdok : DigOk (Builtin.Int.intBits b) ds := by rw [← hds]; exact digs_ok _ _ _
  have hdval : val (Builtin.Int.intBits b) ds = a := by rw [← hds]; exact val_digs _ _ _ ha (lt_nd hn0 ha)
  generalize hnn : Builtin.Int.intBits b = n at *
  have hbn : b < 2 ^ n := by
    have := intBits_le_iff.mp (Nat.le_of_eq hnn)
    have h2 : (b.natAbs : Int) < ((2 ^ n : Nat) : Int) := Int.ofNat_lt.mpr this
    push_cast at h2
    omega
  refine wpAny_pyIter_revIter (l := lst) (i := (vals.length : Int) - 1) ⟨_, (N4 (D, _) (by k_mem)).1, rfl, rfl⟩ ?_
  have hlD : lst ≠ D := neN (by omega)
  have em : ∀ (t1 t2 : Tok), (fun y => if y = Str.ofString "q_digits" then some (Value.ref ql) else if y = Str.ofString "r" then some (Value.int 0 t1) else if y = Str.ofString "a_digits" then some (Value.ref lst) else if y = Str.ofString "n" then some (Value.int n t2) else List.lookup y [(Str.ofString "a", Value.int a ta), (Str.ofString "b", Value.int b tb)].reverse) = M5 n a b ta tb t2 ql lst 0 t1 none none := by
    intro t1 t2
    funext y
    dsimp only [M5]
    have hlk : List.lookup y [(Str.ofString "a", Value.int a ta), (Str.ofString "b", Value.int b tb)].reverse = if y = Str.ofString "b" then some (.int b tb) else if y = Str.ofString "a" then some (.int a ta) else none := by
      show (match y == Str.ofString "b" with | true => some (Value.int b tb) | false => match y == Str.ofString "a" with | true => some (Value.int a ta) | false => none) = _
      by_cases h1 : y = Str.ofString "b"
      · rw [if_pos h1, h1]; simp
      · rw [if_neg h1, beq_false_of_ne h1]
        by_cases h2 : y = Str.ofString "a"
        · rw [if_pos h2, h2]; simp
        · rw [if_neg h2, beq_false_of_ne h2]
    rw [hlk]
    by_cases h1 : y = Str.ofString "r"
    · rw [h1]; rfl
    · by_cases h2 : y = Str.ofString "q_digit"
      · rw [h2]; rfl
      · by_cases h3 : y = Str.ofString "a_digit"
        · rw [h3]; rfl
        · simp only [if_neg h1, if_neg h2, if_neg h3]
  obtain ⟨tn, t0, F4⟩ : ∃ tn t0, Fr h₀ L hD (M5 n a b ta tb tn ql lst 0 t0 none none) := ⟨_, _, by rw [← em]; exact F4⟩
  refine ⟨D, [D, lst], [D], _, _, _, _, ((ql, listOf #[] 0) :: (lst, listOf vals.toArray ep) :: (58, tabObj p3) :: (65, tabObj p2) :: tl), J5 n a b ta tb tn ql lst ((lst, listOf vals.toArray ep) :: (58, tabObj p3) :: (65, tabObj p2) :: tl) ds,
    rfl, Walks.listRev rfl D lst hlD vals.toArray, ?w1, ?w2, ?w3, ?w4, F4, ?w5, ?w6, ?w7, ?w8⟩
  case w1 =>
    simp only [List.mem_cons, List.not_mem_nil, or_false, not_or]
    exact ⟨fun h => (N4 (D, _) (by k_mem)).2.1 h.symm, fun h => hlL h.symm⟩
  case w2 =>
    intro q hq
    rw [List.mem_singleton.mp hq]
    exact (N4 (D, _) (by k_mem)).2.2
  case w3 =>
    intro q hq
    simp only [List.mem_cons, List.not_mem_nil, or_false] at hq ⊢
    rcases hq with h | h | h | h | h
    · rw [h]; exact neN (by dsimp only; omega)
    · rw [h]; exact neN (by dsimp only; omega)
    · rw [h]; exact neN (by dsimp only; omega)
    · rw [h]; exact neN (by dsimp only; omega)
    · exact Nat.ne_of_lt (htD q h)
  case w4 =>
    refine ⟨Nat.zero_le _, ⟨_, (N4 (D, _) (by k_mem)).1, rfl, ?_⟩, ⟨_, (N4 (lst, _) (by k_mem)).1, rfl, _, rfl⟩⟩
    rw [List.size_toArray]
    simp [revObj]
  case w5 => exact news_tail N4
  case w6 => exact ⟨_, _, _, _, [], 0, rfl, rfl, .nil, dm_nil hb⟩
  case w8 =>
    rintro h5 tk5 m5 news5 F5 N5 hnw5 ⟨x, tr, B, C, qvals, eq, rfl, rfl, hq5, hdm5⟩
    have hvsz : vals.toArray.size = ds.length := by rw [List.size_toArray]; exact hi3.length
    rw [hvsz, ← List.length_reverse, List.take_length] at hdm5
    have hend := dm_end hb hdm5 hdval
    have F6 : Fr h₀ L h5 (M5 n a b ta tb tn ql lst x.snd tr B C) := F5
    have N6 : News h₀ L h5 ((ql, listOf qvals.toArray eq) :: (lst, listOf vals.toArray ep) :: (58, tabObj p3) :: (65, tabObj p2) :: tl) := N5
    clear F5 F4 N5
    have hqle : qvals.length = ds.length := by
      have h1 := hq5.length
      have h2 := hdm5.len
      rw [List.length_reverse] at h2
      omega
    have hndb : ds.length ≤ 2 ^ 21 := by
      have := nd_le a hn0
      omega
    dsimp only
    k_steps
    show wpAny _ _ (call (.builtin "list.reverse") [.ref ql]) _ _ _
    refine' kl_reverse (l := qvals.reverse) ?a1 ?a2 ?a3 ?a4 ?a5 ?_
    case a1 => exact F6
    case a2 => exact N6
    case a3 => rfl
    case a4 => exact Upd.head (by
      intro q hq
      simp only [List.mem_cons, List.not_mem_nil, or_false] at hq
      rcases hq with h | h | h | h
      · rw [h]; exact neN (by dsimp only; omega)
      · rw [h]; exact neN (by dsimp only; omega)
      · rw [h]; exact neN (by dsimp only; omega)
      · exact Nat.ne_of_lt (htQ q h))
    case a5 => rw [sizeLine_eq]; simp; omega
    intro h7 F7 N7
    k_steps
    have hx1l : x.1.length = ds.length := by
      have h2 := hdm5.len
      rw [List.length_reverse] at h2
      exact h2
    have hndm := (nd_mul a hn0).1
    have E7 : Ext s.heap h7 := fun b o n1 n2 _ e => F7.keep _ _ (hb0 b o (by simp only [List.mem_cons, List.not_mem_nil, or_false, not_or]; exact ⟨n1, n2⟩) e)
    refine' d2i_spec (ns := x.1.reverse) (vals := qvals.reverse) Rt ?o1 ?o2 ?o3 ?o4 hn0 (N7 (ql, _) (by k_mem)).1 (ints_reverse hq5) ?o5 ?o6 ?o7 ?o8 ?_
    case o1 => exact ⟨hg0.trans F7.keep⟩
    case o2 => rfl
    case o3 => show dp + 1 + 60 < _; omega
    case o4 => show un + 3 + 200 < _; omega
    case o5 => exact fun d hd => hdm5.ok d (List.mem_reverse.mp hd)
    case o6 => rw [List.length_reverse, hx1l, hdsl]; omega
    case o7 => rw [List.length_reverse]; omega
    case o8 => exact hT2.of (fun o e => by rw [g2] at e; cases e; exact (N7 (65, _) (by k_mem)).1) E7
    intro h8 tk8 t8 bt8 hT8
    dsimp only
    obtain ⟨p8, g8⟩ := hT8.get
    have F8 := bt8.fr F7 (by simpa using hh0 65 (by simp)) (by simpa using hLn.2.1)
    obtain ⟨tl8, NT8, htl8, hcar8⟩ := hT8.carry F8
    have NT : News h₀ L h8 tl := bt8.news (fun q hq => N7 q (.tail _ (.tail _ (.tail _ (.tail _ hq))))) (fun q hq => by simpa using (htl q hq).2.1)
    have N58 : News h₀ L h8 [(58, tabObj p3)] := bt8.news (news_sub N7 (.cons _ (.cons _ (.cons_cons _ (.cons _ (List.nil_sublist _)))))) (by simp)
    have N8 : News h₀ L h8 ((58, tabObj p3) :: (65, tabObj p8) :: (tl ++ tl8)) := news_cons (N58 _ List.mem_cons_self).1 (N58 _ List.mem_cons_self).2.1 (N58 _ List.mem_cons_self).2.2 (news_cons g8 (fun h => hLn.2.1 h.symm) (hh0 65 (by simp)) (news_append NT NT8))
    rw [hend.1]
    clear N7 F7 N6 F6
    k_steps
    rename News _ _ _ _ => N9
    rename Fr _ _ _ _ => F9
    show Q _ _
    have htup := N9 _ List.mem_cons_self
    rw [hend.2] at htup
    refine hret _ _ _ _ _ (but_end2 F9 N9 hb0 (by intro b hb hS; exact absurd hb hS)) ?_ ?_ ?_ htup.1
    · refine hcar _ F9.keep (fun q hq => (N9 q (.tail _ (.tail _ (.tail _ (List.mem_append_left _ hq))))).1) (fun o e => ?_)
      rw [g3] at e; cases e; exact (N9 (58, _) (by k_mem)).1
    · refine hcar8 _ F9.keep (fun q hq => (N9 q (.tail _ (.tail _ (.tail _ (List.mem_append_right _ hq))))).1) (fun o e => ?_)
      rw [g8] at e; cases e; exact (N9 (65, _) (by k_mem)).1
    · rcases Option.eq_none_or_eq_some (s.heap.get? _) with q | ⟨o, q⟩
      · exact q
      · refine absurd (hb0 _ _ ?_ q) (by rw [htup.2.2]; nofun)
        simp only [List.mem_cons, List.not_mem_nil, or_false, not_or]
        exact ⟨neN (by omega), neN (by omega)⟩
  case w7 =>
    rintro i v m₁ news₁ s₁ own ⟨h5, tk5, rfl⟩ hi5 hP5 ⟨x, tr, B, C, qvals, eq, rfl, rfl, hq5, hdm5⟩ hnw5 hown5 hget5 hfp5 hst5 F5 N5
    have hvsz : vals.toArray.size = ds.length := by rw [List.size_toArray]; exact hi3.length
    have hP6 : vals[ds.length - 1 - i]? = some v := by rw [hvsz] at hP5; simpa using hP5
    obtain ⟨d, td, rfl, hd6⟩ := ints_getElem hi3 hP6
    have hid : i < ds.length := by rw [← hvsz]; exact hi5
    have htk := rev_take_succ hid hd6
    have hdr := hdok d (List.mem_of_getElem? hd6)
    have hstep := dm_step hb hdm5 hdr.1 hdr.2
    rw [← htk] at hstep
    have N6 : News h₀ L h5 ((ql, listOf qvals.toArray eq) :: (lst, listOf vals.toArray ep) :: (58, tabObj p3) :: (65, tabObj p2) :: (tl ++ own)) := fun q hq => N5 q (by
      have hq' : q ∈ ((ql, listOf qvals.toArray eq) :: (lst, listOf vals.toArray ep) :: (58, tabObj p3) :: (65, tabObj p2) :: tl) ++ own := hq
      exact List.mem_append.mpr ((List.mem_append.mp hq').symm))
    clear N5
    have hsh : (0 : Int) ≤ ((n : Nat) : Int) := Int.natCast_nonneg _
    have hxb : Builtin.Int.intBits x.2 ≤ n := by
      rw [← hnn]
      refine intBits_le_iff.mpr ?_
      have := intBits_le_iff.mp (Nat.le_refl (Builtin.Int.intBits b))
      have h1 := hdm5.lo
      have h2 := hdm5.hi
      omega
    have hsz : (Builtin.Int.intBits x.2 : Int) + ((n : Nat) : Int) ≤ 2 ^ 27 := by omega
    (try k_fold)
    have F6 : Fr h₀ L h5 (fun y => if y = Str.ofString "a_digit" then some (Value.int d td) else M5 n a b ta tb tn ql lst x.snd tr B C y) := F5
    clear F5 F4
    k_steps
    have hlo := hdm5.lo
    have hhi := hdm5.hi
    have hp := two_pow_pos' n
    have hx0 : 0 ≤ x.2 * 2 ^ n + d := Int.add_nonneg (Int.mul_nonneg hlo (Int.le_of_lt hp)) hdr.1
    have hx1 : x.2 * 2 ^ n + d < 2 ^ 63 := by
      have h1 : (x.2 + 1) * 2 ^ n ≤ 2 ^ n * 2 ^ n := Int.mul_le_mul_of_nonneg_right (by omega) (Int.le_of_lt hp)
      rw [Int.add_mul, Int.one_mul, ← Int.pow_add] at h1
      have h2 : (2 : Int) ^ (n + n) ≤ 2 ^ 58 := by exact_mod_cast Nat.pow_le_pow_right (by decide : 0 < 2) (by omega : n + n ≤ 58)
      have h3 : (2 : Int) ^ 58 < 2 ^ 63 := by decide
      omega
    rw [Int.toNat_natCast]
    refine' div2_spec Rt ?o1 ?o2 ?o3 ?o4 hx0 hx1 hb hb1 hsh ?_
    case o1 => exact ⟨hg0.trans F6.keep⟩
    case o2 => rfl
    case o3 => show dp + 1 + 10 < _; omega
    case o4 => show un + 3 + 40 < _; omega
    intro tp h7 tk7 t1 t2 hk7 htn htg
    dsimp only
    have F7 := (show But [] _ _ from fun b o _ e => hk7 b o e).fr F6 (by simp) (by simp)
    have hl7 : h₀.get? tp = none := by
      cases q : h₀.get? tp with
      | none => rfl
      | some o => rw [F6.keep _ _ q] at htn; cases htn
    have htL : tp ≠ L := by
      intro h
      obtain ⟨o, es, ep, e, _⟩ := F6.ns
      rw [h, e] at htn
      cases htn
    have htq : tp ≠ ql := by
      intro h
      rw [h, (N6 (ql, _) List.mem_cons_self).1] at htn
      cases htn
    have N7 := news_cons htg htL hl7 ((show But [] _ _ from fun b o _ e => hk7 b o e).news N6 (by simp))
    clear F6 N6
    k_steps
    rename News _ _ _ _ => N8
    rename Fr _ _ _ _ => F8
    have hqle : qvals.length ≤ ds.length := by
      have h1 := hq5.length
      have h2 := hdm5.len
      rw [List.length_take, List.length_reverse] at h2
      omega
    have hndb : ds.length ≤ 2 ^ 21 := by
      have := nd_le a hn0
      omega
    show wpAny _ _ (call (.builtin "list.append") [.ref ql, _]) _ _ _
    refine' append_K ?a1 ?a2 ?a3 ?_ ?a4
    case a1 => exact F8
    case a2 => exact N8
    case a3 =>
      refine Upd.tail htq (Upd.head ?_)
      intro q hq
      simp only [List.mem_cons] at hq
      rcases hq with h | h | h | h
      · rw [h]; exact neN (by dsimp only; omega)
      · rw [h]; exact neN (by dsimp only; omega)
      · rw [h]; exact neN (by dsimp only; omega)
      · rcases List.mem_append.mp h with h | h
        · exact Nat.ne_of_lt (htQ q h)
        · have := hown5 q h
          simp only [List.mem_cons, List.not_mem_nil, or_false] at this
          rcases this with h | h <;> rw [h] <;> exact neN (by omega)
    case a4 => rw [List.size_toArray, sizeLine_eq]; omega
    intro h9 F9 N9
    k_steps
    have efd : (x.2 * 2 ^ n + d).fdiv b = (x.2 * 2 ^ n + d) / b := Int.fdiv_eq_ediv_of_nonneg _ (Int.le_of_lt hb)
    have efm : (x.2 * 2 ^ n + d).fmod b = (x.2 * 2 ^ n + d) % b := Int.fmod_eq_emod_of_nonneg _ (Int.le_of_lt hb)
    rw [efd, efm] at F9 N9
    rw [List.push_toArray] at N9
    refine LoopStepU.intro (news₂ := (ql, listOf (qvals ++ [Value.int ((x.2 * 2 ^ n + d) / b) t1]).toArray (eq + 1)) :: (lst, listOf vals.toArray ep) :: (58, tabObj p3) :: (65, tabObj p2) :: tl) F9 ?_ ?_ ?_
    · intro q hq
      rcases List.mem_append.mp hq with h | h
      · exact N9 q (.tail _ (.tail _ (.tail _ (.tail _ (.tail _ (List.mem_append_right _ h))))))
      · refine N9 q (.tail _ ?_)
        have : q ∈ ((ql, listOf (qvals ++ [Value.int ((x.2 * 2 ^ n + d) / b) t1]).toArray (eq + 1)) :: (lst, listOf vals.toArray ep) :: (58, tabObj p3) :: (65, tabObj p2) :: tl) ++ own := List.mem_append_left _ h
        exact this
    · intro q hq
      simp only [List.mem_cons, List.not_mem_nil, or_false] at hq ⊢
      rcases hq with h | h | h | h | h
      · rw [h]; exact neN (by dsimp only; omega)
      · rw [h]; exact neN (by dsimp only; omega)
      · rw [h]; exact neN (by dsimp only; omega)
      · rw [h]; exact neN (by dsimp only; omega)
      · exact Nat.ne_of_lt (htD q h)
    · refine ⟨dmStep n b x d, t2, some (Value.int ((x.2 * 2 ^ n + d) / b) t1), some (Value.int d td), _, _, ?_, rfl, ints_snoc hq5 _ _, hstep⟩
      funext y
      show _ = M5 n a b ta tb tn ql lst ((x.2 * 2 ^ n + d) % b) t2 (some (Value.int ((x.2 * 2 ^ n + d) / b) t1)) (some (Value.int d td)) y
      dsimp only [M5]
      by_cases h1 : y = Str.ofString "r"
      · simp only [if_pos h1]
      · by_cases h2 : y = Str.ofString "q_digit"
        · simp only [if_neg h1, if_pos h2]
        · by_cases h3 : y = Str.ofString "a_digit"
          · simp only [if_neg h1, if_neg h2, if_pos h3]
          · simp only [if_neg h1, if_neg h2, if_neg h3]
end Mine
end
section
open PySem PySem.W PyProof.Rows PySem.Spec PySem.Calls
namespace Mine
/-- int_divmod's end, for all divisors above nought -/
abbrev IdmRet (g : Heap) (s : Shared) (a b : Int) (Q : Value → Shared → Prop) : Prop :=
  ∀ r h' tk' t1 t2, But [58, 65] s.heap h' → TabOk g 58 33 4 qA h' → TabOk g 65 48 4 qB h' → s.heap.get? r = none → h'.get? r = some { cls := .type "tuple", data := .seq #[.int (a / b) t1, .int (a % b) t2] } → Q (.ref r) { s with heap := h', toks := tk' }
set_option maxRecDepth 100000 in
set_option maxHeartbeats 1000000 in
theorem idm_pos {w : World} {p : Program} {loose : List Str} {mean : ExcName → Option Value} {mg mb : Str → Option Value} {g : Heap} {A : Around} {s : Shared} {Q E : Value → Shared → Prop} {a b : Int} {ta tb : Tok}
    (Rt : Root w p loose mean mg mb g) (O : On g s.heap) (hA : A.handled = none) (hdp : A.depth + 80 < recursionLimit) (hun : A.units + 240 < cLine)
    (ha : 0 ≤ a) (hba : Builtin.Int.intBits a ≤ 2 ^ 21) (hb : 0 < b) (hb1 : b < 2 ^ 29) (hT1 : TabOk g 58 33 4 qA s.heap) (hT2 : TabOk g 65 48 4 qB s.heap)
    (hret : IdmRet g s a b Q) :
    wpAny (model PySem.Challenge.rw_rs0116_01.row.prog w) A (call (.ref 84) [.int a ta, .int b tb]) Q E s := by
  w_on
  obtain ⟨ah, dp, fr, gd, un⟩ := A
  dsimp only at hA hdp hun
  subst hA
  refine wpAny_call ?_
  have hLo := O.lo Rt
  obtain ⟨h₀, hk0, hs0, hh0, hb0, X, T, hg0⟩ := base_of Rt O [58, 65] (by
    intro b hb
    simp only [List.mem_cons, List.not_mem_nil, or_false] at hb
    rcases hb with h | h <;> rw [h]
    · exact Rt.n1
    · exact Rt.n2)
  obtain ⟨p1, g1⟩ := hT1.get
  obtain ⟨p2, g2⟩ := hT2.get
  revert X
  k_fill
  intro X
  have XS := O.X Rt
  k_dflt (refine' enter (binds := [("a", .int a ta), ("b", .int b tb)]) (news := [(58, tabObj p1), (65, tabObj p2)]) XS (O.T Rt) hk0 hs0 ?k3 ?k6 ?k7 ?k8 ?k9 ?kB ?_ ?c2 ?c3 ?c4 ?c5; (case k6 => k_is); (case k7 => k_is); (case k8 => (dsimp only; omega)); (case k9 => exact BindsTo.of_eq rfl); (case kB => exact locs rfl); (case c5 => decide); (case c2 => exact rfl); (case c3 => exact rfl); (case c4 => exact rfl))
  case k3 => 
    intro q hq
    simp only [List.mem_cons, List.not_mem_nil, or_false] at hq
    rcases hq with h | h <;> rw [h]
    · exact ⟨g1, hh0 58 (by simp)⟩
    · exact ⟨g2, hh0 65 (by simp)⟩
  intro L h₁ hL F N hk1
  have hLn : L ≠ 58 ∧ L ≠ 65 ∧ L ≠ 107 := ⟨neN (by omega), neN (by omega), neN (by omega)⟩
  have hb00 : b ≠ 0 := by omega
  have hb01 : ¬ b < 0 := by omega
  have ha01 : ¬ a < 0 := by omega
  have K1 : But [] s.heap h₁ := fun b o _ e => hk1 b o e
  (try k_fold)
  k_steps
  · exact absurd (by assumption) hb00
  · refine' dmp_spec Rt ?o1 ?o2 ?o3 ?o4 ha hba hb hb1 ?o5 ?o6 ?_
    case o1 => exact ⟨hg0.trans F.keep⟩
    case o2 => rfl
    case o3 => show dp + 1 + 70 < _; omega
    case o4 => show un + 3 + 220 < _; omega
    case o5 => exact hT1.but K1 (by simp) (by simp)
    case o6 => exact hT2.but K1 (by simp) (by simp)
    intro r h2 tk2 t1 t2 bt2 hT12 hT22 hrn hrg
    refine hret r h2 tk2 t1 t2 ?_ hT12 hT22 ?_ hrg
    · exact fun b o hb e => bt2 b o hb (hk1 b o e)
    · rcases Option.eq_none_or_eq_some (s.heap.get? r) with q | ⟨o, q⟩
      · exact q
      · have := hk1 _ _ q; dsimp only at hrn; rw [hrn] at this; cases this

set_option maxRecDepth 100000 in
set_option maxHeartbeats 1000000 in
theorem idm_spec {w : World} {p : Program} {loose : List Str} {mean : ExcName → Option Value} {mg mb : Str → Option Value} {g : Heap} {A : Around} {s : Shared} {Q E : Value → Shared → Prop} {a b : Int} {ta tb : Tok}
    (Rt : Root w p loose mean mg mb g) (O : On g s.heap) (hA : A.handled = none) (hdp : A.depth + 90 < recursionLimit) (hun : A.units + 260 < cLine)
    (hba : Builtin.Int.intBits a ≤ 2 ^ 21) (hb : 0 < b) (hb1 : b < 2 ^ 29) (hT1 : TabOk g 58 33 4 qA s.heap) (hT2 : TabOk g 65 48 4 qB s.heap)
    (hret : IdmRet g s a b Q) :
    wpAny (model PySem.Challenge.rw_rs0116_01.row.prog w) A (call (.ref 84) [.int a ta, .int b tb]) Q E s := by
  by_cases ha : 0 ≤ a
  · exact idm_pos Rt O hA (by omega) (by omega) ha hba hb hb1 hT1 hT2 hret
  w_on
  obtain ⟨ah, dp, fr, gd, un⟩ := A
  dsimp only at hA hdp hun
  subst hA
  refine wpAny_call ?_
  have hLo := O.lo Rt
  obtain ⟨h₀, hk0, hs0, hh0, hb0, X, T, hg0⟩ := base_of Rt O [58, 65] (by
    intro b hb
    simp only [List.mem_cons, List.not_mem_nil, or_false] at hb
    rcases hb with h | h <;> rw [h]
    · exact Rt.n1
    · exact Rt.n2)
  obtain ⟨p1, g1⟩ := hT1.get
  obtain ⟨p2, g2⟩ := hT2.get
  revert X
  k_fill
  intro X
  have XS := O.X Rt
  k_dflt (refine' enter (binds := [("a", .int a ta), ("b", .int b tb)]) (news := [(58, tabObj p1), (65, tabObj p2)]) XS (O.T Rt) hk0 hs0 ?k3 ?k6 ?k7 ?k8 ?k9 ?kB ?_ ?c2 ?c3 ?c4 ?c5; (case k6 => k_is); (case k7 => k_is); (case k8 => (dsimp only; omega)); (case k9 => exact BindsTo.of_eq rfl); (case kB => exact locs rfl); (case c5 => decide); (case c2 => exact rfl); (case c3 => exact rfl); (case c4 => exact rfl))
  case k3 => 
    intro q hq
    simp only [List.mem_cons, List.not_mem_nil, or_false] at hq
    rcases hq with h | h <;> rw [h]
    · exact ⟨g1, hh0 58 (by simp)⟩
    · exact ⟨g2, hh0 65 (by simp)⟩
  intro L h₁ hL F N hk1
  have hLn : L ≠ 58 ∧ L ≠ 65 ∧ L ≠ 107 := ⟨neN (by omega), neN (by omega), neN (by omega)⟩
  have hb00 : b ≠ 0 := by omega
  have ha01 : a < 0 := by omega
  have hb01 : ¬ b < 0 := by omega
  have K1 : But [] s.heap h₁ := fun b o _ e => hk1 b o e
  (try k_fold)
  k_steps
  · exact absurd (by assumption) hb00
  · have hnot : Builtin.bitNot a = -a - 1 := rfl
    have hbn : Builtin.Int.intBits (Builtin.bitNot a) ≤ 2 ^ 21 := intBits_le_of_natAbs (by rw [hnot]; omega) hba
    refine' idm_pos Rt ?o1 ?o2 ?o3 ?o4 ?o7 hbn hb hb1 ?o5 ?o6 ?_
    case o1 => exact ⟨hg0.trans F.keep⟩
    case o2 => rfl
    case o3 => show dp + 1 + 80 < _; omega
    case o4 => show un + 3 + 240 < _; omega
    case o5 => exact hT1.but K1 (by simp) (by simp)
    case o6 => exact hT2.but K1 (by simp) (by simp)
    case o7 => rw [hnot]; omega
    intro r h2 tk2 t1 t2 bt2 hT12 hT22 hrn hrg
    dsimp only at hrn ⊢
    have F2 := bt2.fr F (by simpa using ⟨hh0 58 (by simp), hh0 65 (by simp)⟩) (by simpa using ⟨hLn.1, hLn.2.1⟩)
    obtain ⟨q1, e1⟩ := hT12.get
    obtain ⟨q2, e2⟩ := hT22.get
    obtain ⟨tl1, NT1, htl1, hcar1⟩ := hT12.carry F2
    obtain ⟨tl2, NT2, htl2, hcar2⟩ := hT22.carry F2
    have hr0 : h₀.get? r = none := by
      rcases Option.eq_none_or_eq_some (h₀.get? r) with q | ⟨o, q⟩
      · exact q
      · rw [F.keep _ _ q] at hrn; cases hrn
    have hrL : r ≠ L := by
      intro h
      obtain ⟨o, es, ep, e, _⟩ := F.ns
      rw [h, e] at hrn
      cases hrn
    have N2 := news_cons hrg hrL hr0 (news_cons e1 (fun h => hLn.1 h.symm) (hh0 58 (by simp)) (news_cons e2 (fun h => hLn.2.1 h.symm) (hh0 65 (by simp)) (news_append NT1 NT2)))
    clear F N
    k_steps
    rename News _ _ _ _ => N9
    rename Fr _ _ _ _ => F9
    show Q _ _
    have htup := N9 _ List.mem_cons_self
    have ed : Builtin.bitNot (Builtin.bitNot a / b) = a / b := by
      show -((-a - 1) / b) - 1 = a / b
      have h1 := Int.emod_add_mul_ediv (-a - 1) b
      have h2 := Int.emod_nonneg (-a - 1) (Int.ne_of_gt hb)
      have h3 := Int.emod_lt_of_pos (-a - 1) hb
      refine ((Int.ediv_eq_iff_of_pos hb).mpr ?_).symm
      rw [Int.sub_mul, Int.neg_mul, Int.mul_comm]
      constructor <;> omega
    have em : b + Builtin.bitNot (Builtin.bitNot a % b) = a % b := by
      have h1 := Int.emod_add_mul_ediv (-a - 1) b
      have h4 := Int.emod_add_mul_ediv a b
      rw [← ed] at h4
      have h5 : Builtin.bitNot (Builtin.bitNot a / b) = -((-a - 1) / b) - 1 := rfl
      have h6 : Builtin.bitNot (Builtin.bitNot a % b) = -((-a - 1) % b) - 1 := rfl
      rw [h5, Int.mul_sub, Int.mul_neg] at h4
      rw [h6]
      omega
    rw [ed, em] at htup
    refine hret _ _ _ _ _ (but_end2 F9 N9 hb0 (by intro b hb hS; exact absurd hb hS)) ?_ ?_ ?_ htup.1
    · refine hcar1 _ F9.keep (fun q hq => (N9 q (.tail _ (.tail _ (.tail _ (.tail _ (List.mem_append_left _ hq)))))).1) (fun o e => ?_)
      rw [e1] at e; cases e; exact (N9 (58, _) (by k_mem)).1
    · refine hcar2 _ F9.keep (fun q hq => (N9 q (.tail _ (.tail _ (.tail _ (.tail _ (List.mem_append_right _ hq)))))).1) (fun o e => ?_)
      rw [e2] at e; cases e; exact (N9 (65, _) (by k_mem)).1
    · rcases Option.eq_none_or_eq_some (s.heap.get? _) with q | ⟨o, q⟩
      · exact q
      · refine absurd (hb0 _ _ ?_ q) (by rw [htup.2.2]; nofun)
        simp only [List.mem_cons, List.not_mem_nil, or_false, not_or]
        exact ⟨neN (by omega), neN (by omega)⟩
end Mine
end
section
open PySem PySem.W PyProof.Rows PySem.Spec PySem.Calls
namespace Mine
def packL (ps : List UInt64) : List Value := ps.map fun x => rawInt x.toNat
theorem unpackL (f : Value → UInt64) (hf : ∀ i t, f (.int i t) = i.toNat.toUInt64) (ps : List UInt64) : (packL ps).map f = ps := by
  induction ps with
  | nil => rfl
  | cons x r ih =>
    show f (rawInt x.toNat) :: (packL r).map f = _
    rw [ih, show rawInt x.toNat = .int x.toNat 0 from rfl, hf]
    congr 1
    simp [Nat.toUInt64]
def fsumNext (ps : List UInt64) (n : Int) : List UInt64 :=
  if Float64.isZero (Float64.fsumAdd ps (Float64.ofInt n)).2 then (Float64.fsumAdd ps (Float64.ofInt n)).1 else (Float64.fsumAdd ps (Float64.ofInt n)).1 ++ [(Float64.fsumAdd ps (Float64.ofInt n)).2]
def fsumI : List UInt64 → List Int → Option UInt64
  | ps, [] => some (Float64.fsumEnd ps)
  | ps, n :: ns => if Float64.isFinite (Float64.fsumAdd ps (Float64.ofInt n)).2 then fsumI (fsumNext ps n) ns else none
theorem fsumAdd_len : ∀ (ps : List UInt64) (x : UInt64), (Float64.fsumAdd ps x).1.length ≤ ps.length
  | [], _ => Nat.le_refl _
  | y :: ps, x => by
    unfold Float64.fsumAdd
    dsimp only
    generalize (if Float64.lt (Float64.abs x) (Float64.abs y) = true then (y, x) else (x, y)) = q
    split
    · exact Nat.le_succ_of_le (fsumAdd_len ps _)
    · exact Nat.succ_le_succ (fsumAdd_len ps _)
theorem fsumNext_len (ps : List UInt64) (n : Int) : (fsumNext ps n).length ≤ ps.length + 1 := by
  unfold fsumNext
  have := fsumAdd_len ps (Float64.ofInt n)
  split
  · omega
  · rw [List.length_append]; simp; omega
theorem kind_fsum : builtinKind "math.fsum" = none := by decide +kernel
theorem plain_fsum : plainId "math.fsum" = true := by decide +kernel
theorem entry_fsum : entryFor table "math.fsum" = some Builtin.«math.fsum» := entryFor_of_fast (by kernel_rfl)
theorem args_fsum (a : Value) : argsOk "math.fsum" ⟨[a], []⟩ := by unfold argsOk; kernel_rfl
theorem plain_fsum_loop : plainId "math.fsum.loop" = true := by decide +kernel
theorem entry_fsum_loop : entryFor table "math.fsum.loop" = some Builtin.«math.fsum.loop» := entryFor_of_fast (by kernel_rfl)
def tupObj (vs : List Value) : Obj := { cls := .type "tuple", data := .seq vs.toArray }
section
variable {prog : Program} {w : World} {A : Around} {R : Result → Shared → Prop}
theorem codeAny_fsum_loop (hA : A.handled = none) {I l S : Addr} (hne : l ≠ I) (hSI : S ≠ I) {items : List Value} {z : UInt64} :
    ∀ (ns : List Int) (i : Nat) (s : Shared) (P : Addr) (ps : List UInt64), IntsAre (items.drop i) ns → i ≤ items.length → s.heap.IsListIter I l i → s.heap.IsList l items.toArray → P ≠ I →
    s.heap.get? P = some (tupObj (packL ps)) → s.heap.get? S = some (tupObj (packL [Float64.zero false, Float64.zero false])) → ps.length + ns.length + 2 ≤ sizeLine → (∀ n ∈ ns, ¬ Flt.Over n) → fsumI ps ns = some z →
    (∀ h' tk t', (∀ b o, b ≠ I → s.heap.get? b = some o → h'.get? b = some o) → R (.ok (.ret (.float z t'))) { s with heap := h', toks := tk }) →
    codeAny (model prog w) A (.builtin "math.fsum.loop" ⟨[.ref I, .ref P, .ref S], []⟩) R s := by
  have W := Walks.list (prog := prog) (w := w) (A := A.in1) hA I l hne items.toArray
  intro ns
  induction ns with
  | nil =>
    intro i s P ps hns hi hit hl hPI hP hS hsz hov hz hR
    have hin : i = items.length := by
      cases h : items.drop i with
      | nil => have := congrArg List.length h; simp at this; omega
      | cons a b => rw [h] at hns; cases hns
    refine codeAny_builtin entry_fsum_loop ?_
    rw [Around.under_plainId plain_fsum_loop _]
    show wpAny _ A.in1 ((seqItems? (.ref P) >>= _) >>= _) _ _ s
    refine wpAny_bind (wpAny_bind (wpAny_seqItems hP rfl (wpAny_pure ?_)))
    show wpAny _ A.in1 ((seqItems? (.ref S) >>= _) >>= _) _ _ s
    refine wpAny_bind (wpAny_bind (wpAny_seqItems hS rfl (wpAny_pure ?_)))
    show wpAny _ A.in1 (pyNext (.ref I) >>= _) _ _ s
    refine wpAny_bind (W.done s _ _ ⟨by simpa [hin] using hit, hl⟩ fun h' tk hk' => ?_)
    show wpAny _ A.in1 (if (!Float64.isZero (Float64.zero false).toNat.toUInt64) = true then _ else _) _ _ _
    rw [if_neg (by decide +kernel)]
    show wpAny _ A.in1 (Builtin.Float.retFloat (Float64.fsumEnd ((packL ps).map _))) _ _ _
    rw [unpackL _ (fun _ _ => rfl)]
    cases hz
    refine wpAny_bind (wpAny_mkFloat (wpAny_pure ?_))
    exact hR _ _ _ fun b o hb e => hk' b o (by simpa using hb) e
  | cons n ns ih =>
    intro i s P ps hns hi hit hl hPI hP hS hsz hov hz hR
    obtain ⟨u, he, hns'⟩ : ∃ u, items[i]? = some (.int n u) ∧ IntsAre (items.drop (i + 1)) ns := by
      cases h : items.drop i with
      | nil => rw [h] at hns; cases hns
      | cons a b =>
        rw [h] at hns
        cases hns with
        | cons _ t h2 =>
          refine ⟨t, ?_, ?_⟩
          · have := congrArg (·[0]?) h; simpa using this
          · have := congrArg List.tail h; rw [List.tail_drop] at this; rw [this]; exact h2
    have hlt : i < items.length := (List.getElem?_eq_some_iff.mp he).1
    refine codeAny_builtin entry_fsum_loop ?_
    rw [Around.under_plainId plain_fsum_loop _]
    show wpAny _ A.in1 ((seqItems? (.ref P) >>= _) >>= _) _ _ s
    refine wpAny_bind (wpAny_bind (wpAny_seqItems hP rfl (wpAny_pure ?_)))
    show wpAny _ A.in1 ((seqItems? (.ref S) >>= _) >>= _) _ _ s
    refine wpAny_bind (wpAny_bind (wpAny_seqItems hS rfl (wpAny_pure ?_)))
    show wpAny _ A.in1 (pyNext (.ref I) >>= _) _ _ s
    refine wpAny_bind (W.item i s _ _ (by simpa using hlt) ⟨hit, hl⟩ fun v h' tk hv st' hk' => ?_)
    have hv' : v = .int n u := by
      have : items[i]? = some v := by simpa using hv
      rw [he] at this; cases this; rfl
    subst hv'
    show wpAny _ A.in1 (holding _ _ >>= _) _ _ _
    refine wpAny_bind (wpAny_holding (Flt.realArg_int hA (fun h => absurd h (hov n (by simp))) fun _ => ?_))
    have hf : Float64.isFinite (Float64.fsumAdd ps (Float64.ofInt n)).2 = true := by
      unfold fsumI at hz
      by_cases c : Float64.isFinite (Float64.fsumAdd ps (Float64.ofInt n)).2 = true
      · exact c
      · rw [if_neg c] at hz; cases hz
    have hz' : fsumI (fsumNext ps n) ns = some z := by
      unfold fsumI at hz
      rw [if_pos hf] at hz; exact hz
    show wpAny _ A.in1 (if Float64.isFinite (Float64.fsumAdd ((packL ps).map _) (Float64.ofInt n)).2 = true then _ else _) _ _ _
    rw [unpackL _ (fun _ _ => rfl)]
    rw [if_pos hf]
    show wpAny _ A.in1 (newTuple (packL (fsumNext ((packL ps).map _) n)) >>= _) _ _ _
    rw [unpackL _ (fun _ _ => rfl)]
    have hlen := fsumNext_len ps n
    rw [List.length_cons] at hsz
    refine wpAny_bind (wpAny_newTuple ?_ (by rw [packL, List.length_map]; omega))
    refine wpAny_pure ⟨plainId_quiet plain_fsum_loop _, ?_⟩
    have hkS := hk' S _ (by simpa using hSI) hS
    have hIlt : I < h'.objs.size := by obtain ⟨o, e, _⟩ := st'.1; exact Heap.lt_size e
    refine ih (i + 1) _ _ (fsumNext ps n) hns' hlt ?_ ?_ ?_ ?_ ?_ (by omega) (fun m hm => hov m (by simp [hm])) hz' ?_
    · obtain ⟨o, e, r⟩ := st'.1
      exact ⟨o, Heap.get?_push_of_some _ e, r⟩
    · exact st'.2.push _
    · exact fun h => Nat.lt_irrefl _ (by rw [← h] at hIlt; exact hIlt)
    · exact Heap.get?_push_size _ rfl
    · exact Heap.get?_push_of_some _ hkS
    · intro h'' tk'' t'' hk''
      exact hR h'' tk'' t'' fun b o hb e => hk'' b o hb (Heap.get?_push_of_some _ (hk' b o (by simpa using hb) e))
end
section
variable {prog : Program} {w : World} {A : Around} {E : Value → Shared → Prop} {s : Shared}
theorem call_fsum {l : Addr} {items : List Value} {ns : List Int} {z : UInt64} {Q : Value → Shared → Prop} (hA : A.handled = none) (hl : s.heap.IsList l items.toArray) (hi : IntsAre items ns)
    (hsz : ns.length + 2 ≤ sizeLine) (hov : ∀ n ∈ ns, ¬ Flt.Over n) (hz : fsumI [] ns = some z)
    (hQ : ∀ h' tk t', (∀ b o, s.heap.get? b = some o → h'.get? b = some o) → Q (.float z t') { s with heap := h', toks := tk }) :
    wpAny (model prog w) A (call (.builtin "math.fsum") [.ref l]) Q E s := by
  refine call_function_tree kind_fsum plain_fsum entry_fsum (args_fsum _) ?_
  unfold Builtin.«math.fsum»
  refine wpAny_bind (m := oneArg "math.fsum" _) (wpAny_pure ?_)
  refine wpAny_bind (wpAny_pyIter_list hl ?_)
  show wpAny _ A.in1 (newTuple (packL []) >>= _) _ _ _
  refine wpAny_bind (wpAny_newTuple ?_ (by show 0 ≤ _; exact Nat.zero_le _))
  show wpAny _ A.in1 (newTuple (packL [Float64.zero false, Float64.zero false]) >>= _) _ _ _
  refine wpAny_bind (wpAny_newTuple ?_ (by show 2 ≤ _; exact Nat.le_trans (Nat.le_add_left _ _) hsz))
  refine wpAny_pure ⟨plainId_quiet plain_fsum_loop _, ?_⟩
  have e1 : ∀ (h : Heap) (o : Obj), (h.push o).objs.size = h.objs.size + 1 := fun h o => by simp [Heap.push]
  have hll : l < s.heap.objs.size := by obtain ⟨o, e, _⟩ := hl; exact Heap.lt_size e
  refine codeAny_fsum_loop hA (I := s.heap.objs.size) (l := l) (Nat.ne_of_lt hll) ?n1 ns 0 _ _ [] (by simpa using hi) (Nat.zero_le _) ?_ ?_ ?n2 ?_ ?_ (by simpa using hsz) hov hz ?_
  case n1 => rw [e1, e1]; exact Nat.ne_of_gt (Nat.lt_succ_of_lt (Nat.lt_succ_self _))
  case n2 => rw [e1]; exact Nat.ne_of_gt (Nat.lt_succ_self _)
  · exact ⟨_, Heap.get?_push_of_some _ (Heap.get?_push_of_some _ (Heap.get?_push_size _ rfl)), rfl, rfl⟩
  · exact ((hl.push _).push _).push _
  · exact Heap.get?_push_of_some _ (Heap.get?_push_size _ rfl)
  · exact Heap.get?_push_size _ rfl
  · intro h' tk t' hk
    exact hQ h' tk t' fun b o e => hk b o (Nat.ne_of_lt (Heap.lt_size e)) (Heap.get?_push_of_some _ (Heap.get?_push_of_some _ (Heap.get?_push_of_some _ e)))
end
end Mine
end
section
open PySem PySem.W PyProof.Rows PySem.Spec PySem.Calls
open PySem.Builtin.Math (tlFma tlToFloat)
namespace Mine
abbrev T3 := UInt64 × UInt64 × UInt64
def tripL (t : T3) : List Value := [rawInt t.1.toNat, rawInt t.2.1.toNat, rawInt t.2.2.toNat]
theorem u64_back (x : UInt64) : ((x.toNat : Int).toNat).toUInt64 = x := by simp [Nat.toUInt64]
def spN (X Y : Nat → UInt64) : Nat → Nat → T3 → Option UInt64
  | 0, _, t => some (Float64.add (Float64.ofInt 0) (tlToFloat t))
  | k + 1, i, t => if Float64.isFinite (tlFma (X i) (Y i) t).1 then spN X Y k (i + 1) (tlFma (X i) (Y i) t) else none
def Gb (a b : Array GenState) : Prop := (∀ y ∈ a, y.bare = true) → ∀ y ∈ b, y.bare = true
theorem kind_sp : builtinKind "math.sumprod" = none := by decide +kernel
theorem plain_sp : plainId "math.sumprod" = true := by decide +kernel
theorem entry_sp : entryFor table "math.sumprod" = some Builtin.«math.sumprod» := entryFor_of_fast (by kernel_rfl)
theorem args_sp (a b : Value) : argsOk "math.sumprod" ⟨[a, b], []⟩ := by unfold argsOk; kernel_rfl
theorem plain_sp_loop : plainId "math.sumprod.loop" = true := by decide +kernel
theorem entry_sp_loop : entryFor table "math.sumprod.loop" = some Builtin.«math.sumprod.loop» := entryFor_of_fast (by kernel_rfl)
section
variable {prog : Program} {w : World} {A : Around} {R : Result → Shared → Prop}
set_option maxHeartbeats 1000000 in
theorem codeAny_sp_loop {I1 I2 : Addr} {fp1 wr1 fp2 wr2 : List Addr} {G1 G2 : Array GenState → Array GenState → Prop} {n : Nat} {P1 P2 : Nat → Value → Prop} {St1 St2 : Nat → Shared → Prop} {X Y : Nat → UInt64} {z : UInt64} {lim : Nat}
    (W1 : WalksS prog w A.in1 I1 fp1 wr1 G1 n P1 St1) (W2 : WalksS prog w A.in1 I2 fp2 wr2 G2 n P2 St2) (hX : ∀ i v, P1 i v → ∃ t, v = .float (X i) t) (hY : ∀ i v, P2 i v → ∃ t, v = .float (Y i) t)
    (hm1 : ∀ i s s', St1 i s → Moved wr2 G2 s s' → St1 i s') (hm2 : ∀ i s s', St2 i s → Moved wr1 G1 s s' → St2 i s') (hw1 : ∀ b ∈ wr1, b < lim) (hw2 : ∀ b ∈ wr2, b < lim)
    (hG1 : ∀ a b, G1 a b → Gb a b) (hG2 : ∀ a b, G2 a b → Gb a b) :
    ∀ (k i : Nat) (s : Shared) (T : Addr) (t : T3) (u : Tok) (io : Bool), n - i = k → i ≤ n → (k = 0 → io = false) → St1 i s → St2 i s → lim ≤ T → s.heap.get? T = some (tupObj (tripL t)) → spN X Y k i t = some z →
    (∀ s' t', Moved (wr1 ++ wr2) Gb s s' → R (.ok (.ret (.float z t'))) s') →
    codeAny (model prog w) A (.builtin "math.sumprod.loop" ⟨[.ref I1, .ref I2, .int 0 u, .bool io, rawInt 0, .bool false, .bool true, .ref T, .bool (!io)], []⟩) R s := by
  have hgt : ∀ a b c, Gb a b → Gb b c → Gb a c := fun _ _ _ x y h => y (x h)
  have l1 : ∀ {s s'}, Moved wr1 G1 s s' → Moved (wr1 ++ wr2) Gb s s' := fun x => ⟨fun b o hb e => x.heap b o (fun h => hb (List.mem_append_left _ h)) e, hG1 _ _ x.gens, x.drawn, x.os, x.toks⟩
  have l2 : ∀ {s s'}, Moved wr2 G2 s s' → Moved (wr1 ++ wr2) Gb s s' := fun x => ⟨fun b o hb e => x.heap b o (fun h => hb (List.mem_append_right _ h)) e, hG2 _ _ x.gens, x.drawn, x.os, x.toks⟩
  have hnw : ∀ T, lim ≤ T → T ∉ wr1 ++ wr2 := fun T hT h => by
    rcases List.mem_append.mp h with h | h
    · exact Nat.lt_irrefl _ (Nat.lt_of_lt_of_le (hw1 _ h) hT)
    · exact Nat.lt_irrefl _ (Nat.lt_of_lt_of_le (hw2 _ h) hT)
  intro k
  induction k with
  | zero =>
    intro i s T t u io hk hi hio h1 h2 hT hTe hz hR
    have hin : i = n := by omega
    subst hin
    rw [hio rfl]
    refine codeAny_builtin entry_sp_loop ?_
    rw [Around.under_plainId plain_sp_loop _]
    show wpAny _ A.in1 (seqItems? (.ref T) >>= _) _ _ s
    refine wpAny_bind (wpAny_seqItems hTe rfl ?_)
    show wpAny _ A.in1 (pyNext (.ref I1) >>= _) _ _ s
    refine wpAny_bind (W1.done s _ _ h1 fun s1 mv1 => ?_)
    refine wpAny_bind (wpAny_holding (W2.done s1 _ _ (hm2 _ _ _ h2 mv1) fun s2 mv2 => ?_))
    dsimp only
    rw [if_neg (by decide), if_neg (by decide), if_pos rfl]
    refine wpAny_bind (wpAny_rule ?_)
    rw [if_pos (by decide)]
    simp only [u64_back]
    refine wpAny_bind (wpAny_mkFloat (wpAny_bind (wpAny_holding (add_if_fits (Nat.two_pow_pos 1023) (wpAny_pure ?_)))))
    cases hz
    refine hR _ _ ?_
    exact ((l1 mv1).trans hgt (l2 mv2)).then_heap (Nat.le_trans (Nat.le_succ _) (Nat.le_succ _)) fun _ _ _ e => e
  | succ k ih =>
    intro i s T t u io hk hi hio h1 h2 hT hTe hz hR
    have hlt : i < n := by omega
    refine codeAny_builtin entry_sp_loop ?_
    rw [Around.under_plainId plain_sp_loop _]
    show wpAny _ A.in1 (seqItems? (.ref T) >>= _) _ _ s
    refine wpAny_bind (wpAny_seqItems hTe rfl ?_)
    show wpAny _ A.in1 (pyNext (.ref I1) >>= _) _ _ s
    refine wpAny_bind (W1.item i s _ _ hlt h1 fun v1 s1 hv1 h1' mv1 => ?_)
    refine wpAny_bind (wpAny_holding (W2.item i s1 _ _ hlt (hm2 _ _ _ h2 mv1) fun v2 s2 hv2 h2' mv2 => ?_))
    obtain ⟨t1, rfl⟩ := hX _ _ hv1
    obtain ⟨t2, rfl⟩ := hY _ _ hv2
    dsimp only
    have hf : Float64.isFinite (tlFma (X i) (Y i) t).1 = true := by
      unfold spN at hz
      by_cases c : Float64.isFinite (tlFma (X i) (Y i) t).1 = true
      · exact c
      · rw [if_neg c] at hz; cases hz
    have hz' : spN X Y k (i + 1) (tlFma (X i) (Y i) t) = some z := by
      unfold spN at hz
      rw [if_pos hf] at hz; exact hz
    simp only [u64_back]
    have hend : ∀ (h9 : Heap), h9 = s2.heap.push (tupObj (tripL (tlFma (X i) (Y i) t))) → codeAny (model prog w) A (.builtin "math.sumprod.loop" ⟨[.ref I1, .ref I2, .int 0 u, .bool false, rawInt 0, .bool false, .bool true, .ref s2.heap.objs.size, .bool true], []⟩) R { s2 with heap := h9 } := by
      intro h9 e9
      subst e9
      have mv := (l1 mv1).trans hgt (l2 mv2)
      have hle : lim ≤ s2.heap.objs.size := Nat.le_of_lt (Nat.lt_of_le_of_lt hT (Heap.lt_size (mv.heap T _ (hnw T hT) hTe)))
      refine ih (i + 1) _ _ (tlFma (X i) (Y i) t) u false (by omega) hlt (fun _ => rfl) ?_ ?_ hle (Heap.get?_push_size _ rfl) hz' ?_
      · exact W1.frame _ s2 _ s2.toks (hm1 _ _ _ h1' mv2) (Nat.le_refl _) fun b _ o e => Heap.get?_push_of_some _ e
      · exact W2.frame _ s2 _ s2.toks h2' (Nat.le_refl _) fun b _ o e => Heap.get?_push_of_some _ e
      · intro s' t' mv'
        exact hR s' t' (((mv.then_heap (Nat.le_refl _) fun b o _ e => Heap.get?_push_of_some _ e)).trans hgt mv')
    cases io with
    | false =>
      rw [if_neg (show ¬ ((some (Value.float (X i) t1)).isSome != (some (Value.float (Y i) t2)).isSome) = true from Bool.false_ne_true), if_neg (by decide), if_pos trivial, if_pos (by decide)]
      rw [if_pos hf]
      refine wpAny_bind (wpAny_newTuple ?_ (by show 3 ≤ _; decide))
      exact wpAny_pure ⟨plainId_quiet plain_sp_loop _, hend _ rfl⟩
    | true =>
      rw [if_neg (show ¬ ((some (Value.float (X i) t1)).isSome != (some (Value.float (Y i) t2)).isSome) = true from Bool.false_ne_true), if_pos trivial]
      refine wpAny_bind (wpAny_rule ?_)
      rw [if_neg (by decide), if_pos (by decide)]
      rw [if_pos hf]
      refine wpAny_bind (wpAny_newTuple ?_ (by show 3 ≤ _; decide))
      exact wpAny_pure ⟨plainId_quiet plain_sp_loop _, hend _ rfl⟩
end
section
variable {prog : Program} {w : World} {A : Around} {E : Value → Shared → Prop} {s : Shared}
theorem call_sumprod {I1 I2 : Addr} {fp1 wr1 fp2 wr2 : List Addr} {G1 G2 : Array GenState → Array GenState → Prop} {n : Nat} {P1 P2 : Nat → Value → Prop} {St1 St2 : Nat → Shared → Prop} {X Y : Nat → UInt64} {z : UInt64} {Q : Value → Shared → Prop}
    (W1 : WalksS prog w A.in1 I1 fp1 wr1 G1 n P1 St1) (W2 : WalksS prog w A.in1 I2 fp2 wr2 G2 n P2 St2) (hX : ∀ i v, P1 i v → ∃ t, v = .float (X i) t) (hY : ∀ i v, P2 i v → ∃ t, v = .float (Y i) t)
    (hm1 : ∀ i s s', St1 i s → Moved wr2 G2 s s' → St1 i s') (hm2 : ∀ i s s', St2 i s → Moved wr1 G1 s s' → St2 i s') (hw1 : ∀ b ∈ wr1, b < s.heap.objs.size) (hw2 : ∀ b ∈ wr2, b < s.heap.objs.size)
    (hG1 : ∀ a b, G1 a b → Gb a b) (hG2 : ∀ a b, G2 a b → Gb a b) (hn : 0 < n) (h1 : St1 0 s) (h2 : St2 0 s)
    (hz : spN X Y n 0 (Float64.zero false, Float64.zero false, Float64.zero false) = some z)
    (hQ : ∀ s' t', Moved (wr1 ++ wr2) Gb s s' → Q (.float z t') s') :
    wpAny (model prog w) A (call (.builtin "math.sumprod") [.ref I1, .ref I2]) Q E s := by
  refine call_function_tree kind_sp plain_sp entry_sp (args_sp _ _) ?_
  unfold Builtin.«math.sumprod»
  refine wpAny_bind (m := Builtin.Math.mathSome "sumprod" 2 2 _) (wpAny_of_eq (show Builtin.Math.mathSome "sumprod" 2 2 ⟨[.ref I1, .ref I2], []⟩ = pure [.ref I1, .ref I2] from rfl) ?_)
  dsimp only
  refine wpAny_bind (W1.self 0 s _ _ h1 ?_)
  refine wpAny_bind (wpAny_holding (W2.self 0 s _ _ h2 ?_))
  refine wpAny_bind (wpAny_mkInt ?_)
  refine wpAny_bind (wpAny_newTuple ?_ (by show 3 ≤ _; decide))
  refine wpAny_pure ⟨plainId_quiet plain_sp_loop _, ?_⟩
  refine codeAny_sp_loop (lim := s.heap.objs.size) W1 W2 hX hY hm1 hm2 hw1 hw2 hG1 hG2 n 0 _ s.heap.objs.size (Float64.zero false, Float64.zero false, Float64.zero false) s.toks true rfl (Nat.zero_le _) (fun h => absurd h (Nat.ne_of_gt hn)) ?_ ?_ (Nat.le_refl _) (Heap.get?_push_size _ rfl) hz ?_
  · exact W1.frame _ s _ (s.toks + 1) h1 (Nat.le_succ _) fun b _ o e => Heap.get?_push_of_some _ e
  · exact W2.frame _ s _ (s.toks + 1) h2 (Nat.le_succ _) fun b _ o e => Heap.get?_push_of_some _ e
  · intro s' t' mv
    refine hQ s' t' ⟨fun b o hb e => mv.heap b o hb (Heap.get?_push_of_some _ e), mv.gens, mv.drawn, mv.os, Nat.le_trans (Nat.le_succ _) mv.toks⟩
end
end Mine
end
section
open PySem PySem.W PyProof.Rows PySem.Spec PySem.Calls
namespace Mine
theorem passing_all (n : Nat) : passing (fun _ => true) n 0 = List.range n := by simp [passing]
theorem walksS_mono {prog : Program} {w : World} {A : Around} {I : Addr} {fp wr : List Addr} {G : Array GenState → Array GenState → Prop} {n : Nat} {P P' : Nat → Value → Prop} {St : Nat → Shared → Prop}
    (W : WalksS prog w A I fp wr G n P St) (h : ∀ i v, P i v → P' i v) : WalksS prog w A I fp wr G n P' St where
  sub := W.sub
  grefl := W.grefl
  gtrans := W.gtrans
  frame := W.frame
  item := fun i s Q E hi st hQ => W.item i s Q E hi st fun v s' hp => hQ v s' (h i v hp)
  done := W.done
  self := W.self
theorem GenAt.move {prog : Program} {w : World} {A : Around} {a : Addr} {g : Nat} {C : Addr} {fp wr : List Addr} {pz : Nat → Bool} {n₀ : Nat} {F : Nat → Value → Prop} {j : Nat} {s s' : Shared} (st : GenAt prog w A a g C fp wr pz n₀ F j s)
    (hk : ∀ b ∈ a :: C :: fp, ∀ o, s.heap.get? b = some o → s'.heap.get? b = some o) (hc : cStatics ∈ fp) (hg : s'.gens[g]? = s.gens[g]?) : GenAt prog w A a g C fp wr pz n₀ F j s' := by
  obtain ⟨⟨o, nm, qn, ho, r⟩, ⟨mc, hns, hnn⟩, gs, hgs, hgo⟩ := st
  refine ⟨⟨o, nm, qn, hk a (by simp) o ho, r⟩, ⟨mc, hns.at' fun o e => hk cStatics (by simp [hc]) o e, hnn⟩, gs, hg.trans hgs, fun s'' hal => hgo s'' fun b hb o e => hal b hb o (hk b (List.mem_cons_of_mem _ hb) o e)⟩
/-- a code record with its table of inner codes -/
def CT (h : Heap) (c P : Addr) : Prop := ∃ ps, h.IsCode c P ps ∧ h.TableAt c P ps
theorem CT.keeps {h h' : Heap} {c P : Addr} (x : CT h c P) (hk : ∀ b o, h.get? b = some o → h'.get? b = some o) : CT h' c P := let ⟨ps, a, b⟩ := x; ⟨ps, a.keeps hk, b.keeps hk⟩
/-- all that a table's facts look at is kept -/
theorem CT.at {h h' : Heap} {c P : Addr} (x : CT h c P) (h1 : ∀ o, h.get? c = some o → h'.get? c = some o) (h2 : ∀ o, h.get? P = some o → h'.get? P = some o) : CT h' c P := by
  obtain ⟨ps, ⟨o, vs, file, tf, flags, tg, inF, text, tt, op, i1, i2, i3, i4, i5, i6, i7, i8, i9⟩, ⟨o', vs', j1, j2⟩, j3⟩ := x
  exact ⟨ps, ⟨o, vs, file, tf, flags, tg, inF, text, tt, op, h1 _ i1, i2, i3, i4, i5, i6, i7, h2 _ i8, i9⟩, ⟨o', vs', h1 _ j1, j2⟩, h2 _ j3⟩
theorem CT.get {h : Heap} {c P : Addr} (x : CT h c P) : ∃ ps, h.get? P = some (tabObj ps) := let ⟨ps, _, _, e⟩ := x; ⟨ps, e⟩
theorem CT.getc {h : Heap} {c P : Addr} (x : CT h c P) : ∃ o, h.get? c = some o := let ⟨_, _, ⟨o, _, e, _⟩, _⟩ := x; ⟨o, e⟩
section
variable {M : Model} {A : Around} {E : Value → Shared → Prop} {s : Shared}
theorem genCode {env : Env} {c P : Addr} {pos : Pos} {qualname : Str} {scope : Scope} {Q : Value → Shared → Prop} (hc : env.code = .ref c) (x : CT s.heap c P)
    (hQ : ∀ code h' tk, Heap.ExtBut P s.heap h' → CT h' c P → Q code { s with heap := h', toks := tk }) : wpAny M A (genexprCode env pos qualname scope) Q E s := by
  obtain ⟨ps, hok, htab⟩ := x
  cases hf : codeAmong pos ps.toList with
  | some c' => exact wpAny_genexprCode_hit hc hok hf (hQ _ s.heap s.toks (fun _ _ _ e => e) ⟨ps, hok, htab⟩)
  | none => exact wpAny_genexprCodeX hc hok htab hf fun c' h' tk hb _ _ h1 _ h2 _ => hQ _ h' tk hb ⟨_, h1, h2⟩
end
def FS (ns : List Int) (xb : UInt64) (j : Nat) (y : Value) : Prop := ∃ t, y = .float (Float64.sub (Float64.ofInt (ns.getD j 0)) xb) t
section
variable {prog : Program} {w : World} {A : Around} {E : Value → Shared → Prop} {s : Shared}
theorem gen_sub {env : Env} {x xb : Str} {px pa pb pc pos : Pos} {iter : Expr} {scope : Scope} {cl : List (Str × Addr)} {c P l cX bm : Addr} {items : List Value} {ns : List Int} {oX ob : Obj} {xbar : UInt64} {tx : Tok} {mg : Str → Option Value} {Q : Value → Shared → Prop}
    (hco : scope.isCoroutine = false) (hclos : closureFor scope env = pure cl) (hcell : ∀ y ∈ scope.names, y.2 ≠ .cell) (h0 : scope.names.lookup (".0" : Str) = some NameKind.local)
    (hx : scope.names.lookup x = some .local) (hxb : scope.names.lookup xb = some .free) (hcl : cl.lookup xb = some cX) (hkind : scope.kind = .function) (hroom : A.depth < recursionLimit)
    (hd1 : (x == ("__debug__" : Str)) = false) (hd2 : (xb == ("__debug__" : Str)) = false) (hd3 : (xb == ("__classdict__" : Str)) = false)
    (hs : ∀ x, genFold iter env x = pure x)
    (hit : wpAny (model prog w) A (eval iter env) (fun xv s₁ => xv = .ref l ∧ s₁ = s) E s)
    (hl : s.heap.IsList l items.toArray) (hi : IntsAre items ns) (hfit : ∀ n ∈ ns, n.natAbs < 2 ^ 1023)
    (hX : s.heap.get? cX = some oX) (hXd : oX.data = .cell (some (.float xbar tx)))
    (hcode : env.code = .ref c) (hok : CT s.heap c P) (hlim : s.heap.NoLimit) (B : BMod s.heap env.globals mg bm ob)
    (hP1 : l ≠ P) (hP2 : cX ≠ P) (hP3 : cStatics ≠ P) (hP4 : bm ≠ P) (hP5 : env.globals ≠ P) 
    (hQ : ∀ I C a h' tk gs, s.heap.objs.size ≤ I → I < C → C < a → h'.objs.size = a + 1 → (∀ b o, b ≠ P → s.heap.get? b = some o → h'.get? b = some o) → CT h' c P → gs.bare = true →
      (∀ A' : Around, A'.handled = none → A'.depth < recursionLimit →
        WalksS prog w A' a (a :: C :: [I, l, cX, cStatics]) [C, I] (GenOnlyQ s.gens.size) items.length (FS ns xbar) (GenAt prog w A' a s.gens.size C [I, l, cX, cStatics] [I] (fun _ => true) items.length (FS ns xbar)) ∧
        GenAt prog w A' a s.gens.size C [I, l, cX, cStatics] [I] (fun _ => true) items.length (FS ns xbar) 0 { s with heap := h', gens := s.gens.push gs, toks := tk }) →
      Q (.ref a) { s with heap := h', gens := s.gens.push gs, toks := tk }) :
    wpAny (model prog w) A (eval (.GeneratorExp (.BinOp (.Name x pa) .Sub (.Name xb pb) pc) [⟨.Name x px, iter, [], 0⟩] scope pos) env) Q E s := by
  have hll : l < s.heap.objs.size := by obtain ⟨o, e, _⟩ := hl; exact Heap.lt_size e
  have hcst : cStatics < s.heap.objs.size := by obtain ⟨mc, ⟨o, es, ep, e, _⟩, _⟩ := hlim; exact Heap.lt_size e
  have hXl : cX < s.heap.objs.size := Heap.lt_size hX
  refine wpAny_GeneratorExp_make hco hclos hcell h0 hkind hroom (wpAny_mono hit (fun xv s₁ h₁ => ?_) fun _ _ e => e) hs
  obtain ⟨rfl, rfl⟩ := h₁
  refine wpAny_pyIter_list hl ⟨hlim.push _, ?_⟩
  refine genCode hcode (hok.keeps fun _ _ e => Heap.get?_push_of_some _ e) fun code h3 tk3 hb3 hok3 => ?_
  have hk3 : ∀ b o, b ≠ P → s₁.heap.get? b = some o → h3.get? b = some o := fun b o hb e => hb3 b o hb (Heap.get?_push_of_some _ e)
  refine wpAny_builtinsFor (m := mg) (bm := bm) (o := ob) (B.ns.at' fun o e => hk3 _ o hP5 e) B.name B.ne (hk3 _ _ hP4 B.obj) B.cls B.dict B.data ?_
  intro h' hn' hs'
  dsimp only at hn' hs' ⊢
  have hPl : P < s₁.heap.objs.size := by
    obtain ⟨ps, e⟩ := hok.get
    exact Heap.lt_size e
  have hIP : s₁.heap.objs.size ≠ P := Nat.ne_of_gt hPl
  have hI3 : h3.get? s₁.heap.objs.size = some { cls := .type "list_iterator", data := .fields #[.ref l, .int 0 0] } := hb3 _ _ hIP (Heap.get?_push_size _ rfl)
  have hIC : s₁.heap.objs.size < h3.objs.size := Heap.lt_size hI3
  have hsz : h'.objs.size = h3.objs.size + 1 := by rw [hs'.1, Heap.size_push]
  have keep' : ∀ b o, h3.get? b = some o → h'.get? b = some o := fun b o e => hs'.extBut b o (Nat.ne_of_lt (Heap.lt_size e)) (Heap.get?_push_of_some _ e)
  refine hQ s₁.heap.objs.size h3.objs.size h'.objs.size _ _ _ (Nat.le_refl _) hIC (by rw [hsz]; exact Nat.lt_succ_self _) (by rw [Heap.size_push]) (fun b o hb e => Heap.get?_push_of_some _ (keep' b o (hk3 b o hb e))) (hok3.keeps fun b o e => Heap.get?_push_of_some _ (keep' b o e)) rfl ?_
  intro A' hA' hd'
  have haC : h'.objs.size ≠ h3.objs.size := by rw [hsz]; exact Nat.succ_ne_self _
  have hsub : ∀ b ∈ [s₁.heap.objs.size], b ∈ [s₁.heap.objs.size, l, cX, cStatics] := fun b hb => by simp at hb; simp [hb]
  have hlt4 : ∀ b ∈ [s₁.heap.objs.size, l, cX, cStatics], b < h3.objs.size := by
    intro b hb
    simp only [List.mem_cons, List.not_mem_nil, or_false] at hb
    rcases hb with h | h | h | h <;> rw [h]
    · exact hIC
    · exact Nat.lt_trans hll hIC
    · exact Nat.lt_trans hXl hIC
    · exact Nat.lt_trans hcst hIC
  have haf : h'.objs.size ∉ [s₁.heap.objs.size, l, cX, cStatics] := fun hm => by have := hlt4 _ hm; omega
  have W0 : ∀ A'' : Around, A''.handled = none → Walks prog w A'' s₁.heap.objs.size [s₁.heap.objs.size, l, cX, cStatics] [s₁.heap.objs.size] items.length (fun i v => items[i]? = some v) _ :=
    fun A'' hA'' => by
      have := (Walks.list (prog := prog) (w := w) hA'' s₁.heap.objs.size l (Nat.ne_of_lt hll) items.toArray).mono_fp (fp' := [s₁.heap.objs.size, l, cX, cStatics]) (fun b hb => by
        simp only [List.mem_cons, List.not_mem_nil, or_false] at hb ⊢
        rcases hb with h | h <;> simp [h])
      simpa using this
  have hst : (h'.push { cls := .type "generator", data := .fields #[.int s₁.gens.size 0, .str "<genexpr>" (tk3 + 1), .str (env.qual ++ "<genexpr>") (tk3 + 1 + 1)] }).IsListIter s₁.heap.objs.size l 0 ∧ (h'.push { cls := .type "generator", data := .fields #[.int s₁.gens.size 0, .str "<genexpr>" (tk3 + 1), .str (env.qual ++ "<genexpr>") (tk3 + 1 + 1)] }).IsList l items.toArray :=
    ⟨⟨_, Heap.get?_push_of_some _ (keep' _ _ hI3), rfl, rfl⟩, hl.at fun o e => Heap.get?_push_of_some _ (keep' _ _ (hk3 _ _ hP1 e))⟩
  have key := WalksS.genexpQ (prog := prog) (w := w) (A := A') hA' h'.objs.size s₁.gens.size h3.objs.size [s₁.heap.objs.size, l, cX, cStatics] [s₁.heap.objs.size] (fun _ => true) items.length (FS ns xbar) haC haf hsub hd' (by simp) (Nat.ne_of_lt (Nat.lt_trans hcst hIC)) (by simp; exact Nat.ne_of_lt hcst)
  have hlen : (passing (fun _ => true) items.length 0).length = items.length := by rw [passing_all, List.length_range]
  rw [hlen] at key
  refine ⟨walksS_mono key fun i v ⟨j, hj, hF⟩ => ?_, ?_⟩
  · rw [passing_all] at hj
    have : i = j := by
      have := List.getElem?_eq_some_iff.mp hj
      obtain ⟨h, e⟩ := this
      simpa using e
    rw [this]; exact hF
  · refine GenAt.freshD (cenv := genEnv scope cl h3.objs.size code builtinsNs env) (m := fun y => if y = ".0" then some (.ref s₁.heap.objs.size) else none) hA' W0 (fun _ => true) (FS ns xbar) hx (by simp [genEnv, hkind]) hco (fun hm => Nat.lt_irrefl _ (hlt4 _ hm)) ?_ ⟨_, _, _, Heap.get?_push_size _ rfl, rfl, rfl, rfl⟩ (Array.getElem?_push_size ..) hst (hn'.push _) ?_
    · refine ⟨?_, ?_⟩
      · intro A'' E' i v s2 m2 _ _ _ _ _ _ _
        exact wpAny_pure ⟨rfl, s2.heap, s2.toks, rfl, fun _ _ e => e⟩
      · intro A'' E' i v s2 m2 hA2 _ _ hv _ hn2 hm2 hfp
        obtain ⟨d, t, rfl, hd⟩ := ints_getElem hi hv
        refine wpAny_BinOp (wpAny_Name (wpAny_loadName_local hkind hx hn2 hm2 (wpAny_Name (wpAny_loadName_free (c := cX) hkind hxb hcl ⟨oX, hfp cX (by simp) (by simp; exact Nat.ne_of_lt hXl) _ (Heap.get?_push_of_some _ (keep' _ _ (hk3 _ _ hP2 hX))), hXd⟩ (sub_if_fits (hfit d (List.mem_of_getElem? hd)) ⟨⟨s2.toks, by rw [List.getD_eq_getElem?_getD, hd]; rfl⟩, s2.heap, s2.toks + 1, rfl, fun _ _ e => e⟩) hd3) hd2)) hd1)
    · exact hlim.elim fun mc ⟨hns, hnn⟩ => ⟨mc, hns.at' fun o e => Heap.get?_push_of_some _ (keep' _ _ (hk3 _ _ hP3 e)), hnn⟩
end
end Mine
end
section
open PySem PySem.W PyProof.Rows PySem.Spec PySem.Calls
namespace Mine
local macro_rules | `(tactic| walk_at "ite") => `(tactic| (k_here; rw [if_neg (by assumption)]))
local macro_rules | `(tactic| walk_at "binaryOp Div float int") => `(tactic| (k_here; (refine' AutoFloatOps.truediv_fi_2 ?a ?b ?_; (case a => with_reducible assumption); (case b => with_reducible assumption); dsimp only [Made.post]; k_whole)))
set_option maxRecDepth 100000 in
set_option maxHeartbeats 400000 in
theorem cov_spec {w : World} {p : Program} {loose : List Str} {mean : ExcName → Option Value} {mg mb : Str → Option Value} {g : Heap} {A : Around} {s : Shared} {Q E : Value → Shared → Prop} {lx ly : Addr} {vx vy : List Value} {nx ny : List Int} {ex ey : Nat} {z : UInt64}
    (Rt : Root w p loose mean mg mb g) (O : On g s.heap) (hA : A.handled = none) (hdp : A.depth + 20 < recursionLimit) (hun : A.units + 60 < cLine)
    (hlx : s.heap.get? lx = some (listOf vx.toArray ex)) (hly : s.heap.get? ly = some (listOf vy.toArray ey)) (hx : IntsAre vx nx) (hy : IntsAre vy ny) (hlen : ny.length = nx.length) (h2 : 2 ≤ nx.length) (h100 : nx.length ≤ 100)
    (hT : CT s.heap 111 107) (hox : ∀ n ∈ nx, ¬ Flt.Over n) (hoy : ∀ n ∈ ny, ¬ Flt.Over n) {sx sy : UInt64} (hsx : fsumI [] nx = some sx) (hsy : fsumI [] ny = some sy) (hfx : ∀ n ∈ nx, n.natAbs < 2 ^ 1023) (hfy : ∀ n ∈ ny, n.natAbs < 2 ^ 1023) (hx107 : lx ≠ 107) (hy107 : ly ≠ 107)
    (hz : spN (fun i => Float64.sub (Float64.ofInt (nx.getD i 0)) (Float64.div sx (Float64.ofInt nx.length))) (fun i => Float64.sub (Float64.ofInt (ny.getD i 0)) (Float64.div sy (Float64.ofInt nx.length))) nx.length 0 (Float64.zero false, Float64.zero false, Float64.zero false) = some z)
    (hret : ∀ h' tk' gs' t, But [107] s.heap h' → Gb s.gens gs' → CT h' 111 107 → Q (.float (Float64.div z (Float64.ofInt (nx.length - 1))) t) { s with heap := h', gens := gs', toks := tk' }) :
    wpAny (model PySem.Challenge.rw_rs0116_01.row.prog w) A (call (.ref 112) [.ref lx, .ref ly]) Q E s := by
  w_on
  obtain ⟨ah, dp, fr, gd, un⟩ := A
  dsimp only at hA hdp hun
  subst hA
  refine wpAny_call ?_
  have hLo := O.lo Rt
  have hvx := hx.length
  have hvy := hy.length
  obtain ⟨h₀, hk0, hs0, hh0, hb0, X, T, hg0⟩ := base_of Rt O [107] (by simpa using Rt.n3)
  have hlx0 : h₀.get? lx = some (listOf vx.toArray ex) := hb0 _ _ (by simpa using hx107) hlx
  have hly0 : h₀.get? ly = some (listOf vy.toArray ey) := hb0 _ _ (by simpa using hy107) hly
  have hILx : h₀.IsList lx vx.toArray := ⟨_, hlx0, rfl, _, rfl⟩
  have hILy : h₀.IsList ly vy.toArray := ⟨_, hly0, rfl, _, rfl⟩
  obtain ⟨ps, i8⟩ := hT.get
  obtain ⟨oc1, i1⟩ := hT.getc
  have i10 : h₀.get? 111 = some oc1 := hb0 _ _ (by simp) i1
  revert X
  k_fill
  intro X
  have XS := O.X Rt
  k_dflt (refine' enterCK (binds := [("x", .ref lx), ("y", .ref ly)]) (news := [(107, tabObj ps)]) XS (O.T Rt) hk0 hs0 ?k3 ?k6 ?k7 ?k8 ?k9 ?kB ?kC ?_ ?c2 ?c3 ?c4; (case k6 => k_is); (case k7 => k_is); (case k8 => (dsimp only; omega)); (case k9 => exact BindsTo.of_eq rfl); (case kB => exact rfl); (case kC => decide); (case c2 => exact rfl); (case c3 => exact rfl); (case c4 => exact rfl))
  case k3 => 
    intro q hq
    simp only [List.mem_cons, List.not_mem_nil, or_false] at hq
    subst hq
    exact ⟨i8, hh0 107 (by simp)⟩
  intro L h₁ tk cells hL F N Y hk1
  (try k_fold)
  k_cells Y
  simp only [List.cons_append, List.nil_append] at N
  have c1 : ¬ ((ny.length : Int) != (nx.length : Int)) = true := by rw [hlen]; simp
  have dn1 : ¬ Float64.isInf (Float64.ofInt (nx.length : Int)) = true := Float64.ofInt_fits (by rw [Int.natAbs_natCast]; exact Nat.lt_of_le_of_lt h100 (Nat.lt_of_lt_of_le (show 100 < 2 ^ 7 by decide) (Nat.pow_le_pow_right (by decide) (by decide))))
  have dn2 : ¬ Float64.isZero (Float64.ofInt (nx.length : Int)) = true := fun h => by have := (Flt.isZero_ofInt _).mp h; omega
  have c2 : ¬ ((nx.length : Int) < 2) := by omega
  have c3 : ¬ (decide ((nx.length : Int) < 2) = true) := by simpa using c2
  k_steps
  rename News _ _ _ _ => N2
  rename Fr _ _ _ _ => F2
  refine call_fsum rfl (hILx.at fun o e => F2.keep _ o e) hx ?_ ?_ hsx ?_
  · exact Nat.le_trans (Nat.add_le_add_right h100 2) (by decide)
  · exact fun n hn => hox n hn
  intro h3 tk3 t3 hk3
  have F3 := (show But [] _ _ from fun b o _ e => hk3 b o e).fr F2 (by simp) (by simp)
  have N3 := (show But [] _ _ from fun b o _ e => hk3 b o e).news N2 (by simp)
  dsimp only
  clear F2 N2
  k_steps
  rename News _ _ _ _ => N4
  rename Fr _ _ _ _ => F4
  refine call_fsum rfl (hILy.at fun o e => F4.keep _ o e) hy ?_ ?_ hsy ?_
  · rw [hlen]; exact Nat.le_trans (Nat.add_le_add_right h100 2) (by decide)
  · exact fun n hn => hoy n hn
  intro h5 tk5 t5 hk5
  have F5 := (show But [] _ _ from fun b o _ e => hk5 b o e).fr F4 (by simp) (by simp)
  have N5 := (show But [] _ _ from fun b o _ e => hk5 b o e).news N4 (by simp)
  dsimp only
  clear F4 N4
  k_steps
  rename News _ _ _ _ => N6
  rename Fr _ _ _ _ => F6
  obtain ⟨bm, ob, b1, b2, b3, b4, b5, b6⟩ := T.bmain
  have hne : ∀ b o, h₀.get? b = some o → b ≠ 107 := fun b o e q => by rw [q, hh0 107 (by simp)] at e; cases e
  have hc107 : cStatics ≠ 107 := by obtain ⟨mc, ⟨o, es, ep, e, _⟩, _⟩ := T.nolimit; exact hne _ _ e
  have hg107 : mainGlobals ≠ 107 := by obtain ⟨o, es, ep, e, _⟩ := T.g; exact hne _ _ e
  have hX6 := (N6 (L + 1, _) (by k_mem)).1
  have hY6 := (N6 (L + 1 + 1, _) (by k_mem)).1
  rename Obj.data _ = Data.cell (some (Value.float (Float64.div sx _) _)) => dX
  rename Obj.data _ = Data.cell (some (Value.float (Float64.div sy _) _)) => dY
  have hIs6 : CT _ 111 107 := hT.at (fun o e => by rw [i1] at e; cases e; exact F6.keep _ _ i10) (fun o e => by rw [i8] at e; cases e; exact (N6 (107, tabObj ps) (by k_mem)).1)
  refine' gen_sub (l := lx) (c := 111) (P := 107) (cX := L + 1) (bm := bm) (ob := ob) (mg := mg) rfl rfl ?g1 rfl rfl rfl rfl rfl ?g2 rfl rfl rfl ?g3 ?g4 (hILx.at fun o e => F6.keep _ o e) hx hfx hX6 dX rfl hIs6 (T.nolimit.keeps F6.keep) ?g8 hx107 ?g9 hc107 (hne _ _ b3) hg107 ?_
  case g1 => decide
  case g2 => show dp + 1 < _; omega
  case g3 => intro x; rfl
  case g4 => 
    k_steps
  case g8 => exact ⟨T.g.keeps F6.keep, b1, b2, F6.keep _ _ b3, b4, b5, b6⟩
  case g9 => exact neN (by omega)
  intro I1 C1 a1 h7 tk7 gs7 hI1 hC1 ha1 hs7 hk7 hIs7 hb7 hW7
  have hLn : L ≠ 107 := neN (by omega)
  have F7 : Fr h₀ L h7 _ := (show But [107] _ h7 from fun b o hb e => hk7 b o (by simpa using hb) e).fr F6 (by simpa using hh0 107 (by simp)) (by simpa using hLn)
  have N7 : News h₀ L h7 [(L + 1 + 1, _), (L + 1, _)] := (show But [107] _ h7 from fun b o hb e => hk7 b o (by simpa using hb) e).news (news_sub N6 (List.sublist_append_left [_, _] [_])) (by
    intro q hq
    simp only [List.mem_cons, List.not_mem_nil, or_false] at hq ⊢
    rcases hq with h | h <;> rw [h] <;> exact neN (by dsimp only; omega))
  dsimp only
  clear F6 N6
  k_steps
  dsimp only at hX6 hY6 hI1
  have hsz6 : ∀ b o, h₀.get? b = some o → b < I1 := fun b o e => by
    exact Nat.lt_of_lt_of_le (Nat.lt_of_lt_of_le (Heap.lt_size e) F7.above) (Nat.le_of_lt (Nat.lt_of_le_of_lt (Nat.le_succ _) (Nat.lt_of_lt_of_le (Heap.lt_size hX6) hI1)))
  have hL6 : L + 1 < I1 := Nat.lt_of_lt_of_le (Heap.lt_size hX6) hI1
  have hL7 : L + 1 + 1 < I1 := Nat.lt_of_lt_of_le (Heap.lt_size hY6) hI1
  have hlx6 := hsz6 _ _ hlx0
  have hly6 := hsz6 _ _ hly0
  have hcs6 : cStatics < I1 := by obtain ⟨mc, ⟨o, es, ep, e, _⟩, _⟩ := T.nolimit; exact hsz6 _ _ e
  have hX7 := (N7 (L + 1, _) (by k_mem)).1
  have hY7 := (N7 (L + 1 + 1, _) (by k_mem)).1
  refine' gen_sub (l := ly) (c := 111) (P := 107) (cX := L + 1 + 1) (bm := bm) (ob := ob) (mg := mg) rfl rfl ?g1 rfl rfl rfl rfl rfl ?g2 rfl rfl rfl ?g3 ?g4 (hILy.at fun o e => F7.keep _ o e) hy hfy hY7 dY rfl hIs7 (T.nolimit.keeps F7.keep) ?g8 hy107 ?g9 hc107 (hne _ _ b3) hg107 ?_
  case g1 => decide
  case g2 => show dp + 1 < _; omega
  case g3 => intro x; rfl
  case g4 => k_steps
  case g8 => exact ⟨T.g.keeps F7.keep, b1, b2, F7.keep _ _ b3, b4, b5, b6⟩
  case g9 => exact neN (by omega)
  intro I2 C2 a2 h8 tk8 gs8 hI2 hC2 ha2 hs8 hk8 hIs8 hb8 hW8
  have F8 : Fr h₀ L h8 _ := (show But [107] _ h8 from fun b o hb e => hk8 b o (by simpa using hb) e).fr F7 (by simpa using hh0 107 (by simp)) (by simpa using hLn)
  have N8 : News h₀ L h8 [(L + 1 + 1, _), (L + 1, _)] := (show But [107] _ h8 from fun b o hb e => hk8 b o (by simpa using hb) e).news N7 (by
    intro q hq
    simp only [List.mem_cons, List.not_mem_nil, or_false] at hq ⊢
    rcases hq with h | h <;> rw [h] <;> exact neN (by dsimp only; omega))
  dsimp only at hI2 hs8 hk8 ⊢
  clear F7 N7
  k_steps
  have e7 : a1 < I2 := Nat.lt_of_lt_of_le (by rw [hs7]; exact Nat.lt_succ_self _) hI2
  have n1 : ∀ b, b ≤ a1 → b ∉ [C2, I2] := fun b hb h => by
    simp only [List.mem_cons, List.not_mem_nil, or_false] at h
    rcases h with h | h
    · exact Nat.lt_irrefl _ (Nat.lt_of_le_of_lt hb (Nat.lt_trans e7 (h ▸ hC2)))
    · exact Nat.lt_irrefl _ (Nat.lt_of_le_of_lt hb (h ▸ e7))
  have n2 : ∀ b, b < I1 ∨ a1 < b → b ∉ [C1, I1] := fun b hb h => by
    simp only [List.mem_cons, List.not_mem_nil, or_false] at h
    rcases hb with hb | hb <;> rcases h with h | h <;> rw [h] at hb
    · exact Nat.lt_irrefl _ (Nat.lt_trans hb hC1)
    · exact Nat.lt_irrefl _ hb
    · exact Nat.lt_irrefl _ (Nat.lt_trans hb ha1)
    · exact Nat.lt_irrefl _ (Nat.lt_trans hb (Nat.lt_trans hC1 ha1))
  have lt1 : ∀ b ∈ a1 :: C1 :: [I1, lx, L + 1, cStatics], b ≤ a1 := by
    intro b hb
    have hIa := Nat.lt_trans hC1 ha1
    simp only [List.mem_cons, List.not_mem_nil, or_false] at hb
    rcases hb with h | h | h | h | h | h <;> rw [h]
    · exact Nat.le_refl _
    · exact Nat.le_of_lt ha1
    · exact Nat.le_of_lt hIa
    · exact Nat.le_of_lt (Nat.lt_trans hlx6 hIa)
    · exact Nat.le_of_lt (Nat.lt_trans hL6 hIa)
    · exact Nat.le_of_lt (Nat.lt_trans hcs6 hIa)
  have lt2 : ∀ b ∈ a2 :: C2 :: [I2, ly, L + 1 + 1, cStatics], b < I1 ∨ a1 < b := by
    intro b hb
    simp only [List.mem_cons, List.not_mem_nil, or_false] at hb
    rcases hb with h | h | h | h | h | h <;> rw [h]
    · exact .inr (Nat.lt_trans e7 (Nat.lt_trans hC2 ha2))
    · exact .inr (Nat.lt_trans e7 hC2)
    · exact .inr e7
    · exact .inl hly6
    · exact .inl hL7
    · exact .inl hcs6
  have hI107 : 107 < I1 := Nat.lt_trans (ltN (by omega)) hL6
  have hgo : ∀ {g k : Nat} {a b : Array GenState}, k ≠ g → GenOnlyQ g a b → b[k]? = a[k]? := fun hk x => by
    rcases x with rfl | ⟨⟨_, ho⟩, _⟩
    · rfl
    · exact ho _ hk
  have hnl : vy.length = vx.length := by omega
  simp only [hnl] at hW8
  refine call_sumprod (z := z) (hW7 _ ?q1 ?q2).1 (hW8 _ ?q1 ?q2).1 (fun i v h => h) (fun i v h => h) ?m1 ?m2 ?m3 ?m4 ?m5 ?m6 ?m7 ?m8 (hW8 _ ?q1 ?q2).2 ?m9 ?_
  case q1 => rfl
  case q2 => show dp + 1 < _; omega
  case m1 => 
    intro i s1 s2 st mv
    exact GenAt.move st (fun b hb o e => mv.heap b o (n1 b (lt1 b hb)) e) (by simp) (hgo (by simp) mv.gens)
  case m2 => 
    intro i s1 s2 st mv
    exact GenAt.move st (fun b hb o e => mv.heap b o (n2 b (lt2 b hb)) e) (by simp) (hgo (by simp) mv.gens)
  case m3 => 
    intro b hb
    simp only [List.mem_cons, List.not_mem_nil, or_false] at hb
    dsimp only
    rw [hs8]
    have hI2' := Nat.lt_trans e7 (Nat.lt_trans hC2 ha2)
    rcases hb with h | h <;> rw [h]
    · exact Nat.lt_trans ha1 (Nat.lt_succ_of_lt hI2')
    · exact Nat.lt_trans (Nat.lt_trans hC1 ha1) (Nat.lt_succ_of_lt hI2')
  case m4 => 
    intro b hb
    simp only [List.mem_cons, List.not_mem_nil, or_false] at hb
    dsimp only
    rw [hs8]
    rcases hb with h | h <;> rw [h]
    · exact Nat.lt_succ_of_lt ha2
    · exact Nat.lt_succ_of_lt (Nat.lt_trans hC2 ha2)
  case m5 => exact fun a b x => x.bare
  case m6 => exact fun a b x => x.bare
  case m7 => omega
  case m8 => 
    refine GenAt.move (hW7 _ ?p1 ?p2).2 (fun b hb o e => hk8 b o ?p3 e) (by simp) ?p4
    case p1 => rfl
    case p2 => show dp + 1 < _; omega
    case p3 => 
      simp only [List.mem_cons, List.not_mem_nil, or_false] at hb
      rcases hb with h | h | h | h | h | h <;> rw [h]
      · exact Nat.ne_of_gt (Nat.lt_trans hI107 (Nat.lt_trans hC1 ha1))
      · exact Nat.ne_of_gt (Nat.lt_trans hI107 hC1)
      · exact Nat.ne_of_gt hI107
      · exact hx107
      · exact neN (by omega)
      · exact hc107
    case p4 => 
      show ((s.gens.push gs7).push gs8)[s.gens.size]? = (s.gens.push gs7)[s.gens.size]?
      rw [Array.getElem?_push, if_neg (by simp)]
  case m9 => rw [hvx]; exact hz
  intro s9 t9 mv9
  obtain ⟨h9, gs9, dr9, tk9, os9⟩ := s9
  have e1 := mv9.drawn
  have e2 := mv9.os
  dsimp only at e1 e2
  subst e1
  subst e2
  have hwr : ∀ b ∈ [C1, I1] ++ [C2, I2], I1 ≤ b := by
    intro b hb
    have hI12 := Nat.lt_trans (Nat.lt_trans hC1 ha1) e7
    simp only [List.mem_cons, List.not_mem_nil, or_false, List.cons_append, List.nil_append] at hb
    rcases hb with h | h | h | h <;> rw [h]
    · exact Nat.le_of_lt hC1
    · exact Nat.le_refl _
    · exact Nat.le_of_lt (Nat.lt_trans hI12 hC2)
    · exact Nat.le_of_lt hI12
  have hnw : ∀ b, b < I1 → b ∉ [C1, I1] ++ [C2, I2] := fun b hb h => Nat.lt_irrefl _ (Nat.lt_of_lt_of_le hb (hwr b h))
  have F9 : Fr h₀ L h9 _ := (show But ([C1, I1] ++ [C2, I2]) h8 h9 from fun b o hb e => mv9.heap b o hb e).fr F8 (fun b hb => by
    cases q : h₀.get? b with
    | none => rfl
    | some o => exact absurd hb (hnw b (hsz6 b o q))) (hnw L (Nat.lt_trans (Nat.lt_succ_self _) hL6))
  obtain ⟨ps8, j8⟩ := hIs8.get
  obtain ⟨oc2, j1⟩ := hIs8.getc
  have N9 : News h₀ L h9 [(107, tabObj ps8)] := news_cons (mv9.heap _ _ (hnw _ hI107) j8) (fun h => hLn h.symm) (hh0 107 (by simp)) fun q hq => nomatch hq
  have j10 : oc2 = oc1 := by
    have := F8.keep _ _ i10
    rw [j1] at this; cases this; rfl
  subst j10
  have hgb : Gb s.gens gs9 := fun hb => mv9.gens fun y hy => by
    rcases Array.mem_push.mp hy with hy | rfl
    · rcases Array.mem_push.mp hy with hy | rfl
      · exact hb y hy
      · exact hb7
    · exact hb8
  clear F8 N8
  k_steps
  rename News _ _ _ _ => N10
  rename Fr _ _ _ _ => F10
  refine hret _ _ _ _ ?_ hgb ?_
  · exact fun b o hb e => F10.keep _ _ (hb0 b o hb e)
  · exact hIs8.at (fun o e => by rw [j1] at e; cases e; exact F10.keep _ _ i10) (fun o e => by rw [j8] at e; cases e; exact (N10 (107, tabObj ps8) (by k_mem)).1)
end Mine
end
section
open PySem PySem.W PyProof.Rows PySem.Spec PySem.Calls
namespace Mine
local macro_rules | `(tactic| walk_at "ite") => `(tactic| (k_here; rw [if_neg (by assumption)]))
local macro_rules | `(tactic| walk_at "binaryOp Div float int") => `(tactic| (k_here; (refine' AutoFloatOps.truediv_fi_2 ?a ?b ?_; (case a => with_reducible assumption); (case b => with_reducible assumption); dsimp only [Made.post]; k_whole)))
set_option maxRecDepth 100000 in
set_option maxHeartbeats 400000 in
theorem fmean_spec {w : World} {p : Program} {loose : List Str} {mean : ExcName → Option Value} {mg mb : Str → Option Value} {g : Heap} {A : Around} {s : Shared} {Q E : Value → Shared → Prop} {lx : Addr} {vx : List Value} {nx : List Int} {ex : Nat} {sx : UInt64}
    (Rt : Root w p loose mean mg mb g) (O : On g s.heap) (hA : A.handled = none) (hdp : A.depth + 20 < recursionLimit) (hun : A.units + 60 < cLine)
    (hlx : s.heap.get? lx = some (listOf vx.toArray ex)) (hx : IntsAre vx nx) (h2 : 1 ≤ nx.length) (h100 : nx.length ≤ 100) (hox : ∀ n ∈ nx, ¬ Flt.Over n) (hsx : fsumI [] nx = some sx)
    (hret : ∀ h' tk' t, Keep s.heap h' → Q (.float (Float64.div sx (Float64.ofInt nx.length)) t) { s with heap := h', toks := tk' }) :
    wpAny (model PySem.Challenge.rw_rs0116_01.row.prog w) A (call (.ref 105) [.ref lx]) Q E s := by
  w_on
  obtain ⟨ah, dp, fr, gd, un⟩ := A
  dsimp only at hA hdp hun
  subst hA
  refine wpAny_call ?_
  have hLo := O.lo Rt
  have hvx := hx.length
  obtain ⟨h₀, hk0, hs0, hh0, hb0, X, T, hg0⟩ := base_of Rt O [] (by simp)
  have hlx0 : h₀.get? lx = some (listOf vx.toArray ex) := hb0 _ _ (by simp) hlx
  have hILx : h₀.IsList lx vx.toArray := ⟨_, hlx0, rfl, _, rfl⟩
  revert X
  k_fill
  intro X
  have XS := O.X Rt
  k_dflt (refine' enterCK (binds := [("data", .ref lx), ("weights", .none)]) (news := []) XS (O.T Rt) hk0 hs0 ?k3 ?k6 ?k7 ?k8 ?k9 ?kB ?kC ?_ ?c2 ?c3 ?c4; (case k6 => k_is); (case k7 => k_is); (case k8 => (dsimp only; omega)); (case k9 => exact kp_binds (by with_reducible assumption) (fun _ => rfl)); (case kB => exact rfl); (case kC => decide); (case c2 => exact rfl); (case c3 => exact rfl); (case c4 => exact rfl))
  case k3 => exact fun q hq => nomatch hq
  intro L h₁ tk cells hL F N Y hk1
  (try k_fold)
  k_cells Y
  simp only [List.cons_append, List.nil_append] at N
  have dn1 : ¬ Float64.isInf (Float64.ofInt (nx.length : Int)) = true := Float64.ofInt_fits (by rw [Int.natAbs_natCast]; exact Nat.lt_of_le_of_lt h100 (Nat.lt_of_lt_of_le (show 100 < 2 ^ 7 by decide) (Nat.pow_le_pow_right (by decide) (by decide))))
  have c1 : ¬ ((nx.length : Int) = 0) := by omega
  have c2 : ¬ (((nx.length : Int) == 0) = true) := by simpa using c1
  have c3 : ¬ ((!((nx.length : Int) != 0)) = true) := by simpa using c1
  have c4 : ¬ ((nx.length : Int) = 0) := by omega
  have c5 : ¬ ((!(decide ((nx.length : Int) ≠ 0))) = true) := by simpa using c1
  have dn2 : ¬ Float64.isZero (Float64.ofInt (nx.length : Int)) = true := fun h => by have := (Flt.isZero_ofInt _).mp h; omega
  k_steps
  rename News _ _ _ _ => N2
  rename Fr _ _ _ _ => F2
  refine call_fsum rfl (hILx.at fun o e => F2.keep _ o e) hx ?_ ?_ hsx ?_
  · exact Nat.le_trans (Nat.add_le_add_right h100 2) (by decide)
  · exact fun n hn => hox n hn
  intro h3 tk3 t3 hk3
  have F3 := (show But [] _ _ from fun b o _ e => hk3 b o e).fr F2 (by simp) (by simp)
  have N3 := (show But [] _ _ from fun b o _ e => hk3 b o e).news N2 (by simp)
  dsimp only
  clear F2 N2
  k_steps
  rename Fr _ _ _ _ => F4
  exact hret _ _ _ fun b o e => F4.keep _ _ (hb0 b o (by simp) e)
end Mine
end
section
open PySem PySem.W PyProof.Rows PySem.Spec PySem.Calls
namespace Mine
/-- what the law's walk says -/
def LawSays (fa : Addr) : Prop := ∀ (w : World) (p : Program) (loose : List Str) (mean : ExcName → Option Value) (mg mb : Str → Option Value) (g : Heap) (A : Around) (s : Shared) (Q E : Value → Shared → Prop) (sl : Addr) (vals : List Value) (ns : List Int),
  Root w p loose mean mg mb g → On g s.heap → A.handled = none → A.depth + 150 < recursionLimit → A.units + 500 < cLine →
  s.heap.IsList sl vals.toArray → IntsAre vals ns → ns.length ≤ 63 → (∀ n ∈ ns, Builtin.Int.intBits n ≤ 2 ^ 20) →
  TabOk g 58 33 4 qA s.heap → TabOk g 65 48 4 qB s.heap → CT s.heap 111 107 →
  (∀ h' tk' gs', But [58, 65, 107] s.heap h' → Gb s.gens gs' → TabOk g 58 33 4 qA h' → TabOk g 65 48 4 qB h' → CT h' 111 107 → Q (.bool true) { s with heap := h', gens := gs', toks := tk' }) →
  wpAny (model PySem.Challenge.rw_rs0116_01.row.prog w) A (call (.ref fa) [.ref sl]) Q E s
theorem oldK_of {tabs : List (Addr × Addr)} {h₁ h' : Heap} (hT : TabsAt tabs h₁) (hb : But (tabs.map (·.2)) h₁ h') (hn : ∀ q ∈ tabs, ∃ ps, h'.get? q.2 = some (tabObj ps)) : OldK h₁ h' := by
  refine ⟨fun b o e => ?_, fun b o e => ?_⟩
  · by_cases hm : b ∈ tabs.map (·.2)
    · obtain ⟨q, hq, rfl⟩ := List.mem_map.mp hm
      obtain ⟨ps, hp⟩ := hn q hq
      have e0 := (hT q hq).2
      rw [e] at e0
      cases e0
      exact .inr (.inl ⟨((hT q hq).1.tab e).isCodeTable, rfl, #[], ps, rfl, by rw [hp]; simp⟩)
    · exact .inl (hb b o hm e)
  · by_cases hm : b ∈ tabs.map (·.2)
    · obtain ⟨q, hq, rfl⟩ := List.mem_map.mp hm
      obtain ⟨ps, hp⟩ := hn q hq
      exact ⟨_, hp⟩
    · exact ⟨o, hb b o hm e⟩
theorem TabOk.get' {g h : Heap} {P line col : Nat} {qual : Str} (x : TabOk g P line col qual h) : ∃ ps, h.get? P = some (tabObj ps) := x.get
set_option maxRecDepth 100000 in
set_option maxHeartbeats 1000000 in
theorem join (H : LawSays 124) : PySem.Challenge.rw_rs0116_01.Holds := by
  w_on
  refine hd ?_
  k_fill
  intro w s₀ s₁ mg mb G Y fa o pm cd doc dV kV ho hd hcd hD hmg hg args vals as hpre hlay hrd hwl hlo
  have KX := km_in_of Y
  have hT8 := km_tabs_of Y
  refine Ground.open G ?_
  intro T B D TE TW
  try (refine guard_noD D (by decide +kernel) ?_; clear D)
  have hfa : fa = 124 := by
    have h1 := mg_of (n := Str.ofString "law") (v := .ref 124) KX T.g (by kernel_rfl)
    have h2 : mg (Str.ofString "law") = some (.ref fa) := hmg
    rw [h1] at h2; cases h2; rfl
  subst hfa
  clear ho hd hcd hD hmg
  obtain ⟨hc3, ht3⟩ := tab_of (x := Str.ofString "covariance") (c := 111) (P := 107) T KX rfl (by kernel_rfl)
  have hTT : TabsAt [(62, 58), (69, 65), (111, 107)] s₁.heap := by
    intro q hq
    simp only [List.mem_cons, List.not_mem_nil, or_false] at hq
    rcases hq with h | h | h <;> rw [h]
    · exact ⟨codeHd_of_K (c := 62) (P := 58) KX (by kernel_rfl), hT8 58 (by k_mem)⟩
    · exact ⟨codeHd_of_K (c := 69) (P := 65) KX (by kernel_rfl), hT8 65 (by k_mem)⟩
    · exact ⟨hc3, ht3⟩
  obtain ⟨k1, k2, k3, -⟩ := ghost_code hTT
  have Rt : Root w topProg _ _ mg mb (ghostOf s₁.heap [(62, 58), (69, 65), (111, 107)]) :=
    ⟨ghost_K hTT KX (by kernel_rfl), ghost_top hTT T, k1, k2, k3, hideAll_none _ (by simp), hideAll_none _ (by simp), hideAll_none _ (by simp)⟩
  wrow_args hpre hlay hrd hwl hlo
  refine H w topProg _ _ mg mb _ callerA s₁ _ _ _ _ _ Rt ⟨fun b o e => of_hideAll _ e⟩ rfl ?_ ?_ (by assumption) (by assumption) ?_ ?_ (.inl (hT8 58 (by k_mem))) (.inl (hT8 65 (by k_mem))) ⟨#[], hc3.code ht3 trivial, hc3.tab ht3⟩ ?_
  · decide +kernel
  · decide +kernel
  · omega
  · exact fun n hn => intBits_le_of_item hn (by assumption)
  · intro h' tk' gs' hb hgb h1 h2 h3
    refine ⟨.inl ⟨.bool true, .bool true, [], rfl, fun _ => rfl, ReadsW.bool true, ?_, fun _ => ⟨List.nodup_nil, fun _ hm => (nomatch hm)⟩⟩, oldK_of hTT hb ?_, rfl, ?_⟩
    · wrow_post
    · intro q hq
      simp only [List.mem_cons, List.not_mem_nil, or_false] at hq
      rcases hq with h | h | h <;> rw [h]
      · exact h1.get
      · exact h2.get
      · exact h3.get
    · exact hgb (by rw [hg]; exact fun y hy => by simp at hy)
end Mine
end
section
open PySem PySem.W PyProof.Rows PySem.Spec PySem.Calls
namespace Mine
def intOf : Value → Int
  | .int i _ => i
  | _ => 0
theorem preSum_le (val : Nat → Int) (B : Nat) (h : ∀ i, (val i).natAbs ≤ B) : ∀ n, (preSum val n).natAbs ≤ n * B
  | 0 => by simp [preSum]
  | n + 1 => by
    have h1 := preSum_le val B h n
    have h2 := h n
    have h3 := Int.natAbs_add_le (preSum val n) (val n)
    rw [Nat.succ_mul]
    show (preSum val n + val n).natAbs ≤ _
    omega
section
variable {prog : Program} {w : World} {A : Around} {E : Value → Shared → Prop} {s : Shared}
theorem call_sum_list {l : Addr} {items : Array Value} {Q : Value → Shared → Prop} (hA : A.handled = none) (hl : s.heap.IsList l items) (hint : ∀ (i : Nat) (v : Value), items[i]? = some v → ∃ n t, v = Value.int n t)
    (hQ : ∀ h' tk t', (∀ b o, s.heap.get? b = some o → h'.get? b = some o) → Q (.int (preSum (fun i => intOf (items[i]?.getD .none)) items.size) t') { s with heap := h', toks := tk }) :
    wpAny (model prog w) A (call (.builtin "sum") [.ref l]) Q E s := by
  have hll : l < s.heap.objs.size := by obtain ⟨o, e, _⟩ := hl; exact Heap.lt_size e
  refine call_sum_walkAnyS (wpAny_pyIter_list hl ?_)
  refine ⟨_, _, _, _, _, _, _, fun i => intOf (items[i]?.getD .none), rfl, (Walks.list (A := A.in1) hA s.heap.objs.size l (Nat.ne_of_lt hll) items).toS, ⟨⟨_, Heap.get?_push_size _ rfl, rfl, rfl⟩, hl.push _⟩, ?_, ?_, ?_⟩
  · intro b hb
    show b < (s.heap.push _).objs.size
    rw [Heap.size_push]
    simp only [List.mem_cons, List.not_mem_nil, or_false] at hb
    rcases hb with h | h <;> rw [h]
    · exact Nat.lt_succ_self _
    · exact Nat.lt_succ_of_lt hll
  · intro i v hv
    obtain ⟨n, t, rfl⟩ := hint i v hv
    exact ⟨t, by dsimp only; rw [hv]; rfl⟩
  · intro s' t' mv
    obtain ⟨h', g', d', tk', o'⟩ := s'
    obtain ⟨m1, m2, m3, m4, m5⟩ := mv
    dsimp only at m1 m2 m3 m4
    subst m2 m3 m4
    exact hQ h' tk' t' fun b o e => m1 b o (by simpa using Nat.ne_of_lt (Heap.lt_size e)) (Heap.get?_push_of_some _ e)
theorem sum_slice {l : Addr} {vals : List Value} {ns : List Int} {lo hi st : Option Int} {B : Nat} {Q : Value → Shared → Prop} (hA : A.handled = none) (hl : s.heap.IsList l (slicePick vals.toArray lo hi st)) (hi' : IntsAre vals ns) (hlen : ns.length ≤ 63) (hb : ∀ n ∈ ns, Builtin.Int.intBits n ≤ B)
    (hQ : ∀ (S : Int) h' tk t', (∀ b o, s.heap.get? b = some o → h'.get? b = some o) → S.natAbs ≤ 63 * 2 ^ B → Q (.int S t') { s with heap := h', toks := tk }) :
    wpAny (model prog w) A (call (.builtin "sum") [.ref l]) Q E s := by
  have hm : ∀ (i : Nat) (v : Value), (slicePick vals.toArray lo hi st)[i]? = some v → ∃ n t, v = .int n t ∧ Builtin.Int.intBits n ≤ B := by
    intro i v hv
    unfold slicePick at hv
    rw [List.getElem?_toArray] at hv
    obtain ⟨j, _, hj⟩ := List.mem_filterMap.mp (List.mem_of_getElem? hv)
    rw [List.getElem?_toArray] at hj
    obtain ⟨d, t, e, hd⟩ := ints_getElem hi' hj
    exact ⟨d, t, e, hb d (List.mem_of_getElem? hd)⟩
  refine call_sum_list hA hl (fun i v hv => let ⟨n, t, e, _⟩ := hm i v hv; ⟨n, t, e⟩) fun h' tk t' hk => hQ _ h' tk t' hk ?_
  refine Nat.le_trans (preSum_le _ (2 ^ B) ?_ _) (Nat.mul_le_mul_right _ ?_)
  · intro i
    cases e : (slicePick vals.toArray lo hi st)[i]? with
    | none => exact Nat.zero_le _
    | some v =>
      obtain ⟨n, t, rfl, h⟩ := hm i v e
      have := intBits_le_iff.mp h
      show n.natAbs ≤ _
      omega
  · have h1 := slicePick_size_le vals.toArray lo hi st
    have h2 := hi'.length
    have h3 : vals.toArray.size = vals.length := List.size_toArray
    omega
end
end Mine
end
section
open PySem PySem.W PyProof.Rows PySem.Spec PySem.Calls
namespace Mine
section
variable {prog : Program} {w : World} {A : Around} {s : Shared} {h₀ : Heap} {L : Addr} {m : Str → Option Value} {env : Env}
theorem compRest_ind {elt : Expr} {x : Str} {scope : Scope} {cl : List (Str × Addr)} {S : List (Addr × Obj) → Prop} {P : Nat → Value → Prop} {Fin : List Value → List (Addr × Obj) → Prop} (Inv : Nat → List Value → List (Addr × Obj) → Prop) (n : Nat)
    (step : ∀ i ys news v I oI C oC D m₂ h tk (E' : Value → Shared → Prop), i < n → Inv i ys news → P i v → LCg.NsObj oC m₂ → m₂ x = some v → Fr h₀ L h m → News h₀ L h ((I, oI) :: (C, oC) :: (D, LCg.lst ys) :: news) → LCg.Off3 I C D news → ((@Ne Nat I C) ∧ (@Ne Nat I D) ∧ (@Ne Nat C D)) →
      wpAny (model prog w) A (eval elt (compEnvC scope cl C env)) (LCg.CompEnd h₀ L m { s with heap := h, toks := tk } I oI C oC D (LCg.lst ys) S (fun y news' => Inv (i + 1) (ys ++ [y]) news')) E' { s with heap := h, toks := tk })
    (fin : ∀ ys news, Inv n ys news → Fin ys news) :
    ∀ k i ys news, i + k = n → Inv i ys news → LCg.CompRest prog w A h₀ L m env elt x scope cl s S P Fin k i ys news := by
  intro k
  induction k with
  | zero =>
    intro i ys news e hI
    have : i = n := by omega
    subst this
    exact fin ys news hI
  | succ k ih =>
    intro i ys news e hI
    intro v I oI C oC D m₂ h tk E' hv hC hx F N off ne
    refine wpAny_mono (step i ys news v I oI C oC D m₂ h tk E' (by omega) hI hv hC hx F N off ne) (fun y s' hq => ?_) fun _ _ e => e
    obtain ⟨h', tk', news', rfl, F', N', off', hS, r⟩ := hq
    exact ⟨h', tk', news', rfl, F', N', off', hS, ih (i + 1) _ _ (by omega) r⟩
end
end Mine
end
section
open PySem PySem.W PyProof.Rows PySem.Spec PySem.Calls
namespace Mine
def FormsAt (pr v : Int) : Prop := ∀ {w : World} {p : Program} {loose : List Str} {mean : ExcName → Option Value} {mg mb : Str → Option Value} {g : Heap} {A : Around} {s : Shared} {Q E : Value → Shared → Prop} {t : Tok},
    Root w p loose mean mg mb g → On g s.heap → A.handled = none → A.depth + 20 < recursionLimit → A.units + 60 < cLine →
    (∀ h' tk' t, Keep s.heap h' → Q (.int v t) { s with heap := h', toks := tk' }) →
    wpAny (model PySem.Challenge.rw_rs0116_01.row.prog w) A (call (.ref 119) [.int pr t]) Q E s
set_option maxRecDepth 100000 in
set_option maxHeartbeats 1000000 in
theorem forms_7 : FormsAt 7 1 := by
  intro w p loose mean mg mb g A s Q E t Rt O hA hdp hun hret
  w_on
  obtain ⟨ah, dp, fr, gd, un⟩ := A
  dsimp only at hA hdp hun
  subst hA
  refine wpAny_call ?_
  have hLo := O.lo Rt
  obtain ⟨h₀, hk0, hs0, hh0, hb0, X, T, hg0⟩ := base_of Rt O [] (by simp)
  revert X
  k_fill
  intro X
  have XS := O.X Rt
  k_dflt (refine' enter (binds := [("size", .int 7 t)]) (news := []) XS (O.T Rt) hk0 hs0 ?k3 ?k6 ?k7 ?k8 ?k9 ?kB ?_ ?c2 ?c3 ?c4 ?c5; (case k6 => k_is); (case k7 => k_is); (case k8 => (dsimp only; omega)); (case k9 => exact BindsTo.of_eq rfl); (case kB => exact locs rfl); (case c5 => decide); (case c2 => exact rfl); (case c3 => exact rfl); (case c4 => exact rfl))
  case k3 => exact fun q hq => nomatch hq
  intro L h₁ hL F N hk1
  (try k_fold)
  k_steps
  rename Fr _ _ _ _ => F9
  show Q _ _
  exact hret _ _ _ fun b o e => F9.keep _ _ (hb0 b o (by simp) e)
set_option maxRecDepth 100000 in
set_option maxHeartbeats 1000000 in
theorem forms_11 : FormsAt 11 1 := by
  intro w p loose mean mg mb g A s Q E t Rt O hA hdp hun hret
  w_on
  obtain ⟨ah, dp, fr, gd, un⟩ := A
  dsimp only at hA hdp hun
  subst hA
  refine wpAny_call ?_
  have hLo := O.lo Rt
  obtain ⟨h₀, hk0, hs0, hh0, hb0, X, T, hg0⟩ := base_of Rt O [] (by simp)
  revert X
  k_fill
  intro X
  have XS := O.X Rt
  k_dflt (refine' enter (binds := [("size", .int 11 t)]) (news := []) XS (O.T Rt) hk0 hs0 ?k3 ?k6 ?k7 ?k8 ?k9 ?kB ?_ ?c2 ?c3 ?c4 ?c5; (case k6 => k_is); (case k7 => k_is); (case k8 => (dsimp only; omega)); (case k9 => exact BindsTo.of_eq rfl); (case kB => exact locs rfl); (case c5 => decide); (case c2 => exact rfl); (case c3 => exact rfl); (case c4 => exact rfl))
  case k3 => exact fun q hq => nomatch hq
  intro L h₁ hL F N hk1
  (try k_fold)
  k_steps
  rename Fr _ _ _ _ => F9
  show Q _ _
  exact hret _ _ _ fun b o e => F9.keep _ _ (hb0 b o (by simp) e)
set_option maxRecDepth 100000 in
set_option maxHeartbeats 1000000 in
theorem forms_19 : FormsAt 19 1 := by
  intro w p loose mean mg mb g A s Q E t Rt O hA hdp hun hret
  w_on
  obtain ⟨ah, dp, fr, gd, un⟩ := A
  dsimp only at hA hdp hun
  subst hA
  refine wpAny_call ?_
  have hLo := O.lo Rt
  obtain ⟨h₀, hk0, hs0, hh0, hb0, X, T, hg0⟩ := base_of Rt O [] (by simp)
  revert X
  k_fill
  intro X
  have XS := O.X Rt
  k_dflt (refine' enter (binds := [("size", .int 19 t)]) (news := []) XS (O.T Rt) hk0 hs0 ?k3 ?k6 ?k7 ?k8 ?k9 ?kB ?_ ?c2 ?c3 ?c4 ?c5; (case k6 => k_is); (case k7 => k_is); (case k8 => (dsimp only; omega)); (case k9 => exact BindsTo.of_eq rfl); (case kB => exact locs rfl); (case c5 => decide); (case c2 => exact rfl); (case c3 => exact rfl); (case c4 => exact rfl))
  case k3 => exact fun q hq => nomatch hq
  intro L h₁ hL F N hk1
  (try k_fold)
  k_steps
  rename Fr _ _ _ _ => F9
  show Q _ _
  exact hret _ _ _ fun b o e => F9.keep _ _ (hb0 b o (by simp) e)
set_option maxRecDepth 100000 in
set_option maxHeartbeats 1000000 in
theorem forms_23 : FormsAt 23 3 := by
  intro w p loose mean mg mb g A s Q E t Rt O hA hdp hun hret
  w_on
  obtain ⟨ah, dp, fr, gd, un⟩ := A
  dsimp only at hA hdp hun
  subst hA
  refine wpAny_call ?_
  have hLo := O.lo Rt
  obtain ⟨h₀, hk0, hs0, hh0, hb0, X, T, hg0⟩ := base_of Rt O [] (by simp)
  revert X
  k_fill
  intro X
  have XS := O.X Rt
  k_dflt (refine' enter (binds := [("size", .int 23 t)]) (news := []) XS (O.T Rt) hk0 hs0 ?k3 ?k6 ?k7 ?k8 ?k9 ?kB ?_ ?c2 ?c3 ?c4 ?c5; (case k6 => k_is); (case k7 => k_is); (case k8 => (dsimp only; omega)); (case k9 => exact BindsTo.of_eq rfl); (case kB => exact locs rfl); (case c5 => decide); (case c2 => exact rfl); (case c3 => exact rfl); (case c4 => exact rfl))
  case k3 => exact fun q hq => nomatch hq
  intro L h₁ hL F N hk1
  (try k_fold)
  k_steps
  rename Fr _ _ _ _ => F9
  show Q _ _
  exact hret _ _ _ fun b o e => F9.keep _ _ (hb0 b o (by simp) e)
set_option maxRecDepth 100000 in
set_option maxHeartbeats 1000000 in
theorem forms_31 : FormsAt 31 3 := by
  intro w p loose mean mg mb g A s Q E t Rt O hA hdp hun hret
  w_on
  obtain ⟨ah, dp, fr, gd, un⟩ := A
  dsimp only at hA hdp hun
  subst hA
  refine wpAny_call ?_
  have hLo := O.lo Rt
  obtain ⟨h₀, hk0, hs0, hh0, hb0, X, T, hg0⟩ := base_of Rt O [] (by simp)
  revert X
  k_fill
  intro X
  have XS := O.X Rt
  k_dflt (refine' enter (binds := [("size", .int 31 t)]) (news := []) XS (O.T Rt) hk0 hs0 ?k3 ?k6 ?k7 ?k8 ?k9 ?kB ?_ ?c2 ?c3 ?c4 ?c5; (case k6 => k_is); (case k7 => k_is); (case k8 => (dsimp only; omega)); (case k9 => exact BindsTo.of_eq rfl); (case kB => exact locs rfl); (case c5 => decide); (case c2 => exact rfl); (case c3 => exact rfl); (case c4 => exact rfl))
  case k3 => exact fun q hq => nomatch hq
  intro L h₁ hL F N hk1
  (try k_fold)
  k_steps
  rename Fr _ _ _ _ => F9
  show Q _ _
  exact hret _ _ _ fun b o e => F9.keep _ _ (hb0 b o (by simp) e)
set_option maxRecDepth 100000 in
set_option maxHeartbeats 1000000 in
theorem forms_43 : FormsAt 43 1 := by
  intro w p loose mean mg mb g A s Q E t Rt O hA hdp hun hret
  w_on
  obtain ⟨ah, dp, fr, gd, un⟩ := A
  dsimp only at hA hdp hun
  subst hA
  refine wpAny_call ?_
  have hLo := O.lo Rt
  obtain ⟨h₀, hk0, hs0, hh0, hb0, X, T, hg0⟩ := base_of Rt O [] (by simp)
  revert X
  k_fill
  intro X
  have XS := O.X Rt
  k_dflt (refine' enter (binds := [("size", .int 43 t)]) (news := []) XS (O.T Rt) hk0 hs0 ?k3 ?k6 ?k7 ?k8 ?k9 ?kB ?_ ?c2 ?c3 ?c4 ?c5; (case k6 => k_is); (case k7 => k_is); (case k8 => (dsimp only; omega)); (case k9 => exact BindsTo.of_eq rfl); (case kB => exact locs rfl); (case c5 => decide); (case c2 => exact rfl); (case c3 => exact rfl); (case c4 => exact rfl))
  case k3 => exact fun q hq => nomatch hq
  intro L h₁ hL F N hk1
  (try k_fold)
  k_steps
  rename Fr _ _ _ _ => F9
  show Q _ _
  exact hret _ _ _ fun b o e => F9.keep _ _ (hb0 b o (by simp) e)
set_option maxRecDepth 100000 in
set_option maxHeartbeats 1000000 in
theorem forms_47 : FormsAt 47 5 := by
  intro w p loose mean mg mb g A s Q E t Rt O hA hdp hun hret
  w_on
  obtain ⟨ah, dp, fr, gd, un⟩ := A
  dsimp only at hA hdp hun
  subst hA
  refine wpAny_call ?_
  have hLo := O.lo Rt
  obtain ⟨h₀, hk0, hs0, hh0, hb0, X, T, hg0⟩ := base_of Rt O [] (by simp)
  revert X
  k_fill
  intro X
  have XS := O.X Rt
  k_dflt (refine' enter (binds := [("size", .int 47 t)]) (news := []) XS (O.T Rt) hk0 hs0 ?k3 ?k6 ?k7 ?k8 ?k9 ?kB ?_ ?c2 ?c3 ?c4 ?c5; (case k6 => k_is); (case k7 => k_is); (case k8 => (dsimp only; omega)); (case k9 => exact BindsTo.of_eq rfl); (case kB => exact locs rfl); (case c5 => decide); (case c2 => exact rfl); (case c3 => exact rfl); (case c4 => exact rfl))
  case k3 => exact fun q hq => nomatch hq
  intro L h₁ hL F N hk1
  (try k_fold)
  k_steps
  rename Fr _ _ _ _ => F9
  show Q _ _
  exact hret _ _ _ fun b o e => F9.keep _ _ (hb0 b o (by simp) e)
def forms1 (pr : Int) : Int := if pr = 23 then 3 else if pr = 31 then 3 else if pr = 47 then 5 else 1
theorem forms_spec {pr : Int} (h : pr ∈ [7, 11, 19, 23, 31, 43, 47]) : FormsAt pr (forms1 pr) := by
  simp only [List.mem_cons, List.not_mem_nil, or_false] at h
  rcases h with h | h | h | h | h | h | h <;> subst h
  · exact forms_7
  · exact forms_11
  · exact forms_19
  · exact forms_23
  · exact forms_31
  · exact forms_43
  · exact forms_47
end Mine
end
section
open PySem PySem.W PyProof.Rows PySem.Spec PySem.Calls
namespace Mine
section
variable {prog : Program} {w : World} {A : Around} {E : Value → Shared → Prop} {s : Shared} {env : Env}
/-- a for loop over a walk, the invariant over the whole shared state -/
theorem for_walkS {x : Str} {px pos : Pos} {iter : Expr} {body : List Stmt} {Q : Flow → Shared → Prop}
    (h : wpAny (model prog w) A (eval iter env) (fun xv s₁ => wpAny (model prog w) A (pyIter xv) (fun it s₂ => ∃ (I : Addr) (fp wr : List Addr) (n : Nat) (P : Nat → Value → Prop) (St : Nat → Heap → Prop) (J : Nat → Shared → Prop), it = .ref I ∧ Walks prog w A I fp wr n P St ∧ St 0 s₂.heap ∧ J 0 s₂ ∧
      (∀ i s h' tk, J i s → (∀ b o, b ∉ wr → s.heap.get? b = some o → h'.get? b = some o) → J i { s with heap := h', toks := tk }) ∧
      (∀ i v s₁ E', i < n → P i v → St (i + 1) s₁.heap → J i s₁ → wpAny (model prog w) A (storeName env x v) (fun _ s₂ => wpAny (model prog w) A (execs body env) (fun f s₃ => match f with
        | .next | .cont => St (i + 1) s₃.heap ∧ J (i + 1) s₃
        | .brk => Q .next s₃
        | .ret v => Q (.ret v) s₃) E' s₂) E' s₁) ∧
      (∀ s₃, J n s₃ → Q .next s₃)) E s₁) E s)
    (hs : ∀ x, foldedSetIterable iter env x = pure x := by intro _; rfl) :
    wpAny (model prog w) A (exec (.For (.Name x px) iter body [] pos) env) Q E s := by
  refine wpAny_For (wpAny_mono h (fun xv s₁ h₁ => wpAny_mono h₁ (fun it s₂ h₂ => ?_) fun _ _ e => e) fun _ _ e => e) hs
  obtain ⟨I, fp, wr, n, P, St, J, rfl, W, hst, h0, hJ, step, hQ⟩ := h₂
  refine codeAny_forLoop_any (fun k s => k ≤ n ∧ St (n - k) s.heap ∧ J (n - k) s) (fun k s ⟨hk, hst, hj⟩ => ?_) n ⟨Nat.le_refl _, by rw [Nat.sub_self]; exact hst, by rw [Nat.sub_self]; exact h0⟩
  rcases Nat.eq_zero_or_pos k with h0 | hk0
  · subst h0
    rw [Nat.sub_zero] at hst hj
    refine W.done s _ _ hst fun h' tk hk' => ?_
    exact wpAny_execs_nil (hQ _ (hJ _ _ _ _ hj hk'))
  · refine W.item (n - k) s _ _ (by omega) hst fun v h' tk hP hst' hk' => ?_
    refine wpAny_pure (wpAny_assign_Name (wpAny_mono (step (n - k) v _ _ (by omega) hP hst' (hJ _ _ h' tk hj hk')) (fun _ s₂ h₂ => wpAny_mono h₂ (fun f s₃ h₃ => ?_) fun _ _ e => e) fun _ _ e => e))
    have e : n - (k - 1) = n - k + 1 := by omega
    cases f with
    | next => exact ⟨k - 1, by omega, by omega, by rw [e]; exact h₃.1, by rw [e]; exact h₃.2⟩
    | cont => exact ⟨k - 1, by omega, by omega, by rw [e]; exact h₃.1, by rw [e]; exact h₃.2⟩
    | brk => exact h₃
    | ret v => exact h₃
end
end Mine
end
section
open PySem PySem.W PyProof.Rows PySem.Spec PySem.Calls
namespace Mine
/-- a table's fact, read off a ledger: it is empty, or its one code lies in the base or in the ledger -/
def TabL (g h₀ : Heap) (line col : Nat) (qual : Str) (ps : Array Value) (tl : List (Addr × Obj)) : Prop :=
  ps = #[] ∨ ∃ c oc vs t, ps = #[rawInt line, rawInt col, .ref c] ∧ oc.data = .fields vs ∧ vs[1]? = some (.str qual t) ∧ g.get? c = none ∧ c ≠ 58 ∧ c ≠ 65 ∧ c ≠ 107 ∧ (h₀.get? c = some oc ∨ (c, oc) ∈ tl)
theorem TabL.sub {g h₀ : Heap} {line col : Nat} {qual : Str} {ps : Array Value} {tl tl' : List (Addr × Obj)} (x : TabL g h₀ line col qual ps tl) (hs : ∀ q ∈ tl, q ∈ tl') : TabL g h₀ line col qual ps tl' := by
  rcases x with e | ⟨c, oc, vs, t, e, r1, r2, r3, n1, n2, n3, h⟩
  · exact .inl e
  · exact .inr ⟨c, oc, vs, t, e, r1, r2, r3, n1, n2, n3, h.imp id fun h => hs _ h⟩
theorem TabL.ok {g h₀ h : Heap} {L : Addr} {P line col : Nat} {qual : Str} {ps : Array Value} {tl : List (Addr × Obj)} (x : TabL g h₀ line col qual ps tl) (k : Keep h₀ h) (N : News h₀ L h tl) (e : h.get? P = some (tabObj ps)) : TabOk g P line col qual h := by
  rcases x with rfl | ⟨c, oc, vs, t, rfl, r1, r2, r3, n1, n2, n3, hc⟩
  · exact .inl e
  · exact .inr ⟨c, oc, vs, t, e, hc.elim (fun h => k _ _ h) (fun h => (N _ h).1), r1, r2, r3, n1, n2, n3⟩
def pairObj (a b : Int) (t1 t2 : Tok) : Obj := { cls := .type "tuple", data := .seq #[.int a t1, .int b t2] }
/-- the code of a table, if it has one -/
def refIn1 : Option Value → List Addr
  | some (.ref c) => [c]
  | _ => []
def codeIn1 (ps : Array Value) : List Addr := refIn1 (ps[2]?)
theorem TabL.codes {g h₀ : Heap} {line col : Nat} {qual : Str} {ps : Array Value} {tl : List (Addr × Obj)} (x : TabL g h₀ line col qual ps tl) : ∀ c ∈ codeIn1 ps, g.get? c = none ∧ c ≠ 58 ∧ c ≠ 65 ∧ c ≠ 107 ∧ ((∃ o, h₀.get? c = some o) ∨ ∃ o, (c, o) ∈ tl) := by
  rcases x with rfl | ⟨c, oc, vs, t, rfl, r1, r2, r3, n1, n2, n3, hc⟩
  · intro c hc; cases hc
  · intro c' hc'
    have hc2 : c' = c := by simpa [codeIn1, refIn1] using hc'
    subst hc2
    exact ⟨r3, n1, n2, n3, hc.imp (fun h => ⟨_, h⟩) fun h => ⟨_, h⟩⟩
/-- the table's fact over a ghost that hides its code, from the ledger -/
theorem TabL.ghost {g h₀ h : Heap} {L : Addr} {P line col : Nat} {qual : Str} {ps : Array Value} {tl : List (Addr × Obj)} (x : TabL g h₀ line col qual ps tl) (k : Keep h₀ h) (N : News h₀ L h tl) (e : h.get? P = some (tabObj ps)) {S : List Addr} (hS : ∀ c ∈ codeIn1 ps, c ∈ S) : TabOk (hideAll h S) P line col qual h := by
  rcases x with rfl | ⟨c, oc, vs, t, rfl, r1, r2, r3, n1, n2, n3, hc⟩
  · exact .inl e
  · exact .inr ⟨c, oc, vs, t, e, hc.elim (fun h => k _ _ h) (fun h => (N _ h).1), r1, r2, hideAll_none _ (hS c (by simp [codeIn1, refIn1])), n1, n2, n3⟩
theorem tabL_of {g h₀ h h' : Heap} {L : Addr} {m : Str → Option Value} {P line col : Nat} {qual : Str} {S : List Addr} {tl : List (Addr × Obj)} (F : Fr h₀ L h' m) (N : News h₀ L h' tl) (kh : ∀ b o, b ∉ [58, 65] → h.get? b = some o → h'.get? b = some o)
    (hS : ∀ c ∈ S, c ≠ 58 → c ≠ 65 → c ≠ 107 → g.get? c = none ∧ ((∃ o, h₀.get? c = some o) ∨ ∃ o, (c, o) ∈ tl)) (hg : Keep g (hideAll h S)) (x : TabOk (hideAll h S) P line col qual h') :
    ∃ ps tl2, h'.get? P = some (tabObj ps) ∧ News h₀ L h' tl2 ∧ (∀ q ∈ tl2, q.1 ≠ 58 ∧ q.1 ≠ 65 ∧ q.1 ≠ 107 ∧ h.get? q.1 = none) ∧ TabL g h₀ line col qual ps (tl2 ++ tl) := by
  rcases x with e | ⟨c, oc, vs, t, e1, e2, r1, r2, r3, n1, n2, n3⟩
  · exact ⟨_, [], e, .nil, fun _ h => (nomatch h), .inl rfl⟩
  · have hgc : g.get? c = none := by
      cases q : g.get? c with
      | none => rfl
      | some o => rw [hg _ _ q] at r3; cases r3
    by_cases hcS : c ∈ S
    · refine ⟨_, [], e1, .nil, fun _ h => (nomatch h), .inr ⟨c, oc, vs, t, rfl, r1, r2, hgc, n1, n2, n3, ?_⟩⟩
      rcases (hS c hcS n1 n2 n3).2 with ⟨o, h⟩ | ⟨o, h⟩
      · have := F.keep _ _ h
        rw [e2] at this
        cases this
        exact .inl h
      · have := (N _ h).1
        dsimp only at this
        rw [e2] at this
        cases this
        exact .inr h
    · have hn : h.get? c = none := by
        cases q : h.get? c with
        | none => rfl
        | some o => rw [hideAll_get _ q hcS] at r3; cases r3
      rcases Option.eq_none_or_eq_some (h₀.get? c) with q | ⟨o, q⟩
      · refine ⟨_, [(c, oc)], e1, ?_, ?_, .inr ⟨c, oc, vs, t, rfl, r1, r2, hgc, n1, n2, n3, .inr List.mem_cons_self⟩⟩
        · refine news_cons e2 ?_ q .nil
          intro h9
          obtain ⟨o, es, ep, e, hd, _⟩ := F.ns
          rw [← h9, e2] at e
          have e4 : oc = o := Option.some.inj e
          subst e4
          rw [r1] at hd
          exact Data.noConfusion hd
        · intro q hq
          rw [List.mem_singleton.mp hq]
          exact ⟨n1, n2, n3, hn⟩
      · have e3 := F.keep _ _ q
        rw [e2] at e3
        have e4 : oc = o := Option.some.inj e3
        subst e4
        exact ⟨_, [], e1, .nil, fun _ h => (nomatch h), .inr ⟨c, oc, vs, t, rfl, r1, r2, hgc, n1, n2, n3, .inl q⟩⟩
theorem idm_led {w : World} {p : Program} {loose : List Str} {mean : ExcName → Option Value} {mg mb : Str → Option Value} {g h₀ : Heap} {L : Addr} {m : Str → Option Value} {rest tail : List (Addr × Obj)} {p1 p2 : Array Value} {A : Around} {s : Shared} {Q E : Value → Shared → Prop} {a b : Int} {ta tb : Tok}
    (Rt : Root w p loose mean mg mb g) (hg0 : Keep g h₀) (h58 : h₀.get? 58 = none) (h65 : h₀.get? 65 = none) (hL : L ≠ 58 ∧ L ≠ 65) (F : Fr h₀ L s.heap m) (N : News h₀ L s.heap rest) (hr : ∀ q ∈ rest, q.1 ≠ 58 ∧ q.1 ≠ 65) (hsub : ∀ q ∈ tail, q ∈ rest)
    (hA : A.handled = none) (hdp : A.depth + 90 < recursionLimit) (hun : A.units + 260 < cLine)
    (hba : Builtin.Int.intBits a ≤ 2 ^ 21) (hb : 0 < b) (hb1 : b < 2 ^ 29) (e1 : s.heap.get? 58 = some (tabObj p1)) (e2 : s.heap.get? 65 = some (tabObj p2)) (hT1 : TabL g h₀ 33 4 qA p1 tail) (hT2 : TabL g h₀ 48 4 qB p2 tail)
    (hret : ∀ r h' tk t1 t2 p1 p2 tl, Fr h₀ L h' m → News h₀ L h' ((r, pairObj (a / b) (a % b) t1 t2) :: (58, tabObj p1) :: (65, tabObj p2) :: (tl ++ rest)) → (∀ q ∈ tl, q.1 ≠ 58 ∧ q.1 ≠ 65 ∧ q.1 ≠ 107 ∧ s.heap.get? q.1 = none) →
      TabL g h₀ 33 4 qA p1 (tl ++ tail) → TabL g h₀ 48 4 qB p2 (tl ++ tail) → s.heap.get? r = none → Q (.ref r) { s with heap := h', toks := tk }) :
    wpAny (model PySem.Challenge.rw_rs0116_01.row.prog w) A (call (.ref 84) [.int a ta, .int b tb]) Q E s := by
  have NT : News h₀ L s.heap tail := fun q hq => N q (hsub q hq)
  have cs := hT1.codes
  have cs2 := hT2.codes
  let S := 58 :: 65 :: 107 :: (codeIn1 p1 ++ codeIn1 p2)
  have hS : ∀ c ∈ S, c ≠ 58 → c ≠ 65 → c ≠ 107 → g.get? c = none ∧ ((∃ o, h₀.get? c = some o) ∨ ∃ o, (c, o) ∈ tail) := by
    intro c hc n1 n2 n3
    simp only [S, List.mem_cons, List.mem_append] at hc
    rcases hc with h | h | h | h | h
    · exact absurd h n1
    · exact absurd h n2
    · exact absurd h n3
    · exact ⟨(cs c h).1, (cs c h).2.2.2.2⟩
    · exact ⟨(cs2 c h).1, (cs2 c h).2.2.2.2⟩
  have hgS : Keep g (hideAll s.heap S) := fun b o e => hideAll_get _ (F.keep _ _ (hg0 _ _ e)) fun hb => by
    obtain ⟨n1, n2, n3⟩ := Rt.ne e
    rw [(hS b hb n1 n2 n3).1] at e; cases e
  have Rt' : Root w p loose mean mg mb (hideAll s.heap S) := ⟨Rt.X.keeps hgS, Rt.T.keeps hgS, Rt.c1.keeps hgS, Rt.c2.keeps hgS, Rt.c3.keeps hgS, hideAll_none _ (by simp [S]), hideAll_none _ (by simp [S]), hideAll_none _ (by simp [S])⟩
  refine idm_spec Rt' ⟨fun b o e => of_hideAll _ e⟩ hA hdp hun hba hb hb1 (hT1.ghost F.keep NT e1 (fun c h => by simp [S, h])) (hT2.ghost F.keep NT e2 (fun c h => by simp [S, h])) ?_
  intro r h2 tk2 t1 t2 bt2 hT12 hT22 hrn hrg
  have F2 := bt2.fr F (by simpa using ⟨h58, h65⟩) (by simpa using hL)
  have N2 := bt2.news N (by simpa using hr)
  have NT2' : News h₀ L h2 tail := fun q hq => N2 q (hsub q hq)
  obtain ⟨q1, tl1, f1, NT1, htl1, c1⟩ := tabL_of F2 NT2' bt2 hS hgS hT12
  obtain ⟨q2, tl2, f2, NT2, htl2, c2⟩ := tabL_of F2 NT2' bt2 hS hgS hT22
  have hr0 : h₀.get? r = none := by
    rcases Option.eq_none_or_eq_some (h₀.get? r) with q | ⟨o, q⟩
    · exact q
    · rw [F.keep _ _ q] at hrn; cases hrn
  have hrL : r ≠ L := by
    intro h
    obtain ⟨o, es, ep, e, _⟩ := F.ns
    rw [h, e] at hrn
    cases hrn
  refine hret r h2 tk2 t1 t2 q1 q2 (tl1 ++ tl2) F2 (news_cons hrg hrL hr0 (news_cons f1 hL.1.symm h58 (news_cons f2 hL.2.symm h65 (news_append (news_append NT1 NT2) N2)))) ?_ (c1.sub fun q hq => ?_) (c2.sub fun q hq => ?_) hrn
  · intro q hq
    rcases List.mem_append.mp hq with h | h
    · exact htl1 q h
    · exact htl2 q h
  · rcases List.mem_append.mp hq with h | h
    · exact List.mem_append_left _ (List.mem_append_left _ h)
    · exact List.mem_append_right _ h
  · rcases List.mem_append.mp hq with h | h
    · exact List.mem_append_left _ (List.mem_append_right _ h)
    · exact List.mem_append_right _ h
end Mine
end
section
open PySem PySem.W PyProof.Rows PySem.Spec PySem.Calls
namespace Mine
/-- a place where the walk halts -/
def Stop (p : Prop) : Prop := p
theorem stop {p : Prop} (h : Stop p) : p := h
def lawOf (K : Frag) (a : Addr) : Option (List Stmt × Scope) := match K.lookup a with
  | some ⟨_, _, .func fd, _⟩ => (match fd.body with
    | .stmts l => some (l, fd.scope)
    | _ => none)
  | _ => none
noncomputable def lawScope (w : World) : Scope := ((lawOf (hd.heap_39 w.params) 124).getD default).2
def forBody : Option Stmt → List Stmt
  | some (.For _ _ body _ _) => body
  | _ => []
noncomputable def loopBody (w : World) : List Stmt := forBody (((lawOf (hd.heap_39 w.params) 124).getD default).1[10]?)
local macro_rules | `(tactic| walk_at "CompSrc") => `(tactic| ((with_reducible show LCg.CompSrc _ _ _ _ _ _ _ (Expr.Call _ _ _ _) _ _ _ _ _ _); refine stop ?_))
local macro_rules | `(tactic| walk_at "CompSrc") => `(tactic| ((with_reducible show LCg.CompSrc _ _ _ _ _ _ _ (Expr.Subscript _ _ _) _ _ _ _ _ _); refine stop ?_))
/-- a list of pairs, each in a ledger -/
inductive PairsAre (f : Int → Int × Int) (tail : List (Addr × Obj)) : List Value → List Int → Prop
  | nil : PairsAre f tail [] []
  | snoc {ys : List Value} {ns : List Int} (n : Int) (r : Addr) (t1 t2 : Tok) (h : PairsAre f tail ys ns) (hm : (r, pairObj (f n).1 (f n).2 t1 t2) ∈ tail) : PairsAre f tail (ys ++ [.ref r]) (ns ++ [n])
theorem PairsAre.sub {f : Int → Int × Int} {tl tl' : List (Addr × Obj)} {ys : List Value} {ns : List Int} (x : PairsAre f tl ys ns) (h : ∀ q ∈ tl, q ∈ tl') : PairsAre f tl' ys ns := by
  induction x with
  | nil => exact .nil
  | snoc n r t1 t2 _ hm ih => exact .snoc n r t1 t2 ih (h _ hm)
theorem PairsAre.length {f : Int → Int × Int} {tl : List (Addr × Obj)} {ys : List Value} {ns : List Int} (x : PairsAre f tl ys ns) : ys.length = ns.length := by
  induction x with
  | nil => rfl
  | snoc n r t1 t2 _ hm ih => simp [ih]
theorem PairsAre.get {f : Int → Int × Int} {tl : List (Addr × Obj)} {ys : List Value} {ns : List Int} (x : PairsAre f tl ys ns) : ∀ {i : Nat} {v : Value}, ys[i]? = some v → ∃ n r t1 t2, v = .ref r ∧ ns[i]? = some n ∧ (r, pairObj (f n).1 (f n).2 t1 t2) ∈ tl := by
  induction x with
  | nil => intro i v h; cases h
  | @snoc ys ns n r t1 t2 hp hm ih =>
    intro i v h
    rw [List.getElem?_append] at h ⊢
    have hl := hp.length
    by_cases c : i < ys.length
    · rw [if_pos c] at h
      rw [if_pos (by omega)]
      exact ih h
    · rw [if_neg c] at h
      rw [if_neg (by omega), ← hl]
      generalize i - ys.length = j at *
      cases j with
      | zero => cases h; exact ⟨n, r, t1, t2, rfl, rfl, hm⟩
      | succ j => cases h
theorem news_swap {h₀ h h' : Heap} {L a : Addr} {o o' : Obj} {pre post : List (Addr × Obj)} (bt : But [a] h h') (N : News h₀ L h (pre ++ (a, o') :: post)) (e : h'.get? a = some o) (hne : ∀ q ∈ pre ++ post, q.1 ≠ a) : News h₀ L h' (pre ++ (a, o) :: post) := by
  intro q hq
  have hh : q = (a, o) ∨ q ∈ pre ++ post := by
    simp only [List.mem_append, List.mem_cons] at hq ⊢
    rcases hq with h | h | h
    · exact .inr (.inl h)
    · exact .inl h
    · exact .inr (.inr h)
  rcases hh with h | h
  · rw [h]
    exact ⟨e, (N (a, o') (by simp)).2⟩
  · have hq2 := N q (by
      simp only [List.mem_append, List.mem_cons] at h ⊢
      rcases h with h | h
      · exact .inl h
      · exact .inr (.inr h))
    exact ⟨bt _ _ (by simpa using hne q h) hq2.1, hq2.2⟩
theorem ne_tab {h₀ h : Heap} {L a b : Addr} {ys : Array Value} {c : Nat} {q : Array Value} {news : List (Addr × Obj)} (N : News h₀ L h news) (h1 : (a, W.listOf ys c) ∈ news) (h2 : (b, tabObj q) ∈ news) : a ≠ b := by
  intro e
  subst e
  have e1 := (N _ h1).1
  rw [(N _ h2).1] at e1
  cases e1
theorem hlst {h₀ h : Heap} {L a : Addr} {ys : Array Value} {c : Nat} {q1 q2 : Array Value} {news : List (Addr × Obj)} (N : News h₀ L h news) (h1 : (a, W.listOf ys c) ∈ news) (h2 : (58, tabObj q1) ∈ news) (h3 : (65, tabObj q2) ∈ news) : a ≠ 58 ∧ a ≠ 65 := by
  refine ⟨fun e => ?_, fun e => ?_⟩
  · subst e
    have e1 := (N _ h1).1
    rw [(N _ h2).1] at e1
    cases e1
  · subst e
    have e1 := (N _ h1).1
    rw [(N _ h3).1] at e1
    cases e1
theorem mul_lt46 {bs d : Int} (h1 : -2 ^ 40 < bs) (h2 : bs < 2 ^ 40) (h3 : 0 ≤ d) (h4 : d < 50) : (bs * d).natAbs < 2 ^ 46 := by
  rw [Int.natAbs_mul]
  have a1 : bs.natAbs ≤ 2 ^ 40 := by omega
  have a2 : d.natAbs ≤ 50 := by omega
  exact Nat.lt_of_le_of_lt (Nat.mul_le_mul a1 a2) (by decide)
def xsOf (pr : Int) (sn : List Int) : List Int := sn.map fun o => (pr - 2) * o + 3
def ysOf (bs pr : Int) (nn : List Int) : List Int := nn.map fun n => bs * n / pr
/-- what a turn asks of the numbers -/
def TurnOk (pr bs due twice : Int) (sn nn : List Int) : Prop := ∃ sx sy z, fsumI [] (xsOf pr sn) = some sx ∧ fsumI [] (ysOf bs pr nn) = some sy ∧
  spN (fun i => Float64.sub (Float64.ofInt ((xsOf pr sn).getD i 0)) (Float64.div sx (Float64.ofInt (xsOf pr sn).length))) (fun i => Float64.sub (Float64.ofInt ((ysOf bs pr nn).getD i 0)) (Float64.div sy (Float64.ofInt (xsOf pr sn).length))) (xsOf pr sn).length 0 (Float64.zero false, Float64.zero false, Float64.zero false) = some z ∧
  Float64.cmpInt (Float64.div z (Float64.ofInt ((xsOf pr sn).length - 1))) due = some .eq ∧ Float64.cmpInt (Float64.mul (Float64.ofInt 2) (Float64.div sy (Float64.ofInt (ysOf bs pr nn).length))) twice = some .eq
theorem small_over {n : Int} (h : n.natAbs ≤ 2 ^ 60) : ¬ Flt.Over n := fun h2 => by
  have h3 : (2 : Nat) ^ 60 < 2 ^ 1024 - 2 ^ 970 := by decide +kernel
  exact Nat.lt_irrefl _ (Nat.lt_of_lt_of_le h3 (Nat.le_trans h2 h))
theorem small_fits {n : Int} (h : n.natAbs ≤ 2 ^ 60) : n.natAbs < 2 ^ 1023 := by
  have h3 : (2 : Nat) ^ 60 < 2 ^ 1023 := by decide +kernel
  exact Nat.lt_of_le_of_lt h h3
theorem xs_small {pr : Int} {sn : List Int} (h1 : 7 ≤ pr) (h2 : pr ≤ 47) (h : ∀ o ∈ sn, o.natAbs ≤ 1) : ∀ n ∈ xsOf pr sn, n.natAbs ≤ 2 ^ 60 := by
  intro n hn
  obtain ⟨o, ho, rfl⟩ := List.mem_map.mp hn
  have := h o ho
  have hm : ((pr - 2) * o).natAbs ≤ 100 := by
    rw [Int.natAbs_mul]
    exact Nat.le_trans (Nat.mul_le_mul (show (pr - 2).natAbs ≤ 100 by omega) this) (by decide)
  have h9 := Int.natAbs_add_le ((pr - 2) * o) 3
  refine Nat.le_trans h9 (Nat.le_trans (Nat.add_le_add_right hm _) (by decide))
theorem ys_small {bs pr : Int} {nn : List Int} (h1 : -2 ^ 40 < bs) (h2 : bs < 2 ^ 40) (h : ∀ n ∈ nn, 0 ≤ n ∧ n < 50) : ∀ n ∈ ysOf bs pr nn, n.natAbs ≤ 2 ^ 60 := by
  intro n hn
  obtain ⟨o, ho, rfl⟩ := List.mem_map.mp hn
  have := h o ho
  exact Nat.le_trans (Int.natAbs_ediv_le_natAbs _ _) (Nat.le_trans (Nat.le_of_lt (mul_lt46 h1 h2 this.1 this.2)) (by decide))
/-- the locals at a turn's start -/
abbrev MT (num : Addr) (due twice : Int) (td tt : Tok) (sg : Int) (ts : Tok) (Ds : Addr) (vpl vpa vfi vto vme : Option Value) (rest : Str → Option Value) : Str → Option Value := fun y =>
  if y = Str.ofString "place" then vpl else if y = Str.ofString "twice" then some (.int twice tt) else if y = Str.ofString "due" then some (.int due td) else if y = Str.ofString "numbers" then some (.ref num) else
  if y = Str.ofString "mean" then vme else if y = Str.ofString "told" then vto else if y = Str.ofString "figures" then vfi else if y = Str.ofString "pairs" then vpa else
  if y = Str.ofString "signs" then some (.ref Ds) else if y = Str.ofString "sign" then some (.int sg ts) else rest y
abbrev mtNames : List Str := [Str.ofString "place", Str.ofString "twice", Str.ofString "due", Str.ofString "numbers", Str.ofString "mean", Str.ofString "told", Str.ofString "figures", Str.ofString "pairs", Str.ofString "signs", Str.ofString "sign"]
theorem fr_MT {h₀ h : Heap} {L num Ds : Addr} {m rest : Str → Option Value} {due twice : Int} {td tt : Tok} {sg : Int} {ts : Tok} {vpl : Option Value} (F : Fr h₀ L h m) (h1 : m (Str.ofString "numbers") = some (.ref num)) (h2 : m (Str.ofString "due") = some (.int due td)) (h3 : m (Str.ofString "twice") = some (.int twice tt))
    (h4 : m (Str.ofString "signs") = some (.ref Ds)) (h5 : m (Str.ofString "sign") = some (.int sg ts)) (h6 : m (Str.ofString "place") = vpl) (hr : ∀ y, y ∉ mtNames → m y = rest y) :
    Fr h₀ L h (MT num due twice td tt sg ts Ds vpl (m (Str.ofString "pairs")) (m (Str.ofString "figures")) (m (Str.ofString "told")) (m (Str.ofString "mean")) rest) := by
  have : m = MT num due twice td tt sg ts Ds vpl (m (Str.ofString "pairs")) (m (Str.ofString "figures")) (m (Str.ofString "told")) (m (Str.ofString "mean")) rest := by
    funext y
    dsimp only [MT]
    by_cases e1 : y = Str.ofString "place"
    · rw [if_pos e1, e1, h6]
    by_cases e2 : y = Str.ofString "twice"
    · rw [if_neg e1, if_pos e2, e2, h3]
    by_cases e3 : y = Str.ofString "due"
    · rw [if_neg e1, if_neg e2, if_pos e3, e3, h2]
    by_cases e4 : y = Str.ofString "numbers"
    · rw [if_neg e1, if_neg e2, if_neg e3, if_pos e4, e4, h1]
    by_cases e5 : y = Str.ofString "mean"
    · rw [if_neg e1, if_neg e2, if_neg e3, if_neg e4, if_pos e5, e5]
    by_cases e6 : y = Str.ofString "told"
    · rw [if_neg e1, if_neg e2, if_neg e3, if_neg e4, if_neg e5, if_pos e6, e6]
    by_cases e7 : y = Str.ofString "figures"
    · rw [if_neg e1, if_neg e2, if_neg e3, if_neg e4, if_neg e5, if_neg e6, if_pos e7, e7]
    by_cases e8 : y = Str.ofString "pairs"
    · rw [if_neg e1, if_neg e2, if_neg e3, if_neg e4, if_neg e5, if_neg e6, if_neg e7, if_pos e8, e8]
    by_cases e9 : y = Str.ofString "signs"
    · rw [if_neg e1, if_neg e2, if_neg e3, if_neg e4, if_neg e5, if_neg e6, if_neg e7, if_neg e8, if_pos e9, e9, h4]
    by_cases e10 : y = Str.ofString "sign"
    · rw [if_neg e1, if_neg e2, if_neg e3, if_neg e4, if_neg e5, if_neg e6, if_neg e7, if_neg e8, if_neg e9, if_pos e10, e10, h5]
    rw [if_neg e1, if_neg e2, if_neg e3, if_neg e4, if_neg e5, if_neg e6, if_neg e7, if_neg e8, if_neg e9, if_neg e10]
    exact hr y (by simp only [mtNames, List.mem_cons, List.not_mem_nil, or_false, not_or]; exact ⟨e1, e2, e3, e4, e5, e6, e7, e8, e9, e10⟩)
  rw [← this]
  exact F
set_option maxRecDepth 100000 in
set_option maxHeartbeats 1000000 in
theorem turn_spec {w : World} {p : Program} {loose : List Str} {mean : ExcName → Option Value} {mg mb : Str → Option Value} {g h₀ : Heap} {L : Nat} {num Ds : Addr} {A : Around} {s : Shared} {Qf : Flow → Shared → Prop} {E : Value → Shared → Prop}
    {due twice : Int} {td tt : Tok} {sg : Int} {ts : Tok} {vpl vpa vfi vto vme : Option Value} {rest : Str → Option Value} {vn vs : List Value} {cn : Nat} {nn sn : List Int} {pr bs : Int} {tp tb : Tok} {op ob : Obj} {p1 p2 p3 : Array Value} {tl : List (Addr × Obj)}
    (Rt : Root w p loose mean mg mb g) (hg0 : Keep g h₀) (X : (hd.heap_39 w.params).In h₀) (T : Top p loose mean mg mb h₀) (h58 : h₀.get? 58 = none) (h65 : h₀.get? 65 = none) (h107 : h₀.get? 107 = none) (hL : 111 < L)
    (hA : A.handled = none) (hdp : A.depth + 100 < recursionLimit) (hun : A.units + 300 < cLine)
    (F : Fr h₀ L s.heap (MT num due twice td tt sg ts Ds vpl vpa vfi vto vme rest))
    (N : News h₀ L s.heap ((num, W.listOf vn.toArray cn) :: (Ds, LCg.lst vs) :: (L + 1 + 1, ob) :: (L + 1, op) :: (58, tabObj p1) :: (65, tabObj p2) :: (107, tabObj p3) :: tl))
    (dp1 : op.data = .cell (some (.int pr tp))) (db1 : ob.data = .cell (some (.int bs tb))) (hvn : IntsAre vn nn) (hvs : IntsAre vs sn)
    (hpr : pr ∈ [7, 11, 19, 23, 31, 43, 47]) (hT1 : TabL g h₀ 33 4 qA p1 tl) (hT2 : TabL g h₀ 48 4 qB p2 tl) (hT3 : ∀ h', Keep h₀ h' → h'.get? 107 = some (tabObj p3) → CT h' 111 107) (htl : ∀ q ∈ tl, q.1 ≠ 58 ∧ q.1 ≠ 65 ∧ q.1 ≠ 107)
    (hbs1 : -2 ^ 40 < bs) (hbs2 : bs < 2 ^ 40) (hnn1 : ∀ n ∈ nn, 0 ≤ n ∧ n < 50) (hnl : nn.length ≤ 100) (hnl2 : 2 ≤ nn.length) (hsn1 : ∀ o ∈ sn, o.natAbs ≤ 1) (hsl : sn.length = nn.length) (hok : TurnOk pr bs due twice sn nn)
    (hsg1 : -1 ≤ sg) (hsg2 : sg ≤ 1) (hdu1 : -2 ^ 50 < due) (hdu2 : due < 2 ^ 50) (htw1 : -2 ^ 50 < twice) (htw2 : twice < 2 ^ 50)
    (hret : ∀ h' gs' tk' num' td' tt' vpa' vfi' vto' vme' p1' p2' p3' tl' vn', Fr h₀ L h' (MT num' (sg * due) (sg * sg * twice) td' tt' sg ts Ds vpl vpa' vfi' vto' vme' rest) →
      News h₀ L h' ((num', LCg.lst vn') :: (Ds, LCg.lst vs) :: (L + 1 + 1, ob) :: (L + 1, op) :: (58, tabObj p1') :: (65, tabObj p2') :: (107, tabObj p3') :: tl') → IntsAre vn' (nn.map fun n => bs * n % pr) →
      TabL g h₀ 33 4 qA p1' tl' → TabL g h₀ 48 4 qB p2' tl' → (∀ h', Keep h₀ h' → h'.get? 107 = some (tabObj p3') → CT h' 111 107) → (∀ q ∈ tl', q.1 ≠ 58 ∧ q.1 ≠ 65 ∧ q.1 ≠ 107) → (∀ q ∈ tl, q ∈ tl') → Gb s.gens gs' → Qf .next { s with heap := h', gens := gs', toks := tk' }) :
    wpAny (model PySem.Challenge.rw_rs0116_01.row.prog w) A (execs (loopBody w) (envOfC "law" (lawScope w) L 124 (.ref 123))) Qf E s := by
  w_on
  obtain ⟨ah, dp, fr, gd, un⟩ := A
  dsimp only at hA hdp hun
  subst hA
  revert X
  k_fill
  intro X
  conv in (loopBody w) => whnf
  conv in (lawScope w) => whnf
  (try k_fold)
  k_steps
  unfold Stop
  have hpr1 : 7 ≤ pr := by
    simp only [List.mem_cons, List.not_mem_nil, or_false] at hpr
    omega
  have hpr2 : pr ≤ 47 := by
    simp only [List.mem_cons, List.not_mem_nil, or_false] at hpr
    omega
  have hLn : L ≠ 58 ∧ L ≠ 65 ∧ L ≠ 107 := ⟨neN (by omega), neN (by omega), neN (by omega)⟩
  have hvl := hvn.length
  refine LCg.CompSrc.ledger (its := vn.toArray) rfl F N (by k_mem) (by rw [List.size_toArray, hvl]; exact Nat.le_trans hnl (by decide)) ?_
  intro g9
  refine compRest_ind (fun i ys news => ∃ q1 q2 tail, news = (num, W.listOf vn.toArray cn) :: (Ds, LCg.lst vs) :: (L + 1 + 1, ob) :: (L + 1, op) :: (58, tabObj q1) :: (65, tabObj q2) :: (107, tabObj p3) :: tail ∧ (∀ q ∈ tl, q ∈ tail) ∧ (∀ q ∈ tail, q.1 ≠ 58 ∧ q.1 ≠ 65 ∧ q.1 ≠ 107) ∧
    TabL g h₀ 33 4 qA q1 tail ∧ TabL g h₀ 48 4 qB q2 tail ∧ PairsAre (fun n => (bs * n / pr, bs * n % pr)) tail ys (nn.take i)) _ ?step ?fin _ 0 [] _ (Nat.zero_add _) ⟨p1, p2, tl, rfl, fun _ h => h, htl, hT1, hT2, .nil⟩
  case step =>
    clear F N
    rintro i ys news v I oI C oC D m₂ h tk E' hi9 ⟨q1, q2, tail, rfl, htl2, htail, hQ1, hQ2, hps⟩ hv hC hx F N off ne
    have offO := off
    simp only [LCg.Off3] at off
    obtain ⟨d, t9, rfl, hd⟩ := ints_getElem hvn (by simpa using hv)
    obtain ⟨hd0, hd50⟩ := hnn1 d (List.mem_of_getElem? hd)
    k_steps
    refine idm_led (rest := (I, oI) :: (C, oC) :: (D, LCg.lst ys) :: (num, W.listOf vn.toArray cn) :: (Ds, LCg.lst vs) :: (L + 1 + 1, ob) :: (L + 1, op) :: (107, tabObj p3) :: tail) (tail := tail) Rt hg0 h58 h65 ⟨hLn.1, hLn.2.1⟩ F ?n1 ?n2 (fun q hq => by simp only [List.mem_cons]; simp [hq]) rfl ?n3 ?n4 ?n5 (by omega) (by omega) (N (58, _) (by k_mem)).1 (N (65, _) (by k_mem)).1 ?n6 ?n7 ?_
    case n1 =>
      intro q hq
      refine N q ?_
      simp only [List.mem_cons] at hq ⊢
      rcases hq with h | h | h | h | h | h | h | h | h <;> simp [h]
    case n2 =>
      intro q hq
      simp only [List.mem_cons] at hq
      rcases hq with h | h | h | h | h | h | h | h | h
      · rw [h]; exact ⟨fun q => off.2.2.2.2.1.1 q.symm, fun q => off.2.2.2.2.2.1.1 q.symm⟩
      · rw [h]; exact ⟨fun q => off.2.2.2.2.1.2.1 q.symm, fun q => off.2.2.2.2.2.1.2.1 q.symm⟩
      · rw [h]; exact ⟨fun q => off.2.2.2.2.1.2.2 q.symm, fun q => off.2.2.2.2.2.1.2.2 q.symm⟩
      · rw [h]; exact hlst N (by k_mem) (by k_mem) (by k_mem)
      · rw [h]; exact hlst N (by k_mem) (by k_mem) (by k_mem)
      · rw [h]; exact ⟨neN (by dsimp only; omega), neN (by dsimp only; omega)⟩
      · rw [h]; exact ⟨neN (by dsimp only; omega), neN (by dsimp only; omega)⟩
      · rw [h]; exact ⟨show (107 : Nat) ≠ 58 by decide, show (107 : Nat) ≠ 65 by decide⟩
      · exact ⟨(htail q h).1, (htail q h).2.1⟩
    case n3 => show dp + 90 < _; omega
    case n4 => show un + 260 < _; omega
    case n5 => exact Nat.le_trans (intBits_le_iff.mpr (mul_lt46 hbs1 hbs2 hd0 hd50)) (by decide)
    case n6 => exact hQ1
    case n7 => exact hQ2
    intro r h2 tk2 t1 t2 r1 r2 tl2 F2 N2 hf2 hR1 hR2 hrn
    dsimp only at hf2 hrn ⊢
    have hne : ∀ b o, (b, o) ∈ (I, oI) :: (C, oC) :: (D, LCg.lst ys) :: (num, W.listOf vn.toArray cn) :: (Ds, LCg.lst vs) :: (L + 1 + 1, ob) :: (L + 1, op) :: (58, tabObj q1) :: (65, tabObj q2) :: (107, tabObj p3) :: tail → ∀ c, h.get? c = none → c ≠ b := fun b o hb c hc e => by
      have := (N _ hb).1
      dsimp only at this
      rw [← e, hc] at this; cases this
    refine LCg.CompEnd.intro F2 N2 ((num, W.listOf vn.toArray cn) :: (Ds, LCg.lst vs) :: (L + 1 + 1, ob) :: (L + 1, op) :: (58, tabObj r1) :: (65, tabObj r2) :: (107, tabObj p3) :: ((r, pairObj (bs * d / pr) (bs * d % pr) t1 t2) :: (tl2 ++ tail))) ?_ ?_ ?_ ?_
    · intro q hq
      simp only [List.mem_cons, List.mem_append] at hq ⊢
      rcases hq with h | h | h | h | h | h | h | h | h | h | h | h | h <;> simp [h]
    · refine LCg.Off3.of ?_
      intro q hq
      simp only [List.mem_cons, List.mem_append] at hq
      have o1 := LCg.Off3.mem offO
      have fr3 : ∀ c, h.get? c = none → c ≠ I ∧ c ≠ C ∧ c ≠ D := fun c hc => ⟨hne I oI (by k_mem) c hc, hne C oC (by k_mem) c hc, hne D _ (by k_mem) c hc⟩
      rcases hq with h | h | h | h | h | h | h | h | h | h
      · exact o1 q (by rw [h]; k_mem)
      · exact o1 q (by rw [h]; k_mem)
      · exact o1 q (by rw [h]; k_mem)
      · exact o1 q (by rw [h]; k_mem)
      · rw [h]; exact o1 (58, tabObj q1) (by k_mem)
      · rw [h]; exact o1 (65, tabObj q2) (by k_mem)
      · exact o1 q (by rw [h]; k_mem)
      · rw [h]; exact fr3 r hrn
      · exact fr3 q.1 (hf2 q h).2.2.2
      · exact o1 q (by simp only [List.mem_cons]; simp [h])
    · exact Or.inr ⟨_, by k_mem, rfl, _, rfl⟩
    · refine ⟨r1, r2, _, rfl, fun q hq => by simp [htl2 q hq], ?_, ?_, ?_, ?_⟩
      · intro q hq
        simp only [List.mem_cons, List.mem_append] at hq
        rcases hq with h | h | h
        · rw [h]; exact ⟨hne 58 _ (by k_mem) r hrn, hne 65 _ (by k_mem) r hrn, hne 107 _ (by k_mem) r hrn⟩
        · exact ⟨(hf2 q h).1, (hf2 q h).2.1, (hf2 q h).2.2.1⟩
        · exact htail q h
      · exact hR1.sub fun q hq => List.mem_cons_of_mem _ hq
      · exact hR2.sub fun q hq => List.mem_cons_of_mem _ hq
      · rw [List.take_succ, hd]
        exact .snoc d r t1 t2 (hps.sub fun q hq => by simp [hq]) List.mem_cons_self
  case fin =>
    clear F N
    rintro ys news ⟨q1, q2, tail, rfl, htl2, htail, hQ1, hQ2, hps⟩
    rw [List.take_of_length_le (by rw [List.size_toArray, hvl]; exact Nat.le_refl _)] at hps
    k_steps
    unfold Stop
    rename News _ _ _ _ => N
    rename Fr _ _ _ _ => F
    refine LCg.CompSrc.ledger (its := ys.toArray) rfl F N (by k_mem) (by rw [List.size_toArray, hps.length]; exact Nat.le_trans hnl (by decide)) ?_
    intro g8
    refine compRest_ind (fun i zs news => news = (_, LCg.lst ys) :: (num, W.listOf vn.toArray cn) :: (Ds, LCg.lst vs) :: (L + 1 + 1, ob) :: (L + 1, op) :: (58, tabObj q1) :: (65, tabObj q2) :: (107, tabObj p3) :: tail ∧
      IntsAre zs ((nn.take i).map fun n => bs * n / pr)) _ ?step2 ?fin2 _ 0 [] _ (Nat.zero_add _) ⟨rfl, .nil⟩
    case step2 =>
      clear F N
      rintro i zs news v I oI C oC D m₂ h tk E' hi9 ⟨rfl, hzs⟩ hv hC hx F N off ne
      have offO := off
      simp only [LCg.Off3] at off
      obtain ⟨n, r, t1, t2, rfl, hn, hm⟩ := hps.get (by simpa using hv)
      have hr := N (r, pairObj (bs * n / pr) (bs * n % pr) t1 t2) (by simp only [List.mem_cons]; simp [hm])
      have N2 := news_cons hr.1 hr.2.1 hr.2.2 N
      clear N
      k_steps
      refine LCg.CompEnd.intro F N2 _ (fun q hq => List.mem_cons_of_mem _ hq) offO (Or.inr ⟨_, by k_mem, rfl, _, rfl⟩) ⟨rfl, ?_⟩
      rw [List.take_add_one, hn, List.map_append]
      exact ints_snoc hzs _ _
    case fin2 =>
      clear F N
      rintro zs news ⟨rfl, hzs⟩
      rw [List.take_of_length_le (by rw [List.size_toArray, hps.length]; exact Nat.le_refl _)] at hzs
      have hsl2 := hvs.length
      k_steps
      obtain ⟨sx, sy, z, hsx, hsy, hz, hc1, hc2⟩ := hok
      rename IntsAre _ (List.map (fun k' => (pr - 2) * k' + 3) sn) => hxs
      rename News _ _ _ _ => N
      rename Fr _ _ _ _ => F
      rename_i pys D1 h1' tk1' o1' D2 h2' tk2' F2' nD o2' k1' k2' k3' g7 l8 D3 h3 tk3 o3
      clear F2' nD k1' k2' k3'
      have hxsl : (xsOf pr sn).length = nn.length := by rw [xsOf, List.length_map, hsl]
      have hysl : (ysOf bs pr nn).length = nn.length := by rw [ysOf, List.length_map]
      have e107 := (N (107, tabObj p3) (by k_mem)).1
      have sx' := xs_small hpr1 hpr2 hsn1
      have sy' := ys_small (pr := pr) hbs1 hbs2 hnn1
      refine cov_spec (nx := xsOf pr sn) (ny := ysOf bs pr nn) Rt ⟨hg0.trans F.keep⟩ rfl ?u1 ?u2 (N _ List.mem_cons_self).1 (N _ (.tail _ List.mem_cons_self)).1 hxs hzs (by rw [hxsl, hysl]) (by rw [hxsl]; exact hnl2) (by rw [hxsl]; exact hnl)
        (hT3 _ F.keep e107) (fun n hn => small_over (sx' n hn)) (fun n hn => small_over (sy' n hn)) hsx hsy (fun n hn => small_fits (sx' n hn)) (fun n hn => small_fits (sy' n hn)) ?u3 ?u4 hz ?_
      case u1 => show dp + 20 < _; omega
      case u2 => show un + 60 < _; omega
      case u3 => intro e; rw [e] at N; exact absurd ((N _ List.mem_cons_self).1.symm.trans e107) (by intro h; cases h)
      case u4 => intro e; rw [e] at N; exact absurd ((N _ (.tail _ List.mem_cons_self)).1.symm.trans e107) (by intro h; cases h)
      intro h5 tk5 gs5 t5 bt5 hgb5 hCT5
      dsimp only at bt5 hgb5 ⊢
      obtain ⟨p4, e4⟩ := hCT5.get
      have F5 := bt5.fr F (by simpa using h107) (by simpa using hLn.2.2)
      have N5 : News h₀ L h5 ((D2, LCg.lst zs) :: (D1, LCg.lst pys) :: (num, W.listOf vn.toArray cn) :: (Ds, LCg.lst vs) :: (L + 1 + 1, ob) :: (L + 1, op) :: (58, tabObj q1) :: (65, tabObj q2) :: (107, tabObj p4) :: tail) := by
        refine news_swap (pre := [(D2, LCg.lst zs), (D1, LCg.lst pys), (num, W.listOf vn.toArray cn), (Ds, LCg.lst vs), (L + 1 + 1, ob), (L + 1, op), (58, tabObj q1), (65, tabObj q2)]) bt5 (news_tail N) e4 ?_
        intro q hq
        simp only [List.mem_cons, List.mem_append, List.not_mem_nil, or_false] at hq
        rcases hq with (h | h | h | h | h | h | h | h) | h
        · rw [h]; exact ne_tab N (by k_mem) (by k_mem)
        · rw [h]; exact ne_tab N (by k_mem) (by k_mem)
        · rw [h]; exact ne_tab N (by k_mem) (by k_mem)
        · rw [h]; exact ne_tab N (by k_mem) (by k_mem)
        · rw [h]; exact neN (by dsimp only; omega)
        · rw [h]; exact neN (by dsimp only; omega)
        · rw [h]; exact (show (58 : Nat) ≠ 107 by decide)
        · rw [h]; exact (show (65 : Nat) ≠ 107 by decide)
        · exact (htail q h).2.2
      have hT4 : ∀ h', Keep h₀ h' → h'.get? 107 = some (tabObj p4) → CT h' 111 107 := by
        intro h' k e
        obtain ⟨oc, ec⟩ := hCT5.getc
        obtain ⟨o, vs, file, tf, flags, tg, inF, text, tt, e9, r⟩ := Rt.c3
        have e10 := hg0 _ _ e9
        have e11 := F5.keep _ _ e10
        exact hCT5.at (fun o' e' => by rw [e11] at e'; cases e'; exact k _ _ e10) (fun o' e' => by rw [e4] at e'; cases e'; exact e)
      clear N F
      k_steps
      rename News _ _ _ _ => N6
      rename Fr _ _ _ _ => F6
      refine fmean_spec (nx := ysOf bs pr nn) Rt ⟨hg0.trans F6.keep⟩ rfl ?v1 ?v2 (N6 _ List.mem_cons_self).1 hzs (by rw [hysl]; omega) (by rw [hysl]; exact hnl) (fun n hn => small_over (sy' n hn)) hsy ?_
      case v1 => show dp + 20 < _; omega
      case v2 => show un + 60 < _; omega
      intro h7 tk7 t7 hk7
      have F7 := (show But [] _ _ from fun b o _ e => hk7 b o e).fr F6 (by simp) (by simp)
      have N7 := (show But [] _ _ from fun b o _ e => hk7 b o e).news N6 (by simp)
      dsimp only
      clear F6 N6
      k_steps
      any_goals (exfalso; rename (_ != some Ordering.eq) = true => hb; first | (rw [hc1] at hb; exact absurd hb (by decide)) | (rw [hc2] at hb; exact absurd hb (by decide)))
      unfold Stop
      rename News _ _ _ _ => N
      rename Fr _ _ _ _ => F
      refine LCg.CompSrc.ledger (its := pys.toArray) rfl F N (by k_mem) (by rw [List.size_toArray, hps.length]; exact Nat.le_trans hnl (by decide)) ?_
      intro g6
      refine compRest_ind (fun i zs2 news => news = (D2, LCg.lst zs) :: (D1, LCg.lst pys) :: (num, W.listOf vn.toArray cn) :: (Ds, LCg.lst vs) :: (L + 1 + 1, ob) :: (L + 1, op) :: (58, tabObj q1) :: (65, tabObj q2) :: (107, tabObj p4) :: tail ∧
        IntsAre zs2 ((nn.take i).map fun n => bs * n % pr)) _ ?step4 ?fin4 _ 0 [] _ (Nat.zero_add _) ⟨rfl, .nil⟩
      case step4 =>
        clear F N
        rintro i zs2 news v I oI C oC D m₂ h tk E' hi9 ⟨rfl, hzs2⟩ hv hC hx F N off ne
        have offO := off
        simp only [LCg.Off3] at off
        obtain ⟨n, r, t1, t2, rfl, hn, hm⟩ := hps.get (by simpa using hv)
        have hr := N (r, pairObj (bs * n / pr) (bs * n % pr) t1 t2) (by simp only [List.mem_cons]; simp [hm])
        have N2 := news_cons hr.1 hr.2.1 hr.2.2 N
        clear N
        k_steps
        refine LCg.CompEnd.intro F N2 _ (fun q hq => List.mem_cons_of_mem _ hq) offO (Or.inr ⟨_, by k_mem, rfl, _, rfl⟩) ⟨rfl, ?_⟩
        rw [List.take_add_one, hn, List.map_append]
        exact ints_snoc hzs2 _ _
      case fin4 =>
        clear F N
        rintro zs2 news ⟨rfl, hzs2⟩
        rw [List.take_of_length_le (by rw [List.size_toArray, hps.length]; exact Nat.le_refl _)] at hzs2
        have hss1 : -1 ≤ sg * sg := by
          have : sg = -1 ∨ sg = 0 ∨ sg = 1 := by omega
          rcases this with h | h | h <;> rw [h] <;> decide
        have hss2 : sg * sg ≤ 1 := by
          have : sg = -1 ∨ sg = 0 ∨ sg = 1 := by omega
          rcases this with h | h | h <;> rw [h] <;> decide
        k_steps
        rename News _ _ _ _ => N9
        rename Fr _ _ _ _ => F9
        dsimp only at F9 N9 ⊢
        refine hret _ _ _ _ _ _ _ _ _ _ _ _ _ _ _ (fr_MT F9 rfl rfl rfl rfl rfl rfl ?_) (fun q hq => N9 q ?_) hzs2 hQ1 hQ2 hT4 htail htl2 hgb5
        · intro y hy
          simp only [mtNames, List.mem_cons, List.not_mem_nil, or_false, not_or] at hy
          obtain ⟨e1, e2, e3, e4, e5, e6, e7, e8, e9, e10⟩ := hy
          dsimp only [MT]
          rw [if_neg e2, if_neg e3, if_neg e4, if_neg e5, if_neg e6, if_neg e7, if_neg e8, if_neg e1, if_neg e2, if_neg e3, if_neg e4, if_neg e5, if_neg e6, if_neg e7, if_neg e8, if_neg e9, if_neg e10]
        · simp only [List.mem_cons] at hq ⊢
          rcases hq with h | h | h | h | h | h | h | h <;> simp [h]
end Mine
end
section
open PySem PySem.Float64
open PySem.Builtin.Math (tlFma tlToFloat dlSum dlMul)
namespace Mine
theorem hv_cast {x : UInt64} {u v : Int} (h : Hv x u) (e : u = v) : Hv x v := e ▸ h
theorem two_sum {x y : UInt64} {u v : Int} (hx : Hv x u) (hy : Hv y v) (h : (u + v).natAbs ≤ 2 ^ 53) (h2 : v.natAbs ≤ 2 ^ 53) : Hv (sub y (sub (add x y) x)) 0 := by
  have h1 := hv_add hx hy h
  have h3 : Hv (sub (add x y) x) v := hv_cast (hv_sub h1 hx (by rw [show u + v - u = v by omega]; exact h2)) (by omega)
  exact hv_cast (hv_sub hy h3 (by rw [Int.sub_self]; decide)) (by omega)
theorem fsumAdd_one {y x : UInt64} {S n : Int} (hy : Hv y S) (hx : Hv x n) (h : (S + n).natAbs ≤ 2 ^ 53) (h1 : S.natAbs ≤ 2 ^ 53) (h2 : n.natAbs ≤ 2 ^ 53) : ∃ r, fsumAdd [y] x = ([], r) ∧ Hv r (S + n) := by
  unfold fsumAdd
  by_cases c : lt (Float64.abs x) (Float64.abs y) = true
  · rw [if_pos c]
    dsimp only
    rw [if_pos (hv_isZero (two_sum hy hx h h2))]
    exact ⟨_, rfl, hv_add hy hx h⟩
  · rw [if_neg c]
    dsimp only
    rw [if_pos (hv_isZero (two_sum hx hy (by rw [Int.add_comm]; exact h) h1))]
    exact ⟨_, rfl, hv_cast (hv_add hx hy (by rw [Int.add_comm]; exact h)) (Int.add_comm _ _)⟩
/-- the one partial of a run of ints -/
def Part (ps : List UInt64) (S : Int) : Prop := (ps = [] ∧ S = 0) ∨ ∃ y, ps = [y] ∧ Hv y (2 * S)
theorem part_next {ps : List UInt64} {S n : Int} (h : Part ps S) (hb : S.natAbs + n.natAbs ≤ 2 ^ 52) : isFinite (fsumAdd ps (ofInt n)).2 = true ∧ Part (fsumNext ps n) (S + n) := by
  have hn : Hv (ofInt n) (2 * n) := hv_ofInt (by omega)
  have key : ∃ r, fsumAdd ps (ofInt n) = ([], r) ∧ Hv r (2 * (S + n)) := by
    rcases h with ⟨rfl, rfl⟩ | ⟨y, rfl, hy⟩
    · exact ⟨_, rfl, hv_cast hn (by omega)⟩
    · obtain ⟨r, e, hr⟩ := fsumAdd_one hy hn (by omega) (by omega) (by omega)
      exact ⟨r, e, hv_cast hr (by omega)⟩
  obtain ⟨r, e, hr⟩ := key
  unfold fsumNext
  rw [e]
  refine ⟨hv_finite hr, ?_⟩
  dsimp only
  by_cases c : isZero r = true
  · rw [if_pos c]
    have := hv_zero_of hr c
    exact .inl ⟨rfl, by omega⟩
  · rw [if_neg c]
    exact .inr ⟨r, rfl, hr⟩
theorem part_end {ps : List UInt64} {S : Int} (h : Part ps S) : Hv (fsumEnd ps) (2 * S) := by
  rcases h with ⟨rfl, rfl⟩ | ⟨y, rfl, hy⟩
  · exact hv_zero _
  · exact hy
theorem fsumI_hv {B : Nat} : ∀ (ns : List Int) (ps : List UInt64) (S : Int), Part ps S → (∀ n ∈ ns, n.natAbs ≤ B) → S.natAbs + ns.length * B ≤ 2 ^ 52 → ∃ z, fsumI ps ns = some z ∧ Hv z (2 * (S + ns.sum))
  | [], ps, S, h, _, _ => ⟨_, rfl, by rw [List.sum_nil, Int.add_zero]; exact part_end h⟩
  | n :: ns, ps, S, h, hB, hs => by
    have hn := hB n (by simp)
    rw [List.length_cons, Nat.succ_mul] at hs
    obtain ⟨h1, h2⟩ := part_next (n := n) h (by omega)
    unfold fsumI
    rw [if_pos h1]
    obtain ⟨z, e, hz⟩ := fsumI_hv ns _ _ h2 (fun m hm => hB m (by simp [hm])) (by omega)
    exact ⟨z, e, hv_cast hz (by rw [List.sum_cons]; omega)⟩
theorem dlSum_hv {a b : UInt64} {u v : Int} (ha : Hv a u) (hb : Hv b v) (h : (u + v).natAbs ≤ 2 ^ 53) (hu : u.natAbs ≤ 2 ^ 53) (hv : v.natAbs ≤ 2 ^ 53) : Hv (dlSum a b).1 (u + v) ∧ Hv (dlSum a b).2 0 := by
  have h1 := hv_add ha hb h
  have h2 : Hv (sub (add a b) a) v := hv_cast (hv_sub h1 ha (by rw [show u + v - u = v by omega]; exact hv)) (by omega)
  have h3 : Hv (sub (add a b) (sub (add a b) a)) u := hv_cast (hv_sub h1 h2 (by rw [show u + v - v = u by omega]; exact hu)) (by omega)
  have h4 : Hv (sub a (sub (add a b) (sub (add a b) a))) 0 := hv_cast (hv_sub ha h3 (by rw [Int.sub_self]; decide)) (by omega)
  have h5 : Hv (sub b (sub (add a b) a)) 0 := hv_cast (hv_sub hb h2 (by rw [Int.sub_self]; decide)) (by omega)
  exact ⟨h1, hv_cast (hv_add h4 h5 (by decide)) (by omega)⟩
theorem zz : ((0 : Int) + 0).natAbs ≤ 2 ^ 53 := by decide
theorem z0 : ((0 : Int)).natAbs ≤ 2 ^ 53 := by decide
theorem tlFma_hv {x y : UInt64} {t : T3} {u v S : Int} (hx : Hv x (2 * u)) (hy : Hv y v) (h1 : Hv t.1 S) (h2 : Hv t.2.1 0) (h3 : Hv t.2.2 0) (hb : S.natAbs + (u * v).natAbs ≤ 2 ^ 53) :
    Hv (tlFma x y t).1 (S + u * v) ∧ Hv (tlFma x y t).2.1 0 ∧ Hv (tlFma x y t).2.2 0 := by
  have m1 : Hv (mul x y) (u * v) := hv_mul hx hy (by omega)
  have m2 : Hv (fma x y (neg (mul x y))) 0 := hv_fma hx hy (hv_neg m1)
  obtain ⟨s1, s2⟩ := dlSum_hv h1 m1 (by omega) (by omega) (by omega)
  obtain ⟨r1, r2⟩ := dlSum_hv h2 m2 zz z0 z0
  have r1' := hv_cast r1 (show (0 : Int) + 0 = 0 by rfl)
  obtain ⟨q1, q2⟩ := dlSum_hv r1' s2 zz z0 z0
  have a1 := hv_cast (hv_add h3 r2 zz) (show (0 : Int) + 0 = 0 by rfl)
  have a2 := hv_cast (hv_add a1 q2 zz) (show (0 : Int) + 0 = 0 by rfl)
  exact ⟨s1, hv_cast q1 rfl, a2⟩
theorem tlToFloat_hv {t : T3} {S : Int} (h1 : Hv t.1 S) (h2 : Hv t.2.1 0) (h3 : Hv t.2.2 0) (hb : S.natAbs ≤ 2 ^ 53) : Hv (tlToFloat t) S := by
  obtain ⟨q1, q2⟩ := dlSum_hv h2 h1 (by omega) z0 hb
  have a1 := hv_cast (hv_add h3 q2 zz) (show (0 : Int) + 0 = 0 by rfl)
  exact hv_cast (hv_add a1 q1 (by omega)) (by omega)
def sumFrom (f : Nat → Int) : Nat → Nat → Int
  | _, 0 => 0
  | i, k + 1 => f i + sumFrom f (i + 1) k
theorem spN_hv {X Y : Nat → UInt64} {u v : Nat → Int} {n B : Nat} (hX : ∀ i, i < n → Hv (X i) (2 * u i)) (hY : ∀ i, i < n → Hv (Y i) (v i)) (hB : ∀ i, i < n → (u i * v i).natAbs ≤ B) :
    ∀ (k i : Nat) (t : T3) (S : Int), i + k = n → Hv t.1 S → Hv t.2.1 0 → Hv t.2.2 0 → S.natAbs + k * B ≤ 2 ^ 53 → ∃ z, spN X Y k i t = some z ∧ Hv z (S + sumFrom (fun i => u i * v i) i k)
  | 0, i, t, S, _, h1, h2, h3, hb => by
    refine ⟨_, rfl, ?_⟩
    have h4 := tlToFloat_hv h1 h2 h3 (by omega)
    have h5 : Hv (ofInt 0) (2 * 0) := hv_ofInt (by decide)
    exact hv_cast (hv_add h5 h4 (by omega)) (by unfold sumFrom; omega)
  | k + 1, i, t, S, e, h1, h2, h3, hb => by
    rw [Nat.succ_mul] at hb
    have hi := hB i (by omega)
    obtain ⟨g1, g2, g3⟩ := tlFma_hv (hX i (by omega)) (hY i (by omega)) h1 h2 h3 (by omega)
    unfold spN
    rw [if_pos (hv_finite g1)]
    obtain ⟨z, e, hz⟩ := spN_hv hX hY hB k (i + 1) _ _ (by omega) g1 g2 g3 (by omega)
    exact ⟨z, e, hv_cast hz (by rw [sumFrom]; omega)⟩
theorem sumFrom_shift (f : Nat → Int) : ∀ k i, sumFrom f (i + 1) k = sumFrom (fun j => f (j + 1)) i k
  | 0, _ => rfl
  | k + 1, i => by rw [sumFrom, sumFrom, sumFrom_shift f k]
theorem sumFrom_mul (c : Int) (f : Nat → Int) : ∀ k i, sumFrom (fun j => c * f j) i k = c * sumFrom f i k
  | 0, _ => by simp [sumFrom]
  | k + 1, i => by rw [sumFrom, sumFrom, sumFrom_mul c f k, Int.mul_add]
def dot : List Int → List Int → Int
  | x :: xs, y :: ys => x * y + dot xs ys
  | _, _ => 0
theorem sumFrom_dot (tw : Int) : ∀ (sn ys : List Int), ys.length = sn.length → sumFrom (fun i => sn.getD i 0 * (2 * ys.getD i 0 - tw)) 0 sn.length = 2 * dot sn ys - tw * sn.sum
  | [], _, _ => by simp [sumFrom, dot]
  | x :: xs, [], h => by simp at h
  | x :: xs, y :: ys, h => by
    have ih := sumFrom_dot tw xs ys (by simpa using h)
    rw [List.length_cons, sumFrom, sumFrom_shift]
    simp only [List.getD_cons_zero, List.getD_cons_succ, dot, List.sum_cons]
    rw [ih, Int.mul_sub, Int.mul_add, Int.mul_add, Int.mul_left_comm, Int.mul_comm x tw]
    omega
theorem sumFrom_congr {f g : Nat → Int} : ∀ (k i : Nat), (∀ j, i ≤ j → j < i + k → f j = g j) → sumFrom f i k = sumFrom g i k
  | 0, _, _ => rfl
  | k + 1, i, h => by rw [sumFrom, sumFrom, h i (Nat.le_refl _) (by omega), sumFrom_congr k (i + 1) fun j h1 h2 => h j (by omega) (by omega)]
theorem getD_lt {l : List Int} {i : Nat} (h : i < l.length) : l.getD i 0 = l[i] := by simp [h]
theorem abs_mul_le {a b : Int} {x y : Nat} (h1 : a.natAbs ≤ x) (h2 : b.natAbs ≤ y) : (a * b).natAbs ≤ x * y := by
  rw [Int.natAbs_mul]; exact Nat.mul_le_mul h1 h2
end Mine
end
section
open PySem PySem.Float64
open PySem.Builtin.Math (tlFma tlToFloat dlSum dlMul)
namespace Mine
theorem xs_sum (pr : Int) : ∀ sn : List Int, (xsOf pr sn).sum = (pr - 2) * sn.sum + 3 * sn.length
  | [] => by simp [xsOf]
  | o :: sn => by
    have ih := xs_sum pr sn
    unfold xsOf at ih ⊢
    rw [List.map_cons, List.sum_cons, ih, List.sum_cons, Int.mul_add, List.length_cons]
    omega
theorem turn_ok {pr bs due twice : Int} {sn nn : List Int} (hp1 : 7 ≤ pr) (hp2 : pr ≤ 47) (hl : nn.length = sn.length) (hls : (sn.length : Int) = pr - 1) (hs1 : ∀ o ∈ sn, o.natAbs ≤ 1) (hs0 : sn.sum = 0) (hys : ∀ y ∈ ysOf bs pr nn, y.natAbs ≤ 2 ^ 40) (htw : twice.natAbs ≤ 2 ^ 40 + 1)
    (hsum : 2 * (ysOf bs pr nn).sum = sn.length * twice) (hdot : dot sn (ysOf bs pr nn) = due) : TurnOk pr bs due twice sn nn := by
  have hyl : (ysOf bs pr nn).length = sn.length := by rw [ysOf, List.length_map, hl]
  have hxl : (xsOf pr sn).length = sn.length := by rw [xsOf, List.length_map]
  have hn : sn.length ≤ 46 := by omega
  have hpn : (pr - 2).natAbs ≤ 45 := by omega
  generalize hY : ysOf bs pr nn = ys at *
  have hxb : ∀ x ∈ xsOf pr sn, x.natAbs ≤ 48 := by
    intro x hx
    obtain ⟨o, ho, rfl⟩ := List.mem_map.mp hx
    have := abs_mul_le hpn (hs1 o ho)
    omega
  obtain ⟨sx, ex, hx⟩ := fsumI_hv (xsOf pr sn) [] 0 (.inl ⟨rfl, rfl⟩) hxb (by rw [hxl]; omega)
  obtain ⟨sy, ey, hy⟩ := fsumI_hv ys [] 0 (.inl ⟨rfl, rfl⟩) hys (by rw [hyl]; omega)
  rw [xs_sum, hs0, Int.mul_zero, Int.zero_add, Int.zero_add] at hx
  rw [Int.zero_add, hsum] at hy
  have hlf : Hv (ofInt (sn.length : Int)) (2 * sn.length) := hv_ofInt (by omega)
  have hxb2 : Hv (div sx (ofInt (sn.length : Int))) 6 := hv_div (d := sn.length) (hv_cast hx (by omega)) hlf (by omega) (by decide)
  have hyb2 : Hv (div sy (ofInt (sn.length : Int))) twice := hv_div (d := sn.length) (hv_cast hy (by rw [Int.mul_comm])) hlf (by omega) (by omega)
  have hgy : ∀ i, i < sn.length → (ys.getD i 0).natAbs ≤ 2 ^ 40 := by
    intro i hi
    rw [getD_lt (by omega)]
    exact hys _ (List.getElem_mem _)
  have hgs : ∀ i, i < sn.length → (sn.getD i 0).natAbs ≤ 1 := by
    intro i hi
    rw [getD_lt (by omega)]
    exact hs1 _ (List.getElem_mem _)
  have hgx : ∀ i, i < sn.length → (xsOf pr sn).getD i 0 = (pr - 2) * sn.getD i 0 + 3 := by
    intro i hi
    rw [getD_lt (by rw [hxl]; omega), getD_lt (by omega)]
    simp [xsOf]
  have hX : ∀ i, i < sn.length → Hv (sub (ofInt ((xsOf pr sn).getD i 0)) (div sx (ofInt (sn.length : Int)))) (2 * ((pr - 2) * sn.getD i 0)) := by
    intro i hi
    rw [hgx i hi]
    have := abs_mul_le hpn (hgs i hi)
    exact hv_cast (hv_sub (hv_ofInt (by omega)) hxb2 (by omega)) (by omega)
  have hY2 : ∀ i, i < sn.length → Hv (sub (ofInt (ys.getD i 0)) (div sy (ofInt (sn.length : Int)))) (2 * ys.getD i 0 - twice) := by
    intro i hi
    have := hgy i hi
    exact hv_sub (hv_ofInt (by omega)) hyb2 (by omega)
  have hB : ∀ i, i < sn.length → ((pr - 2) * sn.getD i 0 * (2 * ys.getD i 0 - twice)).natAbs ≤ 45 * (3 * 2 ^ 40 + 1) := by
    intro i hi
    have h1 := abs_mul_le hpn (hgs i hi)
    have h2 := hgy i hi
    exact abs_mul_le h1 (by omega)
  obtain ⟨z, ez, hz⟩ := spN_hv (n := sn.length) (X := fun i => sub (ofInt ((xsOf pr sn).getD i 0)) (div sx (ofInt (sn.length : Int)))) (Y := fun i => sub (ofInt (ys.getD i 0)) (div sy (ofInt (sn.length : Int))))
    (u := fun i => (pr - 2) * sn.getD i 0) (v := fun i => 2 * ys.getD i 0 - twice) hX hY2 hB sn.length 0 (zero false, zero false, zero false) 0 (by omega) (hv_zero _) (hv_zero _) (hv_zero _) (by omega)
  unfold TurnOk
  rw [hY]
  refine ⟨sx, sy, z, ex, ey, by rw [hxl]; exact ez, ?_, ?_⟩
  · rw [hxl]
    have e1 : sumFrom (fun i => (pr - 2) * sn.getD i 0 * (2 * ys.getD i 0 - twice)) 0 sn.length = (2 * due) * (pr - 2) := by
      rw [show (fun i => (pr - 2) * sn.getD i 0 * (2 * ys.getD i 0 - twice)) = fun i => (pr - 2) * (sn.getD i 0 * (2 * ys.getD i 0 - twice)) from funext fun i => Int.mul_assoc _ _ _, sumFrom_mul, sumFrom_dot twice sn ys hyl, hs0, hdot, Int.mul_zero, Int.sub_zero, Int.mul_comm]
    rw [e1, Int.zero_add] at hz
    have hd : Hv (ofInt ((sn.length : Int) - 1)) (2 * (pr - 2)) := by
      rw [show (sn.length : Int) - 1 = pr - 2 by omega]
      exact hv_ofInt (by omega)
    have hdue : due.natAbs ≤ 2 ^ 46 := by
      rw [← hdot]
      have : ∀ (sn ys : List Int), (∀ o ∈ sn, o.natAbs ≤ 1) → (∀ y ∈ ys, y.natAbs ≤ 2 ^ 40) → (dot sn ys).natAbs ≤ sn.length * 2 ^ 40 := by
        intro sn
        induction sn with
        | nil => intro ys _ _; simp [dot]
        | cons o sn ih =>
          intro ys h1 h2
          cases ys with
          | nil => simp [dot]
          | cons y ys =>
            have := ih ys (fun a h => h1 a (by simp [h])) (fun a h => h2 a (by simp [h]))
            have h3 := abs_mul_le (h1 o (by simp)) (h2 y (by simp))
            rw [dot, List.length_cons, Nat.succ_mul]
            omega
      exact Nat.le_trans (this sn ys hs1 hys) (by omega)
    exact hv_cmpInt (hv_div hz hd (by omega) (by omega))
  · rw [hyl]
    exact hv_cmpInt (hv_mul (u := 2) (hv_ofInt (by decide)) hyb2 (by omega))
end Mine
end
section
open PySem PySem.W PyProof.Rows PySem.Spec PySem.Calls
namespace Mine
/-- a run of ints -/
def runTo (f : Int → Int) (a : Int) (n : Nat) : List Int := (List.range n).map fun (i : Nat) => f (a + (i : Int))
theorem runTo_succ (f : Int → Int) (a : Int) (n : Nat) : runTo f a (n + 1) = runTo f a n ++ [f (a + (n : Int))] := by
  simp [runTo, List.range_succ]
def sq1 (pr : Int) : List Int := List.map (fun k' => (k' * k').fmod pr) (rangeKs 1 ((pr + 1).fdiv 2 - 1).toNat)
def chi1 (pr r : Int) : Int := if ((sq1 pr).any fun x => x == r) = true then 1 else -1
def sgn1 (pr b : Int) : Int := if b.fmod pr = 0 then 0 else chi1 pr (b.fmod pr)
def menu1 : List Int := [7, 11, 19, 23, 31, 43, 47]
def nn1 (pr : Int) : List Int := rangeKs 1 (pr - 1).toNat
def sn1 (pr : Int) : List Int := runTo (chi1 pr) 1 (pr - 1).toNat
def okAt (pr r s h f e : Int) (sn nn : List Int) : Bool :=
  (2 * nn.sum == sn.length * (pr * f)) && (2 * (ysOf r pr nn).sum == sn.length * ((r - s * s) * f)) && (dot sn nn == -pr * h * e) && (dot sn (ysOf r pr nn) == e * ((s - r) * h))
def sAt (sn : List Int) (r : Nat) : Int := match r with
  | 0 => 0
  | k + 1 => sn.getD k 0
def chk (pr h : Int) (sn nn : List Int) : Bool := (List.range pr.toNat).all fun r => okAt pr r (sAt sn r) h 1 1 sn nn && okAt pr r (sAt sn r) h (sAt sn r * sAt sn r) (sAt sn r) sn (nn.map fun n => r * n % pr)
def sn7 : List Int := [1, 1, -1, 1, -1, -1]
theorem sn_7 : sn1 7 = [1, 1, -1, 1, -1, -1] := by decide +kernel
theorem chk_7 : chk 7 1 [1, 1, -1, 1, -1, -1] (nn1 7) = true := by decide +kernel
theorem sn_11 : sn1 11 = [1, -1, 1, 1, 1, -1, -1, -1, 1, -1] := by decide +kernel
theorem chk_11 : chk 11 1 [1, -1, 1, 1, 1, -1, -1, -1, 1, -1] (nn1 11) = true := by decide +kernel
theorem sn_19 : sn1 19 = [1, -1, -1, 1, 1, 1, 1, -1, 1, -1, 1, -1, -1, -1, -1, 1, 1, -1] := by decide +kernel
theorem chk_19 : chk 19 1 [1, -1, -1, 1, 1, 1, 1, -1, 1, -1, 1, -1, -1, -1, -1, 1, 1, -1] (nn1 19) = true := by decide +kernel
theorem sn_23 : sn1 23 = [1, 1, 1, 1, -1, 1, -1, 1, 1, -1, -1, 1, 1, -1, -1, 1, -1, 1, -1, -1, -1, -1] := by decide +kernel
theorem chk_23 : chk 23 3 [1, 1, 1, 1, -1, 1, -1, 1, 1, -1, -1, 1, 1, -1, -1, 1, -1, 1, -1, -1, -1, -1] (nn1 23) = true := by decide +kernel
theorem sn_31 : sn1 31 = [1, 1, -1, 1, 1, -1, 1, 1, 1, 1, -1, -1, -1, 1, -1, 1, -1, 1, 1, 1, -1, -1, -1, -1, 1, -1, -1, 1, -1, -1] := by decide +kernel
theorem chk_31 : chk 31 3 [1, 1, -1, 1, 1, -1, 1, 1, 1, 1, -1, -1, -1, 1, -1, 1, -1, 1, 1, 1, -1, -1, -1, -1, 1, -1, -1, 1, -1, -1] (nn1 31) = true := by decide +kernel
theorem sn_43 : sn1 43 = [1, -1, -1, 1, -1, 1, -1, -1, 1, 1, 1, -1, 1, 1, 1, 1, 1, -1, -1, -1, 1, -1, 1, 1, 1, -1, -1, -1, -1, -1, 1, -1, -1, -1, 1, 1, -1, 1, -1, 1, 1, -1] := by decide +kernel
theorem chk_43 : chk 43 1 [1, -1, -1, 1, -1, 1, -1, -1, 1, 1, 1, -1, 1, 1, 1, 1, 1, -1, -1, -1, 1, -1, 1, 1, 1, -1, -1, -1, -1, -1, 1, -1, -1, -1, 1, 1, -1, 1, -1, 1, 1, -1] (nn1 43) = true := by decide +kernel
theorem sn_47 : sn1 47 = [1, 1, 1, 1, -1, 1, 1, 1, 1, -1, -1, 1, -1, 1, -1, 1, 1, 1, -1, -1, 1, -1, -1, 1, 1, -1, 1, 1, -1, -1, -1, 1, -1, 1, -1, 1, 1, -1, -1, -1, -1, 1, -1, -1, -1, -1] := by decide +kernel
theorem chk_47 : chk 47 5 [1, 1, 1, 1, -1, 1, 1, 1, 1, -1, -1, 1, -1, 1, -1, 1, 1, 1, -1, -1, 1, -1, -1, 1, 1, -1, 1, 1, -1, -1, -1, 1, -1, 1, -1, 1, 1, -1, -1, -1, -1, 1, -1, -1, -1, -1] (nn1 47) = true := by decide +kernel
theorem chk_all {pr : Int} (h : pr ∈ menu1) : chk pr (forms1 pr) (sn1 pr) (nn1 pr) = true := by
  simp only [menu1, List.mem_cons, List.not_mem_nil, or_false] at h
  rcases h with h | h | h | h | h | h | h <;> subst h
  · rw [sn_7]; exact chk_7
  · rw [sn_11]; exact chk_11
  · rw [sn_19]; exact chk_19
  · rw [sn_23]; exact chk_23
  · rw [sn_31]; exact chk_31
  · rw [sn_43]; exact chk_43
  · rw [sn_47]; exact chk_47
theorem sn_sum {pr : Int} (h : pr ∈ menu1) : (sn1 pr).sum = 0 := by
  simp only [menu1, List.mem_cons, List.not_mem_nil, or_false] at h
  rcases h with h | h | h | h | h | h | h <;> subst h
  · rw [sn_7]; decide +kernel
  · rw [sn_11]; decide +kernel
  · rw [sn_19]; decide +kernel
  · rw [sn_23]; decide +kernel
  · rw [sn_31]; decide +kernel
  · rw [sn_43]; decide +kernel
  · rw [sn_47]; decide +kernel
theorem menu_lo {pr : Int} (h : pr ∈ menu1) : 7 ≤ pr ∧ pr ≤ 47 := by
  simp only [menu1, List.mem_cons, List.not_mem_nil, or_false] at h
  omega
theorem sn_length (pr : Int) : (sn1 pr).length = (pr - 1).toNat := by simp [sn1, runTo]
theorem nn_length (pr : Int) : (nn1 pr).length = (pr - 1).toNat := by simp [nn1, rangeKs]
theorem chi_abs (pr r : Int) : (chi1 pr r).natAbs ≤ 1 := by
  unfold chi1
  split <;> decide
theorem sn_abs (pr : Int) : ∀ o ∈ sn1 pr, o.natAbs ≤ 1 := by
  intro o ho
  obtain ⟨i, _, rfl⟩ := List.mem_map.mp ho
  exact chi_abs _ _
theorem nn_mem {pr : Int} (h : 7 ≤ pr) : ∀ n ∈ nn1 pr, 0 ≤ n ∧ n < pr := by
  intro n hn
  have := mem_rangeKs hn
  omega
theorem sAt_sgn {pr bs : Int} (h : 7 ≤ pr) : sAt (sn1 pr) (bs % pr).toNat = sgn1 pr bs := by
  have h0 := Int.emod_nonneg bs (show pr ≠ 0 by omega)
  have h1 := Int.emod_lt_of_pos bs (show 0 < pr by omega)
  unfold sgn1
  rw [Int.fmod_eq_emod_of_nonneg _ (show 0 ≤ pr by omega)]
  generalize bs % pr = r at *
  obtain ⟨n, rfl⟩ := Int.eq_ofNat_of_zero_le h0
  rw [Int.toNat_natCast]
  cases n with
  | zero => rfl
  | succ k =>
    rw [if_neg (by omega)]
    show (sn1 pr).getD k 0 = _
    rw [getD_lt (by rw [sn_length]; omega)]
    simp only [sn1, runTo, List.getElem_map, List.getElem_range]
    congr 1
    omega
theorem ys_split {pr q r : Int} (hp : 0 < pr) (nn : List Int) : ysOf (pr * q + r) pr nn = nn.map fun n => q * n + r * n / pr := by
  unfold ysOf
  congr 1
  funext n
  rw [Int.add_mul, Int.mul_assoc, Int.add_comm, Int.add_mul_ediv_left _ _ (Int.ne_of_gt hp), Int.add_comm]
theorem sum_lin (q r pr : Int) : ∀ nn : List Int, (nn.map fun n => q * n + r * n / pr).sum = q * nn.sum + (ysOf r pr nn).sum
  | [] => by simp [ysOf]
  | n :: nn => by
    have ih := sum_lin q r pr nn
    unfold ysOf at ih ⊢
    rw [List.map_cons, List.sum_cons, ih, List.sum_cons, List.map_cons, List.sum_cons, Int.mul_add]
    omega
theorem dot_lin (q r pr : Int) : ∀ sn nn : List Int, dot sn (nn.map fun n => q * n + r * n / pr) = q * dot sn nn + dot sn (ysOf r pr nn)
  | [], _ => by simp [dot]
  | _ :: _, [] => by simp [dot, ysOf]
  | o :: sn, n :: nn => by
    have ih := dot_lin q r pr sn nn
    unfold ysOf at ih ⊢
    rw [List.map_cons, dot, ih, dot, List.map_cons, dot, Int.mul_add, Int.mul_add, Int.mul_left_comm]
    omega
theorem ok_turn {pr q r s h f e : Int} {nn : List Int} (hp : pr ∈ menu1) (hb1 : -2 ^ 40 < pr * q + r) (hb2 : pr * q + r < 2 ^ 40) (hf : f.natAbs ≤ 1) (hs : (s * s).natAbs ≤ 1) (hl : nn.length = (sn1 pr).length) (hn : ∀ n ∈ nn, 0 ≤ n ∧ n < pr) (hok : okAt pr r s h f e (sn1 pr) nn = true) :
    TurnOk pr (pr * q + r) (e * ((s - (pr * q + r)) * h)) (f * (pr * q + r - s * s)) (sn1 pr) nn := by
  obtain ⟨h1, h2⟩ := menu_lo hp
  have hp0 : 0 < pr := by omega
  simp only [okAt, Bool.and_eq_true, beq_iff_eq] at hok
  obtain ⟨⟨⟨c1, c2⟩, c3⟩, c4⟩ := hok
  refine turn_ok h1 h2 hl (by rw [sn_length]; omega) (sn_abs pr) (sn_sum hp) ?_ ?_ ?_ ?_
  · intro y hy
    obtain ⟨n, hn', rfl⟩ := List.mem_map.mp hy
    obtain ⟨n0, n1⟩ := hn n hn'
    have hm : ((pr * q + r) * n).natAbs ≤ 2 ^ 40 * pr.natAbs := abs_mul_le (by omega) (by omega)
    generalize (pr * q + r) * n = m at *
    have a1 : m / pr ≤ 2 ^ 40 := Int.ediv_le_of_le_mul hp0 (by omega)
    have a2 : -2 ^ 40 ≤ m / pr := Int.le_ediv_of_mul_le hp0 (by omega)
    omega
  · have := abs_mul_le hf (show (pr * q + r - s * s).natAbs ≤ 2 ^ 40 + 1 by omega)
    omega
  · rw [ys_split hp0, sum_lin, Int.mul_add, Int.mul_left_comm, c1, c2]
    generalize ((sn1 pr).length : Int) = n
    rw [Int.mul_left_comm q n, ← Int.mul_add]
    congr 1
    rw [Int.mul_comm f, ← Int.mul_assoc, ← Int.add_mul, Int.mul_comm q]
    congr 1
    omega
  · rw [ys_split hp0, dot_lin, c3, c4]
    rw [show q * (-pr * h * e) = e * (-(pr * q) * h) by rw [Int.mul_comm (-pr * h), Int.mul_left_comm, ← Int.mul_assoc q, Int.mul_neg, Int.mul_comm q pr], ← Int.mul_add, ← Int.add_mul]
    congr 2
    omega
theorem sgn_sq (pr b : Int) : (sgn1 pr b).natAbs ≤ 1 := by
  unfold sgn1
  split
  · decide
  · exact chi_abs _ _
theorem sq_abs {s : Int} (h : s.natAbs ≤ 1) : (s * s).natAbs ≤ 1 := abs_mul_le h h
theorem chk_at {pr bs : Int} (h : pr ∈ menu1) : okAt pr (bs % pr) (sgn1 pr bs) (forms1 pr) 1 1 (sn1 pr) (nn1 pr) = true ∧
    okAt pr (bs % pr) (sgn1 pr bs) (forms1 pr) (sgn1 pr bs * sgn1 pr bs) (sgn1 pr bs) (sn1 pr) ((nn1 pr).map fun n => (bs % pr) * n % pr) = true := by
  obtain ⟨h1, h2⟩ := menu_lo h
  have h3 := Int.emod_nonneg bs (show pr ≠ 0 by omega)
  have h4 := Int.emod_lt_of_pos bs (show 0 < pr by omega)
  have hc := chk_all h
  unfold chk at hc
  rw [List.all_eq_true] at hc
  have := hc (bs % pr).toNat (List.mem_range.mpr (by omega))
  rw [Bool.and_eq_true, sAt_sgn h1, Int.toNat_of_nonneg h3] at this
  exact this
theorem turn1 {pr bs : Int} (h : pr ∈ menu1) (hb1 : -2 ^ 40 < bs) (hb2 : bs < 2 ^ 40) :
    TurnOk pr bs ((sgn1 pr bs - bs) * forms1 pr) (bs - sgn1 pr bs * sgn1 pr bs) (sn1 pr) (nn1 pr) := by
  have e := Int.mul_ediv_add_emod bs pr
  have := ok_turn (q := bs / pr) (r := bs % pr) h (by rw [e]; exact hb1) (by rw [e]; exact hb2) (by decide) (sq_abs (sgn_sq pr bs)) (by rw [sn_length, nn_length]) (nn_mem (menu_lo h).1) (chk_at h).1
  rw [e, Int.one_mul, Int.one_mul] at this
  exact this
theorem turn2 {pr bs : Int} (h : pr ∈ menu1) (hb1 : -2 ^ 40 < bs) (hb2 : bs < 2 ^ 40) :
    TurnOk pr bs (sgn1 pr bs * ((sgn1 pr bs - bs) * forms1 pr)) (sgn1 pr bs * sgn1 pr bs * (bs - sgn1 pr bs * sgn1 pr bs)) (sn1 pr) ((nn1 pr).map fun n => bs * n % pr) := by
  have e := Int.mul_ediv_add_emod bs pr
  obtain ⟨h1, h2⟩ := menu_lo h
  have em : (fun n => bs * n % pr) = fun n => (bs % pr) * n % pr := by
    funext n
    rw [Int.mul_emod (bs % pr) n, Int.emod_emod, ← Int.mul_emod]
  have := ok_turn (q := bs / pr) (r := bs % pr) h (by rw [e]; exact hb1) (by rw [e]; exact hb2) (sq_abs (sgn_sq pr bs)) (sq_abs (sgn_sq pr bs)) (by rw [sn_length, List.length_map, nn_length]) ?_ (chk_at h).2
  · rw [e] at this
    rw [em]
    exact this
  · intro n hn
    obtain ⟨m, _, rfl⟩ := List.mem_map.mp hn
    exact ⟨Int.emod_nonneg _ (by omega), Int.emod_lt_of_pos _ (by omega)⟩
end Mine
end
section
open PySem PySem.W PyProof.Rows PySem.Spec PySem.Calls
namespace Mine
def dueAt (sg d : Int) : Nat → Int
  | 0 => d
  | i + 1 => sg * dueAt sg d i
def twAt (sg t : Int) : Nat → Int
  | 0 => t
  | i + 1 => sg * sg * twAt sg t i
def nnAt (pr bs : Int) (nn : List Int) : Nat → List Int
  | 0 => nn
  | i + 1 => (nnAt pr bs nn i).map fun n => bs * n % pr
theorem nnAt_length (pr bs : Int) (nn : List Int) (i : Nat) : (nnAt pr bs nn i).length = nn.length := by
  induction i with
  | zero => rfl
  | succ i ih => rw [nnAt, List.length_map, ih]
/-- what stands between the turns -/
def LoopJ (g h₀ : Heap) (L Ds I : Nat) (sg : Int) (ts : Tok) (rest : Str → Option Value) (vs : List Value) (op ob : Obj) (due twice : Int) (nn : List Int) (s0 s : Shared) : Prop :=
  ∃ num td tt vpl vpa vfi vto vme p1 p2 p3 tl vn cn, Fr h₀ L s.heap (MT num due twice td tt sg ts Ds vpl vpa vfi vto vme rest) ∧
    News h₀ L s.heap ((num, W.listOf vn.toArray cn) :: (Ds, LCg.lst vs) :: (L + 1 + 1, ob) :: (L + 1, op) :: (58, tabObj p1) :: (65, tabObj p2) :: (107, tabObj p3) :: tl) ∧ IntsAre vn nn ∧
    TabL g h₀ 33 4 qA p1 tl ∧ TabL g h₀ 48 4 qB p2 tl ∧ (∀ h', Keep h₀ h' → h'.get? 107 = some (tabObj p3) → CT h' 111 107) ∧ (∀ q ∈ tl, q.1 ≠ 58 ∧ q.1 ≠ 65 ∧ q.1 ≠ 107) ∧
    (∀ q ∈ ((num, W.listOf vn.toArray cn) :: (Ds, LCg.lst vs) :: (L + 1 + 1, ob) :: (L + 1, op) :: (58, tabObj p1) :: (65, tabObj p2) :: (107, tabObj p3) :: tl), q.1 ≠ I) ∧ L ≠ I ∧ h₀.get? I = none ∧ Gb s0.gens s.gens ∧ s.drawn = s0.drawn ∧ s.os = s0.os
theorem LoopJ.frame {g h₀ : Heap} {L Ds I : Nat} {sg : Int} {ts : Tok} {rest : Str → Option Value} {vs : List Value} {op ob : Obj} {due twice : Int} {nn : List Int} {s0 s : Shared} {h' : Heap} {tk : Nat}
    (J : LoopJ g h₀ L Ds I sg ts rest vs op ob due twice nn s0 s) (hk : But [I] s.heap h') : LoopJ g h₀ L Ds I sg ts rest vs op ob due twice nn s0 { s with heap := h', toks := tk } := by
  obtain ⟨num, td, tt, vpl, vpa, vfi, vto, vme, p1, p2, p3, tl, vn, cn, F, N, a1, a2, a3, a4, a5, a6, a7, a8, a9, a10, a11⟩ := J
  exact ⟨num, td, tt, vpl, vpa, vfi, vto, vme, p1, p2, p3, tl, vn, cn, hk.fr F (by simpa using a8) (by simpa using a7), hk.news N (fun q hq => by simpa using a6 q hq), a1, a2, a3, a4, a5, a6, a7, a8, a9, a10, a11⟩
theorem TabL.drop {g h₀ h : Heap} {L : Addr} {line col : Nat} {qual : Str} {ps : Array Value} {tl : List (Addr × Obj)} {I t : Addr} {i : Int} {oI : Obj} (x : TabL g h₀ line col qual ps tl) (N : News h₀ L h tl) (e : h.get? I = some oI) (hd : oI.data = .fields #[.ref t, .int i 0]) : TabL g h₀ line col qual ps (tl.filter fun q => decide (q.1 ≠ I)) := by
  rcases x with e | ⟨c, oc, vs, t', e9, r1, r2, r3, n1, n2, n3, h | h⟩
  · exact .inl e
  · exact .inr ⟨c, oc, vs, t', e9, r1, r2, r3, n1, n2, n3, .inl h⟩
  · refine .inr ⟨c, oc, vs, t', e9, r1, r2, r3, n1, n2, n3, .inr (List.mem_filter.mpr ⟨h, ?_⟩)⟩
    refine decide_eq_true fun h9 => ?_
    have e1 := (N _ h).1
    dsimp only at h9 e1
    rw [h9, e] at e1
    have e4 := Option.some.inj e1
    rw [← e4, hd] at r1
    injection r1 with r1
    rw [← r1] at r2
    cases r2
set_option maxRecDepth 100000 in
theorem place_local (w : World) (L : Addr) : (envOfC "law" (lawScope w) L 124 (.ref 123)).kindOf (Str.ofString "place") = some .local := by
  kernel_rfl
set_option maxRecDepth 100000 in
theorem law_kind (w : World) : (lawScope w).kind = .function := by
  kernel_rfl
/-- the loop's two places, made -/
def IterP (h₀ : Heap) (L : Addr) (m : Str → Option Value) (news : List (Addr × Obj)) (s : Shared) (v : Value) (s' : Shared) : Prop :=
  ∃ ax t1 t2 h' tk, v = .ref ax ∧ s' = { s with heap := h', toks := tk } ∧ Fr h₀ L h' m ∧ News h₀ L h' ((ax, { cls := .type "tuple", data := .seq #[.int 1 t1, .int 2 t2] }) :: news)
theorem IterP.intro {h₀ : Heap} {L : Addr} {m : Str → Option Value} {news : List (Addr × Obj)} {s : Shared} {ax : Addr} {t1 t2 : Tok} {h' : Heap} {tk : Nat} (F : Fr h₀ L h' m) (N : News h₀ L h' ((ax, { cls := .type "tuple", data := .seq #[.int 1 t1, .int 2 t2] }) :: news)) :
    IterP h₀ L m news s (.ref ax) ⟨h', s.gens, s.drawn, tk, s.os⟩ := ⟨ax, t1, t2, h', tk, rfl, rfl, F, N⟩
theorem ne_of_obj {h₀ h : Heap} {L I : Addr} {oI : Obj} {news : List (Addr × Obj)} (N : News h₀ L h news) (e : h.get? I = some oI) {q : Addr × Obj} (hq : q ∈ news) (hne : q.2 ≠ oI) : q.1 ≠ I := by
  intro h9
  have := (N q hq).1
  rw [h9, e] at this
  exact hne (Option.some.inj this).symm
theorem MT_place {num : Addr} {due twice : Int} {td tt : Tok} {sg : Int} {ts : Tok} {Ds : Addr} {vpl vpa vfi vto vme : Option Value} {rest : Str → Option Value} {v : Value} :
    (fun y => if y = Str.ofString "place" then some v else MT num due twice td tt sg ts Ds vpl vpa vfi vto vme rest y) = MT num due twice td tt sg ts Ds (some v) vpa vfi vto vme rest := by
  funext y
  dsimp only [MT]
  by_cases h : y = Str.ofString "place"
  · rw [if_pos h, if_pos h]
  · rw [if_neg h, if_neg h, if_neg h]
theorem loop_iter {w : World} {p : Program} {loose : List Str} {mean : ExcName → Option Value} {mg mb : Str → Option Value} {g h₀ : Heap} {L : Nat} {num Ds ax : Addr} {A : Around} {s : Shared} {Q : Flow → Shared → Prop} {E : Value → Shared → Prop}
    {due twice : Int} {td tt : Tok} {sg : Int} {ts : Tok} {vpl vpa vfi vto vme : Option Value} {rest : Str → Option Value} {vn vs : List Value} {cn : Nat} {nn sn : List Int} {pr bs : Int} {tp tb t1 t2 : Tok} {op ob : Obj} {p1 p2 p3 : Array Value} {tl : List (Addr × Obj)}
    {body : List Stmt} {scope : Scope} (hbody : loopBody w = body) (hscope : lawScope w = scope) (Rt : Root w p loose mean mg mb g) (hg0 : Keep g h₀) (X : (hd.heap_39 w.params).In h₀) (T : Top p loose mean mg mb h₀) (h58 : h₀.get? 58 = none) (h65 : h₀.get? 65 = none) (h107 : h₀.get? 107 = none) (hL : 111 < L)
    (hA : A.handled = none) (hdp : A.depth + 100 < recursionLimit) (hun : A.units + 300 < cLine)
    (F : Fr h₀ L s.heap (MT num due twice td tt sg ts Ds vpl vpa vfi vto vme rest))
    (N : News h₀ L s.heap ((ax, { cls := .type "tuple", data := .seq #[.int 1 t1, .int 2 t2] }) :: (num, W.listOf vn.toArray cn) :: (Ds, LCg.lst vs) :: (L + 1 + 1, ob) :: (L + 1, op) :: (58, tabObj p1) :: (65, tabObj p2) :: (107, tabObj p3) :: tl))
    (dp1 : op.data = .cell (some (.int pr tp))) (db1 : ob.data = .cell (some (.int bs tb))) (hvn : IntsAre vn nn) (hvs : IntsAre vs sn)
    (hpr : pr ∈ [7, 11, 19, 23, 31, 43, 47]) (hT1 : TabL g h₀ 33 4 qA p1 tl) (hT2 : TabL g h₀ 48 4 qB p2 tl) (hT3 : ∀ h', Keep h₀ h' → h'.get? 107 = some (tabObj p3) → CT h' 111 107) (htl : ∀ q ∈ tl, q.1 ≠ 58 ∧ q.1 ≠ 65 ∧ q.1 ≠ 107)
    (hbs1 : -2 ^ 40 < bs) (hbs2 : bs < 2 ^ 40) (hnn1 : ∀ i, ∀ n ∈ nnAt pr bs nn i, 0 ≤ n ∧ n < 50) (hnl : nn.length ≤ 100) (hnl2 : 2 ≤ nn.length) (hsn1 : ∀ o ∈ sn, o.natAbs ≤ 1) (hsl : sn.length = nn.length) (hok : ∀ i, i < 2 → TurnOk pr bs (dueAt sg due i) (twAt sg twice i) sn (nnAt pr bs nn i))
    (hsg1 : -1 ≤ sg) (hsg2 : sg ≤ 1) (hdu : ∀ i, i < 2 → -2 ^ 50 < dueAt sg due i ∧ dueAt sg due i < 2 ^ 50) (htw : ∀ i, i < 2 → -2 ^ 50 < twAt sg twice i ∧ twAt sg twice i < 2 ^ 50)
    (hQ : ∀ I s₃, LoopJ g h₀ L Ds I sg ts rest vs op ob (dueAt sg due 2) (twAt sg twice 2) (nnAt pr bs nn 2) s s₃ → Q .next s₃) :
    wpAny (model PySem.Challenge.rw_rs0116_01.row.prog w) A (pyIter (.ref ax)) (fun it s₂ => ∃ (I : Addr) (fp wr : List Addr) (n : Nat) (P : Nat → Value → Prop) (St : Nat → Heap → Prop) (J : Nat → Shared → Prop), it = .ref I ∧ Walks PySem.Challenge.rw_rs0116_01.row.prog w A I fp wr n P St ∧ St 0 s₂.heap ∧ J 0 s₂ ∧
      (∀ i s h' tk, J i s → (∀ b o, b ∉ wr → s.heap.get? b = some o → h'.get? b = some o) → J i { s with heap := h', toks := tk }) ∧
      (∀ i v s₁ E', i < n → P i v → St (i + 1) s₁.heap → J i s₁ → wpAny (model PySem.Challenge.rw_rs0116_01.row.prog w) A (storeName (envOfC "law" scope L 124 (.ref 123)) (Str.ofString "place") v) (fun _ s₂ => wpAny (model PySem.Challenge.rw_rs0116_01.row.prog w) A (execs body (envOfC "law" scope L 124 (.ref 123))) (fun f s₃ => match f with
        | .next | .cont => St (i + 1) s₃.heap ∧ J (i + 1) s₃
        | .brk => Q .next s₃
        | .ret v => Q (.ret v) s₃) E' s₂) E' s₁) ∧
      (∀ s₃, J n s₃ → Q .next s₃)) E s := by
  subst hbody
  subst hscope
  have hAx := (N _ List.mem_cons_self).1
  have htu : s.heap.IsTuple ax #[.int 1 t1, .int 2 t2] := ⟨_, hAx, rfl, _, rfl⟩
  have hltL : L < s.heap.objs.size := by obtain ⟨o, es, ep, e, _⟩ := F.ns; exact Heap.lt_size e
  have hlt : ∀ q ∈ ((num, W.listOf vn.toArray cn) :: (Ds, LCg.lst vs) :: (L + 1 + 1, ob) :: (L + 1, op) :: (58, tabObj p1) :: (65, tabObj p2) :: (107, tabObj p3) :: tl), q.1 ≠ s.heap.objs.size := fun q hq => Nat.ne_of_lt (Heap.lt_size (N q (.tail _ hq)).1)
  have hI0 : h₀.get? s.heap.objs.size = none := by
    cases e : h₀.get? s.heap.objs.size with
    | none => rfl
    | some o => exact absurd (Heap.lt_size (F.keep _ _ e)) (Nat.lt_irrefl _)
  have hax : ax ≠ s.heap.objs.size := Nat.ne_of_lt (Heap.lt_size hAx)
  refine wpAny_pyIter_tuple htu ?_
  refine ⟨s.heap.objs.size, [s.heap.objs.size, ax], [s.heap.objs.size], 2, _, _, fun i s' => LoopJ g h₀ L Ds s.heap.objs.size sg ts rest vs op ob (dueAt sg due i) (twAt sg twice i) (nnAt pr bs nn i) s s', rfl,
    Walks.tuple hA _ ax hax #[.int 1 t1, .int 2 t2], ⟨⟨_, Heap.get?_push_size _ rfl, rfl, rfl⟩, htu.push _⟩, ?J0, ?frame, ?step, fun s₃ h => hQ _ s₃ h⟩
  case J0 =>
    have k : But [] s.heap (s.heap.push { cls := .type "tuple_iterator", data := .fields #[.ref ax, .int 0 0] }) := fun b o _ e => Heap.get?_push_of_some _ e
    exact ⟨num, td, tt, vpl, vpa, vfi, vto, vme, p1, p2, p3, tl, vn, cn, k.fr F (by simp) (by simp), k.news (news_tail N) (by simp), hvn, hT1, hT2, hT3, htl, hlt, Nat.ne_of_lt hltL, hI0, fun h => h, rfl, rfl⟩
  case frame => exact fun i s' h' tk J hk => J.frame hk
  case step =>
    rintro i v s₁ E' hi - ⟨⟨oI, eI, cI, dI⟩, ⟨oT, eT, cT, nT, dT⟩⟩ ⟨num, td, tt, vpl, vpa, vfi, vto, vme, p1, p2, p3, tl, vn, cn, F1, N1, a1, a2, a3, a4, a5, a6, a7, a8, a9, a10, a11⟩
    refine wpAny_storeName_local (place_local w L) F1.ns ?_ (by show ((lawScope w).kind == .class || ((lawScope w).kind == .module && _)) = false; rw [law_kind]; rfl)
    intro h2 hns hsb
    have F2 := F1.set hns hsb
    rw [MT_place] at F2
    have hk2 : But [L] s₁.heap h2 := fun b o hb e => (hsb.2 b (show b ≠ L by simpa using hb)).trans e
    have N2 := hk2.news N1 (by intro q hq; simpa using (N1 q hq).2.1)
    have eI2 : h2.get? s.heap.objs.size = some oI := hk2 _ _ (by simpa using Ne.symm a7) eI
    have hT0 : h₀.get? ax = none := (N _ List.mem_cons_self).2.2
    have hTL : ax ≠ L := (N _ List.mem_cons_self).2.1
    have eT2 : h2.get? ax = some oT := hk2 _ _ (by simpa using hTL) eT
    have N3 : News h₀ L h2 ((num, W.listOf vn.toArray cn) :: (Ds, LCg.lst vs) :: (L + 1 + 1, ob) :: (L + 1, op) :: (58, tabObj p1) :: (65, tabObj p2) :: (107, tabObj p3) :: ((s.heap.objs.size, oI) :: (ax, oT) :: tl)) := by
      intro q hq
      simp only [List.mem_cons] at hq
      rcases hq with h | h | h | h | h | h | h | h | h | h
      · exact N2 q (by simp [h])
      · exact N2 q (by simp [h])
      · exact N2 q (by simp [h])
      · exact N2 q (by simp [h])
      · exact N2 q (by simp [h])
      · exact N2 q (by simp [h])
      · exact N2 q (by simp [h])
      · rw [h]; exact ⟨eI2, a7.symm, a8⟩
      · rw [h]; exact ⟨eT2, hTL, hT0⟩
      · exact N2 q (by simp [h])
    have hmid : ∀ P q, (P, tabObj q) ∈ ((num, W.listOf vn.toArray cn) :: (Ds, LCg.lst vs) :: (L + 1 + 1, ob) :: (L + 1, op) :: (58, tabObj p1) :: (65, tabObj p2) :: (107, tabObj p3) :: tl) → s.heap.objs.size ≠ P ∧ ax ≠ P := fun P q hq => by
      refine ⟨fun h => a6 _ hq h.symm, fun h => ?_⟩
      have e := (N2 _ hq).1
      dsimp only at e
      rw [← h, eT2] at e
      have e4 := Option.some.inj e
      rw [e4] at cT
      cases cT
    refine turn_spec Rt hg0 X T h58 h65 h107 hL hA hdp hun F2 N3 dp1 db1 a1 hvs hpr (a2.sub fun q hq => by simp [hq]) (a3.sub fun q hq => by simp [hq]) a4 ?_ hbs1 hbs2 (hnn1 i) ?_ ?_ hsn1 ?_ (hok i hi) hsg1 hsg2 (hdu i hi).1 (hdu i hi).2 (htw i hi).1 (htw i hi).2 ?_
    · intro q hq
      simp only [List.mem_cons] at hq
      rcases hq with h | h | h
      · rw [h]; exact ⟨(hmid 58 p1 (by simp)).1, (hmid 65 p2 (by simp)).1, (hmid 107 p3 (by simp)).1⟩
      · rw [h]; exact ⟨(hmid 58 p1 (by simp)).2, (hmid 65 p2 (by simp)).2, (hmid 107 p3 (by simp)).2⟩
      · exact a5 q h
    · rw [nnAt_length]; omega
    · rw [nnAt_length]; omega
    · rw [nnAt_length]; omega
    intro h' gs' tk' num' td' tt' vpa' vfi' vto' vme' p1' p2' p3' tl' vn' F4 N4 b1 b2 b3 b4 b5 b6 b7
    have mI : h'.get? s.heap.objs.size = some oI ∧ _ := N4 _ (List.mem_append_right [(num', LCg.lst vn'), (Ds, LCg.lst vs), (L + 1 + 1, ob), (L + 1, op), (58, tabObj p1'), (65, tabObj p2'), (107, tabObj p3')] (b6 (s.heap.objs.size, oI) (by simp)))
    have mT : h'.get? ax = some oT ∧ _ := N4 _ (List.mem_append_right [(num', LCg.lst vn'), (Ds, LCg.lst vs), (L + 1 + 1, ob), (L + 1, op), (58, tabObj p1'), (65, tabObj p2'), (107, tabObj p3')] (b6 (ax, oT) (by simp)))
    have NT : News h₀ L h' tl' := fun q hq => N4 q (List.mem_append_right [(num', LCg.lst vn'), (Ds, LCg.lst vs), (L + 1 + 1, ob), (L + 1, op), (58, tabObj p1'), (65, tabObj p2'), (107, tabObj p3')] hq)
    show (Heap.IsTupleIter h' _ _ _ ∧ Heap.IsTuple h' _ _) ∧ LoopJ _ _ _ _ _ _ _ _ _ _ _ _ _ _ _ _
    refine ⟨⟨⟨oI, mI.1, cI, dI⟩, ⟨oT, mT.1, cT, nT, dT⟩⟩, ?_⟩
    refine ⟨num', td', tt', some v, vpa', vfi', vto', vme', p1', p2', p3', tl'.filter fun q => decide (q.1 ≠ s.heap.objs.size), vn', vn'.length, F4, ?_, b1, b2.drop NT mI.1 dI, b3.drop NT mI.1 dI, b4, fun q hq => b5 q (List.mem_filter.mp hq).1, ?_, a7, a8, fun h => b7 (a9 h), a10, a11⟩
    · intro q hq
      simp only [List.mem_cons] at hq
      rcases hq with h | h | h | h | h | h | h | h
      · exact N4 q (by simp [h])
      · exact N4 q (by simp [h])
      · exact N4 q (by simp [h])
      · exact N4 q (by simp [h])
      · exact N4 q (by simp [h])
      · exact N4 q (by simp [h])
      · exact N4 q (by simp [h])
      · exact NT q (List.mem_filter.mp h).1
    · intro q hq
      simp only [List.mem_cons] at hq
      rcases hq with h | h | h | h | h | h | h | h
      · refine ne_of_obj N4 mI.1 (by simp [h]) ?_
        rw [h]; intro e; rw [← e] at dI; cases dI
      · refine ne_of_obj N4 mI.1 (by simp [h]) ?_
        rw [h]; intro e; rw [← e] at dI; cases dI
      · refine ne_of_obj N4 mI.1 (by simp [h]) ?_
        rw [h]; intro e; rw [← e, db1] at dI; cases dI
      · refine ne_of_obj N4 mI.1 (by simp [h]) ?_
        rw [h]; intro e; rw [← e, dp1] at dI; cases dI
      · refine ne_of_obj N4 mI.1 (by simp [h]) ?_
        rw [h]; intro e; rw [← e] at cI; cases cI
      · refine ne_of_obj N4 mI.1 (by simp [h]) ?_
        rw [h]; intro e; rw [← e] at cI; cases cI
      · refine ne_of_obj N4 mI.1 (by simp [h]) ?_
        rw [h]; intro e; rw [← e] at cI; cases cI
      · exact of_decide_eq_true (List.mem_filter.mp h).2
theorem loop_for {w : World} {p : Program} {loose : List Str} {mean : ExcName → Option Value} {mg mb : Str → Option Value} {g h₀ : Heap} {L : Nat} {num Ds : Addr} {A : Around} {s : Shared} {Q : Flow → Shared → Prop} {E : Value → Shared → Prop}
    {due twice : Int} {td tt : Tok} {sg : Int} {ts : Tok} {vpl vpa vfi vto vme : Option Value} {rest : Str → Option Value} {vn vs : List Value} {cn : Nat} {nn sn : List Int} {pr bs : Int} {tp tb : Tok} {op ob : Obj} {p1 p2 p3 : Array Value} {tl : List (Addr × Obj)}
    {body : List Stmt} {scope : Scope} (hbody : loopBody w = body) (hscope : lawScope w = scope) (Rt : Root w p loose mean mg mb g) (hg0 : Keep g h₀) (X : (hd.heap_39 w.params).In h₀) (T : Top p loose mean mg mb h₀) (h58 : h₀.get? 58 = none) (h65 : h₀.get? 65 = none) (h107 : h₀.get? 107 = none) (hL : 111 < L)
    (hA : A.handled = none) (hdp : A.depth + 100 < recursionLimit) (hun : A.units + 300 < cLine)
    {m : Str → Option Value} {news : List (Addr × Obj)} {px pos : Pos} {iter : Expr} (hit : wpAny (model PySem.Challenge.rw_rs0116_01.row.prog w) A (eval iter (envOfC "law" scope L 124 (.ref 123))) (IterP h₀ L m news s) E s) (hs9 : ∀ x, foldedSetIterable iter (envOfC "law" scope L 124 (.ref 123)) x = pure x)
    (hm : ∀ h, Fr h₀ L h m → Fr h₀ L h (MT num due twice td tt sg ts Ds vpl vpa vfi vto vme rest)) (hnum : (num, W.listOf vn.toArray cn) ∈ news) (hnews : ∀ q ∈ ((Ds, LCg.lst vs) :: (L + 1 + 1, ob) :: (L + 1, op) :: (58, tabObj p1) :: (65, tabObj p2) :: (107, tabObj p3) :: tl), q ∈ news)
    (dp1 : op.data = .cell (some (.int pr tp))) (db1 : ob.data = .cell (some (.int bs tb))) (hvn : IntsAre vn nn) (hvs : IntsAre vs sn)
    (hpr : pr ∈ [7, 11, 19, 23, 31, 43, 47]) (hT1 : TabL g h₀ 33 4 qA p1 tl) (hT2 : TabL g h₀ 48 4 qB p2 tl) (hT3 : ∀ h', Keep h₀ h' → h'.get? 107 = some (tabObj p3) → CT h' 111 107) (htl : ∀ q ∈ tl, q.1 ≠ 58 ∧ q.1 ≠ 65 ∧ q.1 ≠ 107)
    (hbs1 : -2 ^ 40 < bs) (hbs2 : bs < 2 ^ 40) (hnn1 : ∀ i, ∀ n ∈ nnAt pr bs nn i, 0 ≤ n ∧ n < 50) (hnl : nn.length ≤ 100) (hnl2 : 2 ≤ nn.length) (hsn1 : ∀ o ∈ sn, o.natAbs ≤ 1) (hsl : sn.length = nn.length) (hok : ∀ i, i < 2 → TurnOk pr bs (dueAt sg due i) (twAt sg twice i) sn (nnAt pr bs nn i))
    (hsg1 : -1 ≤ sg) (hsg2 : sg ≤ 1) (hdu : ∀ i, i < 2 → -2 ^ 50 < dueAt sg due i ∧ dueAt sg due i < 2 ^ 50) (htw : ∀ i, i < 2 → -2 ^ 50 < twAt sg twice i ∧ twAt sg twice i < 2 ^ 50)
    (hQ : ∀ I s₃, LoopJ g h₀ L Ds I sg ts rest vs op ob (dueAt sg due 2) (twAt sg twice 2) (nnAt pr bs nn 2) s s₃ → Q .next s₃) :
    wpAny (model PySem.Challenge.rw_rs0116_01.row.prog w) A (exec (.For (.Name (Str.ofString "place") px) iter body [] pos) (envOfC "law" scope L 124 (.ref 123))) Q E s := by
  refine for_walkS (wpAny_mono hit (fun xv s₁ hp => ?_) fun _ _ e => e) hs9
  obtain ⟨ax, t1, t2, h', tk, rfl, rfl, F, N⟩ := hp
  refine loop_iter hbody hscope Rt hg0 X T h58 h65 h107 hL hA hdp hun (hm _ F) (t1 := t1) (t2 := t2) (tl := tl) (cn := cn) (fun q hq => ?_) dp1 db1 hvn hvs hpr hT1 hT2 hT3 htl hbs1 hbs2 hnn1 hnl hnl2 hsn1 hsl hok hsg1 hsg2 hdu htw (fun I s₃ J => hQ I s₃ J)
  rcases List.mem_cons.mp hq with h | h
  · exact N q (by rw [h]; exact List.mem_cons_self)
  · rcases List.mem_cons.mp h with h | h
    · rw [h]; exact N _ (List.mem_cons_of_mem _ hnum)
    · exact N q (List.mem_cons_of_mem _ (hnews q h))
end Mine
end
section
open PySem PySem.W PyProof.Rows PySem.Spec PySem.Calls
namespace Mine
local macro_rules | `(tactic| walk_at "subscriptTail") => `(tactic| ((with_reducible show wpAny _ _ (subscriptTail (Expr.List _ _) _ (Value.ref _) (Value.int _ _)) _ _ _); refine stop ?_))
local macro_rules | `(tactic| walk_at "eval IfExp") => `(tactic| ((with_reducible show wpAny _ _ (eval (Expr.IfExp _ _ _ _) (envOfC _ _ _ _ _)) _ _ _); refine stop ?_))
theorem isL_of {h : Heap} {l : Addr} {vs : List Value} {n : Nat} (e : h.get? l = some (W.listOf vs.toArray n)) : h.IsList l vs.toArray := ⟨_, e, rfl, _, rfl⟩
local macro_rules | `(tactic| walk_at "CompSrc") => `(tactic| ((with_reducible show LCg.CompSrc _ _ _ _ _ _ _ (Expr.IfExp _ _ _ _) _ _ _ _ _ _); refine stop ?_))
local macro_rules | `(tactic| walk_at "CompSrc") => `(tactic| ((with_reducible show LCg.CompSrc _ _ _ _ _ _ _ (Expr.Call _ _ _ _) _ _ _ _ _ _); refine stop ?_))
local macro_rules | `(tactic| walk_at "CompSrc") => `(tactic| ((with_reducible show LCg.CompSrc _ _ _ _ _ _ _ (Expr.Subscript _ _ _) _ _ _ _ _ _); refine stop ?_))
local macro_rules | `(tactic| walk_at "exec For Name Tuple cons nil") => `(tactic| ((with_reducible show wpAny _ _ (exec (Stmt.For _ _ _ _ _) _) _ _ _); refine stop ?_))
local macro_rules | `(tactic| walk_at "pyIter ref") => `(tactic| ((with_reducible show wpAny _ _ (pyIter _) _ _ _); refine stop ?_))
/-- a value is cut out of its walk: what it is, and that the frame and the ledger stand as before -/
def CutV (h₀ : Heap) (L : Addr) (m : Str → Option Value) (news : List (Addr × Obj)) (s : Shared) (P : Value → Prop) (v : Value) (s' : Shared) : Prop :=
  P v ∧ ∃ h' tk, s' = { s with heap := h', toks := tk } ∧ Fr h₀ L h' m ∧ News h₀ L h' news
theorem CutV.intro {h₀ : Heap} {L : Addr} {m : Str → Option Value} {news : List (Addr × Obj)} {s : Shared} {P : Value → Prop} {v : Value} {h' : Heap} {tk : Nat} (hp : P v) (F : Fr h₀ L h' m) (N : News h₀ L h' news) :
    CutV h₀ L m news s P v ⟨h', s.gens, s.drawn, tk, s.os⟩ := ⟨hp, h', tk, rfl, F, N⟩
theorem cut_v {M : Model} {A : Around} {E : Value → Shared → Prop} {s : Shared} {h₀ : Heap} {L : Addr} {m : Str → Option Value} {news : List (Addr × Obj)} {t : Sem Value} {Q : Value → Shared → Prop} (_F : Fr h₀ L s.heap m) (_N : News h₀ L s.heap news) (P : Value → Prop)
    (hv : wpAny M A t (CutV h₀ L m news s P) E s) (hq : ∀ v h' tk, P v → Fr h₀ L h' m → News h₀ L h' news → Q v { s with heap := h', toks := tk }) : wpAny M A t Q E s :=
  wpAny_mono hv (fun v s' ⟨hp, h', tk, e, F, N⟩ => by subst e; exact hq v h' tk hp F N) fun _ _ e => e
theorem menu1_cases {P : Int → Prop} {pr : Int} (h : pr ∈ [7, 11, 19, 23, 31, 43, 47]) (H : P 7 ∧ P 11 ∧ P 19 ∧ P 23 ∧ P 31 ∧ P 43 ∧ P 47) : P pr := by
  simp only [List.mem_cons, List.not_mem_nil, or_false] at h
  obtain ⟨h1, h2, h3, h4, h5, h6, h7⟩ := H
  rcases h with h | h | h | h | h | h | h <;> rw [h] <;> assumption
theorem tabL0 {g h₀ h : Heap} {P line col : Nat} {qual : Str} {ps : Array Value} (x : TabOk g P line col qual h) (e : h.get? P = some (tabObj ps)) (hb : ∀ b o, b ∉ [58, 65, 107] → h.get? b = some o → h₀.get? b = some o) : TabL g h₀ line col qual ps [] := by
  rcases x with e1 | ⟨c, oc, vs, t, e1, e2, r1, r2, r3, n1, n2, n3⟩
  · rw [e1] at e; cases e; exact .inl rfl
  · rw [e1] at e; cases e
    exact .inr ⟨c, oc, vs, t, rfl, r1, r2, r3, n1, n2, n3, .inl (hb _ _ (by simp only [List.mem_cons, List.not_mem_nil, or_false, not_or]; exact ⟨n1, n2, n3⟩) e2)⟩
theorem ct_at {w : World} {p : Program} {loose : List Str} {mean : ExcName → Option Value} {mg mb : Str → Option Value} {g h₀ h : Heap} {p3 : Array Value} (Rt : Root w p loose mean mg mb g) (hg0 : Keep g h₀) (hk : Keep h₀ h) (x : CT h 111 107) (e : h.get? 107 = some (tabObj p3)) :
    ∀ h', Keep h₀ h' → h'.get? 107 = some (tabObj p3) → CT h' 111 107 := by
  intro h' k e'
  obtain ⟨oc, ec⟩ := x.getc
  obtain ⟨o, vs, file, tf, flags, tg, inF, text, tt, e9, r⟩ := Rt.c3
  have e10 := hg0 _ _ e9
  have e11 := hk _ _ e10
  exact x.at (fun o' e' => by rw [e11] at e'; cases e'; exact k _ _ e10) (fun o' e2 => by rw [e] at e2; cases e2; exact e')
theorem nnAt_mem {pr bs : Int} (h : pr ∈ menu1) : ∀ i, ∀ n ∈ nnAt pr bs (nn1 pr) i, 0 ≤ n ∧ n < 50 := by
  obtain ⟨h1, h2⟩ := menu_lo h
  intro i
  cases i with
  | zero =>
    intro n hn
    have := nn_mem h1 n hn
    omega
  | succ i =>
    intro n hn
    obtain ⟨m, _, rfl⟩ := List.mem_map.mp hn
    have h3 := Int.emod_nonneg (bs * m) (show pr ≠ 0 by omega)
    have h4 := Int.emod_lt_of_pos (bs * m) (show 0 < pr by omega)
    omega
theorem abs_lt50 {x : Int} (h : x.natAbs ≤ 2 ^ 44) : -2 ^ 50 < x ∧ x < 2 ^ 50 := by omega
theorem due_le {sg bs f : Int} (h1 : sg.natAbs ≤ 1) (h2 : -2 ^ 40 < bs) (h3 : bs < 2 ^ 40) (h4 : f.natAbs ≤ 5) : ∀ i, (dueAt sg ((sg - bs) * f) i).natAbs ≤ 2 ^ 44
  | 0 => Nat.le_trans (abs_mul_le (x := 2 ^ 40 + 1) (by omega) h4) (by decide)
  | i + 1 => Nat.le_trans (abs_mul_le h1 (due_le h1 h2 h3 h4 i)) (by decide)
theorem tw_le {sg bs : Int} (h1 : sg.natAbs ≤ 1) (h2 : -2 ^ 40 < bs) (h3 : bs < 2 ^ 40) : ∀ i, (twAt sg (bs - sg * sg) i).natAbs ≤ 2 ^ 44
  | 0 => by
    have := sq_abs h1
    show (bs - sg * sg).natAbs ≤ _
    omega
  | i + 1 => Nat.le_trans (abs_mul_le (sq_abs h1) (tw_le h1 h2 h3 i)) (by decide)
set_option maxRecDepth 100000 in
set_option maxHeartbeats 2000000 in
theorem law_walk : LawSays 124 := by
  intro w p loose mean mg mb g A s Q E sl vals ns Rt O hA hdp hun hsl hi hlen hbits hT1 hT2 hT3 hret
  w_on
  obtain ⟨ah, dp, fr, gd, un⟩ := A
  dsimp only at hA hdp hun
  subst hA
  refine wpAny_call ?_
  have hLo := O.lo Rt
  obtain ⟨h₀, hk0, hs0, hh0, hb0, X, T, hg0⟩ := base_of Rt O [58, 65, 107] (by
    intro b hb
    simp only [List.mem_cons, List.not_mem_nil, or_false] at hb
    rcases hb with h | h | h <;> rw [h]
    · exact Rt.n1
    · exact Rt.n2
    · exact Rt.n3)
  obtain ⟨p1, g1⟩ := hT1.get
  obtain ⟨p2, g2⟩ := hT2.get
  obtain ⟨p3, g3⟩ := hT3.get
  have hIL : h₀.IsList sl vals.toArray := by
    obtain ⟨o, e, hc, r⟩ := hsl
    refine ⟨o, hb0 _ _ ?_ e, hc, r⟩
    simp only [List.mem_cons, List.not_mem_nil, or_false]
    rintro (h | h | h) <;> rw [h] at e
    · rw [g1] at e; cases e; cases hc
    · rw [g2] at e; cases e; cases hc
    · rw [g3] at e; cases e; cases hc
  revert X
  k_fill
  intro X
  have XS := O.X Rt
  k_dflt (refine' enterCK (binds := [("script", .ref sl)]) (news := [(58, tabObj p1), (65, tabObj p2), (107, tabObj p3)]) XS (O.T Rt) hk0 hs0 ?k3 ?k6 ?k7 ?k8 ?k9 ?kB ?kC ?_ ?c2 ?c3 ?c4; (case k6 => k_is); (case k7 => k_is); (case k8 => (dsimp only; omega)); (case k9 => exact BindsTo.of_eq rfl); (case kB => exact rfl); (case kC => decide); (case c2 => exact rfl); (case c3 => exact rfl); (case c4 => exact rfl))
  case k3 => 
    intro q hq
    simp only [List.mem_cons, List.not_mem_nil, or_false] at hq
    rcases hq with h | h | h <;> rw [h]
    · exact ⟨g1, hh0 58 (by simp)⟩
    · exact ⟨g2, hh0 65 (by simp)⟩
    · exact ⟨g3, hh0 107 (by simp)⟩
  intro L h₁ tk cells hL F N Y hk1
  (try k_fold)
  k_cells Y
  simp only [List.cons_append, List.nil_append] at N
  k_steps
  rename News _ _ _ _ => N2
  rename Fr _ _ _ _ => F2
  dsimp only at N2 F2 ⊢
  refine sum_slice (B := 2 ^ 20) rfl ⟨_, (N2 _ List.mem_cons_self).1, rfl, _, rfl⟩ hi hlen hbits ?_
  intro S1 h3 tk3 t3 hk3 hS1
  clear hS1
  have F3 := (show But [] _ _ from fun b o _ e => hk3 b o e).fr F2 (by simp) (by simp)
  have N3 := (show But [] _ _ from fun b o _ e => hk3 b o e).news (news_tail N2) (by simp)
  dsimp only
  clear F2 N2
  k_steps
  rename News _ _ _ _ => N4
  rename Fr _ _ _ _ => F4
  unfold Stop
  have hm0 : 0 ≤ S1.fmod 7 := Int.fmod_nonneg_of_pos _ (by decide)
  have hm1 : S1.fmod 7 < 7 := Int.fmod_lt_of_pos _ (by decide)
  refine item_anyK (ns := menu1) (isL_of (N4 _ List.mem_cons_self).1) ?_ hm0 hm1 (by omega) ?_
  · exact .cons _ _ (.cons _ _ (.cons _ _ (.cons _ _ (.cons _ _ (.cons _ _ (.cons _ _ .nil))))))
  intro tp
  have hpr : menu1.getD (S1.fmod 7).toNat 0 ∈ menu1 := by
    rw [getD_lt (show (S1.fmod 7).toNat < menu1.length by show _ < 7; omega)]
    exact List.getElem_mem _
  revert hpr
  generalize menu1.getD (S1.fmod 7).toNat 0 = pr
  intro hpr
  have hpr1 : 7 ≤ pr := menu1_cases (P := fun pr => 7 ≤ pr) hpr (by decide)
  have hpr2 : pr ≤ 47 := menu1_cases (P := fun pr => pr ≤ 47) hpr (by decide)
  k_steps
  rename News _ _ _ _ => N5
  rename Fr _ _ _ _ => F5
  dsimp only at N5 F5 ⊢
  refine sum_slice (B := 2 ^ 20) rfl ⟨_, (N5 _ List.mem_cons_self).1, rfl, _, rfl⟩ hi hlen hbits ?_
  intro S2 h6 tk6 t6 hk6 hS2
  clear hS2
  have F6 := (show But [] _ _ from fun b o _ e => hk6 b o e).fr F5 (by simp) (by simp)
  have N6 := (show But [] _ _ from fun b o _ e => hk6 b o e).news (news_tail (news_tail N5)) (by simp)
  dsimp only
  clear F5 N5
  k_steps
  rename News _ _ _ _ => N7
  rename Fr _ _ _ _ => F7
  unfold Stop
  dsimp only at F7 N7 ⊢
  refine cut_v F7 N7 (fun v => ∃ b t, v = .int b t ∧ -2 ^ 40 < b ∧ b < 2 ^ 40) ?cutA ?cutB
  case cutA => 
    refine IfExp_ ?_
    k_steps
    all_goals (dsimp only; refine CutV.intro ⟨_, _, rfl, ?_, ?_⟩ F7 N7)
    · assumption
    · assumption
    · exact Int.lt_of_lt_of_le (by decide) (Int.fmod_nonneg_of_pos _ (by decide))
    · exact Int.fmod_lt_of_pos _ (by decide)
    · exact Int.lt_of_lt_of_le (by decide) (Int.fmod_nonneg_of_pos _ (by decide))
    · exact Int.fmod_lt_of_pos _ (by decide)
  case cutB => 
    clear F7 N7
    rintro v h8 tk8 ⟨bs, tb, rfl, hb1, hb2⟩ F8 N8
    k_steps
    rename News _ _ _ _ => N9
    rename Fr _ _ _ _ => F9
    dsimp only at F9 N9 ⊢
    rename IntsAre ys _ => hI8
    refine cut_v F9 N9 (fun v => ∃ t, v = .int (sgn1 pr bs) t) ?cutA ?cutB
    case cutA =>
      refine IfExp_ ?_
      k_steps
      all_goals try unfold Stop
      · rename bs.fmod pr = 0 => hz
        dsimp only
        exact CutV.intro ⟨_, by rw [sgn1, if_pos hz]⟩ F9 N9
      · rename bs.fmod pr ≠ 0 => hz
        refine IfExp_ ?_
        k_steps
        · rename (List.any _ _) = true => hy
          dsimp only
          exact CutV.intro ⟨_, by rw [sgn1, if_neg hz, chi1, sq1, if_pos hy]⟩ F9 N9
        · rename (List.any _ _) = false => hy
          dsimp only
          exact CutV.intro ⟨_, by rw [sgn1, if_neg hz, chi1, sq1, if_neg (by rw [hy]; exact Bool.false_ne_true)]⟩ F9 N9
    case cutB =>
      clear F9 N9
      rintro v hq tk10 ⟨ts, rfl⟩ F10 N10
      k_steps
      unfold Stop
      rename News _ _ _ _ => N11
      rename Fr _ _ _ _ => F11
      rename Obj.data _ = Data.cell (some (Value.int pr tp)) => dp1
      rename Obj.data _ = Data.cell (some (Value.int bs tb)) => db1
      rename Obj.data _ = Data.cell (some (Value.ref _)) => dq1
      dsimp only at F11 N11 ⊢
      refine LCg.CompSrc.range (n := (pr - 1).toNat) rfl F11 N11 (by assumption) ?r1 ?r2 ?r3 ?_
      case r1 => exact menu1_cases (P := fun pr => Builtin.Range.small 1 pr 1 = true) hpr (by decide)
      case r2 => exact menu1_cases (P := fun pr => Builtin.Range.rangeSize 1 pr 1 = (((pr - 1).toNat : Nat) : Int)) hpr (by decide)
      case r3 => exact Nat.le_trans (menu1_cases (P := fun pr => (pr - 1).toNat ≤ 100) hpr (by decide)) (by decide)
      intro g9
      refine compRest_ind (fun i ys9 news => news = [(_, LCg.lst ys), (L + 1 + 1 + 1, _), (L + 1 + 1, _), (L + 1, _), (58, tabObj p1), (65, tabObj p2), (107, tabObj p3)] ∧ IntsAre ys9 (runTo (chi1 pr) 1 i)) _ ?step ?fin _ 0 [] _ (Nat.zero_add _) ⟨rfl, .nil⟩
      case step =>
        clear F11 N11
        rintro i ys9 news v I oI C oC D m₂ h tk E' hi9 ⟨rfl, hys⟩ ⟨t9, rfl⟩ hC hx F N off ne
        simp only [LCg.Off3, and_true] at off
        have hi100 : i < 100 := Nat.lt_of_lt_of_le hi9 (menu1_cases (P := fun pr => (pr - 1).toNat ≤ 100) hpr (by decide))
        k_steps
        · rename (List.any _ _) = true => hy
          have e9 : chi1 pr (1 + (i : Int)) = 1 := by rw [chi1, sq1, if_pos hy]
          rw [runTo_succ, e9]
          exact ints_snoc hys _ _
        · rename (List.any _ _) = false => hy
          have e9 : chi1 pr (1 + (i : Int)) = -1 := by rw [chi1, sq1, if_neg (by rw [hy]; exact Bool.false_ne_true)]
          rw [runTo_succ, e9]
          exact ints_snoc hys _ _
      case fin =>
        clear F11 N11
        rintro ys9 news ⟨rfl, hys⟩
        k_steps
        rename Fr _ _ _ _ => F12
        rename News _ _ _ _ => N12
        have hsq := sgn_sq pr bs
        have hsg1 : -1 ≤ sgn1 pr bs := by omega
        have hsg2 : sgn1 pr bs ≤ 1 := by omega
        have hf1 : 1 ≤ forms1 pr := menu1_cases (P := fun pr => 1 ≤ forms1 pr) hpr (by decide)
        have hf2 : forms1 pr ≤ 5 := menu1_cases (P := fun pr => forms1 pr ≤ 5) hpr (by decide)
        refine forms_spec hpr Rt ⟨hg0.trans F12.keep⟩ rfl ?f1 ?f2 ?_
        case f1 => show dp + 1 + 20 < _; omega
        case f2 => show un + _ + 60 < _; omega
        intro h13 tk13 t13 hk13
        have F13 := (show But [] _ _ from fun b o _ e => hk13 b o e).fr F12 (by simp) (by simp)
        have N13 := (show But [] _ _ from fun b o _ e => hk13 b o e).news N12 (by simp)
        clear F12 N12
        dsimp only at F13 N13 ⊢
        k_steps
        unfold Stop
        rename News _ _ _ _ => N14
        rename Fr _ _ _ _ => F14
        dsimp only at F14 N14
        rename IntsAre _ (rangeKs 1 (pr - 1).toNat) => hnum
        have hfa : (forms1 pr).natAbs ≤ 5 := by omega
        have hpl := menu_lo hpr
        rename IntsAre ys9 _ => hys9
        refine' loop_for (nn := nn1 pr) (sn := sn1 pr) (tl := []) ?hbody ?hscope Rt hg0 X T (hh0 58 (by simp)) (hh0 65 (by simp)) (hh0 107 (by simp)) (Nat.lt_of_lt_of_le hLo hL) ?uA ?u1 ?u2 ?hit ?hs9 ?gF ?gM ?gN dp1 db1 hnum hys9 hpr
          (tabL0 hT1 g1 hb0) (tabL0 hT2 g2 hb0) (ct_at Rt hg0 hk0 hT3 g3) (fun q hq => nomatch hq) hb1 hb2 (nnAt_mem hpr) ?u4 ?u5 (sn_abs pr) ?u6 ?u7 hsg1 hsg2 (fun i _ => abs_lt50 (due_le hsq hb1 hb2 hfa i)) (fun i _ => abs_lt50 (tw_le hsq hb1 hb2 i)) ?_
        case uA => exact rfl
        case hs9 => exact fun _ => rfl
        case hit =>
          k_steps
          rename News _ _ _ _ => N15
          rename Fr _ _ _ _ => F15
          exact IterP.intro F15 N15
        case gF => exact fun h F => fr_MT F rfl rfl rfl rfl rfl rfl (fun y _ => rfl)
        case gM => exact List.mem_cons_self
        case gN =>
          intro q hq
          simp only [List.mem_cons, List.not_mem_nil, or_false] at hq ⊢
          rcases hq with h | h | h | h | h | h <;> simp [h]
        case hbody => kernel_rfl
        case hscope => kernel_rfl
        case u1 => show dp + 1 + 100 < _; omega
        case u2 => show un + _ + 300 < _; omega
        case u4 => rw [nn_length]; omega
        case u5 => rw [nn_length]; omega
        case u6 => rw [sn_length, nn_length]
        case u7 =>
          intro i hi
          match i, hi with
          | 0, _ => exact turn1 hpr hb1 hb2
          | 1, _ => exact turn2 hpr hb1 hb2
        try exact 0
        intro I s₃ J
        obtain ⟨num, td, tt, vpl, vpa, vfi, vto, vme, q1, q2, q3, tl, vn, cn, F16, N16, a1, a2, a3, a4, a5, a6, a7, a8, a9, a10, a11⟩ := J
        obtain ⟨h16, gs16, dr16, tk16, os16⟩ := s₃
        dsimp only at a10 a11 F16 N16 a9
        subst a10
        subst a11
        clear F14 N14
        k_steps
        show Q _ _
        have NT : News h₀ L h16 tl := fun q hq => N16 q (List.mem_append_right [(num, W.listOf vn.toArray cn), (_, LCg.lst ys9), (L + 1 + 1, _), (L + 1, _), (58, tabObj q1), (65, tabObj q2), (107, tabObj q3)] hq)
        exact hret _ _ _ (fun b o hb e => F16.keep _ _ (hb0 b o hb e)) a9 (a2.ok F16.keep NT (N16 (58, tabObj q1) (by k_mem)).1) (a3.ok F16.keep NT (N16 (65, tabObj q2) (by k_mem)).1) (a4 _ F16.keep (N16 (107, tabObj q3) (by k_mem)).1)
theorem holds01 : PySem.Challenge.rw_rs0116_01.Holds := join law_walk
end Mine
end
theorem PySem.Challenge.cw_rs0116_01_holds : PySem.Challenge.rw_rs0116_01.Holds :=
  Mine.holds01
