import PyProof.Rows.All
import Wide.All
import OpenK.AllK
import Wide.FinOn
import PySem.Sre
import Flt.RightMore
import Flt.Calls
import PySem.Challenge.RW_wu0002_01
set_option Elab.async false
local macro_rules | `(tactic| walk_at $s:str) => `(tactic| k_extra $s)
section
open PySem PySem.Float64
namespace Mine

/-! ## rounding, said over Rat -/
def IsF (x : UInt64) : Prop := ∃ a m e, decode x = .fin a m e

def KN : Nat := 2 ^ 1074
theorem KN_pos : 0 < KN := Nat.two_pow_pos _
/-- the value of a finite double -/
def rv (x : UInt64) : Rat := (val x : Rat) / (KN : Rat)

theorem repr_V : ∀ (k j : Nat), j ≤ 2 ^ 53 → ∃ t, V t = j * 2 ^ k
  | 0, j, h => ⟨0 * 2 ^ 52 + j, V_at h (.inr rfl)⟩
  | k + 1, j, h => by
    by_cases h2 : 2 ^ 52 ≤ j
    · exact ⟨_, V_at h (.inl h2)⟩
    · obtain ⟨t, e⟩ := repr_V k (2 * j) (by omega)
      exact ⟨t, by rw [e, Nat.pow_succ]; ac_rfl⟩

theorem V_top (k : Nat) (hk : k ≤ 1074) : 2 ^ 53 * 2 ^ k < (2 ^ 54 - 1) * 2 ^ 2045 := by
  have h1 : (2:Nat) ^ k ≤ 2 ^ 1074 := Nat.pow_le_pow_right (by decide) hk
  have h2 : (2:Nat) ^ 2045 = 2 ^ 1074 * 2 ^ 971 := by rw [← Nat.pow_add]
  have h3 : (1:Nat) ≤ 2 ^ 971 := Nat.two_pow_pos _
  rw [h2]
  have h4 : (2:Nat)^1074 * 1 ≤ 2 ^ 1074 * 2 ^ 971 := Nat.mul_le_mul_left _ h3
  have h5 : (0:Nat) < 2 ^ 1074 := Nat.two_pow_pos _
  generalize (2:Nat) ^ 1074 * 2 ^ 971 = A at *
  generalize (2:Nat) ^ 1074 = B at *
  generalize (2:Nat) ^ k = C at *
  omega

/-- what `Right` gives, over naturals -/
theorem right_nat {r : UInt64} {neg : Bool} {W D : Nat} (R : Right r neg W D) (hD : 0 < D) (k : Nat) (hk : k ≤ 1074) (hW : W ≤ D * (2 ^ 53 * 2 ^ k)) :
    ∃ v, IsF r ∧ val r = sgn neg v ∧ Float64.dist W (D * v) ≤ D * 2 ^ k ∧ ∀ j, j ≤ 2 ^ 53 → W = D * (j * 2 ^ k) → v = j * 2 ^ k := by
  obtain ⟨t, hr, ht, hinf, hnear⟩ := R
  have hlt : t < infMag := by
    rcases Nat.lt_or_eq_of_le ht with h | h
    · exact h
    · exfalso
      have h1 := hinf.mp h
      have h2 : D * (2 ^ 53 * 2 ^ k) < D * ((2 ^ 54 - 1) * 2 ^ 2045) := Nat.mul_lt_mul_of_pos_left (V_top k hk) hD
      have h3 : 2 * (2 ^ 53 * 2 ^ k) < (2 ^ 54 - 1) * 2 ^ 2045 := by
        have h1 : (2:Nat) ^ k ≤ 2 ^ 1074 := Nat.pow_le_pow_right (by decide) hk
        have h2 : (2:Nat) ^ 2045 = 2 ^ 1074 * 2 ^ 971 := by rw [← Nat.pow_add]
        have h3 : (2:Nat) ≤ 2 ^ 971 := Nat.pow_le_pow_right (n := 2) (i := 1) (by decide) (by decide)
        rw [h2]
        have h4 : (2:Nat)^1074 * 2 ≤ 2 ^ 1074 * 2 ^ 971 := Nat.mul_le_mul_left _ h3
        have h5 : (0:Nat) < 2 ^ 1074 := Nat.two_pow_pos _
        generalize (2:Nat) ^ 1074 * 2 ^ 971 = A at *
        generalize (2:Nat) ^ 1074 = B at *
        generalize (2:Nat) ^ k = C at *
        omega
      have h4 : D * (2 * (2 ^ 53 * 2 ^ k)) < D * ((2 ^ 54 - 1) * 2 ^ 2045) := Nat.mul_lt_mul_of_pos_left h3 hD
      have h5 : D * (2 * (2 ^ 53 * 2 ^ k)) = 2 * (D * (2 ^ 53 * 2 ^ k)) := by ac_rfl
      generalize D * ((2 ^ 54 - 1) * 2 ^ 2045) = P at *
      omega
  refine ⟨V t, ?_, ?_, ?_, ?_⟩
  · obtain ⟨m, e, hd, _⟩ := decode_pack neg hlt
    exact ⟨neg, m, e, by rw [hr]; exact hd⟩
  · rw [hr]; exact val_pack neg hlt
  · have hu : 0 < 2 ^ k := Nat.two_pow_pos k
    have hDu : 0 < D * 2 ^ k := Nat.mul_pos hD hu
    have hj : W / (D * 2 ^ k) ≤ 2 ^ 53 := by
      rw [show D * (2 ^ 53 * 2 ^ k) = 2 ^ 53 * (D * 2 ^ k) by ac_rfl] at hW
      exact Nat.div_le_of_le_mul (by rw [Nat.mul_comm]; exact hW)
    obtain ⟨t', ht'⟩ := repr_V k _ hj
    refine Nat.le_trans (hnear hlt t').1 ?_
    rw [ht']
    have e : D * (W / (D * 2 ^ k) * 2 ^ k) = D * 2 ^ k * (W / (D * 2 ^ k)) := by ac_rfl
    rw [e]
    have h1 := Nat.div_add_mod W (D * 2 ^ k)
    have h2 := Nat.mod_lt W hDu
    unfold Float64.dist
    omega
  · intro j hj hWj
    obtain ⟨t', ht'⟩ := repr_V k j hj
    have h1 := (hnear hlt t').1
    rw [ht', ← hWj] at h1
    have h2 : Float64.dist W W = 0 := by unfold Float64.dist; omega
    rw [h2] at h1
    have h3 : W = D * V t := by unfold Float64.dist at h1; omega
    rw [hWj] at h3
    exact (Nat.eq_of_mul_eq_mul_left hD h3).symm

/-- r is q, rounded -/
def Rd (r : UInt64) (q : Rat) : Prop :=
  ∀ c : Nat, c ≤ 1074 → -(2 ^ 53 : Rat) ≤ q * 2 ^ c → q * 2 ^ c ≤ 2 ^ 53 →
    IsF r ∧ -1 ≤ (rv r - q) * 2 ^ c ∧ (rv r - q) * 2 ^ c ≤ 1 ∧ ∀ j : Int, q * 2 ^ c = j → rv r = q

theorem KQ_pos : (0 : Rat) < (KN : Rat) := Rat.natCast_pos.mpr KN_pos
theorem pow2_pos (c : Nat) : (0 : Rat) < 2 ^ c := Rat.pow_pos (by decide)
theorem pow2_cast (c : Nat) : ((2 ^ c : Nat) : Rat) = 2 ^ c := by rw [Rat.natCast_pow]; rfl
theorem rv_mul (x : UInt64) : rv x * (KN : Rat) = (val x : Rat) := Rat.div_mul_cancel (Ne.symm (Rat.ne_of_lt KQ_pos))

theorem sgn_cast (a : Bool) (m : Nat) : ((sgn a m : Int) : Rat) = if a then -(m : Rat) else (m : Rat) := by
  unfold sgn
  cases a
  · simp only [Bool.false_eq_true, if_false]; exact Rat.intCast_natCast m
  · simp only [if_true]; rw [Rat.intCast_neg, Rat.intCast_natCast]

theorem rd_of_right {r : UInt64} {neg : Bool} {W D : Nat} (R : Right r neg W D) (hD : 0 < D) {q : Rat} (hq : q * ((D : Rat) * (KN : Rat)) = ((sgn neg W : Int) : Rat)) : Rd r q := by
  intro c hc hlo hhi
  have hDq : (0 : Rat) < (D : Rat) := Rat.natCast_pos.mpr hD
  have hKq := KQ_pos
  have hP : (0 : Rat) < (D : Rat) * (KN : Rat) := Rat.mul_pos hDq hKq
  have hKc : (KN : Rat) = 2 ^ (1074 - c) * 2 ^ c := by
    have e : KN = 2 ^ (1074 - c) * 2 ^ c := by rw [← Nat.pow_add, Nat.sub_add_cancel hc]; rfl
    rw [← pow2_cast, ← pow2_cast, ← Rat.natCast_mul, ← e]
  have h2c := pow2_pos c
  have h2k := pow2_pos (1074 - c)
  have hWle : W ≤ D * (2 ^ 53 * 2 ^ (1074 - c)) := by
    apply Rat.natCast_le_natCast.mp
    rw [Rat.natCast_mul, Rat.natCast_mul, pow2_cast, pow2_cast]
    refine Rat.le_of_mul_le_mul_right (c := 2 ^ c) ?_ h2c
    have e1 : (D : Rat) * (2 ^ 53 * 2 ^ (1074 - c)) * 2 ^ c = 2 ^ 53 * ((D : Rat) * (KN : Rat)) := by rw [hKc]; grind
    rw [e1]
    have a1 : q * 2 ^ c * ((D : Rat) * (KN : Rat)) ≤ 2 ^ 53 * ((D : Rat) * (KN : Rat)) := Rat.mul_le_mul_of_nonneg_right hhi (Rat.le_of_lt hP)
    have a2 : -(2 ^ 53 : Rat) * ((D : Rat) * (KN : Rat)) ≤ q * 2 ^ c * ((D : Rat) * (KN : Rat)) := Rat.mul_le_mul_of_nonneg_right hlo (Rat.le_of_lt hP)
    have e2 : q * 2 ^ c * ((D : Rat) * (KN : Rat)) = ((sgn neg W : Int) : Rat) * 2 ^ c := by rw [← hq]; grind
    rw [e2, sgn_cast] at a1 a2
    cases neg
    · simp only [Bool.false_eq_true, if_false] at a1 a2; exact a1
    · simp only [if_true] at a1 a2; grind
  obtain ⟨v, hf, hv, hd, hx⟩ := right_nat R hD (1074 - c) (by omega) hWle
  have key : (rv r - q) * 2 ^ c * ((D : Rat) * (KN : Rat)) = ((D : Rat) * ((sgn neg v : Int) : Rat) - ((sgn neg W : Int) : Rat)) * 2 ^ c := by
    have e := rv_mul r
    rw [hv] at e
    rw [← hq, ← e]
    grind
  have hdist : Float64.dist W (D * v) ≤ D * 2 ^ (1074 - c) := hd
  have b1 : W ≤ D * v + D * 2 ^ (1074 - c) := by unfold Float64.dist at hdist; omega
  have b2 : D * v ≤ W + D * 2 ^ (1074 - c) := by unfold Float64.dist at hdist; omega
  have c1 : (W : Rat) ≤ (D : Rat) * (v : Rat) + (D : Rat) * 2 ^ (1074 - c) := by
    have := Rat.natCast_le_natCast.mpr b1
    rwa [Rat.natCast_add, Rat.natCast_mul, Rat.natCast_mul, pow2_cast] at this
  have c2 : (D : Rat) * (v : Rat) ≤ (W : Rat) + (D : Rat) * 2 ^ (1074 - c) := by
    have := Rat.natCast_le_natCast.mpr b2
    rwa [Rat.natCast_add, Rat.natCast_mul, Rat.natCast_mul, pow2_cast] at this
  have hDK : (D : Rat) * (KN : Rat) = (D : Rat) * 2 ^ (1074 - c) * 2 ^ c := by rw [hKc]; grind
  have lo : -((D : Rat) * 2 ^ (1074 - c)) ≤ (D : Rat) * ((sgn neg v : Int) : Rat) - ((sgn neg W : Int) : Rat) := by
    rw [sgn_cast, sgn_cast]; cases neg <;> simp <;> grind
  have hi : (D : Rat) * ((sgn neg v : Int) : Rat) - ((sgn neg W : Int) : Rat) ≤ (D : Rat) * 2 ^ (1074 - c) := by
    rw [sgn_cast, sgn_cast]; cases neg <;> simp <;> grind
  refine ⟨hf, ?_, ?_, ?_⟩
  · refine Rat.le_of_mul_le_mul_right (c := (D : Rat) * (KN : Rat)) ?_ hP
    rw [key]
    have := Rat.mul_le_mul_of_nonneg_right lo (Rat.le_of_lt h2c)
    grind
  · refine Rat.le_of_mul_le_mul_right (c := (D : Rat) * (KN : Rat)) ?_ hP
    rw [key]
    have := Rat.mul_le_mul_of_nonneg_right hi (Rat.le_of_lt h2c)
    grind
  · intro j hj
    have hWj : (sgn neg W : Int) = (D * 2 ^ (1074 - c) : Nat) * j := by
      apply Rat.intCast_inj.mp
      rw [← hq, Rat.intCast_mul, ← hj, hDK]
      have : (((D * 2 ^ (1074 - c) : Nat) : Int) : Rat) = (D : Rat) * 2 ^ (1074 - c) := by
        rw [Rat.intCast_natCast, Rat.natCast_mul, pow2_cast]
      rw [this]; grind
    have hjW : W = D * (j.natAbs * 2 ^ (1074 - c)) := by
      have := congrArg Int.natAbs hWj
      rw [sgn_natAbs, Int.natAbs_mul, Int.natAbs_natCast] at this
      rw [this]; ac_rfl
    have hjle : j.natAbs ≤ 2 ^ 53 := by
      rw [hj] at hlo hhi
      have h1 : j ≤ (2 ^ 53 : Int) := by
        apply Rat.intCast_le_intCast.mp
        have e : (((2 : Int) ^ 53 : Int) : Rat) = 2 ^ 53 := by rw [Rat.intCast_pow]; rfl
        rw [e]; exact hhi
      have h2 : -(2 ^ 53 : Int) ≤ j := by
        apply Rat.intCast_le_intCast.mp
        have e : ((-(2 : Int) ^ 53 : Int) : Rat) = -2 ^ 53 := by rw [Rat.intCast_neg, Rat.intCast_pow]; rfl
        rw [e]; exact hlo
      omega
    have hvv := hx _ hjle hjW
    have e := rv_mul r
    rw [hv, hvv] at e
    have e2 : ((sgn neg (j.natAbs * 2 ^ (1074 - c)) : Int) : Rat) * (D : Rat) = ((sgn neg W : Int) : Rat) := by
      rw [hjW, sgn_cast, sgn_cast]
      cases neg <;> simp only [Rat.natCast_mul, if_true, Bool.false_eq_true, if_false] <;> grind
    have e3 : rv r * ((D : Rat) * (KN : Rat)) = q * ((D : Rat) * (KN : Rat)) := by rw [hq, ← e2, ← e]; grind
    have := congrArg (· / ((D : Rat) * (KN : Rat))) e3
    simp only [Rat.mul_div_cancel (Ne.symm (Rat.ne_of_lt hP))] at this
    exact this

end Mine
end
section
open PySem PySem.Float64
namespace Mine

theorem sgn_mul_sgn (a b : Bool) (m k : Nat) : sgn a m * sgn b k = sgn (a != b) (m * k) := by
  unfold sgn; cases a <;> cases b <;> simp [Int.neg_mul, Int.mul_neg]

theorem IsF.val_sgn {x : UInt64} {a : Bool} {m : Nat} {e : Int} (h : decode x = .fin a m e) : val x = sgn a (val x).natAbs := by
  rw [val_natAbs h, val_eq h]

theorem sgn_neg_natAbs (z : Int) : sgn (decide (z < 0)) z.natAbs = z := by
  unfold sgn
  by_cases h : z < 0
  · simp only [h, decide_true, if_true]; omega
  · simp only [h, decide_false, Bool.false_eq_true, if_false]; omega

theorem rv_zero (s : Bool) : IsF (zero s) ∧ rv (zero s) = 0 := by
  have h0 : (0 : Nat) < infMag := by decide
  obtain ⟨m, e, hd, _⟩ := decode_pack s h0
  refine ⟨⟨s, m, e, hd⟩, ?_⟩
  have hv : val (zero s) = 0 := by
    show val (pack s 0) = 0
    rw [val_pack s h0, V_zero]; cases s <;> rfl
  unfold rv
  rw [hv]
  exact Rat.zero_mul _

theorem rd_self {r : UInt64} (h : IsF r) : Rd r (rv r) := by
  intro c _ _ _
  refine ⟨h, ?_, ?_, fun _ _ => rfl⟩ <;> grind

theorem add_rd {x y : UInt64} (hx : IsF x) (hy : IsF y) : Rd (add x y) (rv x + rv y) := by
  obtain ⟨a, m, e, hx⟩ := hx
  obtain ⟨b, k, f, hy⟩ := hy
  have R := add_right hx hy
  have hq : (rv x + rv y) * (KN : Rat) = ((val x + val y : Int) : Rat) := by
    rw [Rat.add_mul, rv_mul, rv_mul, Rat.intCast_add]
  by_cases h0 : val x + val y = 0
  · rw [R.1 h0]
    have hz : rv x + rv y = 0 := by
      rw [h0] at hq
      have hk := KQ_pos
      have : (rv x + rv y) * (KN : Rat) = 0 := by rw [hq]; rfl
      rcases Rat.mul_eq_zero.mp this with h | h
      · exact h
      · exfalso; rw [h] at hk; exact absurd hk (by decide)
    rw [hz, ← (rv_zero (a && b)).2]
    exact rd_self (rv_zero _).1
  · refine rd_of_right (R.2 h0) (by decide) ?_
    rw [sgn_neg_natAbs, ← hq]
    have : ((1 : Nat) : Rat) = 1 := rfl
    rw [this, Rat.one_mul]

theorem neg_fin {y : UInt64} (hy : IsF y) : IsF (neg y) ∧ rv (neg y) = -rv y := by
  obtain ⟨b, k, f, hy⟩ := hy
  refine ⟨⟨_, _, _, neg_decode hy⟩, ?_⟩
  unfold rv
  rw [neg_val hy, Rat.intCast_neg]
  show -(val y : Rat) * _ = -((val y : Rat) * _)
  rw [Rat.neg_mul]

theorem sub_rd {x y : UInt64} (hx : IsF x) (hy : IsF y) : Rd (sub x y) (rv x - rv y) := by
  have h := add_rd hx (neg_fin hy).1
  rw [(neg_fin hy).2, ← Rat.sub_eq_add_neg] at h
  with_unfolding_all exact h

theorem mul_rd {x y : UInt64} (hx : IsF x) (hy : IsF y) : Rd (mul x y) (rv x * rv y) := by
  obtain ⟨a, m, e, hx⟩ := hx
  obtain ⟨b, k, f, hy⟩ := hy
  have R := mul_right hx hy
  refine rd_of_right R (Nat.two_pow_pos _) ?_
  rw [← sgn_mul_sgn, ← IsF.val_sgn hx, ← IsF.val_sgn hy, Rat.intCast_mul, ← rv_mul, ← rv_mul]
  show _ * ((KN : Rat) * (KN : Rat)) = _
  grind

theorem val_ne {x : UInt64} {a : Bool} {m : Nat} {e : Int} (h : decode x = .fin a m e) : m ≠ 0 ↔ rv x ≠ 0 := by
  have hk := KQ_pos
  have e1 := rv_mul x
  have hv := val_natAbs h
  constructor
  · intro hm h0
    rw [h0, Rat.zero_mul] at e1
    have : val x = 0 := Rat.intCast_inj.mp e1.symm
    rw [this] at hv
    have := Nat.two_pow_pos (e + 1074).toNat
    simp only [Int.natAbs_zero] at hv
    rcases Nat.mul_eq_zero.mp hv.symm with h | h
    · exact hm h
    · omega
  · intro h0 hm
    rw [hm, Nat.zero_mul] at hv
    have : val x = 0 := by omega
    rw [this] at e1
    have e2 : rv x * (KN : Rat) = 0 := e1
    rcases Rat.mul_eq_zero.mp e2 with h | h
    · exact h0 h
    · rw [h] at hk; exact absurd hk (by decide)

theorem div_rd {x y : UInt64} (hx : IsF x) (hy : IsF y) (h0 : rv y ≠ 0) : Rd (div x y) (rv x / rv y) := by
  obtain ⟨a, m, e, hx⟩ := hx
  obtain ⟨b, k, f, hy⟩ := hy
  have hk := (val_ne hy).mpr h0
  have R := div_right hx hy hk
  have hpos : 0 < (val y).natAbs := by
    rw [val_natAbs hy]
    exact Nat.mul_pos (by omega) (Nat.two_pow_pos _)
  refine rd_of_right R hpos ?_
  have hKK := KQ_pos
  -- q * (|val y| * K) = sgn (a != b) (|val x| * K)
  have e1 : ((sgn (a != b) ((val x).natAbs * 2 ^ 1074) : Int) : Rat) * ((sgn b (val y).natAbs : Int) : Rat) = ((sgn a (val x).natAbs : Int) : Rat) * (KN : Rat) * ((val y).natAbs : Rat) := by
    have hc : (((val x).natAbs * 2 ^ 1074 : Nat) : Rat) = ((val x).natAbs : Rat) * (KN : Rat) := Rat.natCast_mul _ _
    rw [sgn_cast, sgn_cast, sgn_cast, hc]
    cases a <;> cases b <;> simp only [bne_self_eq_false, Bool.not_false, Bool.bne_true, Bool.bne_false, Bool.false_eq_true, if_true, if_false] <;> grind
  have ey : ((sgn b (val y).natAbs : Int) : Rat) = rv y * (KN : Rat) := by rw [← IsF.val_sgn hy, rv_mul]
  have ex : ((sgn a (val x).natAbs : Int) : Rat) = rv x * (KN : Rat) := by rw [← IsF.val_sgn hx, rv_mul]
  rw [ey, ex] at e1
  have hK0 : (KN : Rat) ≠ 0 := Ne.symm (Rat.ne_of_lt hKK)
  have hd : rv x / rv y * rv y = rv x := Rat.div_mul_cancel h0
  generalize ((sgn (a != b) ((val x).natAbs * 2 ^ 1074) : Int) : Rat) = S at *
  generalize ((val y).natAbs : Rat) = Y at *
  generalize rv x / rv y = Z at *
  have e2 : (Z * (Y * (KN : Rat))) * (rv y * (KN : Rat)) = S * (rv y * (KN : Rat)) := by rw [e1, ← hd]; grind
  have hp : rv y * (KN : Rat) ≠ 0 := fun h => (Rat.mul_eq_zero.mp h).elim h0 hK0
  have := congrArg (· / (rv y * (KN : Rat))) e2
  simp only [Rat.mul_div_cancel hp] at this
  exact this

theorem ofFrac_rd {s : Bool} {n d : Nat} (hd : 0 < d) : Rd (ofFrac s n d) ((if s then -(n : Rat) else n) / d) := by
  have R : Right (ofFrac s n d) s (n * 2 ^ 1074) d := ofFrac_right hd rfl hd
  refine rd_of_right R hd ?_
  have hdq : (d : Rat) ≠ 0 := Ne.symm (Rat.ne_of_lt (Rat.natCast_pos.mpr hd))
  have hc : ((n * 2 ^ 1074 : Nat) : Rat) = (n : Rat) * (KN : Rat) := Rat.natCast_mul _ _
  rw [sgn_cast, hc, ← Rat.mul_assoc, Rat.div_mul_cancel hdq]
  cases s <;> simp only [Bool.false_eq_true, if_true, if_false] <;> grind

theorem cmp_rv {x y : UInt64} (hx : IsF x) (hy : IsF y) : (rv x < rv y → cmp x y = some .lt) ∧ (rv x = rv y → cmp x y = some .eq) ∧ (rv y < rv x → cmp x y = some .gt) := by
  obtain ⟨a, m, e, hx⟩ := hx
  obtain ⟨b, k, f, hy⟩ := hy
  rw [cmp_right hx hy]
  have hk := KQ_pos
  have ex := rv_mul x
  have ey := rv_mul y
  refine ⟨fun h => ?_, fun h => ?_, fun h => ?_⟩
  · have : (val x : Rat) < (val y : Rat) := by rw [← ex, ← ey]; exact Rat.mul_lt_mul_of_pos_right h hk
    rw [Int.compare_eq_lt.mpr (Rat.intCast_lt_intCast.mp this)]
  · have : (val x : Rat) = (val y : Rat) := by rw [← ex, ← ey, h]
    rw [Rat.intCast_inj.mp this]; simp
  · have : (val y : Rat) < (val x : Rat) := by rw [← ex, ← ey]; exact Rat.mul_lt_mul_of_pos_right h hk
    rw [Int.compare_eq_gt.mpr (Rat.intCast_lt_intCast.mp this)]

end Mine
end
section
open PySem PySem.Float64
namespace Mine

/-! ## exact values, constants, comparisons -/
theorem decode_lt {x : UInt64} {a : Bool} {m : Nat} {e : Int} (h : decode x = .fin a m e) : m < 2 ^ 53 := by
  unfold decode at h
  simp only at h
  split at h
  · split at h <;> cases h
  · split at h
    · cases h; omega
    · cases h; omega

/-- the value of a double with an exponent below nought -/
theorem rv_neg_exp {x : UInt64} {a : Bool} {m : Nat} {e : Int} (h : decode x = .fin a m e) {c : Nat} (hc : e = -(c : Int)) : rv x * 2 ^ c = ((sgn a m : Int) : Rat) := by
  have hge := decode_ge h
  have hle : c ≤ 1074 := by omega
  have e1 : KN = 2 ^ (e + 1074).toNat * 2 ^ c := by
    have : (e + 1074).toNat + c = 1074 := by omega
    rw [← Nat.pow_add, this]; rfl
  have e2 := rv_mul x
  rw [val_eq h, sgn_mul, Rat.intCast_mul, Rat.intCast_natCast, e1, Rat.natCast_mul, pow2_cast, pow2_cast] at e2
  have hp := pow2_pos (e + 1074).toNat
  have hp0 : (2 : Rat) ^ (e + 1074).toNat ≠ 0 := Ne.symm (Rat.ne_of_lt hp)
  have e3 : (rv x * 2 ^ c) * 2 ^ (e + 1074).toNat = ((sgn a m : Int) : Rat) * 2 ^ (e + 1074).toNat := by rw [← e2]; grind
  have := congrArg (· / ((2 : Rat) ^ (e + 1074).toNat)) e3
  simp only [Rat.mul_div_cancel hp0] at this
  exact this

theorem rv_pos_exp {x : UInt64} {a : Bool} {m : Nat} {e : Int} (h : decode x = .fin a m e) {c : Nat} (hc : e = (c : Int)) : rv x = ((sgn a m : Int) : Rat) * 2 ^ c := by
  have e1 : (2 : Nat) ^ (e + 1074).toNat = KN * 2 ^ c := by
    have : (e + 1074).toNat = 1074 + c := by omega
    rw [this, Nat.pow_add]; rfl
  have e2 := rv_mul x
  rw [val_eq h, e1, sgn_mul, Rat.intCast_mul, Rat.intCast_natCast, Rat.natCast_mul, pow2_cast] at e2
  have hp0 : (KN : Rat) ≠ 0 := Ne.symm (Rat.ne_of_lt KQ_pos)
  have e3 : rv x * (KN : Rat) = ((sgn a m : Int) : Rat) * 2 ^ c * (KN : Rat) := by rw [e2]; grind
  have := congrArg (· / (KN : Rat)) e3
  simp only [Rat.mul_div_cancel hp0] at this
  exact this

theorem sgn_abs_le (a : Bool) (m : Nat) : -(m : Int) ≤ sgn a m ∧ sgn a m ≤ m := by unfold sgn; cases a <;> simp <;> omega

/-- a double is itself, rounded -/
theorem rd_same {x r : UInt64} (hx : IsF x) (R : Rd r (rv x)) (hlo : -(2 ^ 53 : Rat) ≤ rv x) (hhi : rv x ≤ 2 ^ 53) : IsF r ∧ rv r = rv x := by
  obtain ⟨a, m, e, h⟩ := hx
  have hge := decode_ge h
  have hm := decode_lt h
  by_cases h0 : e < 0
  · have e1 := rv_neg_exp h (c := (-e).toNat) (by omega)
    have hb := sgn_abs_le a m
    have h1 : ((sgn a m : Int) : Rat) ≤ 2 ^ 53 := by
      have := Rat.intCast_le_intCast.mpr (show sgn a m ≤ (2 ^ 53 : Int) by omega)
      rwa [Rat.intCast_pow] at this
    have h2 : -(2 ^ 53 : Rat) ≤ ((sgn a m : Int) : Rat) := by
      have := Rat.intCast_le_intCast.mpr (show -(2 ^ 53 : Int) ≤ sgn a m by omega)
      rwa [Rat.intCast_neg, Rat.intCast_pow] at this
    obtain ⟨f, _, _, X⟩ := R (-e).toNat (by omega) (by rw [e1]; exact h2) (by rw [e1]; exact h1)
    exact ⟨f, X _ e1⟩
  · have e1 := rv_pos_exp h (c := e.toNat) (by omega)
    have e2 : rv x * 2 ^ 0 = ((sgn a m * 2 ^ e.toNat : Int) : Rat) := by
      rw [Rat.intCast_mul, Rat.intCast_pow]; rw [e1]; show _ * (1 : Rat) = _; grind
    have e3 : rv x * 2 ^ 0 = rv x := by show rv x * (1 : Rat) = _; grind
    obtain ⟨f, _, _, X⟩ := R 0 (by omega) (by rw [e3]; exact hlo) (by rw [e3]; exact hhi)
    exact ⟨f, X _ e2⟩

theorem const_rv {x : UInt64} {a : Bool} {m : Nat} {e : Int} (h : decode x = .fin a m e) (c : Nat) (hc : e = -(c : Int)) (q : Rat) (hq : q * 2 ^ c = ((sgn a m : Int) : Rat)) : IsF x ∧ rv x = q := by
  refine ⟨⟨a, m, e, h⟩, ?_⟩
  have e1 := rv_neg_exp h hc
  have hp0 : (2 : Rat) ^ c ≠ 0 := Ne.symm (Rat.ne_of_lt (pow2_pos c))
  have := congrArg (· / ((2 : Rat) ^ c)) (e1.trans hq.symm)
  simp only [Rat.mul_div_cancel hp0] at this
  exact this

abbrev c0 : UInt64 := 0
abbrev cH : UInt64 := 4602678819172646912
abbrev c1 : UInt64 := 4607182418800017408
abbrev c2 : UInt64 := 4611686018427387904
abbrev c4 : UInt64 := 4616189618054758400
abbrev c6 : UInt64 := 4618441417868443648
theorem c0_rv : IsF c0 ∧ rv c0 = 0 := const_rv (a := false) (m := 0) (e := -1074) (by with_unfolding_all rfl) 1074 rfl 0 (Rat.zero_mul _)
theorem cH_rv : IsF cH ∧ rv cH = 1 / 2 := const_rv (a := false) (m := 2 ^ 52) (e := -53) (by with_unfolding_all rfl) 53 rfl (1/2) (by decide +kernel)
theorem c1_rv : IsF c1 ∧ rv c1 = 1 := const_rv (a := false) (m := 2 ^ 52) (e := -52) (by with_unfolding_all rfl) 52 rfl 1 (by decide +kernel)
theorem c2_rv : IsF c2 ∧ rv c2 = 2 := const_rv (a := false) (m := 2 ^ 52) (e := -51) (by with_unfolding_all rfl) 51 rfl 2 (by decide +kernel)
theorem c6_rv : IsF c6 ∧ rv c6 = 6 := const_rv (a := false) (m := 6755399441055744) (e := -50) (by with_unfolding_all rfl) 50 rfl 6 (by decide +kernel)

/-- near q, the distance counted in parts of 2 ^ 50 -/
def App (x : UInt64) (q k : Rat) : Prop := IsF x ∧ q - k / 2 ^ 50 ≤ rv x ∧ rv x ≤ q + k / 2 ^ 50

theorem App.exact {x : UInt64} {q : Rat} (h : IsF x) (e : rv x = q) : App x q 0 := ⟨h, by grind, by grind⟩

/-- one rounding more -/
theorem app_rd {r : UInt64} {t q k : Rat} (R : Rd r t) (h1 : -8 ≤ t) (h2 : t ≤ 8) (l : q - k / 2 ^ 50 ≤ t) (u : t ≤ q + k / 2 ^ 50) : App r q (k + 1) := by
  obtain ⟨f, a, b, _⟩ := R 50 (by decide) (by grind) (by grind)
  refine ⟨f, ?_, ?_⟩ <;> grind

/-- a rounding of an exact place -/
theorem rd_exact {r : UInt64} {t : Rat} (R : Rd r t) (j : Int) (c : Nat) (hc : c ≤ 1074) (e : t * 2 ^ c = j) (h1 : -(2 ^ 53 : Int) ≤ j) (h2 : j ≤ 2 ^ 53) : IsF r ∧ rv r = t := by
  have h1' : ((j : Int) : Rat) ≤ 2 ^ 53 := by
    have := Rat.intCast_le_intCast.mpr h2
    rwa [Rat.intCast_pow] at this
  have h2' : -(2 ^ 53 : Rat) ≤ ((j : Int) : Rat) := by
    have := Rat.intCast_le_intCast.mpr h1
    rwa [Rat.intCast_neg, Rat.intCast_pow] at this
  obtain ⟨f, _, _, X⟩ := R c hc (by rw [e]; exact h2') (by rw [e]; exact h1')
  exact ⟨f, X j e⟩

theorem app_add {x y : UInt64} {p q j k : Rat} (hx : App x p j) (hy : App y q k) (h1 : -7 ≤ p + q) (h2 : p + q ≤ 7) (h0 : 0 ≤ j + k) (h3 : j + k ≤ 1000) : App (add x y) (p + q) (j + k + 1) := by
  obtain ⟨fx, lx, ux⟩ := hx
  obtain ⟨fy, ly, uy⟩ := hy
  exact app_rd (add_rd fx fy) (by grind) (by grind) (by grind) (by grind)
theorem app_sub {x y : UInt64} {p q j k : Rat} (hx : App x p j) (hy : App y q k) (h1 : -7 ≤ p - q) (h2 : p - q ≤ 7) (h0 : 0 ≤ j + k) (h3 : j + k ≤ 1000) : App (sub x y) (p - q) (j + k + 1) := by
  obtain ⟨fx, lx, ux⟩ := hx
  obtain ⟨fy, ly, uy⟩ := hy
  exact app_rd (sub_rd fx fy) (by grind) (by grind) (by grind) (by grind)

/-- a product's way from the exact product: all within [-B, B] -/
theorem mul_near {x y p q d e : Rat} (hx : p - d ≤ x) (hx' : x ≤ p + d) (hy : q - e ≤ y) (hy' : y ≤ q + e) {P Y : Rat} (hp : -P ≤ p) (hp' : p ≤ P) (hY : -Y ≤ y) (hY' : y ≤ Y) :
    p * q - (d * Y + P * e) ≤ x * y ∧ x * y ≤ p * q + (d * Y + P * e) := by
  have e1 : x * y - p * q = (x - p) * y + p * (y - q) := by grind
  have a1 : 0 ≤ (d - (x - p)) * (Y + y) := Rat.mul_nonneg (by grind) (by grind)
  have a2 : 0 ≤ (d + (x - p)) * (Y - y) := Rat.mul_nonneg (by grind) (by grind)
  have a3 : 0 ≤ (d - (x - p)) * (Y - y) := Rat.mul_nonneg (by grind) (by grind)
  have a4 : 0 ≤ (d + (x - p)) * (Y + y) := Rat.mul_nonneg (by grind) (by grind)
  have b1 : 0 ≤ (P - p) * (e + (y - q)) := Rat.mul_nonneg (by grind) (by grind)
  have b2 : 0 ≤ (P + p) * (e - (y - q)) := Rat.mul_nonneg (by grind) (by grind)
  have b3 : 0 ≤ (P - p) * (e - (y - q)) := Rat.mul_nonneg (by grind) (by grind)
  have b4 : 0 ≤ (P + p) * (e + (y - q)) := Rat.mul_nonneg (by grind) (by grind)
  constructor <;> grind

theorem app_mul {x y : UInt64} {p q j k : Rat} (P Y : Rat) (hx : App x p j) (hy : App y q k) (hp : -P ≤ p) (hp' : p ≤ P) (hY : -Y ≤ q - k / 2 ^ 50) (hY' : q + k / 2 ^ 50 ≤ Y) (h1 : -7 ≤ p * q) (h2 : p * q ≤ 7)
    (h0 : 0 ≤ j * Y + P * k) (h3 : j * Y + P * k ≤ 1000) : App (mul x y) (p * q) (j * Y + P * k + 1) := by
  obtain ⟨fx, lx, ux⟩ := hx
  obtain ⟨fy, ly, uy⟩ := hy
  have M := mul_near lx ux ly uy hp hp' (by grind) (by grind : rv y ≤ Y)
  exact app_rd (mul_rd fx fy) (by grind) (by grind) (by grind) (by grind)

/-! comparisons -/
theorem cmp_lt_iff {x y : UInt64} (hx : IsF x) (hy : IsF y) : (cmp x y == some .lt) = decide (rv x < rv y) := by
  obtain ⟨a, b, c⟩ := cmp_rv hx hy
  by_cases h : rv x < rv y
  · rw [a h, decide_eq_true h]; rfl
  · rw [decide_eq_false h]
    by_cases h2 : rv x = rv y
    · rw [b h2]; rfl
    · rw [c (by grind)]; rfl
theorem cmp_eq_iff {x y : UInt64} (hx : IsF x) (hy : IsF y) : (cmp x y == some .eq) = decide (rv x = rv y) := by
  obtain ⟨a, b, c⟩ := cmp_rv hx hy
  by_cases h : rv x = rv y
  · rw [b h, decide_eq_true h]; rfl
  · rw [decide_eq_false h]
    by_cases h2 : rv x < rv y
    · rw [a h2]; rfl
    · rw [c (by grind)]; rfl
theorem cmp_le_iff {x y : UInt64} (hx : IsF x) (hy : IsF y) : (cmp x y == some .lt || cmp x y == some .eq) = decide (rv x ≤ rv y) := by
  rw [cmp_lt_iff hx hy, cmp_eq_iff hx hy]
  by_cases h : rv x ≤ rv y
  · rw [decide_eq_true h]
    by_cases h2 : rv x < rv y
    · rw [decide_eq_true h2]; rfl
    · rw [decide_eq_true (show rv x = rv y by grind)]; simp
  · rw [decide_eq_false h, decide_eq_false (show ¬ rv x < rv y by grind), decide_eq_false (show ¬ rv x = rv y by grind)]; rfl
theorem isZero_iff {x : UInt64} (hx : IsF x) : isZero x = decide (rv x = 0) := by
  obtain ⟨a, m, e, h⟩ := hx
  have := val_ne h
  unfold isZero
  rw [h]
  cases m with
  | zero => simp only [ne_eq, not_true_eq_false, false_iff, Decidable.not_not] at this; rw [decide_eq_true this]; rfl
  | succ n => rw [decide_eq_false (this.mp (by omega))]; rfl

end Mine
end
section
open PySem PySem.Float64
namespace Mine

/-! ## the remainder by 1.0 -/
theorem fmod_one {x : UInt64} (hx : IsF x) (h1 : -1 < rv x) (h2 : rv x < 1) : IsF (fmod x c1) ∧ rv (fmod x c1) = rv x := by
  obtain ⟨a, m, e, h⟩ := hx
  have hge := decode_ge h
  have hd1 : decode c1 = .fin false (2 ^ 52) (-52) := by with_unfolding_all rfl
  have hv1 : val c1 = sgn false (2 ^ 52 * 2 ^ ((-52 : Int) + 1074).toNat) := val_eq hd1
  -- m * 2 ^ (e - g) < 2 ^ 52 * 2 ^ (-52 - g)
  have hlt : m * 2 ^ (e - min e (-52)).toNat < 2 ^ 52 * 2 ^ (-52 - min e (-52)).toNat := by
    have e0 := rv_mul x
    have hK := KQ_pos
    have b1 : (val x : Rat) < (KN : Rat) := by rw [← e0]; have := Rat.mul_lt_mul_of_pos_right h2 hK; grind
    have b2 : -(KN : Rat) < (val x : Rat) := by rw [← e0]; have := Rat.mul_lt_mul_of_pos_right h1 hK; grind
    have b1' : val x < (KN : Int) := by
      apply Rat.intCast_lt_intCast.mp; rw [Rat.intCast_natCast]; exact b1
    have b2' : -(KN : Int) < val x := by
      apply Rat.intCast_lt_intCast.mp; rw [Rat.intCast_neg, Rat.intCast_natCast]; exact b2
    have b3 : (val x).natAbs < KN := by
      revert b1' b2'
      generalize val x = z
      generalize KN = k
      omega
    rw [val_natAbs h] at b3
    have e1 : KN = 2 ^ 52 * 2 ^ (-52 - min e (-52)).toNat * 2 ^ (min e (-52) + 1074).toNat := by
      have : 52 + (-52 - min e (-52)).toNat + (min e (-52) + 1074).toNat = 1074 := by omega
      rw [← Nat.pow_add, ← Nat.pow_add, this, KN]
    have e2 : (2 : Nat) ^ (e + 1074).toNat = 2 ^ (e - min e (-52)).toNat * 2 ^ (min e (-52) + 1074).toNat := by
      have : (e + 1074).toNat = (e - min e (-52)).toNat + (min e (-52) + 1074).toNat := by omega
      rw [← Nat.pow_add, this]
    rw [e1, e2, ← Nat.mul_assoc] at b3
    exact Nat.lt_of_mul_lt_mul_right b3
  have hf : fmod x c1 = ofBin a (m * 2 ^ (e - min e (-52)).toNat) (min e (-52)) := by
    unfold fmod
    rw [h, hd1]
    simp only [align, sgn, Bool.false_eq_true, if_false]
    rw [if_neg (by decide)]
    congr 1
    simp only [Int.toNat_natCast]
    exact Nat.mod_eq_of_lt hlt
  have R : Right (fmod x c1) a (val x).natAbs 1 := by
    have hb : ofBin a (m * 2 ^ (e - min e (-52)).toNat) (min e (-52)) = ofFrac a (shift (m * 2 ^ (e - min e (-52)).toNat) 1 (min e (-52))).1 (shift (m * 2 ^ (e - min e (-52)).toNat) 1 (min e (-52))).2 := rfl
    have e3 : (2 : Nat) ^ (e + 1074).toNat = 2 ^ (e - min e (-52)).toNat * 2 ^ (min e (-52) + (1074 : Nat)).toNat := by
      have : (e + 1074).toNat = (e - min e (-52)).toNat + (min e (-52) + (1074 : Nat)).toNat := by omega
      rw [← Nat.pow_add, this]
    rw [hf, hb, val_natAbs h, e3]
    have := shift_one (m * 2 ^ (e - min e (-52)).toNat) (min e (-52)) 1074 (by omega)
    have hsp := shift_pos (m * 2 ^ (e - min e (-52)).toNat) 1 (min e (-52)) (by decide)
    rw [Nat.mul_assoc m] at this
    refine ofFrac_right hsp ?_ (by decide)
    rw [Nat.mul_one]
    exact this
  have hrd : Rd (fmod x c1) (rv x) := by
    refine rd_of_right R (by decide) ?_
    rw [← IsF.val_sgn h, ← rv_mul]
    have : ((1 : Nat) : Rat) = 1 := rfl
    rw [this, Rat.one_mul]
  exact rd_same ⟨a, m, e, h⟩ hrd (by grind) (by grind)

theorem lt_zero {x : UInt64} (hx : IsF x) : Float64.lt x (zero false) = decide (rv x < 0) := by
  unfold Float64.lt
  rw [cmp_lt_iff hx (rv_zero false).1, (rv_zero false).2]

theorem mod_one {x : UInt64} (hx : IsF x) (h1 : -1 < rv x) (h2 : rv x < 1) :
    (rv x = 0 → IsF (divmod x c1).snd ∧ rv (divmod x c1).snd = 0) ∧ (0 < rv x → IsF (divmod x c1).snd ∧ rv (divmod x c1).snd = rv x) ∧ (rv x < 0 → Rd (divmod x c1).snd (rv x + 1)) := by
  obtain ⟨ff, fv⟩ := fmod_one hx h1 h2
  have hs : (divmod x c1).snd = if isZero (fmod x c1) = true then copysign (zero false) c1 else if (Float64.lt c1 (zero false) != Float64.lt (fmod x c1) (zero false)) = true then add (fmod x c1) c1 else fmod x c1 := by
    unfold divmod
    simp only
    split
    · rfl
    · split <;> rfl
  have hc : Float64.lt c1 (zero false) = false := by
    rw [lt_zero c1_rv.1, c1_rv.2]; decide
  rw [hs, isZero_iff ff, hc, lt_zero ff, fv]
  refine ⟨fun h => ?_, fun h => ?_, fun h => ?_⟩
  · rw [decide_eq_true h, if_pos rfl]
    have : copysign (zero false) c1 = zero false := by decide +kernel
    rw [this]
    exact rv_zero false
  · rw [decide_eq_false (by grind), if_neg (by simp), decide_eq_false (by grind), if_neg (by simp)]
    exact ⟨ff, fv⟩
  · rw [decide_eq_false (by grind), if_neg (by simp), decide_eq_true h, if_pos (by simp)]
    have := add_rd ff c1_rv.1
    rwa [fv, c1_rv.2] at this

/-! ## the absolute value -/
theorem abs_rv {x : UInt64} (hx : IsF x) : IsF (abs x) ∧ (0 ≤ rv x → rv (abs x) = rv x) ∧ (rv x ≤ 0 → rv (abs x) = -rv x) := by
  obtain ⟨a, m, e, h⟩ := hx
  have hn : isNaN x = false := by unfold isNaN; rw [h]
  have hlt : x.toNat < 2 ^ 64 := x.toNat_lt
  have hp := pack_toNat false (t := x.toNat % 2 ^ 63) (by omega)
  have hab : abs x = pack false (x.toNat % 2 ^ 63) := by unfold Float64.abs; rw [hn]; rfl
  have hd : decode (abs x) = .fin false m e := by
    rw [hab]
    unfold decode at h ⊢
    rw [hp]
    simp only [Bool.false_eq_true, if_false, Nat.zero_add] at h ⊢
    have q1 : x.toNat % 2 ^ 63 / 2 ^ 63 = 0 := by omega
    have q2 : x.toNat % 2 ^ 63 / 2 ^ 52 % 2048 = x.toNat / 2 ^ 52 % 2048 := by omega
    have q3 : x.toNat % 2 ^ 63 % 2 ^ 52 = x.toNat % 2 ^ 52 := by omega
    rw [q1, q2, q3]
    split at h
    · split at h <;> cases h
    · rename_i c
      rw [if_neg c]
      split at h
      · rename_i c2; rw [if_pos c2]; cases h; rfl
      · rename_i c2; rw [if_neg c2]; cases h; rfl
  have hv : val (abs x) = (val x).natAbs := by rw [val_eq hd, val_natAbs h]; rfl
  have hK := KQ_pos
  have e0 := rv_mul x
  have e1 := rv_mul (abs x)
  have hK0 : (KN : Rat) ≠ 0 := Ne.symm (Rat.ne_of_lt hK)
  have cancel : ∀ p q : Rat, p * (KN : Rat) = q * (KN : Rat) → p = q := fun p q hh => by
    have := congrArg (· / (KN : Rat)) hh
    simpa only [Rat.mul_div_cancel hK0] using this
  refine ⟨⟨_, _, _, hd⟩, fun h0 => cancel _ _ ?_, fun h0 => cancel _ _ ?_⟩
  · have : 0 ≤ val x := by
      apply Rat.intCast_le_intCast.mp
      rw [← e0]; exact Rat.mul_nonneg h0 (Rat.le_of_lt hK)
    rw [e1, e0, hv, Rat.intCast_inj]
    omega
  · have : val x ≤ 0 := by
      apply Rat.intCast_le_intCast.mp
      rw [← e0]
      have := Rat.mul_nonneg (show 0 ≤ -rv x by grind) (Rat.le_of_lt hK)
      have e : ((0 : Int) : Rat) = 0 := rfl
      rw [e]; grind
    rw [e1, Rat.neg_mul, e0, hv, ← Rat.intCast_neg, Rat.intCast_inj]
    omega

/-! ## round -/
theorem halfEven_of {n d r : Nat} (hd : 0 < d) (h1 : 2 * n < 2 * d * r + d) (h2 : 2 * d * r < 2 * n + d) : halfEven n d = r := by
  have hn := Nat.div_add_mod n d
  have hr := Nat.mod_lt n hd
  have e1 : 2 * d * r = 2 * (d * r) := by ac_rfl
  unfold halfEven
  simp only
  generalize hq : n / d = q at *
  generalize hm : n % d = k at *
  rw [e1] at h1 h2
  have up : d * (q + 1) = d * q + d := by rw [Nat.mul_add, Nat.mul_one]
  rcases Nat.lt_trichotomy q r with hlt | heq | hgt
  · have h3 : d * (q + 1) ≤ d * r := Nat.mul_le_mul_left d hlt
    rcases Nat.lt_or_ge (q + 1) r with h4 | h4
    · exfalso
      have h5 : d * (q + 2) ≤ d * r := Nat.mul_le_mul_left d h4
      have up2 : d * (q + 2) = d * q + d + d := by rw [Nat.mul_add]; omega
      omega
    · have : r = q + 1 := by omega
      subst this
      rw [if_pos]
      simp only [Bool.or_eq_true, decide_eq_true_eq, Bool.and_eq_true, beq_iff_eq]
      left; omega
  · subst heq
    rw [if_neg]
    simp only [Bool.or_eq_true, decide_eq_true_eq, Bool.and_eq_true, beq_iff_eq]
    omega
  · exfalso
    have h3 : d * (r + 1) ≤ d * q := Nat.mul_le_mul_left d hgt
    rw [Nat.mul_add, Nat.mul_one] at h3
    omega

theorem nearest_of {x : UInt64} {a : Bool} {m : Nat} {e : Int} (h : decode x = .fin a m e) (r : Nat) (h1 : (r : Rat) - 1 / 4 ≤ rv x) (h2 : rv x ≤ (r : Rat) + 1 / 4) : nearestOf a m e = (r : Int) := by
  unfold nearestOf
  have hge := decode_ge h
  by_cases h0 : e < 0
  · have ev := rv_neg_exp h (c := (-e).toNat) (by omega)
    have hs : shift m 1 e = (m, 2 ^ (-e).toNat) := by unfold shift; rw [if_neg (by omega)]; simp
    rw [hs]
    simp only
    have hp := pow2_pos (-e).toNat
    have hd : 0 < 2 ^ (-e).toNat := Nat.two_pow_pos _
    -- |sgn a m - r * 2^c| ≤ 2^c / 4
    have l1 : (((r : Int) * 4 - 1) * (2 ^ (-e).toNat : Nat) : Int) ≤ 4 * sgn a m := by
      apply Rat.intCast_le_intCast.mp
      rw [Rat.intCast_mul, Rat.intCast_mul, Rat.intCast_sub, Rat.intCast_mul, Rat.intCast_natCast, Rat.intCast_natCast, pow2_cast, ← ev]
      have := Rat.mul_le_mul_of_nonneg_right h1 (Rat.le_of_lt hp)
      have c4 : ((4 : Int) : Rat) = 4 := rfl
      have c1 : ((1 : Int) : Rat) = 1 := rfl
      rw [c4, c1]; grind
    have l2 : (4 * sgn a m : Int) ≤ (((r : Int) * 4 + 1) * (2 ^ (-e).toNat : Nat) : Int) := by
      apply Rat.intCast_le_intCast.mp
      rw [Rat.intCast_mul, Rat.intCast_mul, Rat.intCast_add, Rat.intCast_mul, Rat.intCast_natCast, Rat.intCast_natCast, pow2_cast, ← ev]
      have := Rat.mul_le_mul_of_nonneg_right h2 (Rat.le_of_lt hp)
      have c4 : ((4 : Int) : Rat) = 4 := rfl
      have c1 : ((1 : Int) : Rat) = 1 := rfl
      rw [c4, c1]; grind
    generalize 2 ^ (-e).toNat = d at *
    have e1 : ((r : Int) * 4 - 1) * (d : Int) = 4 * ((r * d : Nat) : Int) - d := by rw [Int.sub_mul, Int.natCast_mul]; grind
    have e2 : ((r : Int) * 4 + 1) * (d : Int) = 4 * ((r * d : Nat) : Int) + d := by rw [Int.add_mul, Int.natCast_mul]; grind
    rw [e1] at l1
    rw [e2] at l2
    cases a
    · have es : sgn false m = (m : Int) := rfl
      rw [es] at l1 l2
      have : halfEven m d = r := by
        have e3 : 2 * d * r = 2 * (r * d) := by ac_rfl
        refine halfEven_of hd ?_ ?_ <;> rw [e3] <;> omega
      rw [this]; rfl
    · have es : sgn true m = -(m : Int) := rfl
      rw [es] at l1 l2
      have hr0 : r = 0 := by
        rcases Nat.eq_zero_or_pos r with h | h
        · exact h
        · have : d ≤ r * d := Nat.le_mul_of_pos_left d h
          omega
      subst hr0
      have : halfEven m d = 0 := by
        refine halfEven_of hd ?_ ?_ <;> omega
      rw [this]; rfl
  · have ev := rv_pos_exp h (c := e.toNat) (by omega)
    have hs : shift m 1 e = (m * 2 ^ e.toNat, 1) := by unfold shift; rw [if_pos (by omega)]
    rw [hs]
    simp only
    have e2 : rv x = ((sgn a (m * 2 ^ e.toNat) : Int) : Rat) := by
      rw [ev, sgn_mul, Rat.intCast_mul, Rat.intCast_natCast, pow2_cast]
    have hh : halfEven (m * 2 ^ e.toNat) 1 = m * 2 ^ e.toNat := by
      unfold halfEven; simp; omega
    rw [hh]
    rw [e2] at h1 h2
    have l1 : (4 * r - 1 : Int) ≤ 4 * sgn a (m * 2 ^ e.toNat) := by
      apply Rat.intCast_le_intCast.mp
      rw [Rat.intCast_sub, Rat.intCast_mul, Rat.intCast_mul, Rat.intCast_natCast]
      have c4 : ((4 : Int) : Rat) = 4 := rfl
      have c1 : ((1 : Int) : Rat) = 1 := rfl
      rw [c4, c1]; grind
    have l2 : 4 * sgn a (m * 2 ^ e.toNat) ≤ (4 * r + 1 : Int) := by
      apply Rat.intCast_le_intCast.mp
      rw [Rat.intCast_add, Rat.intCast_mul, Rat.intCast_mul, Rat.intCast_natCast]
      have c4 : ((4 : Int) : Rat) = 4 := rfl
      have c1 : ((1 : Int) : Rat) = 1 := rfl
      rw [c4, c1]; grind
    omega

end Mine
end
section
open PySem PySem.Float64
namespace Mine

/-! ## the functions of the texts, over doubles -/
def ltF (x y : UInt64) : Bool := cmp x y == some .lt
def eqF (x y : UInt64) : Bool := cmp x y == some .eq
def leF (x y : UInt64) : Bool := cmp x y == some .lt || cmp x y == some .eq
def max3 (x y z : UInt64) : UInt64 := if ltF x y then (if ltF y z then z else y) else (if ltF x z then z else x)
def min3 (x y z : UInt64) : UInt64 := if ltF y x then (if ltF z y then z else y) else (if ltF z x then z else x)
def minF (x y : UInt64) : UInt64 := if ltF y x then y else x

def hlsH (r g mx rg rc gc bc : UInt64) : UInt64 := if eqF r mx then sub bc gc else if eqF g mx then sub (add c2 rc) bc else sub (add c4 gc) rc
def hls (r g b : UInt64) : UInt64 × UInt64 × UInt64 :=
  let mx := max3 r g b
  let mn := min3 r g b
  let sm := add mx mn
  let rg := sub mx mn
  let l := div sm c2
  if eqF mn mx then (c0, l, c0) else
  let s := if leF l cH then div rg sm else div rg (sub (sub c2 mx) mn)
  let h := hlsH r g mx rg (div (sub mx r) rg) (div (sub mx g) rg) (div (sub mx b) rg)
  ((divmod (div h c6) c1).snd, l, s)

abbrev c099 : UInt64 := 4607092346807469998
abbrev c201 : UInt64 := 4611708536425524756
abbrev c301 : UInt64 := 4613960336239210004
def turnV (h : UInt64) : UInt64 := mul c6 h
def frontB (s t : UInt64) : Bool := eqF s c0 || (leF c099 t && leF t c301)
def wayV (front : Bool) (t : UInt64) : UInt64 := if front then abs (sub t c2) else minF t (sub c6 t)
def levV (l s way : UInt64) : UInt64 := mul (ofInt 67108864) (add l (mul (mul s (minF l (sub c1 l))) (sub (mul c2 way) c1)))

theorem c099_rv : IsF c099 ∧ rv c099 = 8917127262193582 / 9007199254740992 := const_rv (a := false) (m := 8917127262193582) (e := -53) (by with_unfolding_all rfl) 53 rfl _ (by decide +kernel)
theorem c201_rv : IsF c201 ∧ rv c201 = 4526117625507348 / 2251799813685248 := const_rv (a := false) (m := 4526117625507348) (e := -51) (by with_unfolding_all rfl) 51 rfl _ (by decide +kernel)
theorem c301_rv : IsF c301 ∧ rv c301 = 6777917439192596 / 2251799813685248 := const_rv (a := false) (m := 6777917439192596) (e := -51) (by with_unfolding_all rfl) 51 rfl _ (by decide +kernel)

/-! ## steps over near values -/
theorem app_exact_eq {x : UInt64} {q : Rat} (h : IsF x ∧ rv x = q) : App x q 0 := App.exact h.1 h.2
theorem app_weak {x : UInt64} {q k j : Rat} (h : App x q k) (hk : k ≤ j) : App x q j := ⟨h.1, by have := h.2.1; grind, by have := h.2.2; grind⟩
theorem app_to {x : UInt64} {q p k : Rat} (h : App x q k) (e : q = p) : App x p k := e ▸ h

theorem abs_app {x : UInt64} {q k : Rat} (h : App x q k) : (0 ≤ q → App (abs x) q k) ∧ (q ≤ 0 → App (abs x) (-q) k) := by
  obtain ⟨f, l, u⟩ := h
  obtain ⟨af, p, n⟩ := abs_rv f
  refine ⟨fun h0 => ⟨af, ?_, ?_⟩, fun h0 => ⟨af, ?_, ?_⟩⟩ <;> rcases Rat.le_total (a := 0) (b := rv x) with c | c <;> first | (have := p c; grind) | (have := n c; grind)

/-- h / 6.0 % 1.0 * 6.0, above nought -/
theorem turn_pos {h : UInt64} {y k : Rat} (hh : App h y k) (k0 : 0 ≤ k) (k1 : k ≤ 100) (h1 : 1 / 100 ≤ y) (h2 : y ≤ 4) : App (turnV (divmod (div h c6) c1).snd) y (k + 7) := by
  obtain ⟨f, l, u⟩ := hh
  have D : App (div h c6) (y / 6) (k / 6 + 1) := by
    have := div_rd f c6_rv.1 (by rw [c6_rv.2]; decide)
    rw [c6_rv.2] at this
    exact app_rd this (by grind) (by grind) (by grind) (by grind)
  obtain ⟨df, dl, du⟩ := D
  obtain ⟨mf, mv⟩ := (mod_one df (by grind) (by grind)).2.1 (by grind)
  have R := mul_rd c6_rv.1 mf
  rw [c6_rv.2, mv] at R
  have := app_rd (q := y) (k := k + 6) R (by grind) (by grind) (by grind) (by grind)
  exact app_weak this (by grind)
/-- below nought -/
theorem turn_neg {h : UInt64} {y k : Rat} (hh : App h y k) (k0 : 0 ≤ k) (k1 : k ≤ 100) (h1 : -1 ≤ y) (h2 : y ≤ -1 / 100) : App (turnV (divmod (div h c6) c1).snd) (y + 6) (k + 13) := by
  obtain ⟨f, l, u⟩ := hh
  have D : App (div h c6) (y / 6) (k / 6 + 1) := by
    have := div_rd f c6_rv.1 (by rw [c6_rv.2]; decide)
    rw [c6_rv.2] at this
    exact app_rd this (by grind) (by grind) (by grind) (by grind)
  obtain ⟨df, dl, du⟩ := D
  have M := (mod_one df (by grind) (by grind)).2.2 (by grind)
  have M' := app_rd (q := y / 6 + 1) (k := k / 6 + 1) M (by grind) (by grind) (by grind) (by grind)
  obtain ⟨mf, ml, mu⟩ := M'
  have R := mul_rd c6_rv.1 mf
  rw [c6_rv.2] at R
  have := app_rd (q := y + 6) (k := k + 12) R (by grind) (by grind) (by grind) (by grind)
  exact app_weak this (by grind)
/-- at nought -/
theorem turn_zero {h : UInt64} (hh : IsF h ∧ rv h = 0) : IsF (turnV (divmod (div h c6) c1).snd) ∧ rv (turnV (divmod (div h c6) c1).snd) = 0 := by
  obtain ⟨f, e⟩ := hh
  have D := div_rd f c6_rv.1 (by rw [c6_rv.2]; decide)
  rw [c6_rv.2, e] at D
  have D' := rd_exact D 0 0 (by decide) (by decide +kernel) (by decide) (by decide)
  have dv : rv (div h c6) = 0 := by rw [D'.2]; decide +kernel
  obtain ⟨mf, mv⟩ := (mod_one D'.1 (by rw [dv]; decide) (by rw [dv]; decide)).1 dv
  have R := mul_rd c6_rv.1 mf
  rw [c6_rv.2, mv] at R
  have R' := rd_exact R 0 0 (by decide) (by decide +kernel) (by decide) (by decide)
  exact ⟨R'.1, by rw [show turnV (divmod (div h c6) c1).snd = mul c6 (divmod (div h c6) c1).snd from rfl, R'.2]; decide +kernel⟩

/-! ## exact steps: whole 64ths -/
theorem sub64 {x y : UInt64} {a b : Int} {d : Nat} (hd : d ≤ 60) (hx : IsF x) (hy : IsF y) (ex : rv x * 2 ^ d = a) (ey : rv y * 2 ^ d = b) (h1 : -1000000 ≤ a - b) (h2 : a - b ≤ 1000000) : IsF (sub x y) ∧ rv (sub x y) = rv x - rv y := by
  refine rd_exact (sub_rd hx hy) (a - b) d (by omega) ?_ (by omega) (by omega)
  rw [Rat.intCast_sub, ← ex, ← ey]; grind
theorem add64 {x y : UInt64} {a b : Int} {d : Nat} (hd : d ≤ 60) (hx : IsF x) (hy : IsF y) (ex : rv x * 2 ^ d = a) (ey : rv y * 2 ^ d = b) (h1 : -1000000 ≤ a + b) (h2 : a + b ≤ 1000000) : IsF (add x y) ∧ rv (add x y) = rv x + rv y := by
  refine rd_exact (add_rd hx hy) (a + b) d (by omega) ?_ (by omega) (by omega)
  rw [Rat.intCast_add, ← ex, ← ey]; grind

/-- a quotient of two 64ths -/
theorem quot64 {x y : UInt64} {a b : Int} (hx : IsF x) (hy : IsF y) (ex : rv x = (a : Rat) / 64) (ey : rv y = (b : Rat) / 64) (ha : 0 ≤ a) (hab : a ≤ b) (hb : 0 < b) (hb2 : b ≤ 1000) :
    App (div x y) ((a : Rat) / (b : Rat)) 1 ∧ (a = 0 → rv (div x y) = 0) ∧ (a = b → rv (div x y) = 1) := by
  have hbq : (0 : Rat) < (b : Rat) := Rat.intCast_pos.mpr hb
  have hb0 : (b : Rat) ≠ 0 := Ne.symm (Rat.ne_of_lt hbq)
  have haq : (0 : Rat) ≤ (a : Rat) := Rat.intCast_nonneg.mpr ha
  have habq : (a : Rat) ≤ (b : Rat) := Rat.intCast_le_intCast.mpr hab
  have hq : rv x / rv y = (a : Rat) / (b : Rat) := by
    rw [ex, ey]
    show (a : Rat) / 64 * ((b : Rat) / 64)⁻¹ = (a : Rat) * (b : Rat)⁻¹
    have : ((b : Rat) / 64)⁻¹ = 64 * (b : Rat)⁻¹ := by
      refine Rat.inv_eq_of_mul_eq_one ?_
      have := Rat.mul_inv_cancel (b : Rat) hb0
      grind
    rw [this]; grind
  have R := div_rd hx hy (by rw [ey]; grind)
  rw [hq] at R
  have e1 : (a : Rat) / (b : Rat) * (b : Rat) = (a : Rat) := Rat.div_mul_cancel hb0
  have lo : 0 ≤ (a : Rat) / (b : Rat) := by
    refine Rat.le_of_mul_le_mul_right (c := (b : Rat)) ?_ hbq
    rw [e1, Rat.zero_mul]; exact haq
  have hi : (a : Rat) / (b : Rat) ≤ 1 := by
    refine Rat.le_of_mul_le_mul_right (c := (b : Rat)) ?_ hbq
    rw [e1, Rat.one_mul]; exact habq
  refine ⟨?_, fun h => ?_, fun h => ?_⟩
  · have := app_rd (q := (a : Rat) / (b : Rat)) (k := 0) R (by grind) (by grind) (by grind) (by grind)
    exact app_weak this (by grind)
  · subst h
    have z : ((0 : Int) : Rat) / (b : Rat) = 0 := Rat.zero_mul _
    rw [z] at R
    exact (rd_exact R 0 0 (by decide) (by decide +kernel) (by decide) (by decide)).2
  · subst h
    have z : (a : Rat) / (a : Rat) = 1 := by have := Rat.mul_inv_cancel (a : Rat) hb0; exact this
    rw [z] at R
    exact (rd_exact R 1 0 (by decide) (by decide +kernel) (by decide) (by decide)).2

/-- the bounds of a fraction of whole numbers, its divisor at most 63 -/
theorem frac_lo {a b : Int} (ha : 0 < a) (hb : 0 < b) (hb2 : b ≤ 63) : 1 / 63 ≤ (a : Rat) / (b : Rat) := by
  have hbq : (0 : Rat) < (b : Rat) := Rat.intCast_pos.mpr hb
  have e1 : (a : Rat) / (b : Rat) * (b : Rat) = (a : Rat) := Rat.div_mul_cancel (Ne.symm (Rat.ne_of_lt hbq))
  refine Rat.le_of_mul_le_mul_right (c := (b : Rat)) ?_ hbq
  have h1 : (1 : Rat) ≤ (a : Rat) := Rat.intCast_le_intCast.mpr (show (1 : Int) ≤ a by omega)
  have h2 : (b : Rat) ≤ 63 := Rat.intCast_le_intCast.mpr (show b ≤ (63 : Int) by omega)
  rw [e1]; grind
theorem frac_hi {a b : Int} (hab : a < b) (hb : 0 < b) (hb2 : b ≤ 63) : (a : Rat) / (b : Rat) ≤ 62 / 63 := by
  have hbq : (0 : Rat) < (b : Rat) := Rat.intCast_pos.mpr hb
  have e1 : (a : Rat) / (b : Rat) * (b : Rat) = (a : Rat) := Rat.div_mul_cancel (Ne.symm (Rat.ne_of_lt hbq))
  refine Rat.le_of_mul_le_mul_right (c := (b : Rat)) ?_ hbq
  have h1 : (a : Rat) + 1 ≤ (b : Rat) := by
    have := Rat.intCast_le_intCast.mpr (show a + 1 ≤ b by omega)
    rwa [Rat.intCast_add] at this
  have h2 : (b : Rat) ≤ 63 := Rat.intCast_le_intCast.mpr (show b ≤ (63 : Int) by omega)
  rw [e1]; grind
theorem frac_pos {a b : Int} (ha : 0 ≤ a) (hb : 0 < b) : 0 ≤ (a : Rat) / (b : Rat) := by
  have hbq : (0 : Rat) < (b : Rat) := Rat.intCast_pos.mpr hb
  have e1 : (a : Rat) / (b : Rat) * (b : Rat) = (a : Rat) := Rat.div_mul_cancel (Ne.symm (Rat.ne_of_lt hbq))
  refine Rat.le_of_mul_le_mul_right (c := (b : Rat)) ?_ hbq
  rw [e1, Rat.zero_mul]; exact Rat.intCast_nonneg.mpr ha
theorem frac_one {a b : Int} (ha : a ≤ b) (hb : 0 < b) : (a : Rat) / (b : Rat) ≤ 1 := by
  have hbq : (0 : Rat) < (b : Rat) := Rat.intCast_pos.mpr hb
  have e1 : (a : Rat) / (b : Rat) * (b : Rat) = (a : Rat) := Rat.div_mul_cancel (Ne.symm (Rat.ne_of_lt hbq))
  refine Rat.le_of_mul_le_mul_right (c := (b : Rat)) ?_ hbq
  rw [e1, Rat.one_mul]; exact Rat.intCast_le_intCast.mpr ha

end Mine
end
section
open PySem PySem.Float64
namespace Mine

theorem i64_exact {x : UInt64} {n : Int} {d : Nat} (hd : d ≤ 60) (h : rv x = (n : Rat) / 2 ^ d) : rv x * 2 ^ d = n := by
  rw [h]; exact Rat.div_mul_cancel (Ne.symm (Rat.ne_of_lt (pow2_pos d)))

theorem big_rv : IsF (ofInt 67108864) ∧ rv (ofInt 67108864) = 67108864 := by
  have hi : ofInt 67108864 = 4724276009111650304 := by decide +kernel
  rw [hi]
  have hd : decode 4724276009111650304 = .fin false 4503599627370496 (-26) := by with_unfolding_all rfl
  exact const_rv (a := false) (m := 4503599627370496) (e := -26) hd 26 rfl _ (by decide +kernel)

/-- the lesser of the lightness and what it lacks to one -/
theorem light_min {l : UInt64} {S : Int} (hl : IsF l) (el : rv l = (S : Rat) / 128) (h0 : 0 ≤ S) (h1 : S ≤ 128) :
    IsF (minF l (sub c1 l)) ∧ rv (minF l (sub c1 l)) = ((if S ≤ 64 then S else 128 - S : Int) : Rat) / 128 := by
  have e7 : (2 : Rat) ^ 7 = 128 := by decide +kernel
  have q := sub64 (x := c1) (y := l) (a := 128) (b := S) (d := 7) (by decide) c1_rv.1 hl (by rw [c1_rv.2]; decide +kernel) (by rw [e7, el]; exact Rat.div_mul_cancel (by decide)) (by omega) (by omega)
  obtain ⟨sf, sv⟩ := q
  rw [c1_rv.2, el] at sv
  unfold minF ltF
  rw [cmp_lt_iff sf hl, sv, el]
  have cS : ((128 - S : Int) : Rat) = 128 - (S : Rat) := by rw [Rat.intCast_sub]; rfl
  by_cases h : S ≤ 64
  · have hq : (S : Rat) ≤ 64 := Rat.intCast_le_intCast.mpr h
    rw [decide_eq_false (by grind), if_neg (by simp), if_pos h]
    exact ⟨hl, el⟩
  · have hq : (65 : Rat) ≤ (S : Rat) := Rat.intCast_le_intCast.mpr (show (65 : Int) ≤ S by omega)
    rw [decide_eq_true (by grind), if_pos rfl, if_neg h]
    refine ⟨sf, ?_⟩
    rw [sv, cS]; grind

theorem lev_ok {l s way : UInt64} {M m mid : Int} {v k : Rat} (hm0 : 0 ≤ m) (hmM : m < M) (hM : M ≤ 63) (hl : IsF l) (el : rv l = ((M + m : Int) : Rat) / 128)
    (hs : App s (((M - m : Int) : Rat) / ((if M + m ≤ 64 then M + m else 128 - (M + m) : Int) : Rat)) 1) (hw : App way v k) (k0 : 0 ≤ k) (k1 : k ≤ 40) (v0 : 0 ≤ v) (v1 : v ≤ 1)
    (hmid : ((M : Rat) + m) / 2 + ((M : Rat) - m) / 2 * (2 * v - 1) = mid) :
    IsF (levV l s way) ∧ ((1048576 * mid : Int) : Rat) - 1 / 4 ≤ rv (levV l s way) ∧ rv (levV l s way) ≤ ((1048576 * mid : Int) : Rat) + 1 / 4 := by
  have mq : (0 : Rat) ≤ (m : Rat) := Rat.intCast_nonneg.mpr hm0
  have mMq : (m : Rat) + 1 ≤ (M : Rat) := by
    have := Rat.intCast_le_intCast.mpr (show m + 1 ≤ M by omega)
    rwa [Rat.intCast_add] at this
  have Mq : (M : Rat) ≤ 63 := Rat.intCast_le_intCast.mpr (show M ≤ (63 : Int) by omega)
  obtain ⟨nf, nv⟩ := light_min hl el (by omega) (by omega)
  have hS : 0 < (if M + m ≤ 64 then M + m else 128 - (M + m) : Int) := by split <;> omega
  have hS2 : (if M + m ≤ 64 then M + m else 128 - (M + m) : Int) ≤ 64 := by split <;> omega
  have hRS : M - m ≤ (if M + m ≤ 64 then M + m else 128 - (M + m) : Int) := by split <;> omega
  generalize hSg : (if M + m ≤ 64 then M + m else 128 - (M + m) : Int) = S at *
  have Sq : (0 : Rat) < (S : Rat) := Rat.intCast_pos.mpr hS
  have Sq2 : (S : Rat) ≤ 64 := Rat.intCast_le_intCast.mpr (show S ≤ (64 : Int) by omega)
  have u0 := frac_pos (a := M - m) (b := S) (by omega) hS
  have u1 := frac_one (a := M - m) (b := S) hRS hS
  have eu : ((M - m : Int) : Rat) / (S : Rat) * (S : Rat) = (M : Rat) - m := by
    rw [Rat.div_mul_cancel (Ne.symm (Rat.ne_of_lt Sq)), Rat.intCast_sub]
  generalize ((M - m : Int) : Rat) / (S : Rat) = u at *
  -- share times the lesser
  have hA := app_mul (P := 1) (Y := 1) hs (App.exact nf nv) (by grind) u1 (by grind) (by grind) (by
      have := Rat.mul_nonneg u0 (Rat.le_of_lt Sq); grind) (by
      have : u * (S : Rat) ≤ 1 * (S : Rat) := Rat.mul_le_mul_of_nonneg_right u1 (Rat.le_of_lt Sq)
      grind) (by grind) (by grind)
  have hA' : App (mul s (minF l (sub c1 l))) (((M : Rat) - m) / 128) 2 := app_to (app_weak hA (by grind)) (by grind)
  -- twice the way less one
  have hT := app_mul (P := 2) (Y := 2) (app_exact_eq c2_rv) hw (by decide) (by decide) (by grind) (by grind) (by grind) (by grind) (by grind) (by grind)
  have hT' := app_sub hT (app_exact_eq c1_rv) (by grind) (by grind) (by grind) (by grind)
  have hT2 : App (sub (mul c2 way) c1) (2 * v - 1) 90 := app_weak hT' (by grind)
  -- their product
  have n1 : 0 ≤ (63 - ((M : Rat) - m)) * (1 + (2 * v - 1)) := Rat.mul_nonneg (by grind) (by grind)
  have n2 : 0 ≤ (63 - ((M : Rat) - m)) * (1 - (2 * v - 1)) := Rat.mul_nonneg (by grind) (by grind)
  have hB := app_mul (P := 1) (Y := 2) hA' hT2 (by grind) (by grind) (by grind) (by grind) (by grind) (by grind) (by grind) (by grind)
  have hC := app_add (app_exact_eq ⟨hl, el⟩) hB (by rw [Rat.intCast_add]; grind) (by rw [Rat.intCast_add]; grind) (by grind) (by grind)
  have hC' : App (add l (mul (mul s (minF l (sub c1 l))) (sub (mul c2 way) c1))) ((mid : Rat) / 64) 100 := by
    refine app_to (app_weak hC (by grind)) ?_
    rw [Rat.intCast_add]; grind
  obtain ⟨cf, cl, cu⟩ := hC'
  have mid0 : (0 : Rat) ≤ (mid : Rat) := by
    have := Rat.mul_nonneg (show 0 ≤ (M : Rat) - m by grind) v0
    grind
  have mid1 : (mid : Rat) ≤ 63 := by
    have := Rat.mul_nonneg (show 0 ≤ (M : Rat) - m by grind) (show 0 ≤ 1 - v by grind)
    grind
  have R := mul_rd big_rv.1 cf
  rw [big_rv.2] at R
  obtain ⟨f, a, b, _⟩ := R 26 (by decide) (by grind) (by grind)
  have ec : ((1048576 * mid : Int) : Rat) = 1048576 * (mid : Rat) := by rw [Rat.intCast_mul]; rfl
  refine ⟨f, ?_, ?_⟩ <;> unfold levV <;> rw [ec] <;> grind

end Mine
end
section
open PySem PySem.Float64
namespace Mine

/-- a double that is n 64ths -/
def I64 (x : UInt64) (n : Int) : Prop := IsF x ∧ rv x = (n : Rat) / 64

theorem div64_lt {a b : Int} : ((a : Rat) / 64 < (b : Rat) / 64) ↔ a < b := by
  rw [← Rat.intCast_lt_intCast]; constructor <;> intro h <;> grind
theorem div64_eq {a b : Int} : ((a : Rat) / 64 = (b : Rat) / 64) ↔ a = b := by
  rw [← Rat.intCast_inj]; constructor <;> intro h <;> grind
theorem lt64 {x y : UInt64} {a b : Int} (hx : I64 x a) (hy : I64 y b) : ltF x y = decide (a < b) := by
  unfold ltF; rw [cmp_lt_iff hx.1 hy.1, hx.2, hy.2]; exact decide_eq_decide.mpr div64_lt
theorem eq64 {x y : UInt64} {a b : Int} (hx : I64 x a) (hy : I64 y b) : eqF x y = decide (a = b) := by
  unfold eqF; rw [cmp_eq_iff hx.1 hy.1, hx.2, hy.2]; exact decide_eq_decide.mpr div64_eq

theorem max3_64 {x y z : UInt64} {a b c : Int} (hx : I64 x a) (hy : I64 y b) (hz : I64 z c) : I64 (max3 x y z) (max (max a b) c) := by
  unfold max3
  rw [lt64 hx hy, lt64 hy hz, lt64 hx hz]
  by_cases h1 : a < b <;> by_cases h2 : b < c <;> by_cases h3 : a < c <;> simp only [h1, h2, h3, decide_true, decide_false, if_true, Bool.false_eq_true, if_false]
  · rw [show max (max a b) c = c by omega]; exact hz
  · rw [show max (max a b) c = c by omega]; exact hz
  · rw [show max (max a b) c = b by omega]; exact hy
  · rw [show max (max a b) c = b by omega]; exact hy
  · rw [show max (max a b) c = c by omega]; exact hz
  · rw [show max (max a b) c = a by omega]; exact hx
  · rw [show max (max a b) c = c by omega]; exact hz
  · rw [show max (max a b) c = a by omega]; exact hx
theorem min3_64 {x y z : UInt64} {a b c : Int} (hx : I64 x a) (hy : I64 y b) (hz : I64 z c) : I64 (min3 x y z) (min (min a b) c) := by
  unfold min3
  rw [lt64 hy hx, lt64 hz hy, lt64 hz hx]
  by_cases h1 : b < a <;> by_cases h2 : c < b <;> by_cases h3 : c < a <;> simp only [h1, h2, h3, decide_true, decide_false, if_true, Bool.false_eq_true, if_false]
  · rw [show min (min a b) c = c by omega]; exact hz
  · rw [show min (min a b) c = c by omega]; exact hz
  · rw [show min (min a b) c = b by omega]; exact hy
  · rw [show min (min a b) c = b by omega]; exact hy
  · rw [show min (min a b) c = c by omega]; exact hz
  · rw [show min (min a b) c = a by omega]; exact hx
  · rw [show min (min a b) c = c by omega]; exact hz
  · rw [show min (min a b) c = a by omega]; exact hx

theorem e26 : (2 : Rat) ^ 6 = 64 := by decide +kernel
theorem I64.six {x : UInt64} {a : Int} (h : I64 x a) : rv x * 2 ^ 6 = a := by rw [e26, h.2]; exact Rat.div_mul_cancel (by decide)
theorem I64.sub {x y : UInt64} {a b : Int} (hx : I64 x a) (hy : I64 y b) (h1 : -1000 ≤ a - b) (h2 : a - b ≤ 1000) : I64 (Float64.sub x y) (a - b) := by
  obtain ⟨f, e⟩ := sub64 (d := 6) (by decide) hx.1 hy.1 hx.six hy.six (by omega) (by omega)
  refine ⟨f, ?_⟩
  rw [e, hx.2, hy.2, Rat.intCast_sub]; grind
theorem I64.add {x y : UInt64} {a b : Int} (hx : I64 x a) (hy : I64 y b) (h1 : -1000 ≤ a + b) (h2 : a + b ≤ 1000) : I64 (Float64.add x y) (a + b) := by
  obtain ⟨f, e⟩ := add64 (d := 6) (by decide) hx.1 hy.1 hx.six hy.six (by omega) (by omega)
  refine ⟨f, ?_⟩
  rw [e, hx.2, hy.2, Rat.intCast_add]; grind
theorem I64.two : I64 c2 128 := ⟨c2_rv.1, by rw [c2_rv.2]; decide +kernel⟩

/-- the parts of the colour's reckoning that hang on the greatest and the least alone -/
theorem parts_ok {mx mn : UInt64} {M m : Int} (hM : I64 mx M) (hm : I64 mn m) (h0 : 0 ≤ m) (h1 : m ≤ M) (h2 : M ≤ 63) :
    I64 (add mx mn) (M + m) ∧ I64 (sub mx mn) (M - m) ∧ I64 (sub (sub c2 mx) mn) (128 - (M + m)) ∧ IsF (div (add mx mn) c2) ∧ rv (div (add mx mn) c2) = ((M + m : Int) : Rat) / 128 ∧
    leF (div (add mx mn) c2) cH = decide (M + m ≤ 64) := by
  have ha := hM.add hm (by omega) (by omega)
  have hs := hM.sub hm (by omega) (by omega)
  have ht := (I64.two.sub hM (by omega) (by omega)).sub hm (by omega) (by omega)
  rw [show 128 - M - m = 128 - (M + m) by omega] at ht
  have D := div_rd ha.1 c2_rv.1 (by rw [c2_rv.2]; decide)
  rw [c2_rv.2, ha.2] at D
  have e7 : (2 : Rat) ^ 7 = 128 := by decide +kernel
  have D' := rd_exact D (M + m) 7 (by decide) (by rw [e7]; grind) (by omega) (by omega)
  have dv : rv (div (add mx mn) c2) = ((M + m : Int) : Rat) / 128 := by rw [D'.2]; grind
  refine ⟨ha, hs, ht, D'.1, dv, ?_⟩
  unfold leF
  rw [cmp_le_iff D'.1 cH_rv.1, dv, cH_rv.2]
  apply decide_eq_decide.mpr
  rw [← Rat.intCast_le_intCast]
  have c64 : ((64 : Int) : Rat) = 64 := rfl
  rw [c64]
  constructor <;> intro h <;> grind

theorem share_ok {mx mn : UInt64} {M m : Int} (hM : I64 mx M) (hm : I64 mn m) (h0 : 0 ≤ m) (h1 : m < M) (h2 : M ≤ 63) :
    App (if leF (div (add mx mn) c2) cH then div (sub mx mn) (add mx mn) else div (sub mx mn) (sub (sub c2 mx) mn)) (((M - m : Int) : Rat) / ((if M + m ≤ 64 then M + m else 128 - (M + m) : Int) : Rat)) 1 := by
  obtain ⟨ha, hs, ht, lf, lv, lc⟩ := parts_ok hM hm h0 (by omega) h2
  rw [lc]
  by_cases h : M + m ≤ 64
  · rw [decide_eq_true h, if_pos rfl, if_pos h]
    exact (quot64 hs.1 ha.1 hs.2 ha.2 (by omega) (by omega) (by omega) (by omega)).1
  · rw [decide_eq_false h, if_neg (by simp), if_neg h]
    exact (quot64 hs.1 ht.1 hs.2 ht.2 (by omega) (by omega) (by omega) (by omega)).1

/-- the least share is no nought -/
theorem share_pos {s : UInt64} {M m : Int} (h0 : 0 ≤ m) (h1 : m < M) (h2 : M ≤ 63) (hs : App s (((M - m : Int) : Rat) / ((if M + m ≤ 64 then M + m else 128 - (M + m) : Int) : Rat)) 1) : eqF s c0 = false := by
  have hS : 0 < (if M + m ≤ 64 then M + m else 128 - (M + m) : Int) := by split <;> omega
  have hS2 : (if M + m ≤ 64 then M + m else 128 - (M + m) : Int) ≤ 64 := by split <;> omega
  generalize (if M + m ≤ 64 then M + m else 128 - (M + m) : Int) = S at *
  have Sq : (0 : Rat) < (S : Rat) := Rat.intCast_pos.mpr hS
  have Sq2 : (S : Rat) ≤ 64 := Rat.intCast_le_intCast.mpr (show S ≤ (64 : Int) by omega)
  have e1 : ((M - m : Int) : Rat) / (S : Rat) * (S : Rat) = ((M - m : Int) : Rat) := Rat.div_mul_cancel (Ne.symm (Rat.ne_of_lt Sq))
  have a1 : (1 : Rat) ≤ ((M - m : Int) : Rat) := Rat.intCast_le_intCast.mpr (show (1 : Int) ≤ M - m by omega)
  have lo : 1 / 64 ≤ ((M - m : Int) : Rat) / (S : Rat) := by
    refine Rat.le_of_mul_le_mul_right (c := (S : Rat)) ?_ Sq
    rw [e1]; grind
  obtain ⟨f, l, u⟩ := hs
  unfold eqF
  rw [cmp_eq_iff f c0_rv.1, c0_rv.2]
  exact decide_eq_false (by grind)

/-- where the turn stands, and so what it tells -/
theorem le_app {x y : UInt64} {q k p : Rat} (hx : App x q k) (hy : IsF y ∧ rv y = p) : (q + k / 2 ^ 50 ≤ p → leF x y = true) ∧ (p < q - k / 2 ^ 50 → leF x y = false) := by
  obtain ⟨f, l, u⟩ := hx
  unfold leF
  rw [cmp_le_iff f hy.1, hy.2]
  exact ⟨fun h => decide_eq_true (by grind), fun h => decide_eq_false (by grind)⟩
theorem le_app' {x y : UInt64} {q k p : Rat} (hx : App x q k) (hy : IsF y ∧ rv y = p) : (p ≤ q - k / 2 ^ 50 → leF y x = true) ∧ (q + k / 2 ^ 50 < p → leF y x = false) := by
  obtain ⟨f, l, u⟩ := hx
  unfold leF
  rw [cmp_le_iff hy.1 f, hy.2]
  exact ⟨fun h => decide_eq_true (by grind), fun h => decide_eq_false (by grind)⟩

theorem sub_app_const {t c : UInt64} {y p k : Rat} (h : App t y k) (hc : IsF c ∧ rv c = p) (h1 : -7 ≤ y - p) (h2 : y - p ≤ 7) (k0 : 0 ≤ k) (k1 : k ≤ 100) : App (sub t c) (y - p) (k + 1) :=
  app_weak (app_sub h (app_exact_eq hc) h1 h2 (by grind) (by grind)) (by grind)

/-- the way from the front: |turn - 2| -/
theorem way_front {t : UInt64} {y k : Rat} (h : App t y k) (h1 : 0 ≤ y) (h2 : y ≤ 4) (k0 : 0 ≤ k) (k1 : k ≤ 100) : (2 ≤ y → App (wayV true t) (y - 2) (k + 1)) ∧ (y ≤ 2 → App (wayV true t) (2 - y) (k + 1)) := by
  have q := sub_app_const h c2_rv (by grind) (by grind) k0 k1
  have w : wayV true t = abs (sub t c2) := rfl
  rw [w]
  exact ⟨fun hy => (abs_app q).1 (by grind), fun hy => app_to ((abs_app q).2 (by grind)) (by grind)⟩
/-- the nearer way round -/
theorem way_back {t : UInt64} {y k : Rat} (h : App t y k) (h1 : 0 ≤ y) (h2 : y ≤ 6) (k0 : 0 ≤ k) (k1 : k ≤ 100) : (y ≤ 2 → App (wayV false t) y (k + 1)) ∧ (4 ≤ y → App (wayV false t) (6 - y) (k + 1)) := by
  have q := app_weak (app_sub (app_exact_eq c6_rv) h (by grind) (by grind) (by grind) (by grind)) (show 0 + k + 1 ≤ k + 1 by grind)
  have w : wayV false t = if ltF (sub c6 t) t then sub c6 t else t := rfl
  rw [w]
  unfold ltF
  rw [cmp_lt_iff q.1 h.1]
  obtain ⟨f, l, u⟩ := h
  obtain ⟨f', l', u'⟩ := q
  refine ⟨fun hy => ?_, fun hy => ?_⟩
  · rw [decide_eq_false (by grind), if_neg (by simp)]
    exact ⟨f, by grind, by grind⟩
  · rw [decide_eq_true (by grind), if_pos rfl]
    exact ⟨f', by grind, by grind⟩

end Mine
end
section
open PySem PySem.Float64
namespace Mine

theorem toInt_of {x : UInt64} (hx : IsF x) (r : Int) (h0 : 0 ≤ r) (h1 : (r : Rat) - 1 / 4 ≤ rv x) (h2 : rv x ≤ (r : Rat) + 1 / 4) : PySem.Flt.toInt nearestOf x = r ∧ isFinite x = true := by
  obtain ⟨a, m, e, h⟩ := hx
  have hr : ((r.toNat : Nat) : Int) = r := by omega
  have hq : ((r.toNat : Nat) : Rat) = (r : Rat) := by rw [← Rat.intCast_natCast, hr]
  have := nearest_of h r.toNat (by rw [hq]; exact h1) (by rw [hq]; exact h2)
  refine ⟨?_, ?_⟩
  · unfold PySem.Flt.toInt; rw [h]; show nearestOf a m e = r; rw [this, hr]
  · unfold isFinite; rw [h]

/-- all three alike: a grey -/
theorem lev_grey {l : UInt64} {n : Int} (h0 : 0 ≤ n) (h1 : n ≤ 63) (hl : I64 l n) : IsF (levV l c0 c2) ∧ ((1048576 * n : Int) : Rat) - 1 / 4 ≤ rv (levV l c0 c2) ∧ rv (levV l c0 c2) ≤ ((1048576 * n : Int) : Rat) + 1 / 4 := by
  have nq0 : (0 : Rat) ≤ (n : Rat) := Rat.intCast_nonneg.mpr h0
  have nq1 : (n : Rat) ≤ 63 := Rat.intCast_le_intCast.mpr (show n ≤ (63 : Int) by omega)
  have e2n : ((2 * n : Int) : Rat) = 2 * (n : Rat) := by rw [Rat.intCast_mul]; rfl
  obtain ⟨nf, nv⟩ := light_min (S := 2 * n) hl.1 (by rw [hl.2, e2n]; grind) (by omega) (by omega)
  have A := mul_rd c0_rv.1 nf
  rw [c0_rv.2, Rat.zero_mul] at A
  have A' := rd_exact A 0 0 (by decide) (by decide +kernel) (by decide) (by decide)
  have hT : sub (mul c2 c2) c1 = 4613937818241073152 := by decide +kernel
  have T := const_rv (x := 4613937818241073152) (a := false) (m := 6755399441055744) (e := -51) (by with_unfolding_all rfl) 51 rfl 3 (by decide +kernel)
  have Bm := mul_rd A'.1 T.1
  rw [A'.2, Rat.zero_mul] at Bm
  have B' := rd_exact Bm 0 0 (by decide) (by decide +kernel) (by decide) (by decide)
  have C := add_rd hl.1 B'.1
  rw [B'.2, hl.2] at C
  have e6 : (2 : Rat) ^ 6 = 64 := e26
  have C' := rd_exact C n 6 (by decide) (by rw [e6]; grind) (by omega) (by omega)
  have D := mul_rd big_rv.1 C'.1
  rw [big_rv.2, C'.2] at D
  obtain ⟨f, a, b, _⟩ := D 26 (by decide) (by grind) (by grind)
  have ec : ((1048576 * n : Int) : Rat) = 1048576 * (n : Rat) := by rw [Rat.intCast_mul]; rfl
  unfold levV
  rw [hT]
  refine ⟨f, ?_, ?_⟩ <;> rw [ec] <;> grind

/-- what one turn of the law tells -/
structure TurnOk (X : UInt64 × UInt64 × UInt64) (F B W : Int) : Prop where
  front : frontB X.2.2 (turnV X.1) = decide (F ≤ B)
  flag : leF (turnV X.1) c201 = if F ≤ B then decide (W ≤ F) else decide (W ≤ B)
  level : PySem.Flt.toInt nearestOf (levV X.2.1 X.2.2 (wayV (decide (F ≤ B)) (turnV X.1))) = 1048576 * max W (min F B)
  finite : isFinite (levV X.2.1 X.2.2 (wayV (decide (F ≤ B)) (turnV X.1))) = true

theorem mid_eq {M m mid a R : Int} {u v : Rat} (hR : 0 < R) (hu : u = (a : Rat) / (R : Rat)) (hv : v = 1 - u) (hMm : M - m = R) (hmid : mid = m + (R - a)) :
    ((M : Rat) + m) / 2 + ((M : Rat) - m) / 2 * (2 * v - 1) = mid := by
  have Rq : (0 : Rat) < (R : Rat) := Rat.intCast_pos.mpr hR
  have e1 : u * (R : Rat) = (a : Rat) := by rw [hu]; exact Rat.div_mul_cancel (Ne.symm (Rat.ne_of_lt Rq))
  have e2 : (M : Rat) - m = (R : Rat) := by rw [← hMm, Rat.intCast_sub]
  have e3 : (mid : Rat) = m + ((R : Rat) - a) := by rw [hmid, Rat.intCast_add, Rat.intCast_sub]
  rw [e3, e2, hv]; grind

theorem fin_turn {X : UInt64 × UInt64 × UInt64} {F B W mid : Int} {fr : Bool} (hfr : frontB X.2.2 (turnV X.1) = fr) (hF : decide (F ≤ B) = fr) (hfl : leF (turnV X.1) c201 = if F ≤ B then decide (W ≤ F) else decide (W ≤ B))
    (hmid : mid = max W (min F B)) (h0 : 0 ≤ mid) (L : IsF (levV X.2.1 X.2.2 (wayV fr (turnV X.1))) ∧ ((1048576 * mid : Int) : Rat) - 1 / 4 ≤ rv (levV X.2.1 X.2.2 (wayV fr (turnV X.1))) ∧ rv (levV X.2.1 X.2.2 (wayV fr (turnV X.1))) ≤ ((1048576 * mid : Int) : Rat) + 1 / 4) :
    TurnOk X F B W := by
  obtain ⟨f, a, b⟩ := L
  have := toInt_of f _ (by omega) a b
  exact ⟨hfr.trans hF.symm, hfl, by rw [hF, this.1, hmid], by rw [hF]; exact this.2⟩

theorem turn_ok {r g b : UInt64} {F B W : Int} (hr : I64 r F) (hg : I64 g B) (hb : I64 b W) (F0 : 0 ≤ F) (F1 : F ≤ 63) (B0 : 0 ≤ B) (B1 : B ≤ 63) (W0 : 0 ≤ W) (hW : W ≤ max F B) : TurnOk (hls r g b) F B W := by
  have hM := max3_64 hr hg hb
  have hm := min3_64 hr hg hb
  unfold hls
  by_cases hgrey : F = B ∧ B = W
  · obtain ⟨rfl, rfl⟩ := hgrey
    rw [show max (max F F) F = F by omega] at hM
    rw [show min (min F F) F = F by omega] at hm
    generalize max3 r g b = mx at *
    generalize min3 r g b = mn at *
    obtain ⟨-, -, -, lf, lv, -⟩ := parts_ok hM hm F0 (by omega) F1
    have heq : eqF mn mx = true := by rw [eq64 hm hM]; exact decide_eq_true rfl
    simp only [heq, if_true]
    have ht : turnV c0 = c0 := by decide +kernel
    refine fin_turn (fr := true) (mid := F) ?_ (decide_eq_true (by omega)) ?_ (by omega) F0 ?_
    · show frontB c0 (turnV c0) = true
      decide +kernel
    · show leF (turnV c0) c201 = _
      rw [if_pos (Int.le_refl F), decide_eq_true (Int.le_refl F)]
      decide +kernel
    · show IsF (levV (div (add mx mn) c2) c0 (wayV true (turnV c0))) ∧ _
      have hw : wayV true (turnV c0) = c2 := by decide +kernel
      simp only [hw]
      refine lev_grey F0 F1 ⟨lf, ?_⟩
      rw [lv, Rat.intCast_add]; grind
  · have hlt : min (min F B) W < max (max F B) W := by omega
    have hm0 : 0 ≤ min (min F B) W := by omega
    have hM63 : max (max F B) W ≤ 63 := by omega
    generalize hmx : max3 r g b = mx at *
    generalize hmn : min3 r g b = mn at *
    have heq : eqF mn mx = false := by rw [eq64 hm hM]; exact decide_eq_false (by omega)
    obtain ⟨-, hR, -, lf, lv, -⟩ := parts_ok hM hm hm0 (by omega) hM63
    have hs := share_ok hM hm hm0 hlt hM63
    have hs0 := share_pos hm0 hlt hM63 hs
    have qr := hM.sub hr (by omega) (by omega)
    have qg := hM.sub hg (by omega) (by omega)
    have qb := hM.sub hb (by omega) (by omega)
    have er := eq64 hr hM
    have eg := eq64 hg hM
    simp only [heq, Bool.false_eq_true, if_false]
    generalize hsg : (if leF (div (add mx mn) c2) cH = true then div (sub mx mn) (add mx mn) else div (sub mx mn) (sub (sub c2 mx) mn)) = s at *
    generalize hlg : div (add mx mn) c2 = l at *
    generalize hrg : sub mx mn = rg at *
    generalize hqr : sub mx r = dr at *
    generalize hqg : sub mx g = dg at *
    generalize hqb : sub mx b = db at *
    have frontF : ∀ t, frontB s t = (leF c099 t && leF t c301) := fun t => by unfold frontB; rw [hs0, Bool.false_or]
    by_cases hFB : B ≤ F
    · -- red is greatest
      rw [show max (max F B) W = F by omega] at *
      rw [decide_eq_true (show F = F from rfl)] at er
      by_cases hBW : W ≤ B
      · rw [show min (min F B) W = W by omega] at *
        have bc := (quot64 qb.1 hR.1 qb.2 hR.2 (by omega) (by omega) (by omega) (by omega)).2.2 rfl
        have bf := (quot64 qb.1 hR.1 qb.2 hR.2 (by omega) (by omega) (by omega) (by omega)).1.1
        obtain ⟨ga, gz, go⟩ := quot64 qg.1 hR.1 qg.2 hR.2 (by omega) (by omega) (by omega) (by omega)
        have hh : hlsH r g mx rg (div dr rg) (div dg rg) (div db rg) = sub (div db rg) (div dg rg) := by unfold hlsH; rw [er, if_pos rfl]
        rw [hh]
        by_cases hFeB : F = B
        · -- the turn is one
          have gz' := gz (by omega)
          have H : App (sub (div db rg) (div dg rg)) 1 1 := app_to (app_weak (app_sub (app_exact_eq ⟨bf, bc⟩) (app_exact_eq ⟨ga.1, gz'⟩) (by decide +kernel) (by decide +kernel) (by decide +kernel) (by decide +kernel)) (by decide +kernel)) (by decide +kernel)
          have T := turn_pos H (by decide +kernel) (by decide +kernel) (by decide +kernel) (by decide +kernel)
          have Wy := (way_front T (by decide +kernel) (by decide +kernel) (by decide +kernel) (by decide +kernel)).2 (by decide +kernel)
          refine fin_turn (fr := true) (mid := F) ?_ (decide_eq_true (by omega)) ?_ (by omega) F0 ?_
          · show frontB s _ = true
            rw [frontF, (le_app' T c099_rv).1 (by grind), (le_app T c301_rv).1 (by grind)]; rfl
          · rw [if_pos (by omega), decide_eq_true (show W ≤ F by omega)]
            exact (le_app T c201_rv).1 (by grind)
          · exact lev_ok hm0 hlt hM63 lf lv hs Wy (by decide +kernel) (by decide +kernel) (by decide +kernel) (by decide +kernel) (by grind)
        · have hfl : (if F ≤ B then decide (W ≤ F) else decide (W ≤ B)) = true := by rw [if_neg (by omega)]; exact decide_eq_true hBW
          have hfr : decide (F ≤ B) = false := decide_eq_false (by omega)
          have hu1 : ((F - B : Int) : Rat) / ((F - W : Int) : Rat) ≤ 1 := frac_one (by omega) (by omega)
          have hu0 := frac_lo (a := F - B) (b := F - W) (by omega) (by omega) (by omega)
          have hme := mid_eq (M := F) (m := W) (mid := B) (a := F - B) (R := F - W) (u := ((F - B : Int) : Rat) / ((F - W : Int) : Rat)) (v := 1 - ((F - B : Int) : Rat) / ((F - W : Int) : Rat)) (by omega) rfl rfl rfl (by omega)
          have hT : ∃ k, 0 ≤ k ∧ k ≤ 9 ∧ App (turnV (divmod (div (sub (div db rg) (div dg rg)) c6) c1).snd) (1 - ((F - B : Int) : Rat) / ((F - W : Int) : Rat)) k := by
            by_cases hBeW : B = W
            · have go' := go (by omega)
              have R := sub_rd bf ga.1
              rw [bc, go'] at R
              have z : (1 : Rat) - 1 = 0 := by decide +kernel
              rw [z] at R
              have H := rd_exact R 0 0 (by decide +kernel) (by decide +kernel) (by decide +kernel) (by decide +kernel)
              have T := turn_zero H
              have e1 : ((F - B : Int) : Rat) / ((F - W : Int) : Rat) = 1 := by
                rw [hBeW]
                have := Rat.mul_inv_cancel ((F - W : Int) : Rat) (Ne.symm (Rat.ne_of_lt (Rat.intCast_pos.mpr (show 0 < F - W by omega))))
                exact this
              rw [e1, z]
              exact ⟨0, by decide, by decide, app_exact_eq T⟩
            · have hu2 := frac_hi (a := F - B) (b := F - W) (by omega) (by omega) (by omega)
              have H : App (sub (div db rg) (div dg rg)) (1 - ((F - B : Int) : Rat) / ((F - W : Int) : Rat)) 2 := app_weak (app_sub (app_exact_eq ⟨bf, bc⟩) ga (by grind) (by grind) (by decide +kernel) (by decide +kernel)) (by decide +kernel)
              exact ⟨_, by grind, by grind, turn_pos H (by decide +kernel) (by decide +kernel) (by grind) (by grind)⟩
          obtain ⟨k, k0, k1, T⟩ := hT
          have Wy := (way_back T (by grind) (by grind) k0 (by grind)).1 (by grind)
          refine fin_turn (fr := false) (mid := B) ?_ hfr ?_ (by omega) B0 ?_
          · show frontB s _ = false
            rw [frontF, (le_app' T c099_rv).2 (by grind)]; rfl
          · rw [hfl]
            exact (le_app T c201_rv).1 (by grind)
          · exact lev_ok hm0 hlt hM63 lf lv hs Wy (by grind) (by grind) (by grind) (by grind) hme
      · rw [show min (min F B) W = B by omega] at *
        have gc := (quot64 qg.1 hR.1 qg.2 hR.2 (by omega) (by omega) (by omega) (by omega)).2.2 rfl
        have gf := (quot64 qg.1 hR.1 qg.2 hR.2 (by omega) (by omega) (by omega) (by omega)).1.1
        obtain ⟨ba, bz, bo⟩ := quot64 qb.1 hR.1 qb.2 hR.2 (by omega) (by omega) (by omega) (by omega)
        have hh : hlsH r g mx rg (div dr rg) (div dg rg) (div db rg) = sub (div db rg) (div dg rg) := by unfold hlsH; rw [er, if_pos rfl]
        rw [hh]
        have hu0 := frac_pos (a := F - W) (b := F - B) (by omega) (by omega)
        have hu1 := frac_hi (a := F - W) (b := F - B) (by omega) (by omega) (by omega)
        have hme := mid_eq (M := F) (m := B) (mid := W) (a := F - W) (R := F - B) (u := ((F - W : Int) : Rat) / ((F - B : Int) : Rat)) (v := 1 - ((F - W : Int) : Rat) / ((F - B : Int) : Rat)) (by omega) rfl rfl rfl (by omega)
        have H : App (sub (div db rg) (div dg rg)) (((F - W : Int) : Rat) / ((F - B : Int) : Rat) - 1) 2 := app_weak (app_sub ba (app_exact_eq ⟨gf, gc⟩) (by grind) (by grind) (by decide +kernel) (by decide +kernel)) (by decide +kernel)
        have T := turn_neg H (by decide +kernel) (by decide +kernel) (by grind) (by grind)
        have Wy := (way_back T (by grind) (by grind) (by decide +kernel) (by decide +kernel)).2 (by grind)
        refine fin_turn (fr := false) (mid := W) ?_ (decide_eq_false (by omega)) ?_ (by omega) W0 ?_
        · show frontB s _ = false
          rw [frontF, (le_app T c301_rv).2 (by grind), Bool.and_false]
        · rw [if_neg (by omega), decide_eq_false (show ¬ W ≤ B by omega)]
          exact (le_app T c201_rv).2 (by grind)
        · exact lev_ok hm0 hlt hM63 lf lv hs (app_to Wy (show _ = 1 - ((F - W : Int) : Rat) / ((F - B : Int) : Rat) by grind)) (by decide +kernel) (by decide +kernel) (by grind) (by grind) hme
    · -- green is greatest
      rw [show max (max F B) W = B by omega] at *
      rw [decide_eq_false (show ¬ F = B by omega)] at er
      rw [decide_eq_true (show B = B from rfl)] at eg
      have hh : hlsH r g mx rg (div dr rg) (div dg rg) (div db rg) = sub (add c2 (div dr rg)) (div db rg) := by unfold hlsH; rw [er, eg]; rfl
      rw [hh]
      have hfr : decide (F ≤ B) = true := decide_eq_true (by omega)
      by_cases hWF : W ≤ F
      · rw [show min (min F B) W = W by omega] at *
        have bc := (quot64 qb.1 hR.1 qb.2 hR.2 (by omega) (by omega) (by omega) (by omega)).2.2 rfl
        have bf := (quot64 qb.1 hR.1 qb.2 hR.2 (by omega) (by omega) (by omega) (by omega)).1.1
        obtain ⟨ra, rz, ro⟩ := quot64 qr.1 hR.1 qr.2 hR.2 (by omega) (by omega) (by omega) (by omega)
        have hu0 := frac_lo (a := B - F) (b := B - W) (by omega) (by omega) (by omega)
        have hu1 := frac_one (a := B - F) (b := B - W) (by omega) (by omega)
        have hme := mid_eq (M := B) (m := W) (mid := F) (a := B - F) (R := B - W) (u := ((B - F : Int) : Rat) / ((B - W : Int) : Rat)) (v := 1 - ((B - F : Int) : Rat) / ((B - W : Int) : Rat)) (by omega) rfl rfl rfl (by omega)
        have H1 := app_add (app_exact_eq c2_rv) ra (by grind) (by grind) (by decide +kernel) (by decide +kernel)
        have H : App (sub (add c2 (div dr rg)) (div db rg)) (2 + ((B - F : Int) : Rat) / ((B - W : Int) : Rat) - 1) 3 := app_weak (app_sub H1 (app_exact_eq ⟨bf, bc⟩) (by grind) (by grind) (by decide +kernel) (by decide +kernel)) (by decide +kernel)
        have T := turn_pos H (by decide +kernel) (by decide +kernel) (by grind) (by grind)
        have Wy := (way_front T (by grind) (by grind) (by decide +kernel) (by decide +kernel)).2 (by grind)
        refine fin_turn (fr := true) (mid := F) ?_ hfr ?_ (by omega) F0 ?_
        · show frontB s _ = true
          rw [frontF, (le_app' T c099_rv).1 (by grind), (le_app T c301_rv).1 (by grind)]; rfl
        · rw [if_pos (by omega), decide_eq_true hWF]
          exact (le_app T c201_rv).1 (by grind)
        · exact lev_ok hm0 hlt hM63 lf lv hs (app_to Wy (show _ = 1 - ((B - F : Int) : Rat) / ((B - W : Int) : Rat) by grind)) (by decide +kernel) (by decide +kernel) (by grind) (by grind) hme
      · rw [show min (min F B) W = F by omega] at *
        have rc := (quot64 qr.1 hR.1 qr.2 hR.2 (by omega) (by omega) (by omega) (by omega)).2.2 rfl
        have rf := (quot64 qr.1 hR.1 qr.2 hR.2 (by omega) (by omega) (by omega) (by omega)).1.1
        obtain ⟨ba, bz, bo⟩ := quot64 qb.1 hR.1 qb.2 hR.2 (by omega) (by omega) (by omega) (by omega)
        have hu0 := frac_pos (a := B - W) (b := B - F) (by omega) (by omega)
        have hu1 := frac_hi (a := B - W) (b := B - F) (by omega) (by omega) (by omega)
        have hme := mid_eq (M := B) (m := F) (mid := W) (a := B - W) (R := B - F) (u := ((B - W : Int) : Rat) / ((B - F : Int) : Rat)) (v := 1 - ((B - W : Int) : Rat) / ((B - F : Int) : Rat)) (by omega) rfl rfl rfl (by omega)
        have H1 := app_add (app_exact_eq c2_rv) (app_exact_eq ⟨rf, rc⟩) (by decide +kernel) (by decide +kernel) (by decide +kernel) (by decide +kernel)
        have H : App (sub (add c2 (div dr rg)) (div db rg)) (2 + 1 - ((B - W : Int) : Rat) / ((B - F : Int) : Rat)) 3 := app_weak (app_sub H1 ba (by grind) (by grind) (by decide +kernel) (by decide +kernel)) (by decide +kernel)
        have T := turn_pos H (by decide +kernel) (by decide +kernel) (by grind) (by grind)
        have Wy := (way_front T (by grind) (by grind) (by decide +kernel) (by decide +kernel)).1 (by grind)
        refine fin_turn (fr := true) (mid := W) ?_ hfr ?_ (by omega) W0 ?_
        · show frontB s _ = true
          rw [frontF, (le_app' T c099_rv).1 (by grind), (le_app T c301_rv).1 (by grind)]; rfl
        · rw [if_pos (by omega), decide_eq_false hWF]
          exact (le_app T c201_rv).2 (by grind)
        · exact lev_ok hm0 hlt hM63 lf lv hs (app_to Wy (show _ = 1 - ((B - W : Int) : Rat) / ((B - F : Int) : Rat) by grind)) (by decide +kernel) (by decide +kernel) (by grind) (by grind) hme

/-- no divisor of the colour's reckoning is nought -/
theorem divs_ok {r g b : UInt64} {F B W : Int} (hr : I64 r F) (hg : I64 g B) (hb : I64 b W) (F0 : 0 ≤ F) (F1 : F ≤ 63) (B0 : 0 ≤ B) (B1 : B ≤ 63) (W0 : 0 ≤ W) (hW : W ≤ max F B) (hne : eqF (min3 r g b) (max3 r g b) = false) :
    isZero (add (max3 r g b) (min3 r g b)) = false ∧ isZero (sub (max3 r g b) (min3 r g b)) = false ∧ isZero (sub (sub c2 (max3 r g b)) (min3 r g b)) = false := by
  have hM := max3_64 hr hg hb
  have hm := min3_64 hr hg hb
  rw [eq64 hm hM] at hne
  have hne := of_decide_eq_false hne
  obtain ⟨ha, hs, ht, -, -, -⟩ := parts_ok hM hm (by omega) (by omega) (by omega)
  have key : ∀ {x : UInt64} {n : Int}, I64 x n → n ≠ 0 → isZero x = false := fun h hn => by
    rw [isZero_iff h.1, h.2]
    refine decide_eq_false fun h0 => hn ?_
    have : ((0 : Int) : Rat) / 64 = 0 := by decide +kernel
    exact div64_eq.mp (h0.trans this.symm)
  exact ⟨key ha (by omega), key hs (by omega), key ht (by omega)⟩

end Mine
end
section
open PySem PySem.Sre
namespace Mine

/-- the pattern's words -/
def CF : Array Nat := #[14, 4, 0, 8, 4294967295, 24, 5, 0, 4294967295, 2, 1, 16, 70, 16, 76, 16, 65, 16, 71, 16, 83, 16, 32, 16, 40, 17, 0, 24, 6, 0, 4294967295, 20, 41, 1, 17, 1, 16, 41, 1]

/-! ## many steps -/
def it : Nat → M → M
  | 0, m => m
  | n + 1, m => it n m.step
theorem step_done {m : M} (h : m.outcome.isSome = true) : m.step = m := by unfold M.step; rw [if_pos h]
theorem it_done {m : M} (h : m.outcome.isSome = true) : ∀ n, it n m = m
  | 0 => rfl
  | n + 1 => by rw [it, step_done h, it_done h n]
theorem it_add : ∀ (a b : Nat) (m : M), it (a + b) m = it b (it a m)
  | 0, b, m => by rw [Nat.zero_add]; rfl
  | a + 1, b, m => by rw [Nat.succ_add]; exact it_add a b m.step
theorem runFor_it : ∀ (n : Nat) (m : M), M.runFor n m = it n m
  | 0, _ => rfl
  | n + 1, m => by
    unfold M.runFor
    by_cases h : m.outcome.isSome = true
    · rw [if_pos h, it_done h]
    · rw [if_neg h, runFor_it n m.step]; rfl

/-- m comes to m' in at most k steps -/
def To (k : Nat) (m m' : M) : Prop := ∃ n, n ≤ k ∧ it n m = m'
theorem To.refl (m : M) : To 0 m m := ⟨0, Nat.le_refl _, rfl⟩
theorem To.trans {a b : Nat} {m₁ m₂ m₃ : M} (h : To a m₁ m₂) (g : To b m₂ m₃) : To (a + b) m₁ m₃ := by
  obtain ⟨n, hn, e⟩ := h
  obtain ⟨k, hk, f⟩ := g
  exact ⟨n + k, by omega, by rw [it_add, e, f]⟩
theorem To.one {m m' : M} (h : m.step = m') : To 1 m m' := ⟨1, Nat.le_refl _, h⟩
theorem To.mono {a b : Nat} {m m' : M} (h : To a m m') (hab : a ≤ b) : To b m m' := let ⟨n, hn, e⟩ := h; ⟨n, Nat.le_trans hn hab, e⟩

/-! ## the machine's states -/
def St (t : Array Nat) (pc pos handed : Nat) (mk : Array (Option Nat)) (lm li : Int) (fs : List Sre.Frame) (wt : Nat) (ans : Option Bool) (sn : Seen) : M :=
  { code := CF, text := t, lim := t.size, start := 0, pc, pos, handed, marks := mk, lastmark := lm, lastindex := li, frames := fs, weight := wt, answer := ans, seen := sn }


theorem step_exec {t : Array Nat} {pc p hd : Nat} {mk : Array (Option Nat)} {lm li : Int} {fs : List Sre.Frame} {wt : Nat} {sn : Seen} (h3 : pc < CF.size) :
    M.step (St t pc p hd mk lm li fs wt none sn) = M.exec (St t pc p hd mk lm li fs wt none sn) := by
  unfold M.step
  exact (if_neg (by simp [St])).trans (if_pos h3)

theorem word_at {t : Array Nat} {pc p hd : Nat} {mk : Array (Option Nat)} {lm li : Int} {fs : List Sre.Frame} {wt : Nat} {ans : Option Bool} {sn : Seen} (k : Nat) :
    M.word (St t pc p hd mk lm li fs wt ans sn) k = CF.getD (pc + k) 0 := rfl

theorem step_lit {t : Array Nat} {pc p hd k : Nat} {mk : Array (Option Nat)} {lm li : Int} {fs : List Sre.Frame} {wt : Nat} {sn : Seen} (h3 : pc < CF.size) (h1 : CF.getD pc 0 = 16) (h2 : CF.getD (pc + 1) 0 = k) :
    M.step (St t pc p hd mk lm li fs wt none sn) = if t.size ≤ p then St t pc p hd mk lm li fs wt (some false) (sn.add 16) else if t.getD p 0 = k then St t (pc + 2) (p + 1) hd mk lm li fs wt none (sn.add 16) else St t pc p hd mk lm li fs wt (some false) (sn.add 16) := by
  rw [step_exec h3]
  have ho : ops[M.word (St t pc p hd mk lm li fs wt none sn) 0]? = some Op.LITERAL := by rw [word_at, Nat.add_zero, h1]; rfl
  have hw : M.word (St t pc p hd mk lm li fs wt none sn) 0 = 16 := by rw [word_at, Nat.add_zero, h1]
  unfold M.exec
  rw [ho]
  simp only [hw]
  show (if t.size ≤ p then St t pc p hd mk lm li fs wt (some false) (sn.add 16) else _) = _
  by_cases hp : t.size ≤ p
  · rw [if_pos hp, if_pos hp]
  · rw [if_neg hp, if_neg hp]
    have ha : accepts CF pc (t.getD p 0) (sn.add 16) = .ok (t.getD p 0 == k, sn.add 16) := by
      have ho2 : ops[CF.getD pc 0]? = some Op.LITERAL := by rw [h1]; rfl
      unfold accepts
      simp only [ho2, h2]
    have hi : itemWidth CF pc = 2 := by
      have ho2 : ops[CF.getD pc 0]? = some Op.LITERAL := by rw [h1]; rfl
      unfold itemWidth
      simp only [ho2]
    show (match accepts CF pc (t.getD p 0) (sn.add 16) with | .error why => _ | .ok (false, seen) => _ | .ok (true, seen) => { St t pc p hd mk lm li fs wt none (sn.add 16) with seen, pc := pc + itemWidth CF pc, pos := p + 1 }) = _
    rw [ha, hi]
    by_cases hk : t.getD p 0 = k
    · rw [if_pos hk, hk, beq_self_eq_true]; rfl
    · rw [if_neg hk, show (t.getD p 0 == k) = false by simpa using hk]; rfl

end Mine
end
section
open PySem PySem.Sre
namespace Mine

def matchAt (t : Array Nat) : Nat → List Nat → Bool
  | _, [] => true
  | p, k :: ks => decide (p < t.size) && (t.getD p 0 == k) && matchAt t (p + 1) ks
def codesAt : Nat → List Nat → Bool
  | _, [] => true
  | pc, k :: ks => decide (pc < CF.size) && (CF.getD pc 0 == 16) && (CF.getD (pc + 1) 0 == k) && codesAt (pc + 2) ks

section
variable {t : Array Nat} {hd : Nat} {mk : Array (Option Nat)} {lm li : Int} {fs : List Sre.Frame} {wt : Nat}

theorem lits_yes : ∀ (ks : List Nat) (pc p : Nat) (sn : Seen), codesAt pc ks = true → matchAt t p ks = true →
    ∃ sn', To ks.length (St t pc p hd mk lm li fs wt none sn) (St t (pc + 2 * ks.length) (p + ks.length) hd mk lm li fs wt none sn')
  | [], pc, p, sn, _, _ => ⟨sn, To.refl _⟩
  | k :: ks, pc, p, sn, hc, hm => by
    simp only [codesAt, matchAt, Bool.and_eq_true, decide_eq_true_eq, beq_iff_eq] at hc hm
    obtain ⟨⟨⟨h3, h1⟩, h2⟩, hc⟩ := hc
    obtain ⟨⟨hp, hk⟩, hm⟩ := hm
    obtain ⟨sn', T⟩ := lits_yes ks (pc + 2) (p + 1) (sn.add 16) hc hm
    refine ⟨sn', ?_⟩
    have e := step_lit (t := t) (p := p) (hd := hd) (mk := mk) (lm := lm) (li := li) (fs := fs) (wt := wt) (sn := sn) h3 h1 h2
    rw [if_neg (by omega), if_pos hk] at e
    have := (To.one e).trans T
    rw [List.length_cons, show pc + 2 * (ks.length + 1) = pc + 2 + 2 * ks.length by omega, show p + (ks.length + 1) = p + 1 + ks.length by omega]
    exact this.mono (by omega)
theorem lits_no : ∀ (ks : List Nat) (pc p : Nat) (sn : Seen), codesAt pc ks = true → matchAt t p ks = false →
    ∃ pc' p' sn', To ks.length (St t pc p hd mk lm li fs wt none sn) (St t pc' p' hd mk lm li fs wt (some false) sn')
  | [], pc, p, sn, _, h => by cases h
  | k :: ks, pc, p, sn, hc, hm => by
    simp only [codesAt, Bool.and_eq_true, decide_eq_true_eq, beq_iff_eq] at hc
    obtain ⟨⟨⟨h3, h1⟩, h2⟩, hc⟩ := hc
    have e := step_lit (t := t) (p := p) (hd := hd) (mk := mk) (lm := lm) (li := li) (fs := fs) (wt := wt) (sn := sn) h3 h1 h2
    by_cases hp : p < t.size
    · by_cases hk : t.getD p 0 = k
      · rw [if_neg (by omega), if_pos hk] at e
        have hm' : matchAt t (p + 1) ks = false := by simpa [matchAt, hp, hk] using hm
        obtain ⟨pc', p', sn', T⟩ := lits_no ks (pc + 2) (p + 1) (sn.add 16) hc hm'
        exact ⟨pc', p', sn', ((To.one e).trans T).mono (by rw [List.length_cons]; omega)⟩
      · rw [if_neg (by omega), if_neg hk] at e
        exact ⟨_, _, _, (To.one e).mono (by rw [List.length_cons]; omega)⟩
    · rw [if_pos (by omega)] at e
      exact ⟨_, _, _, (To.one e).mono (by rw [List.length_cons]; omega)⟩

/-! ## marks -/
theorem step_mark0 {p : Nat} {sn : Seen} (hl : lm = -1) : M.step (St t 25 p hd mk lm li fs wt none sn) = St t 27 p hd (mk.setIfInBounds 0 (some p)) 0 li fs wt none (sn.add 17) := by
  subst hl
  rw [step_exec (by decide)]
  rfl
theorem step_mark1 {p : Nat} {sn : Seen} (hl : lm = 0) : M.step (St t 34 p hd mk lm li fs wt none sn) = St t 36 p hd (mk.setIfInBounds 1 (some p)) 1 1 fs wt none (sn.add 17) := by
  subst hl
  rw [step_exec (by decide)]
  show M.mark (St t 34 p hd mk 0 li fs wt none (sn.add 17)) 1 = _
  unfold M.mark
  rw [if_pos (by show ((1 : Nat) : Int) ≤ 0 + 1; decide)]
  rfl
theorem step_success {p : Nat} {sn : Seen} : M.step (St t 38 p hd mk lm li fs wt none sn) = St t 38 p p mk lm li fs wt (some true) (sn.add 1) := by
  rw [step_exec (by decide)]
  rfl

/-! ## runs of one letter's kind -/
/-- how many of the next n signs are other than c -/
def runLen (t : Array Nat) (c : Nat) : Nat → Nat → Nat
  | 0, _ => 0
  | n + 1, p => if t.getD p 0 = c then 0 else runLen t c n (p + 1) + 1
theorem runLen_le (t : Array Nat) (c : Nat) : ∀ n p, runLen t c n p ≤ n
  | 0, _ => Nat.le_refl _
  | n + 1, p => by unfold runLen; split; omega; have := runLen_le t c n (p + 1); omega

theorem run_any : ∀ (n p f : Nat) (sn : Seen), run CF t 9 n p f sn = .ok (f + runLen t 10 n p, sn)
  | 0, p, f, sn => rfl
  | n + 1, p, f, sn => by
    have ha : accepts CF 9 (t.getD p 0) sn = .ok (t.getD p 0 != 10, sn) := rfl
    unfold Sre.run
    rw [ha]
    show (if (t.getD p 0 != 10) = true then run CF t 9 n (p + 1) (f + 1) sn else pure (f, sn)) = _
    unfold runLen
    by_cases h : t.getD p 0 = 10
    · rw [if_neg (by simp [h]), if_pos h]; rfl
    · rw [if_pos (by simpa using h), if_neg h, run_any n (p + 1) (f + 1) sn]; congr 2; omega
theorem run_not : ∀ (n p f : Nat) (sn : Seen), run CF t 31 n p f sn = .ok (f + runLen t 41 n p, sn)
  | 0, p, f, sn => rfl
  | n + 1, p, f, sn => by
    have ha : accepts CF 31 (t.getD p 0) sn = .ok (t.getD p 0 != 41, sn) := rfl
    unfold Sre.run
    rw [ha]
    show (if (t.getD p 0 != 41) = true then run CF t 31 n (p + 1) (f + 1) sn else pure (f, sn)) = _
    unfold runLen
    by_cases h : t.getD p 0 = 41
    · rw [if_neg (by simp [h]), if_pos h]; rfl
    · rw [if_pos (by simpa using h), if_neg h, run_not n (p + 1) (f + 1) sn]; congr 2; omega

def back (pc p : Nat) (n : Nat) (lm li : Int) : Sre.Frame := { wait := .giveBack, pc, pos := p, outermost := true, count := (n : Int), kept := { lastmark := lm, lastindex := li } }

theorem step_rep0 {p : Nat} {sn : Seen} (hp : p ≤ t.size) (ht : t.size ≤ 4294967295) (hw : wt ≤ 1000) :
    ∃ sn', M.step (St t 5 p hd mk lm li fs wt none sn) = St t 11 (p + runLen t 10 (t.size - p) p) (p + runLen t 10 (t.size - p) p) mk lm li (back 5 (p + runLen t 10 (t.size - p) p) (runLen t 10 (t.size - p) p) lm li :: fs) (wt + 1) none sn' := by
  refine ⟨((sn.add 24).add 2), ?_⟩
  rw [step_exec (by decide)]
  have hmin : min 4294967295 ((t.size : Int) - (p : Int)).toNat = t.size - p := by omega
  have h0 : ¬ ((((0 : Nat) : Int)) > (t.size : Int) - (p : Int)) := by omega
  have hr : run CF t (5 + 4) (min 4294967295 ((t.size : Int) - (p : Int)).toNat) p 0 ((sn.add 24).add 2) = .ok (runLen t 10 (t.size - p) p, (sn.add 24).add 2) := by
    rw [hmin]; have := run_any (t := t) (t.size - p) p 0 ((sn.add 24).add 2); rw [Nat.zero_add] at this; exact this
  show (if (((0 : Nat) : Int)) > (t.size : Int) - (p : Int) then _ else _) = _
  rw [if_neg h0]
  show (match run CF t (5 + 4) (min 4294967295 ((t.size : Int) - (p : Int)).toNat) p 0 ((sn.add 24).add 2) with | .error why => _ | .ok (n, seen) => _) = _
  rw [hr]
  show (if wt + 1 + 0 > 16777216 then _ else _) = _
  rw [if_neg (by omega)]
  rfl
theorem step_rep1 {p : Nat} {sn : Seen} (hp : p ≤ t.size) (ht : t.size ≤ 4294967295) (hw : wt ≤ 1000) :
    ∃ sn', M.step (St t 27 p hd mk lm li fs wt none sn) = St t 34 (p + runLen t 41 (t.size - p) p) (p + runLen t 41 (t.size - p) p) mk lm li (back 27 (p + runLen t 41 (t.size - p) p) (runLen t 41 (t.size - p) p) lm li :: fs) (wt + 1) none sn' := by
  refine ⟨((sn.add 24).add 20), ?_⟩
  rw [step_exec (by decide)]
  have hmin : min 4294967295 ((t.size : Int) - (p : Int)).toNat = t.size - p := by omega
  have h0 : ¬ ((((0 : Nat) : Int)) > (t.size : Int) - (p : Int)) := by omega
  have hr : run CF t (27 + 4) (min 4294967295 ((t.size : Int) - (p : Int)).toNat) p 0 ((sn.add 24).add 20) = .ok (runLen t 41 (t.size - p) p, (sn.add 24).add 20) := by
    rw [hmin]; have := run_not (t := t) (t.size - p) p 0 ((sn.add 24).add 20); rw [Nat.zero_add] at this; exact this
  show (if (((0 : Nat) : Int)) > (t.size : Int) - (p : Int) then _ else _) = _
  rw [if_neg h0]
  show (match run CF t (27 + 4) (min 4294967295 ((t.size : Int) - (p : Int)).toNat) p 0 ((sn.add 24).add 20) with | .error why => _ | .ok (n, seen) => _) = _
  rw [hr]
  show (if wt + 1 + 0 > 16777216 then _ else _) = _
  rw [if_neg (by omega)]
  rfl

/-! ## giving back -/
theorem step_back_yes {pc p pc' p' n : Nat} {lm' li' : Int} {sn : Seen} : M.step (St t pc p hd mk lm li (back pc' p' n lm' li' :: fs) (wt + 1) (some true) sn) = St t pc' p' hd mk lm li fs wt (some true) sn := rfl
theorem step_end_yes {pc p : Nat} {sn : Seen} : M.step (St t pc p hd mk lm li [] wt (some true) sn) = { St t pc p hd mk lm li [] wt (some true) sn with outcome := some .matched } := rfl
theorem step_back_out {pc p pc' p' : Nat} {lm' li' : Int} {sn : Seen} (hc : CF.getD (pc' + 2) 0 = 0) : M.step (St t pc p hd mk lm li (back pc' p' 0 lm' li' :: fs) (wt + 1) (some false) sn) = St t pc' p' hd mk lm' li' fs wt (some false) sn := by
  have e : M.step (St t pc p hd mk lm li (back pc' p' 0 lm' li' :: fs) (wt + 1) (some false) sn) = (if ((0 : Nat) : Int) - 1 < ((CF.getD (pc' + 2) 0 : Nat) : Int) then St t pc' p' hd mk lm' li' fs wt (some false) sn else M.afterRun { St t pc' p' hd mk lm' li' fs wt none sn with pos := p' - 1 } .giveBack (((0 : Nat) : Int) - 1) { lastmark := lm', lastindex := li' }) := rfl
  rw [e, if_pos (by rw [hc]; decide)]
theorem step_back_again {pc p pc' p' n : Nat} {lm' li' : Int} {sn : Seen} (hc : CF.getD (pc' + 2) 0 = 0) (hw : wt ≤ 1000) :
    M.step (St t pc p hd mk lm li (back pc' (p' + 1) (n + 1) lm' li' :: fs) (wt + 1) (some false) sn) = St t (pc' + 1 + CF.getD (pc' + 1) 0) p' p' mk lm' li' (back pc' p' n lm' li' :: fs) (wt + 1) none sn := by
  show (if ((n + 1 : Nat) : Int) - 1 < ((CF.getD (pc' + 2) 0 : Nat) : Int) then _ else _) = _
  rw [if_neg (by rw [hc]; omega)]
  show (if wt + 1 - 1 + 1 + 0 > 16777216 then _ else _) = _
  rw [if_neg (by omega)]
  have e : ((n + 1 : Nat) : Int) - 1 = (n : Int) := by omega
  unfold back M.frame
  rw [e]
  rfl
end

end Mine
end
section
open PySem PySem.Sre
namespace Mine

def FL : List Nat := [70, 76, 65, 71, 83, 32, 40]
/-- the place of the first shut bracket from p on, or the end -/
def shut (t : Array Nat) (p : Nat) : Nat := p + runLen t 41 (t.size - p) p
def good (t : Array Nat) (p : Nat) : Prop := matchAt t p FL = true ∧ shut t (p + 7) < t.size

theorem runLen_all (t : Array Nat) (c : Nat) : ∀ n p, (runLen t c n p < n → t.getD (p + runLen t c n p) 0 = c) ∧ ∀ i, i < runLen t c n p → t.getD (p + i) 0 ≠ c
  | 0, p => ⟨fun h => by simp [runLen] at h, fun i hi => by simp [runLen] at hi⟩
  | n + 1, p => by
    unfold runLen
    by_cases h : t.getD p 0 = c
    · rw [if_pos h]
      exact ⟨fun _ => h, fun i hi => by omega⟩
    · rw [if_neg h]
      obtain ⟨a, b⟩ := runLen_all t c n (p + 1)
      refine ⟨fun hh => ?_, fun i hi => ?_⟩
      · have := a (by omega)
        rwa [show p + 1 + runLen t c n (p + 1) = p + (runLen t c n (p + 1) + 1) by omega] at this
      · cases i with
        | zero => exact h
        | succ i =>
          have := b i (by omega)
          rwa [show p + 1 + i = p + (i + 1) by omega] at this

theorem matchAt_room (t : Array Nat) : ∀ (ks : List Nat) (p : Nat), matchAt t p ks = true → p + ks.length ≤ t.size ∨ ks = []
  | [], _, _ => .inr rfl
  | [k], p, h => by
    simp only [matchAt, Bool.and_eq_true, decide_eq_true_eq] at h
    left; simp only [List.length_cons, List.length_nil]; omega
  | k :: k' :: ks, p, h => by
    have h' : matchAt t (p + 1) (k' :: ks) = true := by
      rw [matchAt, Bool.and_eq_true] at h; exact h.2
    rcases matchAt_room t (k' :: ks) (p + 1) h' with h | h
    · left; simp only [List.length_cons] at h ⊢; omega
    · cases h

section
variable {t : Array Nat} {hd : Nat} {mk : Array (Option Nat)} {fs : List Sre.Frame} {wt : Nat}

theorem inner_yes {p : Nat} {sn : Seen} (hg : good t p) (ht : t.size ≤ 4294967295) (hw : wt ≤ 900) :
    ∃ sn' pc' p', To 14 (St t 11 p hd mk (-1) (-1) fs wt none sn) (St t pc' p' (shut t (p + 7) + 1) ((mk.setIfInBounds 0 (some (p + 7))).setIfInBounds 1 (some (shut t (p + 7)))) 1 1 fs wt (some true) sn') := by
  obtain ⟨hm, hs⟩ := hg
  have hroom : p + 7 ≤ t.size := by
    rcases matchAt_room t FL p hm with h | h
    · exact h
    · cases h
  obtain ⟨s1, T1⟩ := lits_yes (hd := hd) (mk := mk) (lm := -1) (li := -1) (fs := fs) (wt := wt) FL 11 p sn (by decide) hm
  have T2 := To.one (step_mark0 (t := t) (hd := hd) (mk := mk) (lm := -1) (li := -1) (fs := fs) (wt := wt) (p := p + 7) (sn := s1) rfl)
  obtain ⟨s3, e3⟩ := step_rep1 (t := t) (hd := hd) (mk := mk.setIfInBounds 0 (some (p + 7))) (lm := 0) (li := -1) (fs := fs) (wt := wt) (p := p + 7) (sn := s1.add 17) hroom ht (by omega)
  have hq : p + 7 + runLen t 41 (t.size - (p + 7)) (p + 7) = shut t (p + 7) := rfl
  rw [hq] at e3
  generalize hfr : back 27 (shut t (p + 7)) (runLen t 41 (t.size - (p + 7)) (p + 7)) 0 (-1) = fr at e3
  have T4 := To.one (step_mark1 (t := t) (hd := shut t (p + 7)) (mk := mk.setIfInBounds 0 (some (p + 7))) (lm := 0) (li := -1) (fs := fr :: fs) (wt := wt + 1) (p := shut t (p + 7)) (sn := s3) rfl)
  have e5 := step_lit (t := t) (pc := 36) (p := shut t (p + 7)) (hd := shut t (p + 7)) (k := 41) (mk := (mk.setIfInBounds 0 (some (p + 7))).setIfInBounds 1 (some (shut t (p + 7)))) (lm := 1) (li := 1) (fs := fr :: fs) (wt := wt + 1) (sn := s3.add 17) (by decide) (by decide) (by decide)
  rw [if_neg (by omega), if_pos] at e5
  · have T6 := To.one (step_success (t := t) (hd := shut t (p + 7)) (mk := (mk.setIfInBounds 0 (some (p + 7))).setIfInBounds 1 (some (shut t (p + 7)))) (lm := 1) (li := 1) (fs := fr :: fs) (wt := wt + 1) (p := shut t (p + 7) + 1) (sn := (s3.add 17).add 16))
    subst hfr
    have T7 := To.one (step_back_yes (t := t) (hd := shut t (p + 7) + 1) (mk := (mk.setIfInBounds 0 (some (p + 7))).setIfInBounds 1 (some (shut t (p + 7)))) (lm := 1) (li := 1) (fs := fs) (wt := wt) (pc := 38) (p := shut t (p + 7) + 1) (pc' := 27) (p' := shut t (p + 7)) (n := runLen t 41 (t.size - (p + 7)) (p + 7)) (lm' := 0) (li' := -1) (sn := ((s3.add 17).add 16).add 1))
    exact ⟨_, _, _, ((((((T1.trans T2).trans (To.one e3)).trans T4).trans (To.one e5)).trans T6).trans T7).mono (by decide)⟩
  · have := (runLen_all t 41 (t.size - (p + 7)) (p + 7)).1 (by rw [← hq] at hs; omega)
    rw [hq] at this
    exact this

/-- nothing shuts it: the inner run gives all back -/
theorem inner_back {s : Nat} (hno : ∀ j, s ≤ j → j < t.size → t.getD j 0 ≠ 41) (hw : wt ≤ 900) : ∀ (n hd : Nat) (mk : Array (Option Nat)) (sn : Seen), mk.size = 2 → s + n ≤ t.size →
    ∃ pc' p' hd' mk' lm' li' sn', To (3 * n + 3) (St t 34 (s + n) hd mk 0 (-1) (back 27 (s + n) n 0 (-1) :: fs) (wt + 1) none sn) (St t pc' p' hd' mk' lm' li' fs wt (some false) sn') ∧ mk'.size = 2 := by
  intro n
  induction n with
  | zero =>
    intro hd mk sn hmk hle
    have T4 := To.one (step_mark1 (t := t) (hd := hd) (mk := mk) (lm := 0) (li := -1) (fs := back 27 (s + 0) 0 0 (-1) :: fs) (wt := wt + 1) (p := s + 0) (sn := sn) rfl)
    have e5 := step_lit (t := t) (pc := 36) (p := s + 0) (hd := hd) (k := 41) (mk := mk.setIfInBounds 1 (some (s + 0))) (lm := 1) (li := 1) (fs := back 27 (s + 0) 0 0 (-1) :: fs) (wt := wt + 1) (sn := sn.add 17) (by decide) (by decide) (by decide)
    have e5' : M.step (St t 36 (s + 0) hd (mk.setIfInBounds 1 (some (s + 0))) 1 1 (back 27 (s + 0) 0 0 (-1) :: fs) (wt + 1) none (sn.add 17)) = St t 36 (s + 0) hd (mk.setIfInBounds 1 (some (s + 0))) 1 1 (back 27 (s + 0) 0 0 (-1) :: fs) (wt + 1) (some false) ((sn.add 17).add 16) := by
      rw [e5]
      by_cases h : t.size ≤ s + 0
      · rw [if_pos h]
      · rw [if_neg h, if_neg (hno _ (by omega) (by omega))]
    have T6 := To.one (step_back_out (t := t) (hd := hd) (mk := mk.setIfInBounds 1 (some (s + 0))) (lm := 1) (li := 1) (fs := fs) (wt := wt) (pc := 36) (p := s + 0) (pc' := 27) (p' := s + 0) (lm' := 0) (li' := -1) (sn := (sn.add 17).add 16) (by decide))
    exact ⟨_, _, _, _, _, _, _, ((T4.trans (To.one e5')).trans T6).mono (by omega), by rw [Array.size_setIfInBounds]; exact hmk⟩
  | succ n ih =>
    intro hd mk sn hmk hle
    have T4 := To.one (step_mark1 (t := t) (hd := hd) (mk := mk) (lm := 0) (li := -1) (fs := back 27 (s + (n + 1)) (n + 1) 0 (-1) :: fs) (wt := wt + 1) (p := s + (n + 1)) (sn := sn) rfl)
    have e5 := step_lit (t := t) (pc := 36) (p := s + (n + 1)) (hd := hd) (k := 41) (mk := mk.setIfInBounds 1 (some (s + (n + 1)))) (lm := 1) (li := 1) (fs := back 27 (s + (n + 1)) (n + 1) 0 (-1) :: fs) (wt := wt + 1) (sn := sn.add 17) (by decide) (by decide) (by decide)
    have e5' : M.step (St t 36 (s + (n + 1)) hd (mk.setIfInBounds 1 (some (s + (n + 1)))) 1 1 (back 27 (s + (n + 1)) (n + 1) 0 (-1) :: fs) (wt + 1) none (sn.add 17)) = St t 36 (s + (n + 1)) hd (mk.setIfInBounds 1 (some (s + (n + 1)))) 1 1 (back 27 (s + (n + 1)) (n + 1) 0 (-1) :: fs) (wt + 1) (some false) ((sn.add 17).add 16) := by
      rw [e5]
      by_cases h : t.size ≤ s + (n + 1)
      · rw [if_pos h]
      · rw [if_neg h, if_neg (hno _ (by omega) (by omega))]
    have T6 := To.one (step_back_again (t := t) (hd := hd) (mk := mk.setIfInBounds 1 (some (s + (n + 1)))) (lm := 1) (li := 1) (fs := fs) (wt := wt) (pc := 36) (p := s + (n + 1)) (pc' := 27) (p' := s + n) (n := n) (lm' := 0) (li' := -1) (sn := (sn.add 17).add 16) (by decide) (by omega))
    obtain ⟨pc', p', hd', mk', lm', li', sn', T, hk⟩ := ih (s + n) (mk.setIfInBounds 1 (some (s + (n + 1)))) ((sn.add 17).add 16) (by rw [Array.size_setIfInBounds]; exact hmk) (by omega)
    exact ⟨pc', p', hd', mk', lm', li', sn', (((T4.trans (To.one e5')).trans T6).trans T).mono (by omega), hk⟩

theorem inner_no {p : Nat} {sn : Seen} (hg : ¬ good t p) (hmk : mk.size = 2) (ht : t.size ≤ 4294967295) (hw : wt ≤ 900) :
    ∃ pc' p' hd' mk' lm' li' sn', To (3 * t.size + 20) (St t 11 p hd mk (-1) (-1) fs wt none sn) (St t pc' p' hd' mk' lm' li' fs wt (some false) sn') ∧ mk'.size = 2 := by
  by_cases hm : matchAt t p FL = true
  · have hroom : p + 7 ≤ t.size := by
      rcases matchAt_room t FL p hm with h | h
      · exact h
      · cases h
    have hs : ¬ shut t (p + 7) < t.size := fun h => hg ⟨hm, h⟩
    have hle := runLen_le t 41 (t.size - (p + 7)) (p + 7)
    have hall := (runLen_all t 41 (t.size - (p + 7)) (p + 7)).2
    have hn : runLen t 41 (t.size - (p + 7)) (p + 7) = t.size - (p + 7) := by unfold shut at hs; omega
    obtain ⟨s1, T1⟩ := lits_yes (hd := hd) (mk := mk) (lm := -1) (li := -1) (fs := fs) (wt := wt) FL 11 p sn (by decide) hm
    have T2 := To.one (step_mark0 (t := t) (hd := hd) (mk := mk) (lm := -1) (li := -1) (fs := fs) (wt := wt) (p := p + 7) (sn := s1) rfl)
    obtain ⟨s3, e3⟩ := step_rep1 (t := t) (hd := hd) (mk := mk.setIfInBounds 0 (some (p + 7))) (lm := 0) (li := -1) (fs := fs) (wt := wt) (p := p + 7) (sn := s1.add 17) hroom ht (by omega)
    rw [hn] at e3 hall
    obtain ⟨pc', p', hd', mk', lm', li', sn', T, hk⟩ := inner_back (t := t) (fs := fs) (wt := wt) (s := p + 7) (fun j h1 h2 => by
      have := hall (j - (p + 7)) (by omega)
      rwa [show p + 7 + (j - (p + 7)) = j by omega] at this) hw (t.size - (p + 7)) (p + 7 + (t.size - (p + 7))) (mk.setIfInBounds 0 (some (p + 7))) s3 (by rw [Array.size_setIfInBounds]; exact hmk) (by omega)
    exact ⟨pc', p', hd', mk', lm', li', sn', (((T1.trans T2).trans (To.one e3)).trans T).mono (by show 7 + 1 + 1 + (3 * (t.size - (p + 7)) + 3) ≤ _; omega), hk⟩
  · obtain ⟨pc', p', sn', T⟩ := lits_no (t := t) (hd := hd) (mk := mk) (lm := -1) (li := -1) (fs := fs) (wt := wt) FL 11 p sn (by decide) (by simpa using hm)
    exact ⟨pc', p', _, _, _, _, sn', T.mono (by show 7 ≤ _; omega), hmk⟩

/-- what the machine has found -/
structure Found (t : Array Nat) (p : Nat) (m : M) : Prop where
  outcome : m.outcome = some .matched
  mark0 : m.marks.getD 0 none = some (p + 7)
  mark1 : m.marks.getD 1 none = some (shut t (p + 7))
  lastmark : m.lastmark = 1
  lastindex : m.lastindex = 1
  start : m.start = 0
  handed : m.handed = shut t (p + 7) + 1

theorem outer_ok {p : Nat} (hg : good t p) (ht : t.size ≤ 4294967295) : ∀ (k hd : Nat) (mk : Array (Option Nat)) (sn : Seen), mk.size = 2 → (∀ j, p < j → j ≤ p + k → ¬ good t j) →
    ∃ m', To ((k + 1) * (3 * t.size + 30)) (St t 11 (p + k) hd mk (-1) (-1) [back 5 (p + k) (p + k) (-1) (-1)] 1 none sn) m' ∧ Found t p m' := by
  intro k
  induction k with
  | zero =>
    intro hd mk sn hmk _
    obtain ⟨s1, pc1, p1, T1⟩ := inner_yes (t := t) (hd := hd) (mk := mk) (fs := [back 5 p p (-1) (-1)]) (wt := 1) (sn := sn) hg ht (by decide)
    have T2 := To.one (step_back_yes (t := t) (hd := shut t (p + 7) + 1) (mk := (mk.setIfInBounds 0 (some (p + 7))).setIfInBounds 1 (some (shut t (p + 7)))) (lm := 1) (li := 1) (fs := []) (wt := 0) (pc := pc1) (p := p1) (pc' := 5) (p' := p) (n := p) (lm' := -1) (li' := -1) (sn := s1))
    have T3 := To.one (step_end_yes (t := t) (hd := shut t (p + 7) + 1) (mk := (mk.setIfInBounds 0 (some (p + 7))).setIfInBounds 1 (some (shut t (p + 7)))) (lm := 1) (li := 1) (wt := 0) (pc := 5) (p := p) (sn := s1))
    refine ⟨_, ((T1.trans T2).trans T3).mono (by omega), ⟨rfl, ?_, ?_, rfl, rfl, rfl, rfl⟩⟩
    · show ((mk.setIfInBounds 0 (some (p + 7))).setIfInBounds 1 (some (shut t (p + 7)))).getD 0 none = _
      simp [Array.getD_eq_getD_getElem?, hmk]
    · show ((mk.setIfInBounds 0 (some (p + 7))).setIfInBounds 1 (some (shut t (p + 7)))).getD 1 none = _
      simp [Array.getD_eq_getD_getElem?, hmk]
  | succ k ih =>
    intro hd mk sn hmk hno
    obtain ⟨pc', p', hd', mk', lm', li', sn', T, hk⟩ := inner_no (t := t) (hd := hd) (mk := mk) (fs := [back 5 (p + (k + 1)) (p + (k + 1)) (-1) (-1)]) (wt := 1) (sn := sn) (hno (p + (k + 1)) (by omega) (by omega)) hmk ht (by decide)
    have T2 := To.one (step_back_again (t := t) (hd := hd') (mk := mk') (lm := lm') (li := li') (fs := []) (wt := 0) (pc := pc') (p := p') (pc' := 5) (p' := p + k) (n := p + k) (lm' := -1) (li' := -1) (sn := sn') (by decide) (by decide))
    obtain ⟨m', T3, hf⟩ := ih (p + k) mk' sn' hk (fun j h1 h2 => hno j h1 (by omega))
    refine ⟨m', ((T.trans T2).trans T3).mono ?_, hf⟩
    have e : (k + 1 + 1) * (3 * t.size + 30) = (k + 1) * (3 * t.size + 30) + (3 * t.size + 30) := by rw [Nat.succ_mul]
    rw [e]
    omega
end

theorem match_ok {t : Array Nat} {p : Nat} (h8 : 8 ≤ t.size) (ht : t.size ≤ 1000000) (hp : p ≤ runLen t 10 t.size 0) (hg : good t p) (hno : ∀ j, p < j → j ≤ runLen t 10 t.size 0 → ¬ good t j) :
    ∃ m', To 1000000000000000 (forMatch CF t 1 0 t.size false false) m' ∧ Found t p m' := by
  have e0 : forMatch CF t 1 0 t.size false false = St t 5 0 0 #[none, none] (-1) (-1) [] 0 none (({} : Seen).add 14) := by
    have hdr : header CF = (8, 5) := by decide +kernel
    show (if ((header CF).1 != 0 && decide (0 ≤ t.size) && decide (t.size - 0 < (header CF).1)) = true then _ else _) = _
    rw [hdr]
    rw [if_neg (by simp; omega)]
    rfl
  obtain ⟨s1, e1⟩ := step_rep0 (t := t) (hd := 0) (mk := #[none, none]) (lm := -1) (li := -1) (fs := []) (wt := 0) (p := 0) (sn := ({} : Seen).add 14) (by omega) (by omega) (by decide)
  rw [Nat.sub_zero, Nat.zero_add, Nat.zero_add] at e1
  have hle := runLen_le t 10 t.size 0
  obtain ⟨m', T, hf⟩ := outer_ok (t := t) hg (by omega) (runLen t 10 t.size 0 - p) (runLen t 10 t.size 0) #[none, none] s1 rfl (fun j h1 h2 => hno j h1 (by omega))
  rw [show p + (runLen t 10 t.size 0 - p) = runLen t 10 t.size 0 by omega] at T
  refine ⟨m', ?_, hf⟩
  rw [e0]
  refine ((To.one e1).trans T).mono ?_
  have h1 : runLen t 10 t.size 0 - p + 1 ≤ 1000001 := by omega
  have h2 : 3 * t.size + 30 ≤ 3000030 := by omega
  have := Nat.mul_le_mul h1 h2
  omega

end Mine
end
section
open PySem PySem.W PyProof.Rows
namespace Mine
set_option maxRecDepth 100000 in
set_option maxHeartbeats 8000000 in
open_top hd for PySem.Challenge.rw_wu0002_01
end Mine
end
section
open PySem PySem.W PySem.Calls PyProof.Rows
namespace Mine

/-- what is known of the top at the law's call -/
structure Gd (w : World) (hb : Heap) (mg mb : Str → Option Value) (mean : ExcName → Option Value) : Prop where
  KX : (hd.heap_39 w.params).In hb
  X : Flt.MathXP hd.view_39 mg hb
  V : LooseAre [] mg hb
  GL : Glob 0 mg mb (List.map itemOf (recsOf hd.view_39)) (scalarsOf [] ++ constsW hd.view_39) [] (namesW hd.view_39 [Str.ofString "Flags"]) hb
  T : Top hd.view_39 (looseW hd.view_39 [Str.ofString "Flags"]) mean mg mb hb
  K0 : Below callerA hb [] hb

abbrev PG : Program := Challenge.rw_wu0002_01.row.prog
/-- the law's own frame -/
structure InLaw (env : Env) (L : Addr) : Prop where
  frame : env.frame = some L
  kind : env.scope.kind = .function

end Mine
end
section
open PySem PySem.W PySem.Calls PyProof.Rows
namespace Mine

section
variable {prog : Program} {w : World} {A : Around} {E : Value → Shared → Prop} {s : Shared} {Q : Value → Shared → Prop} {x y z : UInt64} {t u v : Tok} {h₀ : Heap} {L : Addr} {m : Str → Option Value} {news : List (Addr × Obj)}

theorem ltV_ff (a b : UInt64) (t u : Tok) : Flt.ltV (.float a t) (.float b u) = ltF a b := rfl

theorem max_three_ff (hh : A.handled = none) (F : Fr h₀ L s.heap m) (N : News h₀ L s.heap news)
    (h : ∀ h' tk k, Fr h₀ L h' m → News h₀ L h' news → Q (.float (max3 x y z) k) { s with heap := h', toks := tk }) :
    wpAny (model prog w) A (call (.builtin "max") [.float x t, .float y u, .float z v]) Q E s := by
  have hT : (s.heap.push { cls := .type "tuple", data := .seq #[.float x t, .float y u, .float z v] }).IsTuple s.heap.objs.size #[.float x t, .float y u, .float z v] := ⟨_, Heap.get?_push_size _ rfl, rfl, 0, rfl⟩
  refine call_max_three (wpAny_pyIter_tuple hT ?_)
  have hsz : (s.heap.push { cls := .type "tuple", data := .seq #[.float x t, .float y u, .float z v] }).objs.size = s.heap.objs.size + 1 := Heap.size_push ..
  refine ⟨_, [_, s.heap.objs.size], [_], _, _, _, _, rfl, Walks.tuple (A := A.in1) hh _ s.heap.objs.size (by rw [hsz]; exact Nat.ne_of_lt (Nat.lt_succ_self _)) #[.float x t, .float y u, .float z v],
    ⟨⟨_, Heap.get?_push_size _ rfl, rfl, rfl⟩, hT.push _⟩, fun d hd => ?_, by simp, Flt.cmpOf_gt #[.float x t, .float y u, .float z v] (by
      intro a ha
      simp only [List.mem_toArray, List.mem_cons, List.not_mem_nil, or_false] at ha
      rcases ha with rfl | rfl | rfl <;> exact .float _ _), fun r h' tk hP hk => ?_⟩
  · show d < ((s.heap.push _).push _).objs.size
    rw [Heap.size_push, hsz]
    rcases List.mem_cons.mp hd with rfl | hd
    · rw [hsz]; exact Nat.lt_succ_self _
    · rcases List.mem_cons.mp hd with rfl | hd
      · exact Nat.lt_succ_of_lt (Nat.lt_succ_self _)
      · cases hd
  · have hold : ∀ d o, s.heap.get? d = some o → h'.get? d = some o := fun d o e => by
      refine hk d o (fun hm => ?_) (Heap.get?_push_of_some _ (Heap.get?_push_of_some _ e))
      rcases List.mem_cons.mp hm with e1 | hm
      · have := Heap.lt_size e; rw [e1, hsz] at this; exact Nat.lt_irrefl _ (Nat.lt_of_succ_lt this)
      · cases hm
    have hv : ∃ k, r = .float (max3 x y z) k := by
      unfold max3
      cases c1 : ltF x y <;> cases c2 : ltF y z <;> cases c3 : ltF x z <;> simp [argBest, ltV_ff, c1, c2, c3] at hP ⊢ <;> simp [← hP]
    obtain ⟨k, rfl⟩ := hv
    exact h h' tk k (F.grownK hold) (N.grown hold)

theorem min_three_ff (hh : A.handled = none) (F : Fr h₀ L s.heap m) (N : News h₀ L s.heap news)
    (h : ∀ h' tk k, Fr h₀ L h' m → News h₀ L h' news → Q (.float (min3 x y z) k) { s with heap := h', toks := tk }) :
    wpAny (model prog w) A (call (.builtin "min") [.float x t, .float y u, .float z v]) Q E s := by
  have hT : (s.heap.push { cls := .type "tuple", data := .seq #[.float x t, .float y u, .float z v] }).IsTuple s.heap.objs.size #[.float x t, .float y u, .float z v] := ⟨_, Heap.get?_push_size _ rfl, rfl, 0, rfl⟩
  refine call_min_three (wpAny_pyIter_tuple hT ?_)
  have hsz : (s.heap.push { cls := .type "tuple", data := .seq #[.float x t, .float y u, .float z v] }).objs.size = s.heap.objs.size + 1 := Heap.size_push ..
  refine ⟨_, [_, s.heap.objs.size], [_], _, _, _, _, rfl, Walks.tuple (A := A.in1) hh _ s.heap.objs.size (by rw [hsz]; exact Nat.ne_of_lt (Nat.lt_succ_self _)) #[.float x t, .float y u, .float z v],
    ⟨⟨_, Heap.get?_push_size _ rfl, rfl, rfl⟩, hT.push _⟩, fun d hd => ?_, by simp, Flt.cmpOf_lt #[.float x t, .float y u, .float z v] (by
      intro a ha
      simp only [List.mem_toArray, List.mem_cons, List.not_mem_nil, or_false] at ha
      rcases ha with rfl | rfl | rfl <;> exact .float _ _), fun r h' tk hP hk => ?_⟩
  · show d < ((s.heap.push _).push _).objs.size
    rw [Heap.size_push, hsz]
    rcases List.mem_cons.mp hd with rfl | hd
    · rw [hsz]; exact Nat.lt_succ_self _
    · rcases List.mem_cons.mp hd with rfl | hd
      · exact Nat.lt_succ_of_lt (Nat.lt_succ_self _)
      · cases hd
  · have hold : ∀ d o, s.heap.get? d = some o → h'.get? d = some o := fun d o e => by
      refine hk d o (fun hm => ?_) (Heap.get?_push_of_some _ (Heap.get?_push_of_some _ e))
      rcases List.mem_cons.mp hm with e1 | hm
      · have := Heap.lt_size e; rw [e1, hsz] at this; exact Nat.lt_irrefl _ (Nat.lt_of_succ_lt this)
      · cases hm
    have hv : ∃ k, r = .float (min3 x y z) k := by
      unfold min3
      cases c1 : ltF y x <;> cases c2 : ltF z y <;> cases c3 : ltF z x <;> simp [argBest, ltV_ff, c1, c2, c3] at hP ⊢ <;> simp [← hP]
    obtain ⟨k, rfl⟩ := hv
    exact h h' tk k (F.grownK hold) (N.grown hold)
end

end Mine
end
section
open PySem PySem.W PySem.Calls PyProof.Rows
namespace Mine
theorem no_zero {x : UInt64} (h : Float64.isZero x = true) (g : Float64.isZero x = false) : False := by rw [h] at g; cases g
theorem rgb_end {hb : Heap} {L : Addr} {m : Str → Option Value} {s : Shared} {news : List (Addr × Obj)} {Q : Value → Shared → Prop} {x y z v1 v2 v3 : UInt64} {t1 t2 t3 : Tok} {a : Addr} {h' : Heap} {tk : Nat}
    (h : ∀ a h' tk t1 t2 t3, Fr hb L h' m → News hb L h' ((a, { cls := .type "tuple", data := .seq #[.float (hls x y z).1 t1, .float (hls x y z).2.1 t2, .float (hls x y z).2.2 t3] }) :: news) →
      (∀ p ∈ news, p.1 < a) → Q (.ref a) { s with heap := h', toks := tk })
    (e : hls x y z = (v1, v2, v3)) (F : Fr hb L h' m) (N : News hb L h' ((a, { cls := .type "tuple", data := .seq #[.float v1 t1, .float v2 t2, .float v3 t3] }) :: news)) (l : ∀ p ∈ news, p.1 < a) :
    Q (.ref a) { s with heap := h', toks := tk } := by
  refine h a h' tk t1 t2 t3 F ?_ l
  rw [e]; exact N
set_option maxRecDepth 100000 in
set_option maxHeartbeats 8000000 in
theorem rgb_call {w : World} {hb : Heap} {mg mb : Str → Option Value} {mean : ExcName → Option Value} {env : Env} {L : Addr} {m : Str → Option Value} {s : Shared} {news : List (Addr × Obj)}
    {E : Value → Shared → Prop} {Q : Value → Shared → Prop} {x y z : UInt64} {tx ty tz : Tok}
    (G : Gd w hb mg mb mean) (hl : InLaw env L) (F : Fr hb L s.heap m) (N : News hb L s.heap news)
    (hz : eqF (min3 x y z) (max3 x y z) = false → Float64.isZero (Float64.add (max3 x y z) (min3 x y z)) = false ∧ Float64.isZero (Float64.sub (max3 x y z) (min3 x y z)) = false ∧ Float64.isZero (Float64.sub (Float64.sub c2 (max3 x y z)) (min3 x y z)) = false)
    (h : ∀ a h' tk t1 t2 t3, Fr hb L h' m → News hb L h' ((a, { cls := .type "tuple", data := .seq #[.float (hls x y z).1 t1, .float (hls x y z).2.1 t2, .float (hls x y z).2.2 t3] }) :: news) →
      (∀ p ∈ news, p.1 < a) → Q (.ref a) { s with heap := h', toks := tk }) :
    wpAny (model Challenge.rw_wu0002_01.row.prog w) (callerA.deeper env) (call (.ref 50) [.float x tx, .float y ty, .float z tz] []) Q E s := by
  k_with_none
  (k_with "all steps" => repeat' (first | (k_unfold; (try dsimp only)) | (k_end; kc_close) | (walk1; (try dsimp only)) | (dsimp only; walk1) | (leave1; walk_say "STEP leave1"; (try dsimp only)) | fail "no step"))
  (k_with "call builtin:max" => (k_here; (with_reducible show wpAny _ _ (call (Value.builtin _) [Value.float _ _, Value.float _ _, Value.float _ _]) _ _ _); k_dflt (refine' max_three_ff ?k0 ?k1 ?k2 ?_; (case k0 => with_unfolding_all rfl); (case k1 => k_asm); (case k2 => k_asm); k_whole); intro h' tk' k' F' N'; (try k_sweep)))
  (k_with "call builtin:min" => (k_here; (with_reducible show wpAny _ _ (call (Value.builtin _) [Value.float _ _, Value.float _ _, Value.float _ _]) _ _ _); k_dflt (refine' min_three_ff ?k0 ?k1 ?k2 ?_; (case k0 => with_unfolding_all rfl); (case k1 => k_asm); (case k2 => k_asm); k_whole); intro h' tk' k' F' N'; (try k_sweep)))
  obtain ⟨KX, X, V, GL, T, K0⟩ := G
  obtain ⟨hf, hk⟩ := hl
  revert KX; k_fill; intro KX
  refine wpAny_call ?_
  refine' code_def ?k1 ?k2 ?k3 ?k4 ?k5 ?kA hf hk ?k6 ?k7 ?k8 ?k9 ?kB ?_ ?c2 ?c3 ?c4 ?c5
  case kA => exact rfl
  case k1 => k_asm
  case k2 => k_asm
  case k3 => k_asm
  case k4 => k_asm
  case k5 => k_asm
  case k6 => k_is
  case k7 => k_is
  case k8 => k_room
  case k9 => exact BindsTo.of_eq rfl
  case c5 => decide
  case kB => exact locs rfl
  case c2 => exact rfl
  case c3 => exact rfl
  case c4 => exact rfl
  k_whole
  intro g' L' h' FG' F' N' B' X' T'
  (try dsimp only); (try k_lift B'); (try k_fold)
  walk_at "all steps"
  all_goals first
    | exact (no_zero (by assumption) (hz (by assumption)).1).elim
    | exact (no_zero (by assumption) (hz (by assumption)).2.1).elim
    | exact (no_zero (by assumption) (hz (by assumption)).2.2).elim
    | (refine rgb_end h ?_ (by assumption) (by assumption) (by assumption); simp only [hls, hlsH, eqF, leF]; simp only [*, if_true, Bool.false_eq_true, if_false, Bool.or_true, Bool.or_false, Bool.true_or, Bool.false_or]; done)
end Mine
end
section
open PySem PySem.W PySem.Calls PyProof.Rows
namespace Mine
section
variable {prog : Program} {w : World} {A : Around} {E : Value → Shared → Prop} {s : Shared} {Q : Value → Shared → Prop} {h₀ : Heap} {L : Addr} {m : Str → Option Value} {news : List (Addr × Obj)} {x y z : Str} {t u v : Tok}

theorem find_to {k : Int} (e : Txt.find x y = k) (h : Q (.int k s.toks) { s with toks := s.toks + 1 }) : wpAny (model prog w) A (call (.builtin "str.find") [.str x t, .str y u]) Q E s :=
  SC.find (by rw [e]; exact h)
theorem find3_to {i k : Int} (e : Txt.find3 x y i = k) (h : Q (.int k s.toks) { s with toks := s.toks + 1 }) : wpAny (model prog w) A (call (.builtin "str.find") [.str x t, .str y u, .int i v]) Q E s :=
  SC.find3 (by rw [e]; exact h)
theorem slice_ns_to {value slice : Expr} {j : Int} {uj : Tok} (e : Txt.slice x none (some j) = y) (hF : Fr h₀ L s.heap m) (hN : News h₀ L s.heap news) (h : ∀ h' t' k, Fr h₀ L h' m → News h₀ L h' news → Q (.str y t') { s with heap := h', toks := k })
    (hs : subscripted slice false (.str x t) (.ref s.heap.objs.size) = operate [.ref s.heap.objs.size, .str x t] (getItem (.str x t) (.ref s.heap.objs.size)) := by with_unfolding_all rfl)
    (ht : ∀ r, letTemporaryGo value (.str x t) r = pure () := by intro _; with_unfolding_all rfl) (hsz : x.length ≤ sizeLine := by size_fits) :
    wpAny (model prog w) A (subscriptTail value slice (.str x t) (.ref s.heap.objs.size)) Q E { s with heap := s.heap.push { cls := .type "slice", data := .fields #[.none, .int j uj, .none] } } :=
  slice_strN_ns hF hN (fun h' t' k a b => by rw [e]; exact h h' t' k a b) hs ht hsz
theorem slice_ss_to {value slice : Expr} {i j : Int} {ui uj : Tok} (e : Txt.slice x (some i) (some j) = y) (hF : Fr h₀ L s.heap m) (hN : News h₀ L s.heap news) (h : ∀ h' t' k, Fr h₀ L h' m → News h₀ L h' news → Q (.str y t') { s with heap := h', toks := k })
    (hs : subscripted slice false (.str x t) (.ref s.heap.objs.size) = operate [.ref s.heap.objs.size, .str x t] (getItem (.str x t) (.ref s.heap.objs.size)) := by with_unfolding_all rfl)
    (ht : ∀ r, letTemporaryGo value (.str x t) r = pure () := by intro _; with_unfolding_all rfl) (hsz : x.length ≤ sizeLine := by size_fits) :
    wpAny (model prog w) A (subscriptTail value slice (.str x t) (.ref s.heap.objs.size)) Q E { s with heap := s.heap.push { cls := .type "slice", data := .fields #[.int i ui, .int j uj, .none] } } :=
  slice_strN_ss hF hN (fun h' t' k a b => by rw [e]; exact h h' t' k a b) hs ht hsz
theorem item_to {value slice : Expr} {i : Int} {u : Tok} (e : Txt.item x i = y) (h1 : 0 ≤ i) (h2 : i < x.length) (h3 : x.length ≤ 1000000)
    (h : Q (.str y s.toks) { s with toks := s.toks + 1 })
    (hs : subscripted slice false (.str x t) (.int i u) = operate [.str x t, .int i u] (getItem (.str x t) (.int i u)) := by with_unfolding_all rfl)
    (ht : ∀ r, letTemporaryGo value (.str x t) r = pure () := by intro _; with_unfolding_all rfl) :
    wpAny (model prog w) A (subscriptTail value slice (.str x t) (.int i u)) Q E s :=
  item_str (fitsSsize_of (N := 9223372036854775808) (by omega) (by omega) (Int.le_refl _)) (by omega) h2 (fun _ => by rw [e]; exact h) hs ht
theorem split5_to {p0 p1 p2 p3 p4 : Str} (e : Txt.split x y = [p0, p1, p2, p3, p4]) (hF : Fr h₀ L s.heap m) (hN : News h₀ L s.heap news) (hy : (y.length == 0) = false) (hx : x.length ≤ 1000000)
    (h : ∀ l h' k t0 t1 t2 t3 t4, Fr h₀ L h' m → News h₀ L h' ((l, W.listOf #[.str p0 t0, .str p1 t1, .str p2 t2, .str p3 t3, .str p4 t4] 0) :: news) → (∀ p ∈ news, p.1 < l) → Q (.ref l) { s with heap := h', toks := k }) :
    wpAny (model prog w) A (call (.builtin "str.split") [.str x t, .str y u]) Q E s := by
  refine splitN1 hF hN hy (fun l h' k e' F' N' => ?_) (by rw [sizeLine_eq]; omega)
  rw [e] at e'
  have hlt : ∀ p ∈ news, p.1 < s.heap.objs.size := fun p hp => Heap.lt_size (hN p hp).1
  match l, e' with
  | [(a0, t0), (a1, t1), (a2, t2), (a3, t3), (a4, t4)], e' =>
    simp only [List.map_cons, List.map_nil, List.cons.injEq, and_true] at e'
    obtain ⟨rfl, rfl, rfl, rfl, rfl⟩ := e'
    exact h _ _ _ t0 t1 t2 t3 t4 F' N' hlt
end
theorem allLt_to {d : Addr} {l : List (Addr × Obj)} (h : AllLt d l) : ∀ p ∈ l, p.1 < d := by
  induction l with
  | nil => intro p hp; cases hp
  | cons q r ih =>
    intro p hp
    rcases List.mem_cons.mp hp with e | hp
    · rw [e]; exact And.left h
    · exact ih (And.right h) p hp
theorem news_drop1 {h₀ h : Heap} {L : Addr} {p q : Addr × Obj} {news : List (Addr × Obj)} (N : News h₀ L h (p :: q :: news)) : News h₀ L h (p :: news) := fun x hx => N x (by
  rcases List.mem_cons.mp hx with rfl | hx
  · exact .head _
  · exact .tail _ (.tail _ hx))
theorem news_tail {h₀ h : Heap} {L : Addr} {p : Addr × Obj} {news : List (Addr × Obj)} (N : News h₀ L h (p :: news)) : News h₀ L h news := fun x hx => N x (.tail _ hx)
end Mine
end
section
open PySem PySem.W PySem.Calls PyProof.Rows
namespace Mine
set_option maxRecDepth 100000 in
set_option maxHeartbeats 8000000 in
theorem parse_call {w : World} {hb : Heap} {mg mb : Str → Option Value} {mean : ExcName → Option Value} {env : Env} {L : Addr} {m : Str → Option Value} {s : Shared} {news : List (Addr × Obj)}
    {E : Value → Shared → Prop} {Q : Value → Shared → Prop} {X Y p0 p1 p2 p3 p4 : Str} {tx : Tok} {pa : Addr} {i j n lf rt : Int} {ti tj : Tok}
    (G : Gd w hb mg mb mean) (hl : InLaw env L) (F : Fr hb L s.heap m) (N : News hb L s.heap ((pa, { cls := .type "tuple", data := .seq #[.int i ti, .int j tj] }) :: news))
    (hX : X.length ≤ 100000) (hY : Y.length ≤ 100000) (h229 : Txt.slice X none (some 3) = Str.ofString "229") (hlf : Txt.find X (Str.ofString "(") = lf) (hrt : Txt.find3 X (Str.ofString ")") (lf + 1) = rt)
    (l0 : 0 ≤ lf) (l1 : lf + 2 ≤ rt) (l2 : rt < X.length) (i1 : Txt.item X (lf + 1) = Str.ofString " ") (i2 : Txt.item X (rt - 1) = Str.ofString " ")
    (hsl : Txt.slice X (some (lf + 1)) (some rt) = Y) (hsp : Txt.split Y (Str.ofString " ") = [p0, p1, p2, p3, p4]) (hn : PySem.intText? p3 = some n) (hp3 : p3.length ≤ 640)
    (h : ∀ a h' tk t1 t2, Fr hb L h' m → News hb L h' ((a, { cls := .type "tuple", data := .seq #[.int i t1, .int n t2] }) :: news) → (∀ p ∈ news, p.1 < a) → Q (.ref a) { s with heap := h', toks := tk }) :
    wpAny (model Challenge.rw_wu0002_01.row.prog w) (callerA.deeper env) (call (.ref 94) [.str X tx, .ref pa] []) Q E s := by
  k_with_none
  (k_with "call builtin:str.find" => (k_here; with_unfolding_all (first | refine' find_to ?k1 ?_ | refine' find3_to ?k1 ?_); (case k1 => assumption)))
  (k_with "subscriptTail Name Slice str ref" => (k_here; with_unfolding_all (first | refine' slice_ns_to ?k1 ?k2 ?k3 ?_ ?k4 ?k5 ?k6 | refine' slice_ss_to ?k1 ?k2 ?k3 ?_ ?k4 ?k5 ?k6); (case k1 => assumption); (case k2 => k_asm); (case k3 => k_asm); (case k4 => with_unfolding_all rfl); (case k5 => (intro _; with_unfolding_all rfl)); (case k6 => size_fits); intro h' t' k' F' N'; (try k_sweep)))
  (k_with "subscriptTail Name BinOp str int" => (k_here; with_unfolding_all refine' item_to ?k1 ?k2 ?k3 ?k4 ?_ ?k5 ?k6; (case k1 => assumption); (case k2 => omega); (case k3 => omega); (case k4 => omega); (case k5 => with_unfolding_all rfl); (case k6 => (intro _; with_unfolding_all rfl))))
  (k_with "call builtin:str.split" => (k_here; with_unfolding_all refine' split5_to ?k1 ?k2 ?k3 ?k4 ?k5 ?_; (case k1 => assumption); (case k2 => k_asm); (case k3 => k_asm); (case k4 => decide); (case k5 => omega); intro l' h' k' t0' t1' t2' t3' t4' F' N' l1; (try k_lt l1); (try k_sweep)))
  (k_with "call type:int" => (k_here; (with_reducible show wpAny _ _ (call _ [Value.str _ _]) _ _ _); refine' PySem.W.KIN.call_text ?k1 ?k2 ?_; (case k1 => assumption); (case k2 => omega)))
  obtain ⟨KX, X', V, GL, T, K0⟩ := G
  obtain ⟨hf, hk⟩ := hl
  revert KX; k_fill; intro KX
  refine wpAny_call ?_
  refine' code_def ?k1 ?k2 ?k3 ?k4 ?k5 ?kA hf hk ?k6 ?k7 ?k8 ?k9 ?kB ?_ ?c2 ?c3 ?c4 ?c5
  case kA => exact rfl
  case k1 => k_asm
  case k2 => k_asm
  case k3 => k_asm
  case k4 => k_asm
  case k5 => k_asm
  case k6 => k_is
  case k7 => k_is
  case k8 => k_room
  case k9 => exact BindsTo.of_eq rfl
  case c5 => decide
  case kB => exact locs rfl
  case c2 => exact rfl
  case c3 => exact rfl
  case c4 => exact rfl
  k_whole
  intro g' L' h' FG' F' N' B' X' T'
  (try dsimp only); (try k_lift B'); (try k_fold)
  k_steps
  exact h _ _ _ _ _ (by assumption) (news_drop1 (news_drop1 (by assumption))) (allLt_to (And.right (And.right (by assumption : _ ∧ _ ∧ AllLt _ news))))
end Mine
end
section
open PySem PySem.W PySem.Calls PyProof.Rows
namespace Mine
set_option maxRecDepth 100000
open Builtin Builtin.Re

theorem plain_pat : PlainAttrs "re.Pattern" :=
  ⟨⟨"object.__getattribute__", by rw [typeLookup_type, builtinLookup_eq_fast]; kernel_rfl, by decide +kernel⟩, by rw [typeLookup_type, builtinLookup_eq_fast]; kernel_rfl⟩
theorem slot_match : Slot "re.Pattern" "match" "re.Pattern.match" :=
  .of (owner := "re.Pattern") (n := "match") (by rw [typeLookup_type, builtinLookup_eq_fast]; kernel_rfl) (by decide +kernel) (by decide +kernel) (by decide +kernel)
    (by first | exact .inl (by decide +kernel) | exact .inr (by decide +kernel)) (by rw [isSubtype_type]; kernel_rfl)
theorem type_match : typeOf (.builtin "re.Pattern.match") = pure (.type "method_descriptor") := by show builtinType _ = _; rw [builtinType_eq_fast]; kernel_rfl
theorem entry_match : entryFor table "re.Pattern.match" = some Builtin.«re.Pattern.match» := entryFor_of_tree (by kernel_rfl)
theorem args_match (a b : Value) : argsOk "re.Pattern.match" ⟨[a, b], []⟩ := by unfold argsOk; kernel_rfl

theorem plain_mo : PlainAttrs "re.Match" :=
  ⟨⟨"object.__getattribute__", by rw [typeLookup_type, builtinLookup_eq_fast]; kernel_rfl, by decide +kernel⟩, by rw [typeLookup_type, builtinLookup_eq_fast]; kernel_rfl⟩
theorem slot_group : Slot "re.Match" "group" "re.Match.group" :=
  .of (owner := "re.Match") (n := "group") (by rw [typeLookup_type, builtinLookup_eq_fast]; kernel_rfl) (by decide +kernel) (by decide +kernel) (by decide +kernel)
    (by first | exact .inl (by decide +kernel) | exact .inr (by decide +kernel)) (by rw [isSubtype_type]; kernel_rfl)
theorem type_group : typeOf (.builtin "re.Match.group") = pure (.type "method_descriptor") := by show builtinType _ = _; rw [builtinType_eq_fast]; kernel_rfl
theorem entry_group : entryFor table "re.Match.group" = some Builtin.«re.Match.group» := entryFor_of_tree (by kernel_rfl)
theorem args_group (a b : Value) : argsOk "re.Match.group" ⟨[a, b], []⟩ := by unfold argsOk; kernel_rfl
theorem mo_bool : typeLookup (.type "re.Match") "__bool__" = pure none := by rw [typeLookup_type, builtinLookup_eq_fast]; kernel_rfl
theorem mo_len : typeLookup (.type "re.Match") "__len__" = pure none := by rw [typeLookup_type, builtinLookup_eq_fast]; kernel_rfl

theorem slot_split : Slot "bytes" "split" "bytes.split" :=
  .of (owner := "bytes") (n := "split") (by rw [typeLookup_type, builtinLookup_eq_fast]; kernel_rfl) (by decide +kernel) (by decide +kernel) (by decide +kernel)
    (by first | exact .inl (by decide +kernel) | exact .inr (by decide +kernel)) (by rw [isSubtype_type]; kernel_rfl)
theorem type_split : typeOf (.builtin "bytes.split") = pure (.type "method_descriptor") := by show builtinType _ = _; rw [builtinType_eq_fast]; kernel_rfl
theorem entry_split : entryFor table "bytes.split" = some Builtin.«bytes.split» := entryFor_of_tree (by kernel_rfl)
theorem args_split (a : Value) : argsOk "bytes.split" ⟨[a], []⟩ := by
  unfold argsOk; rw [signature?_of (id := "bytes.split") (n := ['t', 'i', 'l', 'p', 's']) (o := ['s', 'e', 't', 'y', 'b']) (by kernel_rfl) FB.owner_bytes]; kernel_rfl
theorem args_decode (a b : Value) : argsOk "bytes.decode" ⟨[a, b], []⟩ := by
  unfold argsOk; rw [signature?_of (id := "bytes.decode") (n := ['e', 'd', 'o', 'c', 'e', 'd']) (o := ['s', 'e', 't', 'y', 'b']) (by kernel_rfl) FB.owner_bytes]; kernel_rfl
end Mine
end
section
open PySem PySem.W PySem.Calls PyProof.Rows
namespace Mine
set_option maxRecDepth 100000
open Builtin Builtin.Re

theorem reText_bytes {b : Array UInt8} {t : Tok} : reTextOf (.bytes b t) = pure (b.map (·.toNat), 1) := by
  unfold reTextOf
  rw [KBy.quiet_eq]
  rfl
theorem named_match {v : Value} : reNamed "re.Pattern.match" "match" ["string", "pos", "endpos"] 1 [v] [] = pure [some v, none, none] := rfl

section
variable {M : Model} {A : Around} {E : Value → Shared → Prop} {s : Shared}
theorem wp_drive {Q : Sre.M → Shared → Prop} : ∀ (turns n : Nat) (m : Sre.M), 0 < turns → n ≤ 4 * turns → (it n m).outcome.isSome = true → Q (it n m) s → wpAny M A (reDrive turns m) Q E s
  | 0, n, m, ht, hn, ho, h => absurd ht (Nat.lt_irrefl 0)
  | turns + 1, n, m, ht, hn, ho, h => by
    unfold reDrive
    show wpAny M A (if (m.runFor 4).outcome.isSome = true then pure (m.runFor 4) else rule "sre.turn" >>= fun _ => reDrive turns (m.runFor 4)) Q E s
    rw [runFor_it]
    by_cases h4 : (it 4 m).outcome.isSome = true
    · rw [if_pos h4]
      refine wpAny_pure ?_
      have e : it 4 m = it n m := by
        rcases Nat.le_total n 4 with hl | hl
        · have := it_add n (4 - n) m
          rw [show n + (4 - n) = 4 by omega, it_done ho] at this
          exact this
        · have := it_add 4 (n - 4) m
          rw [show 4 + (n - 4) = n by omega, it_done h4] at this
          exact this.symm
      rw [e]; exact h
    · rw [if_neg h4]
      have hn4 : 4 < n := by
        rcases Nat.lt_or_ge 4 n with hl | hl
        · exact hl
        · exfalso
          have := it_add n (4 - n) m
          rw [show n + (4 - n) = 4 by omega, it_done ho] at this
          rw [this] at h4
          exact h4 ho
      have e : it n m = it (n - 4) (it 4 m) := by
        have := it_add 4 (n - 4) m
        rw [show 4 + (n - 4) = n by omega] at this
        exact this
      rw [e] at ho h
      exact wpAny_bind (wpAny_rule (wp_drive turns (n - 4) (it 4 m) (by omega) (by omega) ho h))

theorem wp_rules {α : Type} {c : α → Bool} {f : α → String} {Q : PUnit → Shared → Prop} : ∀ (l : List α), Q ⟨⟩ s →
    wpAny M A (forIn l PUnit.unit fun i _ => (if c i = true then (rule (f i) >>= fun _ => pure (ForInStep.yield PUnit.unit)) else pure (ForInStep.yield PUnit.unit) : Sem (ForInStep PUnit))) Q E s
  | [], h => wpAny_pure h
  | i :: l, h => by
    rw [List.forIn_cons]
    refine wpAny_bind ?_
    by_cases hc : c i = true
    · rw [if_pos hc]
      exact wpAny_bind (wpAny_rule (wpAny_pure (wp_rules l h)))
    · rw [if_neg hc]
      exact wpAny_pure (wp_rules l h)

theorem wp_runToEnd {Q : Option Sre.M → Shared → Prop} {m m' : Sre.M} (T : To 1000000000000000 m m') (ho : m'.outcome = some .matched) (h : Q (some m') s) : wpAny M A (reRunToEnd m) Q E s := by
  obtain ⟨n, hn, rfl⟩ := T
  unfold reRunToEnd
  refine wpAny_bind (wp_drive (2 ^ 64) n m (by decide) (by omega) (by rw [ho]; rfl) ?_)
  refine wpAny_bind ?_
  refine wp_rules (c := fun i => (it n m).seen.has i) (f := fun i => Sre.names.getD i "") _ ?_
  show wpAny M A (match (it n m).outcome with
    | some .matched => pure (some (it n m))
    | some .failed => pure none
    | some (.stuck why) => unsupported s!"_sre:{why}"
    | none => unsupported "internal:sre:no-outcome") Q E s
  rw [ho]
  exact wpAny_pure h
end
end Mine
end
section
open PySem PySem.W PySem.Calls PyProof.Rows
namespace Mine
set_option maxRecDepth 100000
open Builtin Builtin.Re

abbrev tupO (vs : Array Value) : Obj := { cls := .type "tuple", data := .seq vs }
/-- the match object -/
abbrev moO (b : Array UInt8) (t : Tok) (pat sp : Addr) : Obj := { cls := .type "re.Match", data := .fields #[.bytes b t, .ref pat, .int 0 0, .int (b.size : Int) 0, .int 1 0, .ref sp] }

section
variable {prog : Program} {w : World} {A : Around} {E : Value → Shared → Prop} {s : Shared} {Q : Value → Shared → Prop} {h₀ : Heap} {L : Addr} {m : Str → Option Value} {news : List (Addr × Obj)} {K : Frag}

theorem target_match {b : Array UInt8} {t : Tok} {pat ct : Addr} {fs : Array Value} {cs : Array Value} {n : Nat} {Q : ReTarget → Shared → Prop}
    (ho : s.heap.get? pat = some { cls := .type "re.Pattern", data := .fields fs }) (e2 : reRawNat (fs.getD 2 .none) = 1) (e5 : fs.getD 5 .none = .ref ct) (e6 : reRawNat (fs.getD 6 .none) = 1) (hc : s.heap.get? ct = some { cls := .type "tuple", data := .seq cs n })
    (hcs : (cs.map reRawOf).map (·.toNat) = CF) (hb : b.size ≤ 1000000)
    (h : Q { pattern := .ref pat, string := .bytes b t, code := CF, text := b.map (·.toNat), kind := 1, groups := 1, pos := 0, lim := b.size } s) :
    wpAny (model prog w) A (reTarget "re.Pattern.match" "match" ⟨[.ref pat, .bytes b t], []⟩) Q E s := by
  unfold reTarget
  show wpAny _ _ (reNamed "re.Pattern.match" "match" ["string", "pos", "endpos"] 1 [.bytes b t] [] >>= fun l => _) _ _ _
  rw [named_match]
  refine wpAny_bind (wpAny_pure ?_)
  refine wpAny_bind (wpAny_pure ?_)
  refine wpAny_bind (wpAny_pure ?_)
  refine wpAny_bind (wpAny_fieldsOf ho rfl ?_)
  show wpAny _ _ (reTextOf (.bytes b t) >>= fun x => _) _ _ _
  rw [reText_bytes]
  refine wpAny_bind (wpAny_pure ?_)
  dsimp only
  rw [e2, e5, e6]
  refine wpAny_bind (wpAny_pure ?_)
  show wpAny _ _ (reRawItems (.ref ct) >>= fun a => _) _ _ _
  refine wpAny_bind ?_
  unfold reRawItems
  refine wpAny_bind (wpAny_seqItems hc rfl ?_)
  refine wpAny_pure (wpAny_pure ?_)
  have e2 : (b.map (·.toNat)).size = b.size := Array.size_map ..
  have e3 : Min.min (Int.toNat (2 ^ 63 - 1)) (b.map (·.toNat)).size = b.size := by
    have : Int.toNat (2 ^ 63 - 1) = 9223372036854775807 := by decide
    rw [e2, this]; omega
  have e4 : Min.min (Int.toNat 0) (b.map (·.toNat)).size = 0 := by simp
  show Q { pattern := .ref pat, string := .bytes b t, code := Array.map (·.toNat) (cs.map reRawOf), text := b.map (·.toNat), kind := 1, groups := 1, pos := Min.min (Int.toNat 0) (b.map (·.toNat)).size, lim := Min.min (Int.toNat (2 ^ 63 - 1)) (b.map (·.toNat)).size } s
  rw [hcs, e3, e4]
  exact h

theorem newMatch_any {b : Array UInt8} {t : Tok} {pat : Addr} {p q : Nat} {mm : Sre.M} {Q : Value → Shared → Prop} (F : Fr h₀ L s.heap m) (N : News h₀ L s.heap news) (hpq : p ≤ q)
    (m0 : mm.marks.getD 0 none = some p) (m1 : mm.marks.getD 1 none = some q) (hl : mm.lastmark = 1) (hi : mm.lastindex = 1) (hs : mm.start = 0) (hh : mm.handed = q + 1)
    (h : ∀ a c h', Fr h₀ L h' m → News h₀ L h' ((a, moO b t pat c) :: (c, tupO #[.int 0 0, .int ((q + 1 : Nat) : Int) 0, .int (p : Int) 0, .int (q : Int) 0]) :: news) → (∀ x ∈ news, x.1 < c) → c < a → Q (.ref a) { s with heap := h' }) :
    wpAny (model prog w) A (reNewMatch (.ref pat) (.bytes b t) 1 0 b.size mm) Q E s := by
  unfold reNewMatch
  have hr : List.range 1 = [0] := rfl
  rw [hr]
  simp only [List.flatMap_cons, List.flatMap_nil, List.append_nil, List.any_cons, List.any_nil, Bool.or_false, Nat.mul_zero, Nat.zero_add, m0, m1, hl, hi, hs, hh]
  have hc1 : (((1 : Nat) : Int) ≤ 1) := by decide
  rw [if_pos hc1]
  have hlt : (decide (((1 : Nat) : Int) ≤ 1) && decide (q < p)) = false := by simp; omega
  simp only [hlt, Bool.false_eq_true, if_false]
  refine wpAny_bind ?_
  have hlt0 : ∀ x ∈ news, x.1 < s.heap.objs.size := fun x hx => Heap.lt_size (N x hx).1
  refine newTuple_N F N (fun h' F' N' => ?_) (by rw [sizeLine_eq]; simp)
  have hsz : s.heap.objs.size < h'.objs.size := Heap.lt_size (N' _ (.head _)).1
  refine wpAny_newObj_type ?_ (by size_fits)
  exact h _ _ _ (F'.push _) (N'.push F' _) hlt0 hsz

theorem call_body {T : String} {name : Str} {id : String} {B : Builtin} {self : Value} {rest : List Value} {Q : Value → Shared → Prop} (slot : Slot T name id) (hT : s.TypeIs self T) (entry : entryFor table id = some B) (args : argsOk id ⟨self :: rest, []⟩)
    (g : wpAny (model prog w) A.in1 (B ⟨self :: rest, []⟩) (fun fin s' => ∃ v, fin = .done (.ret v) ∧ Q v s') E s) : wpAny (model prog w) A (call (.builtin id) (self :: rest)) Q E s := by
  have hb : wpAny (model prog w) A.in1 (B ⟨self :: rest, []⟩) (fun fin s' => match fin with | .done f => wants Q E (.ok f) s' | .again c' => c'.quiet = true ∧ codeAny (model prog w) A c' (wants Q E) s') (fun e s' => wants Q E (.error e) s') s :=
    wpAny_mono g (fun fin s' h' => by obtain ⟨v, rfl, hv⟩ := h'; exact hv) fun _ _ x => x
  exact wpAny_call (codeAny_call_builtin slot.plain entry (slot.check _ _ _ _ _ _ _ _ hT args hb))

/-- Flags.match(reply) -/
theorem match_any {b : Array UInt8} {t : Tok} {pat ct : Addr} {fs : Array Value} {cs : Array Value} {n p : Nat} (F : Fr h₀ L s.heap m) (N : News h₀ L s.heap news)
    (ho : s.heap.get? pat = some { cls := .type "re.Pattern", data := .fields fs }) (e2 : reRawNat (fs.getD 2 .none) = 1) (e5 : fs.getD 5 .none = .ref ct) (e6 : reRawNat (fs.getD 6 .none) = 1) (hc : s.heap.get? ct = some { cls := .type "tuple", data := .seq cs n })
    (hcs : (cs.map reRawOf).map (·.toNat) = CF) (h8 : 8 ≤ b.size) (hb : b.size ≤ 1000000)
    (hp : p ≤ runLen (b.map (·.toNat)) 10 b.size 0) (hg : good (b.map (·.toNat)) p) (hno : ∀ j, p < j → j ≤ runLen (b.map (·.toNat)) 10 b.size 0 → ¬ good (b.map (·.toNat)) j)
    (h : ∀ a c h', Fr h₀ L h' m → News h₀ L h' ((a, moO b t pat c) :: (c, tupO #[.int 0 0, .int ((shut (b.map (·.toNat)) (p + 7) + 1 : Nat) : Int) 0, .int ((p + 7 : Nat) : Int) 0, .int ((shut (b.map (·.toNat)) (p + 7) : Nat) : Int) 0]) :: news) →
      (∀ x ∈ news, x.1 < c) → c < a → Q (.ref a) { s with heap := h' }) :
    wpAny (model prog w) A (call (.builtin "re.Pattern.match") [.ref pat, .bytes b t]) Q E s := by
  have hsz : (b.map (·.toNat)).size = b.size := Array.size_map ..
  refine call_body slot_match ⟨_, ho, rfl⟩ entry_match (args_match _ _) ?_
  unfold Builtin.«re.Pattern.match»
  refine wpAny_bind (target_match ho e2 e5 e6 hc hcs hb ?_)
  dsimp only
  obtain ⟨m', T, hf⟩ := match_ok (t := b.map (·.toNat)) (p := p) (by rw [hsz]; exact h8) (by rw [hsz]; exact hb) (by rw [hsz]; exact hp) hg (by rw [hsz]; exact hno)
  rw [hsz] at T
  unfold reAnswer
  refine wpAny_bind (wp_runToEnd T hf.outcome ?_)
  show wpAny _ _ (reNewMatch (.ref pat) (.bytes b t) 1 0 b.size m' >>= fun v => ret v) _ _ _
  refine wpAny_bind (newMatch_any F N (p := p + 7) (q := shut (b.map (·.toNat)) (p + 7)) (by unfold shut; omega) hf.mark0 hf.mark1 hf.lastmark hf.lastindex hf.start hf.handed ?_)
  intro a c h' F' N' l1 l2
  exact wpAny_pure ⟨_, rfl, h a c h' F' N' l1 l2⟩

theorem getMethod_match {pat : Addr} {fs : Array Value} {pl : Sem Bool} {Q : Value × List Value → Shared → Prop} (ho : s.heap.get? pat = some { cls := .type "re.Pattern", data := .fields fs }) (h : Q (.builtin "re.Pattern.match", [.ref pat]) s) :
    wpAny (model prog w) A (getMethod (.ref pat) "match" pl) Q E s :=
  getMethod_builtin ⟨_, ho, rfl⟩ plain_pat slot_match type_match (fun a e => by cases e; exact ⟨_, ho, rfl⟩) h
theorem getMethod_group {mo : Addr} {fs : Array Value} {pl : Sem Bool} {Q : Value × List Value → Shared → Prop} (ho : s.heap.get? mo = some { cls := .type "re.Match", data := .fields fs }) (h : Q (.builtin "re.Match.group", [.ref mo]) s) :
    wpAny (model prog w) A (getMethod (.ref mo) "group" pl) Q E s :=
  getMethod_builtin ⟨_, ho, rfl⟩ plain_mo slot_group type_group (fun a e => by cases e; exact ⟨_, ho, rfl⟩) h
theorem truthy_mo {mo : Addr} {fs : Array Value} {Q : Bool → Shared → Prop} (ho : s.heap.get? mo = some { cls := .type "re.Match", data := .fields fs }) (h : Q true s) :
    wpAny (model prog w) A (truthy (.ref mo)) Q E s := by
  have hT : s.TypeIs (.ref mo) "re.Match" := ⟨_, ho, rfl⟩
  unfold truthy
  refine wpAny_bind (wpAny_callSpecial?_none hT mo_bool ?_)
  refine wpAny_bind (wpAny_specialOf hT mo_len ?_)
  exact wpAny_pure h
end
end Mine
end
section
open PySem PySem.W PySem.Calls PyProof.Rows
namespace Mine
set_option maxRecDepth 100000
open Builtin Builtin.Re
section
variable {prog : Program} {w : World} {A : Around} {E : Value → Shared → Prop} {s : Shared} {h₀ : Heap} {L : Addr} {m : Str → Option Value} {news : List (Addr × Obj)} {K : Frag}

theorem str_index : typeLookup (.type "str") "__index__" = pure none := by rw [typeLookup_type, builtinLookup_eq_fast]; kernel_rfl

theorem group_any {b : Array UInt8} {t tk : Tok} {mo pat sp dd : Addr} {p q e : Nat} {pf : Array Value} {n : Nat} {v1 : Tok} {es : Array DictEntry} {Q : Value → Shared → Prop}
    (F : Fr h₀ L s.heap m) (X₀ : K.In h₀) (hmo : s.heap.get? mo = some (moO b t pat sp)) (hsp : s.heap.get? sp = some (tupO #[.int 0 0, .int (e : Int) 0, .int (p : Int) 0, .int (q : Int) 0]))
    (ho : s.heap.get? pat = some { cls := .type "re.Pattern", data := .fields pf }) (hpf : pf.getD 3 .none = .ref dd)
    (hl : K.lookup dd = some ⟨.type "dict", none, .dict es n, #[]⟩) (hk : KeysLit w.params es.toList) (hg : nsIn K dd "flags" = some (some (.int 1 v1)))
    (hb : b.size ≤ 1000000)
    (h : ∀ t' k, Q (.bytes (((b.map (·.toNat)).extract p q).map (·.toUInt8)) t') { s with toks := k }) :
    wpAny (model prog w) A (call (.builtin "re.Match.group") [.ref mo, .str "flags" tk]) Q E s := by
  refine call_body slot_group ⟨_, hmo, rfl⟩ entry_group (args_group _ _) ?_
  unfold Builtin.«re.Match.group»
  refine wpAny_bind (wpAny_pure ?_)
  refine wpAny_bind ?_
  unfold reFound
  refine wpAny_bind (wpAny_fieldsOf hmo rfl ?_)
  refine wpAny_bind ?_
  unfold reRawItems
  refine wpAny_bind (wpAny_seqItems hsp rfl ?_)
  have e5 : Array.map reRawOf ((some #[Value.int 0 0, Value.int (e : Int) 0, Value.int (p : Int) 0, Value.int (q : Int) 0]).getD #[]) = #[0, (e : Int), (p : Int), (q : Int)] := by simp [reRawOf]
  rw [e5]
  refine wpAny_pure (wpAny_pure ?_)
  dsimp only
  refine wpAny_bind ?_
  unfold reGroupNumber
  refine wpAny_bind (wpAny_pure ?_)
  refine wpAny_bind (wpAny_specialOf (typeIs_str s _ _) str_index ?_)
  show wpAny _ _ (fieldsOf (.ref pat) >>= fun fs => _) _ _ _
  refine wpAny_bind (wpAny_fieldsOf ho rfl ?_)
  rw [hpf]
  have hm := mapOf_K (prog := prog) (w := w) (X₀.keeps F.keep) hl hk
  show wpAny _ _ (dictGet dd (.str "flags" tk) >>= fun r => _) _ _ _
  refine wpAny_bind (wpAny_dictGet_of (strKind_is prog w "flags" tk) hm ?_)
  rw [find_K hl hg]
  refine wpAny_bind (wpAny_pure ?_)
  refine wpAny_bind (wpAny_pure ?_)
  dsimp only
  rw [if_neg (by simp)]
  refine wpAny_pure ?_
  show wpAny _ _ (reGroupText _ 1 .none >>= fun v => ret v) _ _ _
  refine wpAny_bind ?_
  unfold reGroupText
  dsimp only
  rw [if_neg (by simp)]
  refine wpAny_bind (?_ : wpAny _ _ (reTextOf (.bytes b t)) _ _ _)
  rw [reText_bytes]
  refine wpAny_pure ?_
  show wpAny _ _ (mkBytes (((b.map (·.toNat)).extract p q).map (·.toUInt8))) _ _ _
  unfold mkBytes
  have hsz : ¬ (((b.map (·.toNat)).extract p q).map (·.toUInt8)).size > sizeLine := by
    rw [sizeLine_eq, Array.size_map, Array.size_extract, Array.size_map]; omega
  rw [if_neg hsz]
  refine wpAny_bind (wpAny_fresh (wpAny_pure (wpAny_pure ⟨_, rfl, h _ _⟩)))
end
end Mine
end
section
open PySem PySem.W PySem.Calls PyProof.Rows
namespace Mine
set_option maxRecDepth 100000
open Builtin
section
variable {prog : Program} {w : World} {A : Around} {E : Value → Shared → Prop} {s : Shared} {h₀ : Heap} {L : Addr} {m : Str → Option Value} {news : List (Addr × Obj)}

theorem forIn_pairs {α : Type} {body : Value × Value → α → Sem (ForInStep α)} {init : α} {Q : α → Shared → Prop} (hb : ∀ p, PySem.SeqAt.EqAt A s p.1 p.2 true → ∀ Q' : ForInStep α → Shared → Prop, Q' (.yield init) s → wpAny (model prog w) A (body p init) Q' E s)
    (h : Q init s) : ∀ l : List (Value × Value), (∀ p ∈ l, PySem.SeqAt.EqAt A s p.1 p.2 true) → wpAny (model prog w) A (forIn l init body) Q E s
  | [], _ => wpAny_pure h
  | p :: l, he => by
    rw [List.forIn_cons]
    exact wpAny_bind (hb p (he p (.head _)) _ (forIn_pairs hb h l fun q hq => he q (.tail _ hq)))

theorem ne_body {a b : Addr} {xs ys : Array Value} {n k : Nat} {Q : PySem.Fin → Shared → Prop} (ha : s.heap.get? a = some { cls := .type "tuple", data := .seq xs n }) (hb : s.heap.get? b = some { cls := .type "tuple", data := .seq ys k })
    (hsz : xs.size = ys.size) (he : ∀ p ∈ xs.toList.zip ys.toList, PySem.SeqAt.EqAt A s p.1 p.2 true) (h : Q (.done (.ret (.bool false))) s) :
    wpAny (model prog w) A (Builtin.«tuple.__ne__» ⟨[.ref a, .ref b], []⟩) Q E s := by
  unfold Builtin.«tuple.__ne__»
  refine wpAny_bind ?_
  refine wpAny_of_eq (a := (Value.ref a, [Value.ref b])) rfl ?_
  refine wpAny_bind (wpAny_isInstance (T := "tuple") ⟨_, hb, rfl⟩ AutoSeq1.sub_tuple_tuple ?_)
  dsimp only
  rw [if_neg (by simp)]
  unfold Tuple.tupleItemsOf
  refine wpAny_bind (wpAny_bind (wpAny_seqItems ha rfl (wpAny_pure ?_)))
  refine wpAny_bind (wpAny_bind (wpAny_seqItems hb rfl (wpAny_pure ?_)))
  refine wpAny_bind (forIn_pairs ?_ ?_ _ he)
  · rintro ⟨x, y⟩ hp Q' hq
    refine wpAny_bind (hp prog w E _ ?_)
    exact wpAny_pure hq
  · dsimp only
    refine wpAny_pure ?_
    have : Tuple.tupleCompareSizes .NotEq xs.size ys.size = Value.bool false := by unfold Tuple.tupleCompareSizes; rw [hsz]; simp
    rw [this]; exact h

theorem eqAt_bytes {a b : Array UInt8} {t u : Tok} (h : a = b) : PySem.SeqAt.EqAt A s (.bytes a t) (.bytes b u) true := fun prog w E Q hq => by
  subst h
  unfold eqBool
  refine wpAny_holding ?_
  refine wpAny_ite_split (fun _ => wpAny_bind (wpAny_rule (wpAny_pure hq))) (fun _ => ?_)
  exact wpAny_bind (eq_bytes (by rw [beq_self_eq_true]; exact wpAny_truthy_bool hq))

/-- the values are these bytes -/
inductive BytesAre : List Value → List (List UInt8) → Prop
  | nil : BytesAre [] []
  | cons {b : List UInt8} {t : Tok} {vs : List Value} {bs : List (List UInt8)} : BytesAre vs bs → BytesAre (.bytes b.toArray t :: vs) (b :: bs)
theorem BytesAre.length {vs : List Value} {bs : List (List UInt8)} (h : BytesAre vs bs) : vs.length = bs.length := by
  induction h with
  | nil => rfl
  | cons _ ih => simp [ih]
theorem BytesAre.zip {vs ws : List Value} {bs : List (List UInt8)} (h : BytesAre vs bs) : BytesAre ws bs → ∀ p ∈ vs.zip ws, PySem.SeqAt.EqAt A s p.1 p.2 true := by
  induction h generalizing ws with
  | nil => intro _ p hp; cases hp
  | cons hv ih =>
    intro g p hp
    cases g with
    | cons hw =>
      rcases List.mem_cons.mp hp with rfl | hp
      · exact eqAt_bytes rfl
      · exact ih hw p hp

theorem ne_bytesTuples {a b : Addr} {xs ys : List Value} {bs : List (List UInt8)} {n k : Nat} {Q : Value → Shared → Prop} (ha : s.heap.get? a = some { cls := .type "tuple", data := .seq xs.toArray n }) (hb : s.heap.get? b = some { cls := .type "tuple", data := .seq ys.toArray k })
    (hx : BytesAre xs bs) (hy : BytesAre ys bs) (hu : A.units < cLine) (h : Q (.bool false) s) : wpAny (model prog w) A (compareOp .NotEq (.ref a) (.ref b)) Q E s := by
  have hT : s.TypeIs (.ref a) "tuple" := ⟨_, ha, rfl⟩
  have hT' : s.TypeIs (.ref b) "tuple" := ⟨_, hb, rfl⟩
  show wpAny (model prog w) A (richCompare .NotEq (.ref a) (.ref b)) Q E s
  refine wpAny_richCompare_same_room hT hT' F.slot_tuple_ne (call_body F.slot_tuple_ne hT F.entry_tuple_ne (F.args_tuple_ne_2 _ _) ?_) hu
  refine ne_body ha hb (by simp [hx.length, hy.length]) (by simpa using hx.zip hy) ?_
  exact ⟨_, rfl, (fun e => nomatch e), h⟩

theorem wp_mapBytes : ∀ (bs : List (List UInt8)) (s : Shared) (Q : List Value → Shared → Prop), (∀ b ∈ bs, b.length ≤ 1000000) → (∀ vs k, BytesAre vs bs → Q vs { s with toks := k }) →
    wpAny (model prog w) A (bs.mapM fun b => Bytes.Kind.new .bytes b.toArray) Q E s
  | [], s, Q, _, h => by rw [List.mapM_nil]; exact wpAny_pure (h [] s.toks .nil)
  | b :: bs, s, Q, hl, h => by
    rw [List.mapM_cons]
    refine wpAny_bind ?_
    show wpAny _ _ (mkBytes b.toArray) _ _ _
    unfold mkBytes
    have hb := hl b (.head _)
    have hz : ¬ b.toArray.size > sizeLine := by rw [sizeLine_eq]; simp; omega
    rw [if_neg hz]
    refine wpAny_bind (wpAny_fresh (wpAny_pure ?_))
    refine wpAny_bind (wp_mapBytes bs _ _ (fun c hc => hl c (.tail _ hc)) fun vs k hv => wpAny_pure ?_)
    exact h _ k (.cons hv)

theorem words_len : ∀ (fuel left : Nat) (l : List UInt8) (N : Nat), l.length ≤ N → ∀ b ∈ Bytes.words fuel left l, b.length ≤ N
  | 0, _, _, _, _, b, hb => by simp [Bytes.words] at hb
  | fuel + 1, left, l, N, hl, b, hb => by
    unfold Bytes.words at hb
    have hd : (l.dropWhile Bytes.isSpace).length ≤ N := Nat.le_trans (List.dropWhile_sublist _).length_le hl
    split at hb
    · cases hb
    · rename_i rest hne
      split at hb
      · rcases List.mem_singleton.mp hb with rfl
        exact hd
      · rcases List.mem_cons.mp hb with rfl | hb
        · exact Nat.le_trans (List.takeWhile_sublist _).length_le hd
        · exact words_len fuel (left - 1) _ N (Nat.le_trans (List.dropWhile_sublist _).length_le hd) b hb

/-- the words of bytes with a blank in them -/
theorem split_any {b : Array UInt8} {t : Tok} {ws : List (List UInt8)} {Q : Value → Shared → Prop} (F : Fr h₀ L s.heap m) (N : News h₀ L s.heap news) (hsp : b.any Bytes.isSpace = true) (hb : b.size ≤ 1000)
    (hw : Bytes.words (b.size + 1) (b.size + 1) b.toList = ws) (hwl : ws.length ≤ 1000)
    (h : ∀ l vs h' k, BytesAre vs ws → Fr h₀ L h' m → News h₀ L h' ((l, W.listOf vs.toArray 0) :: news) → (∀ p ∈ news, p.1 < l) → Q (.ref l) { s with heap := h', toks := k }) :
    wpAny (model prog w) A (call (.builtin "bytes.split") [.bytes b t]) Q E s := by
  refine call_body slot_split (typeIs_bytes _ _ _) entry_split (args_split _) ?_
  unfold Builtin.«bytes.split» Bytes.splitM
  refine wpAny_bind (wpAny_of_eq (a := [none, none]) rfl ?_)
  refine wpAny_bind (wpAny_pure ?_)
  refine wpAny_bind (wpAny_of_eq (a := b) rfl ?_)
  refine wpAny_bind (wpAny_rule ?_)
  dsimp only
  rw [if_neg (by rw [hsp]; simp)]
  have e1 : (if (-1 : Int) < 0 then b.size + 1 else (-1 : Int).toNat) = b.size + 1 := rfl
  rw [e1]
  rw [hw]
  refine wpAny_bind (wp_mapBytes ws _ _ (fun c hc => ?_) fun vs k hv => ?_)
  · have := words_len (b.size + 1) (b.size + 1) b.toList b.size (by simp) c (by rw [hw]; exact hc)
    omega
  · have hlt0 : ∀ x ∈ news, x.1 < s.heap.objs.size := fun x hx => Heap.lt_size (N x hx).1
    refine wpAny_bind (newList_N (s := { s with toks := k }) F N (fun h' F' N' => ?_) (by rw [sizeLine_eq, hv.length]; omega))
    exact wpAny_pure ⟨_, rfl, h _ vs h' k hv F' N' hlt0⟩
end
end Mine
end
section
open PySem PySem.W PySem.Calls PyProof.Rows
namespace Mine
set_option maxRecDepth 100000
open Builtin
section
variable {prog : Program} {w : World} {A : Around} {E : Value → Shared → Prop} {s : Shared} {h₀ : Heap} {L : Addr} {m : Str → Option Value} {news : List (Addr × Obj)}

theorem foldl_bytes (l : List Nat) : ∀ acc : Array UInt8, l.foldl (fun acc y => acc ++ (_codecs.asciiCodec.bytesOf y).toArray) acc = acc ++ (l.map (·.toUInt8)).toArray := by
  induction l with
  | nil => intro acc; simp
  | cons c l ih =>
    intro acc
    rw [List.foldl_cons, ih]
    show acc ++ [c.toUInt8].toArray ++ _ = _
    simp

theorem encode_ascii {id : String} {self : Value} {x : Str} {Q : Array UInt8 → Shared → Prop} (hx : ∀ c ∈ x.cps, c < 128) (hl : x.length ≤ 1000000) (h : Q (x.cps.map (·.toUInt8)) s) :
    wpAny (model prog w) A (_codecs.encodeNarrow id _codecs.asciiCodec none self x) Q E s := by
  have hbad : ∀ c ∈ x.cps, _codecs.asciiCodec.bad c = false := fun c hc => by
    have := hx c hc
    show decide (c ≥ 128) = false
    exact decide_eq_false (by omega)
  unfold _codecs.encodeNarrow
  simp only [Std.Legacy.Range.forIn_eq_forIn_range']
  have hlen : x.length = x.cps.size := rfl
  have hsz : ([:x.length] : Std.Legacy.Range).size = x.cps.size := by simp [Std.Legacy.Range.size, hlen]
  rw [hsz]
  rcases Nat.eq_zero_or_pos x.cps.size with hn | hn
  · rw [hn]
    have : x.cps = #[] := Array.eq_empty_of_size_eq_zero hn
    rw [this] at h
    refine wpAny_bind ?_
    show wpAny _ _ (forIn [] _ _) _ _ _
    refine wpAny_pure ?_
    dsimp only
    refine wpAny_pure ?_
    simpa using h
  · have hr : List.range' 0 x.cps.size = 0 :: List.range' 1 (x.cps.size - 1) := by
      have : x.cps.size = (x.cps.size - 1) + 1 := by omega
      rw [this, List.range'_succ]; rfl
    rw [hr, List.forIn_cons]
    refine wpAny_bind (wpAny_bind ?_)
    dsimp only
    rw [if_neg (by rw [sizeLine_eq]; simp)]
    have hg : x.cps[0]? = some x.cps[0] := by simp
    have h0 : _codecs.asciiCodec.bad x.cps[0] = false := hbad _ (Array.getElem_mem _)
    have hf : Array.findIdx? _codecs.asciiCodec.bad x.cps = none := by
      rw [Array.findIdx?_eq_none_iff]; exact fun c hc => hbad c hc
    have he : x.cps.extract 0 = x.cps := by simp
    have hfo : Array.foldl (fun acc y => acc ++ (_codecs.asciiCodec.bytesOf y).toArray) #[] x.cps = x.cps.map (·.toUInt8) := by
      have h1 := foldl_bytes x.cps.toList #[]
      rw [Array.foldl_toList] at h1
      rw [h1]
      apply Array.ext'
      simp
    rw [hg]
    dsimp only
    rw [h0, if_pos (by simp)]
    refine wpAny_pure ?_
    dsimp only
    simp only [he, hf, Option.getD_none, hfo]
    rw [Nat.zero_add]
    by_cases h1 : x.cps.size - 1 = 0
    · rw [h1]
      refine wpAny_pure ?_
      exact wpAny_pure h
    · have hr2 : List.range' 1 (x.cps.size - 1) = 1 :: List.range' 2 (x.cps.size - 2) := by
        have : x.cps.size - 1 = (x.cps.size - 2) + 1 := by omega
        rw [this, List.range'_succ]
      rw [hr2, List.forIn_cons]
      refine wpAny_bind ?_
      dsimp only
      have hz : ¬ (x.cps.map (·.toUInt8)).size > sizeLine := by rw [sizeLine_eq, Array.size_map]; have : x.cps.size ≤ 1000000 := hl; omega
      rw [if_neg hz]
      have hg2 : x.cps[x.cps.size]? = none := by simp
      rw [hg2]
      dsimp only
      refine wpAny_pure ?_
      dsimp only
      refine wpAny_pure ?_
      exact wpAny_pure h

theorem road_ascii {id : String} {self : Value} {x : Str} : _codecs.encodeRoad id self x (Str.ofString "ascii") none = (_codecs.encodeNarrow id _codecs.asciiCodec none self x >>= fun b => mkBytes b) := by kernel_rfl
theorem codec_ascii {id f which : String} {u : Tok} : Str.codecArg id f which (some (.str (Str.ofString "ascii") u)) = pure (some (Str.ofString "ascii")) := by kernel_rfl
theorem encode_any {x : Str} {t u : Tok} {Q : Value → Shared → Prop} (hx : ∀ c ∈ x.cps, c < 128) (hl : x.length ≤ 1000000) (h : ∀ t' k, Q (.bytes (x.cps.map (·.toUInt8)) t') { s with toks := k }) :
    wpAny (model prog w) A (call (.builtin "str.encode") [.str x t, .str (Str.ofString "ascii") u]) Q E s := by
  refine call_body F.slot_str_encode (typeIs_str s x t) F.entry_str_encode (F.args_str_encode_2 _ _) ?_
  unfold Builtin.«str.encode»
  refine wpAny_bind (wpAny_of_eq (a := (Value.str x t, x, [Value.str (Str.ofString "ascii") u])) rfl ?_)
  refine wpAny_bind (wpAny_of_eq (a := [some (Value.str (Str.ofString "ascii") u), none]) rfl ?_)
  refine wpAny_bind (wpAny_of_eq codec_ascii ?_)
  refine wpAny_bind (wpAny_of_eq (a := none) rfl ?_)
  refine wpAny_bind ?_
  show wpAny _ _ (_codecs.encodeRoad "str.encode" (.str x t) x (Str.ofString "ascii") none) _ _ _
  rw [road_ascii]
  refine wpAny_bind (encode_ascii hx hl ?_)
  unfold mkBytes
  have hz : ¬ (x.cps.map (·.toUInt8)).size > sizeLine := by rw [sizeLine_eq, Array.size_map]; have : x.cps.size ≤ 1000000 := hl; omega
  rw [if_neg hz]
  exact wpAny_bind (wpAny_fresh (wpAny_pure (wpAny_pure ⟨_, rfl, h _ _⟩)))
end
end Mine
end
section
open PySem PySem.W PySem.Calls PyProof.Rows
namespace Mine
set_option maxRecDepth 100000
open Builtin
section
variable {prog : Program} {w : World} {A : Around} {E : Value → Shared → Prop} {s : Shared} {h₀ : Heap} {L : Addr} {m : Str → Option Value} {news : List (Addr × Obj)}

theorem forIn_count {M : Model} {σ : Type} {body : Nat → σ → Sem (ForInStep σ)} {inv : Nat → σ} {n : Nat} {Q : σ → Shared → Prop} (hstep : ∀ k i, i < n → ∀ Q' : ForInStep σ → Shared → Prop, Q' (.yield (inv (i + 1))) s → wpAny M A (body k (inv i)) Q' E s)
    (h : Q (inv n) s) : ∀ r i k, i + r = n → wpAny M A (forIn (List.range' k r) (inv i) body) Q E s
  | 0, i, k, e => by
    have : i = n := by omega
    subst this
    exact wpAny_pure h
  | r + 1, i, k, e => by
    rw [List.range'_succ, List.forIn_cons]
    exact wpAny_bind (hstep k i (by omega) _ (forIn_count hstep h r (i + 1) (k + 1) (by omega)))

theorem ascii_run {M : Model} {id : String} {b : Array UInt8} {Q : Array Nat × Nat → Shared → Prop} (hb : ∀ c ∈ b, c.toNat < 128) (hl : b.size ≤ 1000) (h : Q (b.map (·.toNat), b.size) s) :
    wpAny M A (_codecs.runDecoder id _codecs.asciiDecoder none true b 0 []) Q E s := by
  unfold _codecs.runDecoder
  simp only [Std.Legacy.Range.forIn_eq_forIn_range']
  have hsz : ([:b.size] : Std.Legacy.Range).size = b.size := by simp [Std.Legacy.Range.size]
  rw [hsz]
  have e0 : ((0, #[], {}) : Nat × Array Nat × _codecs.Faults) = (fun i : Nat => ((i, (b.map (·.toNat)).extract 0 i, {}) : Nat × Array Nat × _codecs.Faults)) 0 := by simp
  rw [e0]
  refine wpAny_bind (forIn_count (inv := fun i : Nat => ((i, (b.map (·.toNat)).extract 0 i, {}) : Nat × Array Nat × _codecs.Faults)) (n := b.size) ?_ ?_ b.size 0 0 (by omega))
  · intro k i hi Q' hq
    dsimp only
    have h1 : ¬ ((b.map (·.toNat)).extract 0 i).size > sizeLine := by rw [sizeLine_eq, Array.size_extract, Array.size_map]; omega
    rw [if_neg h1, if_neg (by omega)]
    have hc : (b.getD i 0).toNat < 128 := by
      have e : b.getD i 0 = b[i] := by simp [Array.getD_eq_getD_getElem?, hi]
      rw [e]; exact hb _ (Array.getElem_mem _)
    have hf : _codecs.asciiDecoder.find true b i = .text [(b.getD i 0).toNat] (i + 1) := by
      show (if (b.getD i 0).toNat < 128 then _ else _) = _
      rw [if_pos hc]; rfl
    rw [hf]
    dsimp only
    have e2 : (b.map (·.toNat)).extract 0 i ++ [(b.getD i 0).toNat].toArray = (b.map (·.toNat)).extract 0 (i + 1) := by
      apply Array.ext'
      simp only [Array.toList_append, Array.toList_extract, Array.toList_map, List.drop_zero]
      have e : b.getD i 0 = b[i] := by simp [Array.getD_eq_getD_getElem?, hi]
      rw [e]
      simp [List.take_add_one, hi]
    rw [e2]
    exact wpAny_pure hq
  · dsimp only
    refine wpAny_pure ?_
    have e3 : (b.map (·.toNat)).extract 0 b.size = b.map (·.toNat) := by
      apply Array.ext'
      simp only [Array.toList_extract, Array.toList_map, List.extract_eq_take_drop, List.drop_zero, Nat.sub_zero]
      exact List.take_of_length_le (by simp)
    rw [e3]
    exact h

theorem decodeRoad_ascii {id : String} {b : Array UInt8} : _codecs.decodeRoad id b (PySem.Str.ofString "ascii") none [] = (_codecs.runDecoder id _codecs.asciiDecoder none true b 0 [] >>= fun r => mkStr ⟨r.1⟩) := by kernel_rfl
theorem decode_entry {c : UInt8} {cs : List UInt8} {t u : Tok} : «bytes.decode» ⟨[.bytes (c :: cs).toArray t, .str (PySem.Str.ofString "ascii") u], []⟩ = (mkStr (PySem.Str.ofString "utf-8") >>= fun _ => mkStr (PySem.Str.ofString "ascii") >>= fun e => mkStr (PySem.Str.ofString "bytes.decode") >>= fun d =>
    call (.builtin "_codecs.decode.text") [.bytes (c :: cs).toArray t, e, .none, d] >>= fun v => ret v) := by kernel_rfl
theorem meets_ascii {b : Array UInt8} {t t1 t2 : Tok} {d : PySem.Str} (hb : ∀ c ∈ b, c.toNat < 128) (hl : b.size ≤ 1000) :
    Meets («_codecs.decode.text» ⟨[.bytes b t, .str (PySem.Str.ofString "ascii") t1, .none, .str d t2], []⟩) (fun _ R s => R (.ok (.ret (.str ⟨b.map (·.toNat)⟩ s.toks))) { s with toks := s.toks + 1 }) := by
  refine .of_wp fun prog w A R s h => ?_
  show wpAny _ _ (Bytes.bytesLike _ (.bytes b t) >>= fun r => _) _ _ s
  refine wpAny_bind (wpAny_of_eq KBd.like_eq ?_)
  refine wpAny_bind (wpAny_of_eq KBd.held_eq ?_)
  show wpAny _ _ (_codecs.decodeRoad _ b (PySem.Str.ofString "ascii") none [] >>= fun v => _) _ _ s
  rw [decodeRoad_ascii]
  refine wpAny_bind (wpAny_bind (ascii_run hb hl ?_))
  exact wpAny_mkStr (wpAny_pure ⟨_, rfl, h⟩) (by rw [sizeLine_eq]; show (b.map (·.toNat)).size ≤ _; rw [Array.size_map]; omega)
theorem decode_any {c : UInt8} {cs : List UInt8} {t u : Tok} {Q : Value → Shared → Prop} (hb : ∀ x ∈ (c :: cs).toArray, x.toNat < 128) (hl : (c :: cs).length ≤ 1000) (h : ∀ t' k, Q (.str ⟨(c :: cs).toArray.map (·.toNat)⟩ t') { s with toks := k }) :
    wpAny (model prog w) A (call (.builtin "bytes.decode") [.bytes (c :: cs).toArray t, .str (PySem.Str.ofString "ascii") u]) Q E s := by
  refine call_body FB.slot_bytes_decode (typeIs_bytes _ _ _) FB.entry_bytes_decode (args_decode _ _) ?_
  rw [decode_entry]
  refine wpAny_bind (wpAny_mkStr ?_ (by decide))
  refine wpAny_bind (wpAny_mkStr ?_ (by decide))
  refine wpAny_bind (wpAny_mkStr ?_ (by decide))
  exact wpAny_bind (call_function_meets KBd.kind_text KBd.plain_text KBd.entry_text (KBd.args_text _ _ _ _) (meets_ascii hb hl) (wpAny_pure ⟨_, rfl, h _ _⟩))
end
end Mine
end
section
open PySem PySem.W PySem.Calls PyProof.Rows
namespace Mine
/-- what the group holds -/
def inner (b : Array UInt8) (p : Nat) : Array UInt8 := ((b.map (·.toNat)).extract (p + 7) (shut (b.map (·.toNat)) (p + 7))).map (·.toUInt8)
theorem getMethod_split {M : Model} {A : Around} {E : Value → Shared → Prop} {s : Shared} {b : Array UInt8} {t : Tok} {pl : Sem Bool} {Q : Value × List Value → Shared → Prop} (h : Q (.builtin "bytes.split", [.bytes b t]) s) : wpAny M A (getMethod (.bytes b t) "split" pl) Q E s :=
  KBd.method_of (.bytes b t) (typeIs_bytes _ _ _) slot_split type_split KBd.noRef h
set_option maxRecDepth 100000 in
set_option maxHeartbeats 8000000 in
theorem flags_call {w : World} {hb : Heap} {mg mb : Str → Option Value} {mean : ExcName → Option Value} {env : Env} {L : Addr} {m : Str → Option Value} {s : Shared} {news : List (Addr × Obj)}
    {E : Value → Shared → Prop} {Q : Value → Shared → Prop} {b : Array UInt8} {t : Tok} {p : Nat} {ws : List (List UInt8)}
    (G : Gd w hb mg mb mean) (hl : InLaw env L) (F : Fr hb L s.heap m) (N : News hb L s.heap news) (h8 : 8 ≤ b.size) (hbs : b.size ≤ 1000)
    (hp : p ≤ runLen (b.map (·.toNat)) 10 b.size 0) (hg : good (b.map (·.toNat)) p) (hno : ∀ j, p < j → j ≤ runLen (b.map (·.toNat)) 10 b.size 0 → ¬ good (b.map (·.toNat)) j)
    (hin : (inner b p).size ≤ 1000) (hsp : (inner b p).any Builtin.Bytes.isSpace = true) (hw : Builtin.Bytes.words ((inner b p).size + 1) ((inner b p).size + 1) (inner b p).toList = ws) (hwl : ws.length ≤ 1000)
    (h : ∀ a vs h' tk, BytesAre vs ws → Fr hb L h' m → News hb L h' ((a, tupO vs.toArray) :: news) → (∀ p ∈ news, p.1 < a) → Q (.ref a) { s with heap := h', toks := tk }) :
    wpAny (model Challenge.rw_wu0002_01.row.prog w) (callerA.deeper env) (call (.ref 43) [.bytes b t] []) Q E s := by
  k_with_none
  (k_with "getMethod ref" => (k_here; (with_reducible show wpAny _ _ (getMethod (Value.ref _) (PySem.Str.ofString "match") _) _ _ _); refine' getMethod_match (Frag.In.keeps ?X (Fr.keep ?F) _ _ ?l) ?_; (case X => k_asm); (case F => k_asm); (case l => k_is)))
  (k_with "getMethod ref" => (k_here; (with_reducible show wpAny _ _ (getMethod (Value.ref _) (PySem.Str.ofString "group") _) _ _ _); refine' getMethod_group (News.get ?N ?m) ?_; (case N => k_asm); (case m => k_mem)))
  (k_with "truthy ref" => (k_here; refine' truthy_mo (News.get ?N ?m) ?_; (case N => k_asm); (case m => k_mem)))
  (k_with "getMethod bytes" => (k_here; (with_reducible show wpAny _ _ (getMethod _ (PySem.Str.ofString "split") _) _ _ _); refine getMethod_split ?_))
  (k_with "call builtin:re.Pattern.match" => (k_here; refine' match_any ?F ?N (Frag.In.keeps ?X (Fr.keep ?F2) _ _ ?l1) ?e2 ?e5 ?e6 (Frag.In.keeps ?X2 (Fr.keep ?F3) _ _ ?l2) ?cs ?h8 ?hb ?hp ?hg ?hno ?_; (case F => k_asm); (case N => k_asm); (case X => k_asm); (case F2 => k_asm); (case l1 => k_is); (case e2 => rfl); (case e5 => rfl); (case e6 => rfl); (case X2 => k_asm); (case F3 => k_asm); (case l2 => k_is); (case cs => decide +kernel); (case h8 => assumption); (case hb => omega); (case hp => assumption); (case hg => assumption); (case hno => assumption); intro a' c' h' F' N' l1 l2; (try k_lt l1); (try k_sweep)))
  (k_with "call builtin:re.Match.group" => (k_here; refine' group_any ?F ?X (News.get ?N ?m) (News.get ?N2 ?m2) (Frag.In.keeps ?X2 (Fr.keep ?F2) _ _ ?l1) ?pf ?l2 ?hk ?hg ?hb ?_; (case F => k_asm); (case X => k_asm); (case N => k_asm); (case m => k_mem); (case N2 => k_asm); (case m2 => k_mem); (case X2 => k_asm); (case F2 => k_asm); (case l1 => k_is); (case pf => rfl); (case l2 => k_is); (case hk => k_keys); (case hg => k_is); (case hb => omega); intro t' k'))
  (k_with "call builtin:bytes.split" => (k_here; refine' split_any ?F ?N ?sp ?hb ?hw ?hl ?_; (case F => k_asm); (case N => k_asm); (case sp => assumption); (case hb => assumption); (case hw => assumption); (case hl => assumption); intro l' vs' h' k' bv' F' N' l1; (try k_lt l1); (try k_sweep)))
  (k_with "call type:tuple" => (k_here; (with_reducible show wpAny _ _ (call (Value.type _) [Value.ref _]) _ _ _); k_dflt (refine' kde_tupleOf ?k1 ?k2 ?k3 ?k4 ?k5 ?_; (case k1 => k_asm); (case k2 => k_asm); (case k3 => exact News.isList (by k_asm) (by k_mem)); (case k4 => (rw [List.size_toArray, BytesAre.length (by assumption)]; omega)); (case k5 => rfl)); intro D' h' F' N' l1; (try k_lt l1); (try k_sweep)))
  obtain ⟨KX, X', V, GL, T, K0⟩ := G
  obtain ⟨hf, hk⟩ := hl
  revert KX; k_fill; intro KX
  refine wpAny_call ?_
  refine' code_def ?k1 ?k2 ?k3 ?k4 ?k5 ?kA hf hk ?k6 ?k7 ?k8 ?k9 ?kB ?_ ?c2 ?c3 ?c4 ?c5
  case kA => exact rfl
  case k1 => k_asm
  case k2 => k_asm
  case k3 => k_asm
  case k4 => k_asm
  case k5 => k_asm
  case k6 => k_is
  case k7 => k_is
  case k8 => k_room
  case k9 => exact BindsTo.of_eq rfl
  case c5 => decide
  case kB => exact locs rfl
  case c2 => exact rfl
  case c3 => exact rfl
  case c4 => exact rfl
  k_whole
  intro g' L' h' FG' F' N' B' X' T'
  (try dsimp only); (try k_lift B'); (try k_fold)
  k_steps
  exact h _ _ _ _ (by assumption) (by assumption) (news_drop1 (news_drop1 (news_drop1 (by assumption)))) (allLt_to (And.right (And.right (And.right (by assumption : _ ∧ _ ∧ _ ∧ AllLt _ news)))))
end Mine
end
section
open PySem PySem.W PySem.Calls PyProof.Rows
namespace Mine
def figT (j : Nat) : Str := [Str.ofString "", Str.ofString "+", Str.ofString "00", Str.ofString "0_"].getD j Str.empty
def figN (j n : Nat) : Str := figT j ++ Str.ofString (toString (n : Int))
set_option maxRecDepth 100000 in
theorem figN_int : ∀ j, j < 4 → ∀ n, n < 64 → PySem.intText? (figN j n) = some (n : Int) := by decide +kernel
set_option maxRecDepth 100000 in
theorem figN_ok : ∀ j, j < 4 → ∀ n, n < 64 → (figN j n).length ≤ 4 ∧ 1 ≤ (figN j n).length ∧ ((figN j n).cps.toList.all fun c => (48 ≤ c && c ≤ 57) || c == 43 || c == 95) = true := by decide +kernel

def tabA (k : Int) : Str := if k = 0 then Str.ofString "\\Seen" else if k = 1 then Str.ofString "|" else if k = 2 then Str.ofString "7" else Str.ofString "FLAGS"
def tabB (k : Int) : Str := if k = 0 then Str.ofString "|" else if k = 1 then Str.ofString "(" else if k = 2 then Str.ofString "+" else Str.ofString "("
def pj (x : Int) : Nat := ((x.fdiv 64).fmod 4).toNat
def ph (x : Int) : Nat := (x.fmod 64).toNat
def pA (x : Int) : Str := tabA ((x.fdiv 256).fmod 4)
def pB (x : Int) : Str := tabB ((x.fdiv 256).fmod 4)
def figS (x : Int) : Str := figN (pj x) (ph x)
theorem pj_lt (x : Int) : pj x < 4 := by
  have h1 := Int.fmod_nonneg_of_pos (x.fdiv 64) (show (0 : Int) < 4 by decide)
  have h2 := Int.fmod_lt_of_pos (x.fdiv 64) (show (0 : Int) < 4 by decide)
  unfold pj; omega
theorem ph_lt (x : Int) : ph x < 64 := by
  have h1 := Int.fmod_nonneg_of_pos x (show (0 : Int) < 64 by decide)
  have h2 := Int.fmod_lt_of_pos x (show (0 : Int) < 64 by decide)
  unfold ph; omega
theorem ph_int (x : Int) : ((ph x : Nat) : Int) = x.fmod 64 := by
  have h1 := Int.fmod_nonneg_of_pos x (show (0 : Int) < 64 by decide)
  unfold ph; omega
theorem figS_eq (x : Int) : [Str.ofString "", Str.ofString "+", Str.ofString "00", Str.ofString "0_"].getD ((x.fdiv 64).fmod 4).toNat Str.empty ++ Str.ofString (toString (x.fmod 64)) = figS x := by
  unfold figS figN
  rw [ph_int]; rfl
theorem figS_int (x : Int) : PySem.intText? (figS x) = some (x.fmod 64) := by rw [← ph_int]; exact figN_int _ (pj_lt x) _ (ph_lt x)
/-- a sign that may stand in a word -/
def wordSign (c : Nat) : Bool := decide (c < 128) && c != 32 && c != 41 && c != 10 && !(decide (9 ≤ c) && decide (c ≤ 13))
theorem figN_signs : ∀ j, j < 4 → ∀ n, n < 64 → ((figN j n).cps.toList.all fun c => wordSign c && c != 40 && c != 70) = true := by decide +kernel
theorem tab_ok (k : Int) : ((tabA k).length ≤ 5 ∧ 1 ≤ (tabA k).length ∧ (tabA k).cps.toList.all (fun c => wordSign c && c != 40) = true) ∧ ((tabB k).length = 1 ∧ (tabB k).cps.toList.all (fun c => wordSign c && c != 70) = true) := by
  unfold tabA tabB
  by_cases h0 : k = 0
  · simp only [h0, if_true]; decide +kernel
  · by_cases h1 : k = 1
    · simp only [h1, if_true, show ¬ (1 : Int) = 0 by decide, if_false]; decide +kernel
    · by_cases h2 : k = 2
      · simp only [h2, if_true, show ¬ (2 : Int) = 0 by decide, show ¬ (2 : Int) = 1 by decide, if_false]; decide +kernel
      · simp only [h0, h1, h2, if_false]; decide +kernel
theorem figS_len (x : Int) : (figS x).length ≤ 4 ∧ 1 ≤ (figS x).length := ⟨(figN_ok _ (pj_lt x) _ (ph_lt x)).1, (figN_ok _ (pj_lt x) _ (ph_lt x)).2.1⟩
theorem all_lt {x : Str} {p : Nat → Bool} (h : x.cps.toList.all (fun c => wordSign c && p c) = true) : ∀ c ∈ x.cps, c < 128 := fun c hc => by
  have := List.all_eq_true.mp h c (Array.mem_toList_iff.mpr hc)
  simp only [wordSign, Bool.and_eq_true, decide_eq_true_eq] at this
  exact this.1.1.1.1.1
theorem figS_lt (x : Int) : ∀ c ∈ (figS x).cps, c < 128 := by
  have := figN_signs _ (pj_lt x) _ (ph_lt x)
  refine all_lt (p := fun c => c != 40 && c != 70) ?_
  unfold figS
  simpa only [Bool.and_assoc] using this
theorem pA_lt (x : Int) : ∀ c ∈ (pA x).cps, c < 128 := all_lt (tab_ok _).1.2.2
theorem pB_lt (x : Int) : ∀ c ∈ (pB x).cps, c < 128 := all_lt (tab_ok _).2.2
/-- the words of a wall's list -/
def pieceWords (x : Int) : List Str := if pA x = Str.ofString "FLAGS" then [figS x] else [pA x, pB x, figS x]
/-- a wall's text -/
def pieceT (x : Int) : Str := Str.ofString "FLAGS ( " ++ Txt.join (Str.ofString " ") [pA x, pB x, figS x] ++ Str.ofString " )"
def codes (x : Str) : List UInt8 := (x.cps.map (·.toUInt8)).toList
end Mine
end
section
open PySem PySem.W PySem.Calls PyProof.Rows
namespace Mine
set_option maxRecDepth 100000
theorem str_small {prog : Program} {w : World} {A : Around} {E : Value → Shared → Prop} {s : Shared} {Q : Value → Shared → Prop} {a : Int} {t : Tok} (h0 : 0 ≤ a) (h1 : a < 1000000) (h : Q (.str (Str.ofString (toString a)) s.toks) { s with toks := s.toks + 1 }) : wpAny (model prog w) A (call (.type "str") [.int a t]) Q E s :=
  PySem.P.str_of_int (by
    by_cases h : a.natAbs = 0
    · rw [h]; decide
    · have h2 : a.natAbs < 2 ^ 20 := by omega
      exact Nat.lt_of_lt_of_le ((Nat.log2_lt h).mpr h2) (by decide)) h
theorem list_item_to {prog : Program} {w : World} {A : Around} {E : Value → Shared → Prop} {s : Shared} {Q : Value → Shared → Prop} {value slice : Expr} {l : Addr} {vs : List Value} {c : Nat} {u : Tok} {v : Value} (hc : c < 1000000) (hl : s.heap.IsList l vs.toArray) (hx : vs[c]? = some v) (h : Q v s)
    (hs : subscripted slice false (.ref l) (.int (c : Int) u) = operate [.ref l, .int (c : Int) u] (getItem (.ref l) (.int (c : Int) u)) := by with_unfolding_all rfl) :
    wpAny (model prog w) A (subscriptTail value slice (.ref l) (.int (c : Int) u)) Q E s :=
  tail_any hl.typeIs slot_list_getitem.lookup (wpAny_getItem_list hl (by omega) (by omega) (by simpa using hx) h) hs
theorem pairs_item {prog : Program} {w : World} {A : Around} {E : Value → Shared → Prop} {s : Shared} {Q : Value → Shared → Prop} {h₀ : Heap} {L : Addr} {news : List (Addr × Obj)} {value slice : Expr} {a l0 l1 l2 l3 : Addr} {t0 t1 t2 t3 t4 t5 t6 t7 u : Tok} {k : Int}
    (N : News h₀ L s.heap news) (ma : (a, W.listOf #[.ref l0, .ref l1, .ref l2, .ref l3] 0) ∈ news) (m0 : (l0, W.listOf #[.str (Str.ofString "\\Seen") t0, .str (Str.ofString "|") t1] 0) ∈ news)
    (m1 : (l1, W.listOf #[.str (Str.ofString "|") t2, .str (Str.ofString "(") t3] 0) ∈ news) (m2 : (l2, W.listOf #[.str (Str.ofString "7") t4, .str (Str.ofString "+") t5] 0) ∈ news)
    (m3 : (l3, W.listOf #[.str (Str.ofString "FLAGS") t6, .str (Str.ofString "(") t7] 0) ∈ news) (h0 : 0 ≤ k) (h4 : k < 4)
    (hs : ∀ k, subscripted slice false (.ref a) (.int k u) = operate [.ref a, .int k u] (getItem (.ref a) (.int k u)))
    (h : ∀ l ta tb, News h₀ L s.heap ((l, W.listOf #[.str (tabA k) ta, .str (tabB k) tb] 0) :: news) → Q (.ref l) s) :
    wpAny (model prog w) A (subscriptTail value slice (.ref a) (.int k u)) Q E s := by
  have hl : s.heap.IsList a [Value.ref l0, .ref l1, .ref l2, .ref l3].toArray := ⟨_, (N _ ma).1, rfl, 0, rfl⟩
  have ext : ∀ {p : Addr × Obj}, p ∈ news → News h₀ L s.heap (p :: news) := fun {p} hp q hq => by
    rcases List.mem_cons.mp hq with rfl | hq
    · exact N _ hp
    · exact N _ hq
  have hk : k = 0 ∨ k = 1 ∨ k = 2 ∨ k = 3 := by omega
  rcases hk with rfl | rfl | rfl | rfl
  · exact list_item_to (c := 0) (by decide) hl rfl (h _ t0 t1 (ext m0)) (hs _)
  · exact list_item_to (c := 1) (by decide) hl rfl (h _ t2 t3 (ext m1)) (hs _)
  · exact list_item_to (c := 2) (by decide) hl rfl (h _ t4 t5 (ext m2)) (hs _)
  · exact list_item_to (c := 3) (by decide) hl rfl (h _ t6 t7 (ext m3)) (hs _)
section
variable {prog : Program} {w : World} {A : Around} {E : Value → Shared → Prop} {s : Shared} {Q : Value → Shared → Prop} {h₀ : Heap} {L : Addr} {news : List (Addr × Obj)}
theorem fig_add {x : Int} {t u : Tok} (h : ∀ t' k, Q (.str (figS x) t') { s with toks := k }) :
    wpAny (model prog w) A (binaryOp .Add (.str ([Str.ofString "", Str.ofString "+", Str.ofString "00", Str.ofString "0_"].getD ((x.fdiv 64).fmod 4).toNat Str.empty) t) (.str (Str.ofString (toString (x.fmod 64))) u)) Q E s := by
  refine SB.add (fun t' k => by rw [figS_eq]; exact h t' k) ?_
  have := (figS_len x).1
  rw [← figS_eq, Str.length_append] at this
  rw [sizeLine_eq]; omega
theorem add_sm {x y : Str} {t u : Tok} (hx : x.length ≤ 1000) (hy : y.length ≤ 1000) (h : ∀ t' k, Q (.str (x ++ y) t') { s with toks := k }) : wpAny (model prog w) A (binaryOp .Add (.str x t) (.str y u)) Q E s :=
  SB.add h (by rw [sizeLine_eq]; omega)
theorem join3 {x a b c : Str} {l : Addr} {t ta tb tc : Tok} (N : News h₀ L s.heap news) (hm : (l, W.listOf #[.str a ta, .str b tb, .str c tc] 0) ∈ news) (hx : x.length ≤ 10) (ha : a.length ≤ 100) (hb : b.length ≤ 100) (hc : c.length ≤ 100)
    (h : ∀ t' k, Q (.str (Txt.join x [a, b, c]) t') { s with toks := k }) : wpAny (model prog w) A (call (.builtin "str.join") [.str x t, .ref l]) Q E s :=
  join_list (items := #[.str a ta, .str b tb, .str c tc]) ⟨_, (N _ hm).1, rfl, 0, rfl⟩ (show StrsAre [.str a ta, .str b tb, .str c tc] [a, b, c] from .cons _ _ (.cons _ _ (.cons _ _ .nil))) (by show a.length + (b.length + (c.length + 0)) + 3 * x.length ≤ 16777216; omega) h
theorem getMethod_encode {M : Model} {x : Str} {t : Tok} {pl : Sem Bool} {Q : Value × List Value → Shared → Prop} (h : Q (.builtin "str.encode", [.str x t]) s) : wpAny M A (getMethod (.str x t) "encode" pl) Q E s :=
  getMethod_builtin (v := .str x t) (typeIs_str s x t) F.plainAttrs_str F.slot_str_encode F.type_str_encode (fun _ e => nomatch e) h
end
theorem len_join3 {a b c : Str} (ha : a.length ≤ 5) (hb : b.length = 1) (hc : c.length ≤ 4) : (Txt.join (Str.ofString " ") [a, b, c]).length ≤ 12 := by
  unfold Txt.join
  rw [StrLaws.glued_eq_join]
  show (a ++ Str.ofString " " ++ (b ++ Str.ofString " " ++ c)).length ≤ 12
  have : (Str.ofString " ").length = 1 := by decide +kernel
  simp only [Str.length_append, this]; omega
theorem bytes_codes (x : Str) (t : Tok) : Value.bytes (x.cps.map (·.toUInt8)) t = .bytes (codes x).toArray t := by
  unfold codes
  rw [Array.toArray_toList]
section
variable {hb : Heap} {L : Addr} {m : Str → Option Value} {s : Shared} {news rest : List (Addr × Obj)} {Q : Value → Shared → Prop} {x : Int} {a c : Addr} {h' : Heap} {tk : Nat} {tt t1 t2 t3 : Tok}
theorem piece_end1
    (h : ∀ a c h' tk tt vs, BytesAre vs ((pieceWords x).map codes) → Fr hb L h' m → News hb L h' ((a, tupO #[.str (pieceT x) tt, .ref c]) :: (c, tupO vs.toArray) :: news) → c < a → (∀ p ∈ news, p.1 < a) → (∀ p ∈ news, p.1 < c) → Q (.ref a) { s with heap := h', toks := tk })
    (he : (tabA ((x.fdiv 256).fmod 4) == Str.ofString "FLAGS") = true) (F : Fr hb L h' m)
    (N : News hb L h' ((a, tupO #[.str (Str.ofString "FLAGS ( " ++ Txt.join (Str.ofString " ") [tabA ((x.fdiv 256).fmod 4), tabB ((x.fdiv 256).fmod 4), figS x] ++ Str.ofString " )") tt, .ref c]) :: (c, tupO #[.bytes ((figS x).cps.map (·.toUInt8)) t1]) :: rest))
    (sub : ∀ p ∈ news, p ∈ rest) (l1 : c < a) (l2 : AllLt a news) (l3 : AllLt c news) : Q (.ref a) { s with heap := h', toks := tk } := by
  have hw : pieceWords x = [figS x] := by unfold pieceWords pA; rw [if_pos (by simpa using he)]
  refine h a c h' tk tt [.bytes (codes (figS x)).toArray t1] (by rw [hw]; exact .cons .nil) F ?_ l1 (allLt_to l2) (allLt_to l3)
  intro p hp
  rw [← bytes_codes] at hp
  rcases List.mem_cons.mp hp with rfl | hp
  · exact N _ (.head _)
  · rcases List.mem_cons.mp hp with rfl | hp
    · exact N _ (.tail _ (.head _))
    · exact N _ (.tail _ (.tail _ (sub _ hp)))
theorem piece_end3
    (h : ∀ a c h' tk tt vs, BytesAre vs ((pieceWords x).map codes) → Fr hb L h' m → News hb L h' ((a, tupO #[.str (pieceT x) tt, .ref c]) :: (c, tupO vs.toArray) :: news) → c < a → (∀ p ∈ news, p.1 < a) → (∀ p ∈ news, p.1 < c) → Q (.ref a) { s with heap := h', toks := tk })
    (he : (tabA ((x.fdiv 256).fmod 4) == Str.ofString "FLAGS") = false) (F : Fr hb L h' m)
    (N : News hb L h' ((a, tupO #[.str (Str.ofString "FLAGS ( " ++ Txt.join (Str.ofString " ") [tabA ((x.fdiv 256).fmod 4), tabB ((x.fdiv 256).fmod 4), figS x] ++ Str.ofString " )") tt, .ref c]) :: (c, tupO #[.bytes ((tabA ((x.fdiv 256).fmod 4)).cps.map (·.toUInt8)) t1, .bytes ((tabB ((x.fdiv 256).fmod 4)).cps.map (·.toUInt8)) t2, .bytes ((figS x).cps.map (·.toUInt8)) t3]) :: rest))
    (sub : ∀ p ∈ news, p ∈ rest) (l1 : c < a) (l2 : AllLt a news) (l3 : AllLt c news) : Q (.ref a) { s with heap := h', toks := tk } := by
  have hw : pieceWords x = [pA x, pB x, figS x] := by unfold pieceWords; rw [if_neg (by unfold pA; simpa using he)]
  refine h a c h' tk tt [.bytes (codes (pA x)).toArray t1, .bytes (codes (pB x)).toArray t2, .bytes (codes (figS x)).toArray t3] (by rw [hw]; exact .cons (.cons (.cons .nil))) F ?_ l1 (allLt_to l2) (allLt_to l3)
  intro p hp
  simp only [← bytes_codes] at hp
  rcases List.mem_cons.mp hp with rfl | hp
  · exact N _ (.head _)
  · rcases List.mem_cons.mp hp with rfl | hp
    · exact N _ (.tail _ (.head _))
    · exact N _ (.tail _ (.tail _ (sub _ hp)))
end
set_option maxRecDepth 100000 in
set_option maxHeartbeats 8000000 in
theorem piece_call {w : World} {hb : Heap} {mg mb : Str → Option Value} {mean : ExcName → Option Value} {env : Env} {L : Addr} {m : Str → Option Value} {s : Shared} {news : List (Addr × Obj)}
    {E : Value → Shared → Prop} {Q : Value → Shared → Prop} {x : Int} {t : Tok}
    (G : Gd w hb mg mb mean) (hl : InLaw env L) (F : Fr hb L s.heap m) (N : News hb L s.heap news) 
    (h : ∀ a c h' tk tt vs, BytesAre vs ((pieceWords x).map codes) → Fr hb L h' m → News hb L h' ((a, tupO #[.str (pieceT x) tt, .ref c]) :: (c, tupO vs.toArray) :: news) → c < a → (∀ p ∈ news, p.1 < a) → (∀ p ∈ news, p.1 < c) → Q (.ref a) { s with heap := h', toks := tk }) :
    wpAny (model Challenge.rw_wu0002_01.row.prog w) (callerA.deeper env) (call (.ref 99) [.int x t] []) Q E s := by
  k_with_none
  (k_with "all steps" => repeat' (first | (k_unfold; (try dsimp only)) | (k_end; kc_close) | (walk1; (try dsimp only)) | (dsimp only; walk1) | (leave1; walk_say "STEP leave1"; (try dsimp only)) | fail "no step"))
  (k_with "subscriptTail Name BinOp ref int" => (k_here; (with_reducible show wpAny _ _ (subscriptTail (Expr.Name (PySem.Str.ofString "pairs") _) _ _ _) _ _ _); with_unfolding_all refine' pairs_item ?N ?ma ?m0 ?m1 ?m2 ?m3 ?h0 ?h4 ?hs ?_; (case N => k_asm); (case ma => k_mem); (case m0 => k_mem); (case m1 => k_mem); (case m2 => k_mem); (case m3 => k_mem); (case h0 => exact Int.fmod_nonneg_of_pos _ (by decide)); (case h4 => exact Int.fmod_lt_of_pos _ (by decide)); (case hs => (intro _; with_unfolding_all rfl)); intro l' ta' tb' N'))
  (k_with "my lt" => first | exact (by assumption : _ ∧ AllLt _ _).2 | exact (by assumption : _ ∧ _ ∧ AllLt _ _).2.2 | exact (by assumption : _ ∧ _ ∧ _ ∧ AllLt _ _).2.2.2 | exact (by assumption : _ ∧ _ ∧ _ ∧ _ ∧ AllLt _ _).2.2.2.2 | exact (by assumption : _ ∧ _ ∧ _ ∧ _ ∧ _ ∧ AllLt _ _).2.2.2.2.2 | exact (by assumption : _ ∧ _ ∧ _ ∧ _ ∧ _ ∧ _ ∧ AllLt _ _).2.2.2.2.2.2 | exact (by assumption : _ ∧ _ ∧ _ ∧ _ ∧ _ ∧ _ ∧ _ ∧ AllLt _ _).2.2.2.2.2.2.2 | exact (by assumption : _ ∧ _ ∧ _ ∧ _ ∧ _ ∧ _ ∧ _ ∧ _ ∧ AllLt _ _).2.2.2.2.2.2.2.2 | exact (by assumption : _ ∧ _ ∧ _ ∧ _ ∧ _ ∧ _ ∧ _ ∧ _ ∧ _ ∧ AllLt _ _).2.2.2.2.2.2.2.2.2 | exact (by assumption : _ ∧ _ ∧ _ ∧ _ ∧ _ ∧ _ ∧ _ ∧ _ ∧ _ ∧ _ ∧ AllLt _ _).2.2.2.2.2.2.2.2.2.2 | exact (by assumption : _ ∧ _ ∧ _ ∧ _ ∧ _ ∧ _ ∧ _ ∧ _ ∧ _ ∧ _ ∧ _ ∧ AllLt _ _).2.2.2.2.2.2.2.2.2.2.2 | exact (by assumption : _ ∧ _ ∧ _ ∧ _ ∧ _ ∧ _ ∧ _ ∧ _ ∧ _ ∧ _ ∧ _ ∧ _ ∧ AllLt _ _).2.2.2.2.2.2.2.2.2.2.2.2 | exact (by assumption : _ ∧ _ ∧ _ ∧ _ ∧ _ ∧ _ ∧ _ ∧ _ ∧ _ ∧ _ ∧ _ ∧ _ ∧ _ ∧ AllLt _ _).2.2.2.2.2.2.2.2.2.2.2.2.2 | exact (by assumption : _ ∧ _ ∧ _ ∧ _ ∧ _ ∧ _ ∧ _ ∧ _ ∧ _ ∧ _ ∧ _ ∧ _ ∧ _ ∧ _ ∧ AllLt _ _).2.2.2.2.2.2.2.2.2.2.2.2.2.2 | exact (by assumption : _ ∧ _ ∧ _ ∧ _ ∧ _ ∧ _ ∧ _ ∧ _ ∧ _ ∧ _ ∧ _ ∧ _ ∧ _ ∧ _ ∧ _ ∧ AllLt _ _).2.2.2.2.2.2.2.2.2.2.2.2.2.2.2 | exact (by assumption : _ ∧ _ ∧ _ ∧ _ ∧ _ ∧ _ ∧ _ ∧ _ ∧ _ ∧ _ ∧ _ ∧ _ ∧ _ ∧ _ ∧ _ ∧ _ ∧ AllLt _ _).2.2.2.2.2.2.2.2.2.2.2.2.2.2.2.2 | exact (by assumption : _ ∧ _ ∧ _ ∧ _ ∧ _ ∧ _ ∧ _ ∧ _ ∧ _ ∧ _ ∧ _ ∧ _ ∧ _ ∧ _ ∧ _ ∧ _ ∧ _ ∧ AllLt _ _).2.2.2.2.2.2.2.2.2.2.2.2.2.2.2.2.2)
  (k_with "my sub" => (intro p hp; repeat (first | exact hp | refine List.Mem.tail _ ?_)))
  (k_with "binaryOp Add str str" => (k_here; refine' add_sm ?k1 ?k2 ?_; (case k1 => first | (decide +kernel) | (rw [Str.length_append]; exact Nat.le_trans (Nat.add_le_add (show (Str.ofString "FLAGS ( ").length ≤ 8 by decide +kernel) (len_join3 (tab_ok _).1.1 (tab_ok _).2.1 (figS_len _).1)) (by decide))); (case k2 => first | (decide +kernel) | exact Nat.le_trans (len_join3 (tab_ok _).1.1 (tab_ok _).2.1 (figS_len _).1) (by decide)); intro t' k'))
  (k_with "binaryOp Add str str" => (k_here; refine fig_add ?_; intro t' k'))
  (k_with "call builtin:str.join" => (k_here; refine' join3 ?N ?m ?kx ?ka ?kb ?kc ?_; (case N => k_asm); (case m => k_mem); (case kx => decide +kernel); (case ka => exact Nat.le_trans (tab_ok _).1.1 (by decide)); (case kb => exact Nat.le_trans (Nat.le_of_eq (tab_ok _).2.1) (by decide)); (case kc => exact Nat.le_trans (figS_len _).1 (by decide)); intro t' k'))
  (k_with "getMethod str" => (k_here; (with_reducible show wpAny _ _ (getMethod _ (PySem.Str.ofString "encode") _) _ _ _); refine getMethod_encode ?_))
  (k_with "call builtin:str.encode" => (k_here; refine' encode_any ?k1 ?k2 ?_; (case k1 => first | exact figS_lt _ | exact pA_lt _ | exact pB_lt _); (case k2 => first | exact Nat.le_trans (figS_len _).1 (by decide) | exact Nat.le_trans (tab_ok _).1.1 (by decide) | exact Nat.le_trans (Nat.le_of_eq (tab_ok _).2.1) (by decide)); intro t' k'))
  (k_with "CompEnd" => (with_unfolding_all refine' LCg.CompEnd.intro ?F ?N _ (fun _ h => h) ?off ?S ?_; (case F => assumption); (case N => assumption); (case off => first | assumption | (with_unfolding_all assumption)); (case S => lcg_src)))
  (k_with "call type:str" => (k_here; (with_reducible show wpAny _ _ (call (Value.type _) [Value.int _ _]) _ _ _); refine' str_small ?k1 ?k2 ?_; (case k1 => exact Int.fmod_nonneg_of_pos _ (by decide)); (case k2 => exact Int.lt_trans (Int.fmod_lt_of_pos _ (by decide)) (by decide))))
  obtain ⟨KX, X', V, GL, T, K0⟩ := G
  obtain ⟨hf, hk⟩ := hl
  k_with "table" => skip
  revert KX; k_fill; intro KX
  refine wpAny_call ?_
  refine' code_def ?k1 ?k2 ?k3 ?k4 ?k5 ?kA hf hk ?k6 ?k7 ?k8 ?k9 ?kB ?_ ?c2 ?c3 ?c4 ?c5
  case kA => exact rfl
  case k1 => k_asm
  case k2 => k_asm
  case k3 => k_asm
  case k4 => k_asm
  case k5 => k_asm
  case k6 => k_is
  case k7 => k_is
  case k8 => k_room
  case k9 => exact BindsTo.of_eq rfl
  case c5 => decide
  case kB => exact locs rfl
  case c2 => exact rfl
  case c3 => exact rfl
  case c4 => exact rfl
  k_whole
  intro g' L' h' FG' F' N' B' X' T'
  (try dsimp only); (try k_lift B'); (try k_fold)
  walk_at "all steps"
  all_goals first
    | (refine piece_end1 h (by assumption) (by assumption) (by assumption) ?_ (And.left (by assumption : _ < _ ∧ _ < _ ∧ _)) ?_ ?_)
    | (refine piece_end3 h (by assumption) (by assumption) (by assumption) ?_ (And.left (by assumption : _ < _ ∧ _ < _ ∧ _)) ?_ ?_)
  all_goals first | walk_at "my lt" | walk_at "my sub"
end Mine
end
section
open PySem PySem.W PySem.Calls PyProof.Rows
namespace Mine

/-- a heap cut off at an address -/
def cut (h : Heap) (n : Nat) : Heap := ⟨h.objs.extract 0 n, h.life⟩
theorem cut_get {h : Heap} {n b : Nat} (hb : b < n) : (cut h n).get? b = h.get? b := by
  unfold cut Heap.get?
  have e : (h.objs.extract 0 n)[b]? = h.objs[b]? := by
    rw [Array.getElem?_extract]
    by_cases hs : b < h.objs.size
    · rw [if_pos (by omega)]; simp
    · rw [if_neg (by omega)]
      exact (Array.getElem?_eq_none (by omega)).symm
  simp only [e]
theorem cut_none {h : Heap} {n b : Nat} (hb : n ≤ b) : (cut h n).get? b = none := by
  unfold cut Heap.get?
  have e : (h.objs.extract 0 n)[b]? = none := by
    rw [Array.getElem?_eq_none]
    simp; omega
  simp only [e]
theorem cut_size (h : Heap) (n : Nat) : (cut h n).objs.size ≤ n := by
  unfold cut
  simp; omega

theorem cut_size' {h : Heap} {n : Nat} (hn : n ≤ h.objs.size) : n ≤ (cut h n).objs.size := by
  unfold cut
  simp; omega

theorem narrow {g h₁ : Heap} {L' a : Addr} {m : Str → Option Value} {cells extra : List (Addr × Obj)} {o : Obj} (F : Fr g L' h₁ m) (N : News g L' h₁ (cells ++ (a, o) :: extra)) (hc : ∀ p ∈ cells, L' ≤ p.1)
    (ha : a < L') (hx : ∀ p ∈ extra, p.1 < L') (hne : ∀ p ∈ extra, p.1 ≠ a) :
    ∃ g2, g.objs.size ≤ g2.objs.size ∧ g.StaysIn g2 ∧ Fr g2 L' h₁ m ∧ News g2 L' h₁ (cells ++ [(a, o)]) ∧ ∀ p ∈ extra, g2.get? p.1 = some p.2 := by
  have low : ∀ b o, g.get? b = some o → b < L' := fun b o e => Nat.lt_of_lt_of_le (Heap.lt_size e) F.above
  refine ⟨(cut h₁ L').hide a, by rw [Heap.hide_size]; exact Nat.le_trans F.above (cut_size' (Nat.le_of_lt F.ns.lt)), fun b o' e => ?_, ⟨F.ns, fun b o' e => ?_, ?_⟩, fun p hp => ?_, fun p hp => ?_⟩
  · have hba : b ≠ a := fun q => by
      rw [q, (N (a, o) (List.mem_append.mpr (.inr (.head _)))).2.2] at e; cases e
    rw [Heap.hide_ne _ hba, cut_get (low b o' e)]
    exact F.keep b o' e
  · have e' := Heap.of_hide e
    by_cases hb : b < L'
    · rwa [cut_get hb] at e'
    · rw [cut_none (Nat.le_of_not_lt hb)] at e'; cases e'
  · rw [Heap.hide_size]; exact cut_size _ _
  · rcases List.mem_append.mp hp with hp | hp
    · have n := N p (List.mem_append.mpr (.inl hp))
      refine ⟨n.1, n.2.1, ?_⟩
      cases q : ((cut h₁ L').hide a).get? p.1 with
      | none => rfl
      | some o' => have := Heap.of_hide q; rw [cut_none (hc p hp)] at this; cases this
    · rw [List.mem_singleton.mp hp]
      exact ⟨(N (a, o) (List.mem_append.mpr (.inr (.head _)))).1, Nat.ne_of_lt ha, Heap.hide_self _ _⟩
  · rw [Heap.hide_ne _ (hne p hp), cut_get (hx p hp)]
    exact (N p (List.mem_append.mpr (.inr (.tail _ hp)))).1

theorem leave_narrow {h₀ g g2 : Heap} {L : Addr} {m : Str → Option Value} {extra : List (Addr × Obj)} {R : Result → Shared → Prop} {v : Value} {s' : Shared} (hz : g.objs.size ≤ g2.objs.size) (st : g.StaysIn g2) (hx : ∀ p ∈ extra, g2.get? p.1 = some p.2)
    (hL : ∀ p ∈ extra, g.get? p.1 = none)
    (h : LeaveK h₀ L m g2 (fun r s' => News h₀ L s'.heap extra → R r s') v s') : LeaveK h₀ L m g R v s' := by
  obtain ⟨L', m', news', F', N', k⟩ := h
  refine ⟨L', m', news' ++ extra, ⟨F'.ns, fun b o e => F'.keep b o (st b o e), Nat.le_trans hz F'.above⟩, fun p hp => ?_, fun FF NN => ?_⟩
  · rcases List.mem_append.mp hp with hp | hp
    · refine ⟨(N' p hp).1, (N' p hp).2.1, ?_⟩
      cases q : g.get? p.1 with
      | none => rfl
      | some o => have := st _ _ q; rw [(N' p hp).2.2] at this; cases this
    · exact ⟨F'.keep _ _ (hx p hp), Nat.ne_of_lt (Nat.lt_of_lt_of_le (Heap.lt_size (hx p hp)) F'.above), hL p hp⟩
  · exact k FF (fun p hp => NN p (List.mem_append.mpr (.inl hp))) fun p hp => NN p (List.mem_append.mpr (.inr hp))
theorem below_stays {A : Around} {base g g2 : Heap} {outer : List Env} (B : Below A base outer g) (st : g.StaysIn g2) : Below A base outer g2 :=
  ⟨B.stack, fun b o e => st b o (B.stays b o e), B.frames.of_keeps fun b o e _ => ⟨o, st b o e, rfl⟩⟩
end Mine
end
section
open PySem PySem.W PySem.Calls PyProof.Rows
namespace Mine
theorem fold_filter (p : Int → Prop) [DecidablePred p] : ∀ (ks acc : List Int), ks.foldl (fun l k => if p k then l ++ [k] else l) acc = acc ++ ks.filter (fun k => decide (p k))
  | [], acc => by simp
  | k :: ks, acc => by
    rw [List.foldl_cons, fold_filter p ks]
    by_cases h : p k
    · simp [h]
    · simp [h]
theorem spots_eq (ys : List Int) (M : Int) : (List.foldl (fun l' k' => if ys.getD k'.toNat 0 = M then l' ++ [k'] else l') [] (rangeKs 0 ((ys.length : Int) - 0).toNat)) = (rangeKs 0 ys.length).filter (fun k => decide (ys.getD k.toNat 0 = M)) := by
  rw [show ((ys.length : Int) - 0).toNat = ys.length by omega]
  exact fold_filter (fun k => ys.getD k.toNat 0 = M) _ []
theorem mem_range0 {n : Nat} {i : Int} : i ∈ rangeKs 0 n ↔ 0 ≤ i ∧ i < n := by
  constructor
  · intro h; have := mem_rangeKs h; omega
  · rintro ⟨h0, h1⟩
    unfold rangeKs
    exact List.mem_map.mpr ⟨i.toNat, List.mem_range.mpr (by omega), by omega⟩
theorem spots_pos {ys : List Int} {M : Int} (h : M ∈ ys) : 0 < (List.foldl (fun l' k' => if ys.getD k'.toNat 0 = M then l' ++ [k'] else l') [] (rangeKs 0 ((ys.length : Int) - 0).toNat)).length := by
  rw [spots_eq]
  obtain ⟨i, hi, he⟩ := List.getElem_of_mem h
  refine List.length_pos_of_mem (a := (i : Int)) (List.mem_filter.mpr ⟨mem_range0.mpr ⟨by omega, by omega⟩, ?_⟩)
  simp [hi, he]
end Mine
namespace Mine
def mx (l : List Int) : Int := l.foldl max 0
def lastOf (ys : List Int) : Int := mx ((rangeKs 0 ys.length).filter fun k => decide (ys.getD k.toNat 0 = mx ys))
def lvl (ys : List Int) (k : Int) : Int := min (mx (ys.take (k.toNat + 1))) (mx (ys.drop k.toNat))
def row (ys : List Int) (k : Int) : Dat := if k ≤ lastOf ys then .tuple [.int (lvl ys k), .int 0, .int k] else .tuple [.int (lvl ys k), .int 1, .int (-k)]
theorem mx_acc : ∀ (l : List Int) (a : Int), a ≤ l.foldl max a ∧ (∀ y ∈ l, y ≤ l.foldl max a) ∧ (l.foldl max a = a ∨ l.foldl max a ∈ l)
  | [], a => ⟨Int.le_refl _, by simp, .inl rfl⟩
  | x :: l, a => by
    obtain ⟨h1, h2, h3⟩ := mx_acc l (max a x)
    refine ⟨by rw [List.foldl_cons]; omega, fun y hy => ?_, ?_⟩
    · rw [List.foldl_cons]
      rcases List.mem_cons.mp hy with rfl | hy
      · omega
      · exact h2 y hy
    · rw [List.foldl_cons]
      rcases h3 with h3 | h3
      · by_cases h : a ≤ x
        · right; rw [h3, show max a x = x by omega]; exact .head _
        · left; rw [h3]; omega
      · right; exact .tail _ h3
theorem mx_eq {l : List Int} {M : Int} (hm : M ∈ l) (hle : ∀ y ∈ l, y ≤ M) (h0 : ∀ y ∈ l, 0 ≤ y) : mx l = M := by
  obtain ⟨h1, h2, h3⟩ := mx_acc l 0
  unfold mx
  have := h2 M hm
  have := h0 M hm
  rcases h3 with h3 | h3
  · omega
  · have := hle _ h3; omega
end Mine
end
section
open PySem PySem.W PySem.Calls PyProof.Rows
set_option linter.unusedVariables false
namespace Mine
/-- the asking tree under a comparator by keys -/
def Asks (k : Nat → Int) (n : Nat) {α : Type} : KasT α → (α → Prop) → Prop
  | .ret a, R => R a
  | .ask i j t, R => i < n ∧ j < n ∧ Asks k n (t (decide (k i < k j))) R
theorem Asks.bind {k : Nat → Int} {n : Nat} {α β : Type} {f : α → KasT β} {R : α → Prop} {R' : β → Prop} : ∀ (t : KasT α), Asks k n t R → (∀ a, R a → Asks k n (f a) R') → Asks k n (t.bind f) R'
  | .ret a, h, hf => hf a h
  | .ask i j t, h, hf => ⟨h.1, h.2.1, Asks.bind _ h.2.2 hf⟩
theorem Asks.mono {k : Nat → Int} {n : Nat} {α : Type} {R R' : α → Prop} : ∀ (t : KasT α), Asks k n t R → (∀ a, R a → R' a) → Asks k n t R'
  | .ret a, h, hf => hf a h
  | .ask i j t, h, hf => ⟨h.1, h.2.1, Asks.mono _ h.2.2 hf⟩
theorem Asks.wp {k : Nat → Int} {n : Nat} {α : Type} {R : α → Prop} {cmp : Nat → Nat → (Bool → Shared → Prop) → Shared → Prop} {s : Shared} {Q : α → Shared → Prop}
    (hc : ∀ i j (C : Bool → Shared → Prop), i < n → j < n → C (decide (k i < k j)) s → cmp i j C s) : ∀ (t : KasT α), Asks k n t R → (∀ a, R a → Q a s) → t.kasWp cmp Q s
  | .ret a, h, hq => hq a h
  | .ask i j t, h, hq => hc i j _ h.1 h.2.1 (Asks.wp hc _ h.2.2 hq)

section
variable {k : Nat → Int} {n : Nat}
/-- a permutation of the first n numbers -/
def Pm (n : Nat) (p : Array Nat) : Prop := p.toList.Perm (List.range n)
theorem Pm.size {p : Array Nat} (h : Pm n p) : p.size = n := by have := h.length_eq; simpa using this
theorem Pm.lt {p : Array Nat} (h : Pm n p) {i : Nat} (hi : i < n) : p.getD i 0 < n := by
  have hs := h.size
  have : p.getD i 0 = p[i]'(by omega) := by simp [Array.getD, hs, hi]
  rw [this]
  have := h.mem_iff.mp (Array.getElem_mem_toList (xs := p) (i := i) (by omega))
  simpa using this
theorem Pm.inj {p : Array Nat} (h : Pm n p) {i j : Nat} (hi : i < n) (hj : j < n) (e : p.getD i 0 = p.getD j 0) : i = j := by
  have hs := h.size
  have e1 : p.getD i 0 = p.toList[i]'(by simp; omega) := by simp [Array.getD, hs, hi]
  have e2 : p.getD j 0 = p.toList[j]'(by simp; omega) := by simp [Array.getD, hs, hj]
  have nd : p.toList.Nodup := h.nodup_iff.mpr List.nodup_range
  rw [e1, e2] at e
  have nd' := List.pairwise_iff_getElem.mp nd
  rcases Nat.lt_trichotomy i j with c | c | c
  · exact absurd e (nd' i j (by simp; omega) (by simp; omega) c)
  · exact c
  · exact absurd e.symm (nd' j i (by simp; omega) (by simp; omega) c)
def Inj (k : Nat → Int) (n : Nat) : Prop := ∀ i j, i < n → j < n → k i = k j → i = j
/-- sorted up to m -/
def Up (k : Nat → Int) (p : Array Nat) (m : Nat) : Prop := ∀ i j, i < j → j < m → k (p.getD i 0) < k (p.getD j 0)
def Down (k : Nat → Int) (p : Array Nat) (m : Nat) : Prop := ∀ i j, i < j → j < m → k (p.getD j 0) < k (p.getD i 0)
theorem Pm.key {p : Array Nat} (hk : Inj k n) (h : Pm n p) {i j : Nat} (hi : i < n) (hj : j < n) (e : k (p.getD i 0) = k (p.getD j 0)) : i = j := h.inj hi hj (hk _ _ (h.lt hi) (h.lt hj) e)

theorem Up.snoc {p : Array Nat} {m : Nat} (h : Up k p m) (h1 : 1 ≤ m) (hl : k (p.getD (m - 1) 0) < k (p.getD m 0)) : Up k p (m + 1) := by
  intro i j hij hj
  by_cases e : j = m
  · subst e
    by_cases e2 : i = j - 1
    · subst e2; exact hl
    · exact Int.lt_trans (h i (j - 1) (by omega) (by omega)) hl
  · exact h i j hij (by omega)
theorem Down.snoc {p : Array Nat} {m : Nat} (h : Down k p m) (h1 : 1 ≤ m) (hl : k (p.getD m 0) < k (p.getD (m - 1) 0)) : Down k p (m + 1) := by
  intro i j hij hj
  by_cases e : j = m
  · subst e
    by_cases e2 : i = j - 1
    · subst e2; exact hl
    · exact Int.lt_trans hl (h i (j - 1) (by omega) (by omega))
  · exact h i j hij (by omega)

theorem asc_ok {p : Array Nat} (hk : Inj k n) (hp : Pm n p) : ∀ (f m : Nat), 1 ≤ m → m + f ≤ n → Up k p m → Asks k n (kas_asc p f m) (fun r => m ≤ r ∧ r ≤ m + f ∧ Up k p r ∧ (r < n → r < m + f → k (p.getD r 0) < k (p.getD (r - 1) 0)))
  | 0, m, _, _, h => ⟨Nat.le_refl _, Nat.le_refl _, h, fun _ h => absurd h (Nat.lt_irrefl _)⟩
  | f + 1, m, h1, hf, h => by
    refine ⟨hp.lt (by omega), hp.lt (by omega), ?_⟩
    by_cases c : k (p.getD m 0) < k (p.getD (m - 1) 0)
    · rw [decide_eq_true c]; dsimp only; rw [if_pos rfl]
      exact ⟨Nat.le_refl _, Nat.le_add_right _ _, h, fun _ _ => c⟩
    · rw [decide_eq_false c]; dsimp only; rw [if_neg (by simp)]
      have : k (p.getD (m - 1) 0) < k (p.getD m 0) := by
        have : k (p.getD (m - 1) 0) ≠ k (p.getD m 0) := fun e => by have := hp.key hk (by omega) (by omega) e; omega
        omega
      exact Asks.mono _ (asc_ok hk hp f (m + 1) (by omega) (by omega) (h.snoc h1 this)) fun r hr => ⟨by omega, by omega, hr.2.2.1, fun a b => hr.2.2.2 a (by omega)⟩
theorem desc_ok {p : Array Nat} (hk : Inj k n) (hp : Pm n p) : ∀ (f m : Nat), 1 ≤ m → m + f ≤ n → Down k p m → Asks k n (kas_desc f p m 0) (fun r => r.1 = p ∧ r.2.2 = 0 ∧ m ≤ r.2.1 ∧ r.2.1 ≤ m + f ∧ Down k p r.2.1)
  | 0, m, _, _, h => ⟨rfl, rfl, Nat.le_refl _, Nat.le_refl _, h⟩
  | f + 1, m, h1, hf, h => by
    refine ⟨hp.lt (by omega), hp.lt (by omega), ?_⟩
    by_cases c : k (p.getD m 0) < k (p.getD (m - 1) 0)
    · rw [decide_eq_true c]; dsimp only; rw [if_pos rfl, if_neg (by omega)]
      exact Asks.mono _ (desc_ok hk hp f (m + 1) (by omega) (by omega) (h.snoc h1 c)) fun r hr => ⟨hr.1, hr.2.1, by omega, by omega, hr.2.2.2.2⟩
    · rw [decide_eq_false c]; dsimp only; rw [if_neg (by simp)]
      have lt : k (p.getD (m - 1) 0) < k (p.getD m 0) := by
        have : k (p.getD (m - 1) 0) ≠ k (p.getD m 0) := fun e => by have := hp.key hk (by omega) (by omega) e; omega
        omega
      refine ⟨hp.lt (by omega), hp.lt (by omega), ?_⟩
      rw [decide_eq_true lt]; dsimp only; rw [if_pos rfl]
      exact ⟨rfl, rfl, Nat.le_refl _, Nat.le_add_right _ _, h⟩
theorem getD_eq {p : Array Nat} {i : Nat} : p.getD i 0 = (p[i]?).getD 0 := by
  by_cases h : i < p.size <;> simp [Array.getD, h]
theorem rev_get {p : Array Nat} {m : Nat} (hm : m ≤ p.size) (i : Nat) : (kas_rev p 0 m).getD i 0 = if i < m then p.getD (m - 1 - i) 0 else p.getD i 0 := by
  rw [getD_eq]
  unfold kas_rev
  rw [show (m - 0) / 2 = (m - 0) / 2 from rfl, getElem?_mirror_all hm]
  by_cases h : i < m
  · rw [if_pos ⟨Nat.zero_le _, h⟩, if_pos h, getD_eq, show 0 + m - 1 - i = m - 1 - i by omega]
  · rw [if_neg (by omega), if_neg h, getD_eq]
theorem Pm.rev {p : Array Nat} (h : Pm n p) (m : Nat) : Pm n (kas_rev p 0 m) := (Array.perm_iff_toList_perm.mp (mirror_perm p 0 m _)).trans h
theorem Pm.bub {p : Array Nat} (h : Pm n p) (a d : Nat) : Pm n (bubble p a d) := (Array.perm_iff_toList_perm.mp (bubble_perm p a d)).trans h
theorem up_rev {p : Array Nat} {m : Nat} (hm : m ≤ p.size) (h : Down k p m) : Up k (kas_rev p 0 m) m := by
  intro i j hij hj
  rw [rev_get hm, rev_get hm, if_pos (by omega), if_pos hj]
  exact h (m - 1 - j) (m - 1 - i) (by omega) (by omega)
theorem Up.one (p : Array Nat) (h : m ≤ 1) : Up k p m := fun i j h1 h2 => by omega
theorem Down.one (p : Array Nat) (h : m ≤ 1) : Down k p m := fun i j h1 h2 => by omega
/-- the first run -/
theorem count_ok (hk : Inj k n) (h2 : 2 ≤ n) {p : Array Nat} (hp : Pm n p) : Asks k n (kas_count n p) (fun r => 1 ≤ r.1 ∧ r.1 ≤ n ∧ Pm n r.2 ∧ Up k r.2 r.1) := by
  unfold kas_count
  refine Asks.bind _ (asc_ok hk hp (n - 1) 1 (Nat.le_refl _) (by omega) (Up.one p (Nat.le_refl _))) fun m hm => ?_
  by_cases e1 : (m == n) = true
  · rw [if_pos e1]
    exact ⟨hm.1, by omega, hp, hm.2.2.1⟩
  · rw [if_neg e1]
    have hmn : m < n := by
      have : m ≠ n := fun e => e1 (by simp [e])
      omega
    by_cases e2 : m > 1
    · rw [if_pos e2]
      refine ⟨hp.lt (by omega), hp.lt (by omega), ?_⟩
      rw [decide_eq_true (hm.2.2.1 0 (m - 1) (by omega) (by omega))]; dsimp only; rw [if_pos rfl]
      exact ⟨hm.1, by omega, hp, hm.2.2.1⟩
    · rw [if_neg e2]
      have m1 : m = 1 := by omega
      subst m1
      have d2 : Down k p 2 := (Down.one p (Nat.le_refl _)).snoc (Nat.le_refl _) (hm.2.2.2 hmn (by omega))
      unfold kas_descPart
      refine Asks.bind _ (desc_ok hk hp (n - (1 + 1)) (1 + 1) (by omega) (by omega) d2) fun r hr => ?_
      rw [if_neg (by omega), hr.1]
      unfold kas_tail3
      have hz := hp.size
      refine Asks.bind _ (asc_ok hk (hp.rev r.2.1) (n - r.2.1) r.2.1 (by omega) (by omega) (up_rev (by omega) hr.2.2.2.2)) fun m' hm' => ?_
      exact ⟨by show 1 ≤ m'; omega, by show m' ≤ n; omega, hp.rev _, hm'.2.2.1⟩
/-- the place of the next -/
theorem place_ok (hk : Inj k n) {p : Array Nat} (hp : Pm n p) {m : Nat} (hm : m < n) (hs : Up k p m) : ∀ (f l r : Nat), l ≤ r → r ≤ m → r - l ≤ f → (∀ i, i < l → k (p.getD i 0) < k (p.getD m 0)) → (∀ i, r ≤ i → i < m → k (p.getD m 0) < k (p.getD i 0)) →
    Asks k n (kas_place p m f l r) (fun q => q ≤ m ∧ (∀ i, i < q → k (p.getD i 0) < k (p.getD m 0)) ∧ ∀ i, q ≤ i → i < m → k (p.getD m 0) < k (p.getD i 0))
  | 0, l, r, hlr, hr, hf, h1, h2 => ⟨by omega, h1, fun i a b => h2 i (by omega) b⟩
  | f + 1, l, r, hlr, hr, hf, h1, h2 => by
    unfold kas_place
    by_cases hge : l ≥ r
    · rw [if_pos hge]
      exact ⟨by omega, h1, fun i a b => h2 i (by omega) b⟩
    · rw [if_neg hge]
      refine ⟨hp.lt hm, hp.lt (by omega), ?_⟩
      by_cases c : k (p.getD m 0) < k (p.getD ((l + r) / 2) 0)
      · rw [decide_eq_true c]; dsimp only; rw [if_pos rfl]
        refine place_ok hk hp hm hs f l ((l + r) / 2) (by omega) (by omega) (by omega) h1 fun i a b => ?_
        by_cases e : i = (l + r) / 2
        · rw [e]; exact c
        · exact Int.lt_trans c (hs _ _ (by omega) b)
      · rw [decide_eq_false c]; dsimp only; rw [if_neg (by simp)]
        have lt : k (p.getD ((l + r) / 2) 0) < k (p.getD m 0) := by
          have : k (p.getD ((l + r) / 2) 0) ≠ k (p.getD m 0) := fun e => by have := hp.key hk (by omega) hm e; omega
          omega
        refine place_ok hk hp hm hs f ((l + r) / 2 + 1) r (by omega) hr (by omega) (fun i a => ?_) h2
        by_cases e : i = (l + r) / 2
        · rw [e]; exact lt
        · exact Int.lt_trans (hs i ((l + r) / 2) (by omega) (by omega)) lt
theorem bub_get {p : Array Nat} {m q : Nat} (hm : m < p.size) (hq : q ≤ m) (i : Nat) : (bubble p m (m - q)).getD i 0 = if i = q then p.getD m 0 else if q < i ∧ i ≤ m then p.getD (i - 1) 0 else p.getD i 0 := by
  rw [getD_eq, getElem?_bubble hm _ (by omega), show m - (m - q) = q by omega]
  by_cases a : i = q
  · rw [if_pos a, if_pos a, getD_eq]
  · rw [if_neg a, if_neg a]
    by_cases b : q < i ∧ i ≤ m
    · rw [if_pos b, if_pos b, getD_eq]
    · rw [if_neg b, if_neg b, getD_eq]
theorem bin_ok (hk : Inj k n) : ∀ (f m : Nat) {p : Array Nat}, Pm n p → Up k p m → m + f = n → Asks k n (kas_bin f p m) (fun r => Pm n r ∧ Up k r n)
  | 0, m, p, hp, hs, hf => ⟨hp, by rwa [show n = m by omega]⟩
  | f + 1, m, p, hp, hs, hf => by
    unfold kas_bin
    have hz := hp.size
    refine Asks.bind _ (place_ok hk hp (m := m) (by omega) hs m 0 m (Nat.zero_le _) (Nat.le_refl _) (by omega) (fun i h => by omega) fun i h h' => by omega) fun q hq => ?_
    refine bin_ok hk f (m + 1) (hp.bub _ _) (fun i j hij hj => ?_) (by omega)
    obtain ⟨q0, q1, q2⟩ := hq
    rw [bub_get (by omega) q0, bub_get (by omega) q0]
    by_cases a1 : i = q
    · rw [if_pos a1, if_neg (by omega), if_pos (by omega)]
      exact q2 _ (by omega) (by omega)
    · rw [if_neg a1]
      by_cases a2 : q < i ∧ i ≤ m
      · rw [if_pos a2, if_neg (by omega), if_pos (by omega)]
        exact hs _ _ (by omega) (by omega)
      · rw [if_neg a2]
        by_cases b1 : j = q
        · rw [if_pos b1]; exact q1 _ (by omega)
        · rw [if_neg b1]
          by_cases b2 : q < j ∧ j ≤ m
          · rw [if_pos b2]
            by_cases e : i = j - 1
            · omega
            · exact hs _ _ (by omega) (by omega)
          · rw [if_neg b2]; exact hs _ _ hij (by omega)
theorem sort_ok (hk : Inj k n) (h2 : 2 ≤ n) : Asks k n (kas_sort n) (fun r => Pm n r ∧ Up k r n) := by
  unfold kas_sort
  refine Asks.bind _ (count_ok hk h2 (p := List.toArray (List.range n)) (List.Perm.refl _)) fun r hr => ?_
  by_cases c : r.1 < n
  · rw [if_pos c]
    exact bin_ok hk _ _ hr.2.2.1 (by rw [show max r.1 1 = r.1 by omega]; exact hr.2.2.2) (by omega)
  · rw [if_neg c]
    exact ⟨hr.2.2.1, by rw [show n = r.1 by omega]; exact hr.2.2.2⟩
end
end Mine
end
section
open PySem PySem.W PySem.Calls PyProof.Rows
set_option linter.unusedVariables false
namespace Mine
abbrev Tri := Int × Int × Int
/-- values that are tuples of three ints of the ledger -/
inductive TriAll (news : List (Addr × Obj)) : List Value → List Tri → Prop
  | nil : TriAll news [] []
  | cons {a : Addr} {x y z : Int} {t u v : Tok} {n : Nat} {vs : List Value} {tr : List Tri} : (a, ({ cls := .type "tuple", data := .seq #[.int x t, .int y u, .int z v] n } : Obj)) ∈ news → TriAll news vs tr → TriAll news (.ref a :: vs) ((x, y, z) :: tr)
def lex3 (a b : Tri) : Bool := if a.1 = b.1 then if a.2.1 = b.2.1 then if a.2.2 = b.2.2 then false else decide (a.2.2 < b.2.2) else decide (a.2.1 < b.2.1) else decide (a.1 < b.1)
theorem TriAll.length {news : List (Addr × Obj)} : ∀ {vs : List Value} {tr : List Tri}, TriAll news vs tr → vs.length = tr.length
  | _, _, .nil => rfl
  | _, _, .cons _ r => by rw [List.length_cons, List.length_cons, r.length]
theorem TriAll.at {news : List (Addr × Obj)} : ∀ {vs : List Value} {tr : List Tri} {i : Nat}, TriAll news vs tr → i < tr.length →
    ∃ a t u v n, vs.getD i .none = .ref a ∧ (a, ({ cls := .type "tuple", data := .seq #[.int (tr.getD i default).1 t, .int (tr.getD i default).2.1 u, .int (tr.getD i default).2.2 v] n } : Obj)) ∈ news
  | _, _, _, .nil, h => absurd h (Nat.not_lt_zero _)
  | _, _, 0, .cons hm _, _ => ⟨_, _, _, _, _, rfl, hm⟩
  | _, _, i + 1, .cons _ r, h => by
    obtain ⟨a, t, u, v, n, e, hm⟩ := r.at (Nat.lt_of_succ_lt_succ h)
    exact ⟨a, t, u, v, n, e, hm⟩
theorem TriAll.mono {n₁ n₂ : List (Addr × Obj)} (hs : ∀ p ∈ n₁, p ∈ n₂) : ∀ {vs : List Value} {tr : List Tri}, TriAll n₁ vs tr → TriAll n₂ vs tr
  | _, _, .nil => .nil
  | _, _, .cons hm r => .cons (hs _ hm) (r.mono hs)
theorem TriAll.tups {h₀ h : Heap} {L : Addr} {news : List (Addr × Obj)} (N : News h₀ L h news) : ∀ {vs : List Value} {tr : List Tri}, TriAll news vs tr → ∃ fs, KatTups h vs fs ∧ fs.length = tr.length ∧ ∀ v ∈ fs, ∃ i t, v = .int i t
  | _, _, .nil => ⟨[], KatTups.nil, rfl, fun _ h => nomatch h⟩
  | _, _, .cons hm r => by
    obtain ⟨fs, k, l, a⟩ := r.tups N
    refine ⟨_ :: fs, KatTups.cons (N _ hm).1 rfl rfl rfl k, by simp [l], fun v hv => ?_⟩
    rcases List.mem_cons.mp hv with rfl | hv
    · exact ⟨_, _, rfl⟩
    · exact a v hv

section
variable {prog : Program} {w : World} {A : Around} {E : Value → Shared → Prop} {s : Shared} {h₀ : Heap} {L : Addr} {m : Str → Option Value} {news : List (Addr × Obj)}
theorem lt_tri {b : Bool} (hb : b = true) {x y : Addr} {n k : Nat} {p1 p2 p3 q1 q2 q3 : Int} {t1 t2 t3 u1 u2 u3 : Tok} {C : Bool → Shared → Prop}
    (hx : s.heap.get? x = some { cls := .type "tuple", data := .seq #[.int p1 t1, .int p2 t2, .int p3 t3] n }) (hy : s.heap.get? y = some { cls := .type "tuple", data := .seq #[.int q1 u1, .int q2 u2, .int q3 u3] k })
    (h : C (lex3 (p1, p2, p3) (q1, q2, q3)) s) : wpAny (model prog w) A (keyLt' (tuples' b) (.ref x) (.ref y)) C E s := by
  refine kat_lt hx rfl hy rfl ?_
  unfold lex3 at h
  dsimp only at h
  show KatLex prog w A b _ C [(.int p1 t1, .int q1 u1), (.int p2 t2, .int q2 u2), (.int p3 t3, .int q3 u3)] 0 s
  refine kat_cons (wpAny_eqBool_int ?_)
  by_cases e1 : p1 = q1
  · rw [if_pos e1] at h
    rw [show (p1 == q1) = true by simp [e1]]
    refine kat_yes (kat_cons (wpAny_eqBool_int ?_))
    by_cases e2 : p2 = q2
    · rw [if_pos e2] at h
      rw [show (p2 == q2) = true by simp [e2]]
      refine kat_yes (kat_cons (wpAny_eqBool_int ?_))
      by_cases e3 : p3 = q3
      · rw [if_pos e3] at h
        rw [show (p3 == q3) = true by simp [e3]]
        refine kat_yes (kat_nil ?_)
        exact h
      · rw [if_neg e3] at h
        rw [show (p3 == q3) = false by simp [e3]]
        refine kat_no ?_
        rw [show (b && (0 + 1 + 1 == 0)) = false by simp]
        exact kat_one _ _ (lt_int h)
    · rw [if_neg e2] at h
      rw [show (p2 == q2) = false by simp [e2]]
      refine kat_no ?_
      rw [show (b && (0 + 1 == 0)) = false by simp]
      exact kat_one _ _ (lt_int h)
  · rw [if_neg e1] at h
    rw [show (p1 == q1) = false by simp [e1]]
    refine kat_no ?_
    rw [hb]
    exact oneLt_int h

theorem sort_tri {l : Addr} {vs : List Value} {tr : List Tri} {nl : Nat} {Q : Value → Shared → Prop} {key : Tri → Int} (F : Fr h₀ L s.heap m) (N : News h₀ L s.heap news) (hl : (l, W.listOf vs.toArray nl) ∈ news) (T : TriAll news vs tr)
    (h2 : 2 ≤ tr.length) (h64 : tr.length < 64) (hk : ∀ i j, i < tr.length → j < tr.length → decide (key (tr.getD i default) < key (tr.getD j default)) = lex3 (tr.getD i default) (tr.getD j default))
    (hi : Inj (fun i => key (tr.getD i default)) tr.length)
    (h : ∀ D h' c r, Pm tr.length r → Up (fun i => key (tr.getD i default)) r tr.length → Fr h₀ L h' m → News h₀ L h' ((D, W.listOf (r.toList.map fun i => vs.getD i .none).toArray c) :: news) → (∀ q ∈ news, q.1 < D) → Q (.ref D) { s with heap := h' }) :
    wpAny (model prog w) A (call (.builtin "sorted") [.ref l]) Q E s := by
  have hlen := T.length
  refine kat_sorted F N ⟨_, (N _ hl).1, rfl, nl, rfl⟩ (by omega) (by omega) fun D e1 h' F' N' lD => ?_
  obtain ⟨fs, kt, fl, fa⟩ := T.tups (fun p hp => N' p (.tail _ hp))
  refine kat_kind (T := .type "int") kt (by omega) (fun v hv => ?_) (by rfl) ?_
  · obtain ⟨i, t, rfl⟩ := fa v hv
    exact fun A Q E s _ q => wpAny_pure q
  rw [hlen]
  refine Asks.wp (k := fun i => key (tr.getD i default)) (fun i j C hi hj hC => ?_) _ (sort_ok hi h2) fun r hr => ?_
  · rw [hk i j hi hj] at hC
    obtain ⟨a, t1, t2, t3, n, ea, ma⟩ := T.at hi
    obtain ⟨b, u1, u2, u3, n', eb, mb⟩ := T.at hj
    unfold kas_ask
    rw [ea, eb]
    exact lt_tri (by rfl) (N' _ (.tail _ ma)).1 (N' _ (.tail _ mb)).1 hC
  · refine KasFin.intro F' N' (UpdF.head fun p hp => Nat.ne_of_lt (lD p hp)) fun h'' c F'' N'' => ?_
    exact h D h'' c r hr.1 hr.2 F'' N'' lD
end
end Mine
end
section
open PySem PySem.Spec PySem.W PySem.Calls PyProof.Rows PyProof.Rows.LCg
namespace Mine
abbrev tup3 (v1 v2 v3 : Value) (n : Nat) : Obj := { cls := .type "tuple", data := .seq #[v1, v2, v3] n }
abbrev It3 := Addr × Value × Value × Value
abbrev vals3 (ts : List It3) : List Value := ts.map fun t => Value.ref t.1
/-- the turns of a comprehension over triples that are still to come -/
def Rest3 (prog : Program) (w : World) (A : Around) (h₀ : Heap) (L : Addr) (m : Str → Option Value) (env : Env) (elt : Expr) (x1 x2 x3 : Str) (scope : Scope) (cl : List (Str × Addr)) (s : Shared) (ax : Addr) (ol : Obj)
    (Fin : List Value → List (Addr × Obj) → Prop) : List It3 → List Value → List (Addr × Obj) → Prop
  | [], ys, news => Fin ys news
  | (t, v1, v2, v3) :: r, ys, news => (∃ n, (t, tup3 v1 v2 v3 n) ∈ news) ∧ ∀ I oI C oC D m₂ h tk (E' : Value → Shared → Prop), NsObj oC m₂ → m₂ x1 = some v1 → m₂ x2 = some v2 → m₂ x3 = some v3 →
      Fr h₀ L h m → News h₀ L h ((I, oI) :: (C, oC) :: (D, lst ys) :: news) → Off3 I C D news → ((@Ne Nat I C) ∧ (@Ne Nat I D) ∧ (@Ne Nat C D)) →
      wpAny (model prog w) A (eval elt (compEnvC scope cl C env)) (CompEnd h₀ L m { s with heap := h, toks := tk } I oI C oC D (lst ys) (fun nw => (ax, ol) ∈ nw)
        (fun y nw => Rest3 prog w A h₀ L m env elt x1 x2 x3 scope cl s ax ol Fin r (ys ++ [y]) nw)) E' { s with heap := h, toks := tk }

section
variable {prog : Program} {w : World} {A : Around} {E : Value → Shared → Prop} {s : Shared} {h₀ : Heap} {L : Addr} {m : Str → Option Value} {env : Env}

/-- what holds ahead of each turn -/
def Turn3 (prog : Program) (w : World) (A : Around) (h₀ : Heap) (L : Addr) (m : Str → Option Value) (env : Env) (elt : Expr) (x1 x2 x3 : Str) (scope : Scope) (cl : List (Str × Addr)) (s : Shared) (ax : Addr) (nl : Nat)
    (Fin : List Value → List (Addr × Obj) → Prop) (ts : List It3) (I C D : Addr) (k : Nat) (s' : Shared) : Prop :=
  ∃ h' tk pre post ys m' news', s' = { s with heap := h', toks := tk } ∧ ts = pre ++ post ∧ k = post.length + 1 ∧ ys.length = pre.length ∧ h'.IsListIter I ax pre.length ∧ Fr h₀ L h' m ∧ h'.Ns C m' ∧
    News h₀ L h' ((D, lst ys) :: news') ∧ Off3 I C D news' ∧ (ax, listOf (vals3 ts).toArray nl) ∈ news' ∧
    Rest3 prog w A h₀ L m env elt x1 x2 x3 scope cl s ax (listOf (vals3 ts).toArray nl) Fin post ys news'

theorem turn3 {elt iter : Expr} {x1 x2 x3 : Str} {p1 p2 p3 tp : Pos} {tk} {scope : Scope} {cl : List (Str × Addr)} {pos : Pos} {ax I C D : Addr} {nl : Nat} {ts : List It3} {Fin : List Value → List (Addr × Obj) → Prop} {R : Result → Shared → Prop}
    (hkind : scope.kind = .function) (hx1 : scope.names.lookup x1 = some .local) (hx2 : scope.names.lookup x2 = some .local) (hx3 : scope.names.lookup x3 = some .local) (h12 : x1 ≠ x2) (h13 : x1 ≠ x3) (h23 : x2 ≠ x3)
    (hh : A.handled = none) (hsz : ts.length ≤ sizeLine) (hIL : L ≠ I) (hI₀ : h₀.get? I = none) (hCL : C ≠ L) (hC₀ : h₀.get? C = none) (hDL : D ≠ L) (hD₀ : h₀.get? D = none) (hIC : I ≠ C) (hID : I ≠ D) (hCD : C ≠ D)
    (hRR : ∀ h tk m' ys news', Fr h₀ L h m → News h₀ L h ((D, lst ys) :: news') → Off1 D news' → h.Ns C m' → (∀ p ∈ news', p.1 ≠ C) → Fin ys news' → R (.ok .next) { s with heap := h, toks := tk })
    (n : Nat) (s₃ : Shared) (st : Turn3 prog w A h₀ L m env elt x1 x2 x3 scope cl s ax nl Fin ts I C D n s₃) :
    codeAny (model prog w) A (.compLoop (.ListComp elt [⟨.Tuple [.Name x1 p1, .Name x2 p2, .Name x3 p3] tk tp, iter, [], 0⟩] scope pos) 0 (.ref I) (.ref D) (compEnvC scope cl C env)) R s₃ := by
  refine LCp.codeAny_compLoop_pair (fun k s' => Turn3 prog w A h₀ L m env elt x1 x2 x3 scope cl s ax nl Fin ts I C D k s') ?_ n st
  rintro k s' ⟨h', tk, pre, post, ys, m', news', rfl, hts, rfl, hyl, hit, F', hn', N', off', hax, R'⟩
  have off3 := off'.mem
  have hxI : ax ≠ I := (off3 _ hax).1
  have hl : h'.IsList ax (vals3 ts).toArray := ⟨_, (N' _ (.tail _ hax)).1, rfl, nl, rfl⟩
  have W := Walks.list (prog := prog) (w := w) hh I ax hxI (vals3 ts).toArray
  have hI3 : ∀ {h₂ : Heap}, (∀ b o, b ∉ [I] → h'.get? b = some o → h₂.get? b = some o) → News h₀ L h₂ ((D, lst ys) :: news') := fun hk₂ => news_but N' hk₂ fun p hp => by
    rcases List.mem_cons.mp hp with rfl | hp
    · exact Ne.symm hID
    · exact (off3 p hp).1
  cases post with
  | nil =>
    have hlen : pre.length = (vals3 ts).toArray.size := by rw [hts]; simp
    refine W.done { s with heap := h', toks := tk } _ _ ⟨by rw [← hlen]; exact hit, hl⟩ fun h₂ tk₂ hk₂ => ?_
    exact hRR h₂ tk₂ _ ys news' (fr_but F' hk₂ hIL hI₀) (hI3 hk₂) off'.one (hn'.at' fun o e => hk₂ _ o (by simpa using Ne.symm hIC) e) (fun p hp => (off3 p hp).2.1) R'
  | cons it r =>
    obtain ⟨t, v1, v2, v3⟩ := it
    have hlt : pre.length < (vals3 ts).toArray.size := by rw [hts]; simp
    refine W.item pre.length { s with heap := h', toks := tk } _ _ hlt ⟨hit, hl⟩ fun v h₂ tk₂ hv hst₂ hk₂ => ?_
    have hve : v = .ref t := by
      have : (vals3 ts).toArray[pre.length]? = some (Value.ref t) := by rw [hts]; simp
      rw [this] at hv; exact (Option.some.inj hv).symm
    subst hve
    obtain ⟨⟨nt, hmt⟩, R''⟩ := R'
    have N₂ := hI3 hk₂
    have ht : IsTup h₂ t #[v1, v2, v3] := ⟨_, (N₂ _ (.tail _ hmt)).1, rfl, nt, rfl⟩
    refine wpAny_letOwnedTupleGo_listiter hst₂.1 ?_
    refine assign_Tuple_tuple hh ht rfl rfl fun h₅ he => ?_
    have up5 : ∀ b o, h₂.get? b = some o → h₅.get? b = some o := fun b o e => he b o (Nat.ne_of_lt (Heap.lt_size e)) e
    have nsC : h₅.Ns C m' := (hn'.at' fun o e => hk₂ _ o (by simpa using Ne.symm hIC) e).at' fun o e => up5 _ o e
    refine assignInOrder_cons (wpAny_assign_Name (wpAny_storeName_local (lookup_relabel_local hx1) nsC (fun h₆ hn₆ hs₆ => ?_) (by simp [compEnvC, relabel, hkind])))
    refine assignInOrder_cons (wpAny_assign_Name (wpAny_storeName_local (lookup_relabel_local hx2) hn₆ (fun h₇ hn₇ hs₇ => ?_) (by simp [compEnvC, relabel, hkind])))
    refine assignInOrder_cons (wpAny_assign_Name (wpAny_storeName_local (lookup_relabel_local hx3) hn₇ (fun h₃ hn₃ hs₃ => ?_) (by simp [compEnvC, relabel, hkind])))
    refine assignInOrder_nil ?_
    have up3 : ∀ b o, b ≠ C → h₂.get? b = some o → h₃.get? b = some o := fun b o hb e => hs₃.extBut b o hb (hs₇.extBut b o hb (hs₆.extBut b o hb (up5 b o e)))
    have F₃ : Fr h₀ L h₃ m := ((((fr_but F' hk₂ hIL hI₀).keeps up5).change hs₆ hCL hC₀).change hs₇ hCL hC₀).change hs₃ hCL hC₀
    obtain ⟨oI, eI, cI, dI⟩ := hst₂.1
    have eI3 := up3 I oI hIC eI
    obtain ⟨oC, eC, hoC⟩ := ns_obj hn₃
    have N₃ : News h₀ L h₃ ((I, oI) :: (C, oC) :: (D, lst ys) :: news') := by
      refine List.forall_mem_cons.mpr ⟨⟨eI3, Ne.symm hIL, hI₀⟩, List.forall_mem_cons.mpr ⟨⟨eC, hCL, hC₀⟩, fun p hp => ?_⟩⟩
      refine ⟨up3 _ _ ?_ (N₂ p hp).1, (N₂ p hp).2⟩
      rcases List.mem_cons.mp hp with rfl | hp
      · exact Ne.symm hCD
      · exact (off3 p hp).2.1
    refine wpAny_mono (R'' I oI C oC D _ h₃ _ _ hoC (by simp [h12, h13]) (by simp [h23]) (by simp) F₃ N₃ off' ⟨hIC, hID, hCD⟩) (fun y s₄ h₄ => ?_) fun _ _ e => e
    obtain ⟨h₄, tk₄, news₄, rfl, F₄, N₄, off₄, hax₄, R₄⟩ := h₄
    have off4 := off₄.mem
    have zI := (N₄ _ (.head _)).1
    have zC := (N₄ _ (.tail _ (.head _))).1
    have zD := (N₄ _ (.tail _ (.tail _ (.head _)))).1
    have hyz : ys.length ≤ sizeLine := by
      have : ts.length = pre.length + (r.length + 1) := by rw [hts]; simp
      omega
    refine append_at (hsz := by show ys.toArray.size ≤ sizeLine; rw [List.size_toArray]; exact hyz) zD fun h₅ hs₅ hD₅ => ?_
    refine ⟨r.length + 1, by simp, h₅, tk₄, pre ++ [(t, v1, v2, v3)], r, ys ++ [y], _, news₄, rfl, by rw [hts]; simp, rfl, by simp [hyl], ⟨oI, hs₅.extBut _ _ hID zI, cI, by simpa using dI⟩, F₄.change hs₅ hDL hD₀, (hoC.ns zC).sameBut hs₅ hCD, ?_, off₄, hax₄, R₄⟩
    refine List.forall_mem_cons.mpr ⟨⟨hD₅.trans (congrArg some (lst_snoc ys y)), hDL, hD₀⟩, fun p hp => ?_⟩
    have := N₄ p (.tail _ (.tail _ (.tail _ hp)))
    exact ⟨hs₅.extBut _ _ (off4 p hp).2.2 this.1, this.2⟩

theorem comp3 {elt iter : Expr} {x1 x2 x3 : Str} {p1 p2 p3 tp : Pos} {tk} {scope : Scope} {cl : List (Str × Addr)} {pos : Pos} {Q : Value → Shared → Prop} (F₀ : Fr h₀ L s.heap m) (hclos : closureFor scope env = pure cl) (hcell : ∀ y ∈ scope.names, y.2 ≠ .cell)
    (hkind : scope.kind = .function) (hnames : ∀ y ∈ scope.names, y.2 = .local → scope.names.lookup y.1 = some .local)
    (hx1 : scope.names.lookup x1 = some .local) (hx2 : scope.names.lookup x2 = some .local) (hx3 : scope.names.lookup x3 = some .local) (h12 : x1 ≠ x2) (h13 : x1 ≠ x3) (h23 : x2 ≠ x3) (hh : A.handled = none)
    (h : wpAny (model prog w) A (eval iter env) (fun xv s₁ => ∃ ax ts nl news, xv = .ref ax ∧ Fr h₀ L s₁.heap m ∧ News h₀ L s₁.heap news ∧ (ax, listOf (vals3 ts).toArray nl) ∈ news ∧ ts.length ≤ sizeLine ∧
      ∀ g, Rest3 prog w A h₀ L m env elt x1 x2 x3 scope cl { s₁ with heap := g } ax (listOf (vals3 ts).toArray nl) (FinE h₀ L m { s₁ with heap := g } Q) ts [] news) E s)
    (hs : ∀ x, foldedSetIterable iter env x = pure x := by intro _; rfl) :
    wpAny (model prog w) A (eval (.ListComp elt [⟨.Tuple [.Name x1 p1, .Name x2 p2, .Name x3 p3] tk tp, iter, [], 0⟩] scope pos) env) Q E s := by
  rw [eval_ListComp]
  refine wpAny_comprehension_free (use := none) rfl hs hclos hkind hnames (wpAny_mono h (fun xv s₁ h₁ => ?_) fun _ _ e => e)
  obtain ⟨ax, ts, nl, news, rfl, F, N, hm, hz, R⟩ := h₁
  refine wpAny_pyIter_list (items := (vals3 ts).toArray) ⟨_, (N _ hm).1, rfl, nl, rfl⟩ ?_
  have hup : ∀ {o' : Obj} b o, s₁.heap.get? b = some o → (s₁.heap.push o').get? b = some o := fun b o e => Heap.get?_push_of_some _ e
  generalize hH1 : s₁.heap.push { cls := .type "list_iterator", data := .fields #[.ref ax, .int 0 0] } = H1
  have z1 : H1.objs.size = s₁.heap.objs.size + 1 := by rw [← hH1, Heap.size_push]
  have up1 : ∀ b o, s₁.heap.get? b = some o → H1.get? b = some o := by rw [← hH1]; exact hup
  refine wpAny_newObj_type (wpAny_newFunctionEnv hcell (by intro y hy; simp at hy) (fun h₁ hns₁ hsb₁ => ?_) hkind)
  dsimp only at hns₁ hsb₁ ⊢
  generalize hH2 : H1.push { cls := .type "list", dict := none, data := .seq ([] : List Value).toArray } = H2 at hns₁ hsb₁ ⊢
  have z2 : H2.objs.size = s₁.heap.objs.size + 2 := by rw [← hH2, Heap.size_push, z1]
  have old : ∀ b o, H1.get? b = some o → h₁.get? b = some o := fun b o e => hsb₁.extBut b o (Nat.ne_of_lt (Nat.lt_of_lt_of_le (Heap.lt_size e) (by omega))) (Heap.get?_push_of_some _ (hH2 ▸ Heap.get?_push_of_some _ e))
  have hacc : h₁.get? H1.objs.size = some (lst []) := hsb₁.extBut _ _ (Nat.ne_of_lt (by omega)) (Heap.get?_push_of_some _ (hH2 ▸ Heap.get?_push_size _ rfl))
  have up : ∀ b o, s₁.heap.get? b = some o → h₁.get? b = some o := fun b o e => old b o (up1 b o e)
  have small : ∀ b o, s₁.heap.get? b = some o → @LT.lt Nat _ b s₁.heap.objs.size := fun b o e => Heap.lt_size e
  have new : ∀ a, @LE.le Nat _ s₁.heap.objs.size a → h₀.get? a = none := fun a ha => by
    cases e : h₀.get? a with
    | none => rfl
    | some o => exact absurd (small a o (F.keep a o e)) (Nat.not_lt.mpr ha)
  have hLs : @LT.lt Nat _ L s₁.heap.objs.size := F.ns.lt
  have hit : h₁.IsListIter s₁.heap.objs.size ax 0 := ⟨_, old _ _ (by rw [← hH1]; exact Heap.get?_push_size _ rfl), rfl, rfl⟩
  have offs : ∀ p ∈ news, @LT.lt Nat _ p.1 s₁.heap.objs.size := fun p hp => small _ _ (N p hp).1
  have loop : codeAny (model prog w) A (.compLoop (.ListComp elt [⟨.Tuple [.Name x1 p1, .Name x2 p2, .Name x3 p3] tk tp, iter, [], 0⟩] scope pos) 0 (.ref s₁.heap.objs.size) (.ref H1.objs.size) (compEnvC scope cl H2.objs.size env))
      (compPost (model prog w) A E none Q (.ref H1.objs.size) H2.objs.size) { s₁ with heap := h₁, toks := s₁.toks + ([] : List (Str × Value)).length } := by
    refine turn3 (s := { s₁ with heap := s₁.heap }) (L := L) (h₀ := h₀) (m := m) (ax := ax) (ts := ts) (nl := nl) (C := H2.objs.size) (D := H1.objs.size) (Fin := FinE h₀ L m { s₁ with heap := s₁.heap } Q) hkind hx1 hx2 hx3 h12 h13 h23 hh hz (Nat.ne_of_lt hLs) (new _ (Nat.le_refl _)) (Nat.ne_of_gt (by omega)) (new _ (by omega))
      (Nat.ne_of_gt (by omega)) (new _ (by omega)) (Nat.ne_of_lt (by omega)) (Nat.ne_of_lt (by omega)) (Nat.ne_of_gt (by omega)) ?_ (ts.length + 1) _ ?_
    · intro h tk m' ys news' F' N' o1 hn hoff fin
      refine ⟨m', hn, fun h'' hs'' => fin H1.objs.size h'' tk (F'.change hs'' (Nat.ne_of_gt (by omega)) (new _ (by omega))) (fun p hp => ?_) o1⟩
      refine ⟨hs''.extBut _ _ ?_ (N' p hp).1, (N' p hp).2⟩
      rcases List.mem_cons.mp hp with rfl | hp
      · exact Nat.ne_of_lt (by omega)
      · exact hoff p hp
    · refine ⟨h₁, _, [], ts, [], _, news, rfl, rfl, rfl, rfl, hit, F.keeps up, hns₁, ?_, ?_, hm, R _⟩
      · refine List.forall_mem_cons.mpr ⟨⟨hacc, Nat.ne_of_gt (by omega), new _ (by omega)⟩, fun p hp => ⟨up _ _ (N p hp).1, (N p hp).2⟩⟩
      · exact Off3.of fun p hp => ⟨Nat.ne_of_lt (offs p hp), Nat.ne_of_lt (by have := offs p hp; omega), Nat.ne_of_lt (by have := offs p hp; omega)⟩
  exact codeAny_compStart_list loop (wpAny_pyIter_listiter hit loop)
end
end Mine
end
section
open PySem PySem.Spec PySem.W PySem.Calls PyProof.Rows PyProof.Rows.LCg
set_option linter.unusedVariables false
namespace Mine
theorem Rest3.of_turns {prog : Program} {w : World} {A : Around} {h₀ : Heap} {L : Addr} {m : Str → Option Value} {env : Env} {elt : Expr} {x1 x2 x3 : Str} {scope : Scope} {cl : List (Str × Addr)} {s : Shared} {ax : Addr} {ol : Obj}
    {Fin : List Value → List (Addr × Obj) → Prop} (Inv : List It3 → List Value → List (Addr × Obj) → Prop) (fin : ∀ ys news, Inv [] ys news → Fin ys news)
    (step : ∀ t v1 v2 v3 r ys news, Inv ((t, v1, v2, v3) :: r) ys news → (∃ n, (t, tup3 v1 v2 v3 n) ∈ news) ∧ ∀ I oI C oC D m₂ h tk (E' : Value → Shared → Prop), NsObj oC m₂ → m₂ x1 = some v1 → m₂ x2 = some v2 → m₂ x3 = some v3 →
      Fr h₀ L h m → News h₀ L h ((I, oI) :: (C, oC) :: (D, lst ys) :: news) → Off3 I C D news → ((@Ne Nat I C) ∧ (@Ne Nat I D) ∧ (@Ne Nat C D)) →
      wpAny (model prog w) A (eval elt (compEnvC scope cl C env)) (CompEnd h₀ L m { s with heap := h, toks := tk } I oI C oC D (lst ys) (fun nw => (ax, ol) ∈ nw) (fun y nw => Inv r (ys ++ [y]) nw)) E' { s with heap := h, toks := tk }) :
    ∀ ts ys news, Inv ts ys news → Rest3 prog w A h₀ L m env elt x1 x2 x3 scope cl s ax ol Fin ts ys news
  | [], ys, news, h => fin ys news h
  | (t, v1, v2, v3) :: r, ys, news, h => by
    obtain ⟨hm, hs⟩ := step t v1 v2 v3 r ys news h
    refine ⟨hm, fun I oI C oC D m₂ h tk E' a b c d e f g i => ?_⟩
    refine wpAny_mono (hs I oI C oC D m₂ h tk E' a b c d e f g i) (fun y s₂ q => ?_) fun _ _ x => x
    obtain ⟨h', tk', nw, e1, e2, e3, e4, e5, e6⟩ := q
    exact ⟨h', tk', nw, e1, e2, e3, e4, e5, Rest3.of_turns Inv fin step _ _ _ e6⟩

/-- the row of a spot as three ints -/
def tri (ys : List Int) (k : Int) : Tri := if k ≤ lastOf ys then (lvl ys k, 0, k) else (lvl ys k, 1, -k)
/-- what is due for a row -/
def due (ys : List Int) (t : Tri) : Dat := .tuple [.int (t.2.2.natAbs : Int), .int (1048576 * t.1), .bool (decide (ys.getD t.2.2.natAbs 0 = t.1))]
theorem tri_one {news : List (Addr × Obj)} {v : Value} {x y z : Int} {vs : List Value} {tr : List Tri} (h : DatIn news v (.tuple [.int x, .int y, .int z])) (r : TriAll news vs tr) : TriAll news (v :: vs) ((x, y, z) :: tr) := by
  cases h with
  | tuple hm q =>
    cases q with
    | cons a q => cases a; cases q with
      | cons a q => cases a; cases q with
        | cons a q => cases a; cases q; exact .cons hm r
theorem tri_all {news : List (Addr × Obj)} {ys : List Int} : ∀ (ks : List Int) {vs : List Value}, DatAll news vs (ks.map (row ys)) → TriAll news vs (ks.map (tri ys)) := by
  intro ks
  induction ks with
  | nil => intro vs h; cases h; exact .nil
  | cons k ks ih =>
    intro vs h
    rw [List.map_cons] at h ⊢
    cases h with
    | cons hd r =>
      unfold tri
      unfold row at hd
      by_cases c : k ≤ lastOf ys
      · rw [if_pos c] at hd ⊢; exact tri_one hd (ih r)
      · rw [if_neg c] at hd ⊢; exact tri_one hd (ih r)
/-- items of the ledger that are triples of ints -/
inductive ItsAre (news : List (Addr × Obj)) : List It3 → List Tri → Prop
  | nil : ItsAre news [] []
  | cons {a : Addr} {x y z : Int} {t u v : Tok} {n : Nat} {ts : List It3} {tr : List Tri} : (a, tup3 (.int x t) (.int y u) (.int z v) n) ∈ news → ItsAre news ts tr → ItsAre news ((a, .int x t, .int y u, .int z v) :: ts) ((x, y, z) :: tr)
theorem ItsAre.mono {n₁ n₂ : List (Addr × Obj)} (hs : ∀ p ∈ n₁, p ∈ n₂) : ∀ {vs : List It3} {tr : List Tri}, ItsAre n₁ vs tr → ItsAre n₂ vs tr
  | _, _, .nil => .nil
  | _, _, .cons hm r => .cons (hs _ hm) (r.mono hs)
theorem ItsAre.length {news : List (Addr × Obj)} : ∀ {ts : List It3} {tr : List Tri}, ItsAre news ts tr → ts.length = tr.length
  | _, _, .nil => rfl
  | _, _, .cons _ r => by rw [List.length_cons, List.length_cons, r.length]
theorem TriAll.pick {news : List (Addr × Obj)} {vs : List Value} {tr : List Tri} (T : TriAll news vs tr) : ∀ (l : List Nat), (∀ i ∈ l, i < tr.length) → ∃ ts, vals3 ts = l.map (fun i => vs.getD i .none) ∧ ItsAre news ts (l.map fun i => tr.getD i default)
  | [], _ => ⟨[], rfl, .nil⟩
  | i :: l, h => by
    obtain ⟨ts, e, r⟩ := T.pick l fun j hj => h j (.tail _ hj)
    obtain ⟨a, t, u, v, n, ea, ma⟩ := T.at (h i (.head _))
    refine ⟨(a, _, _, _) :: ts, ?_, .cons ma r⟩
    show Value.ref a :: vals3 ts = vs.getD i .none :: _
    rw [ea, e]
end Mine
end
section
open PySem PySem.W PyProof.Rows
namespace Mine
def keyOf (t : Tri) : Int := 1000 * t.1 + 100 * t.2.1 + t.2.2
theorem key_lex {ys : List Int} {i j : Int} (hi : 0 ≤ i ∧ i < 10) (hj : 0 ≤ j ∧ j < 10) : decide (keyOf (tri ys i) < keyOf (tri ys j)) = lex3 (tri ys i) (tri ys j) := by
  unfold lex3 tri keyOf
  by_cases a : i ≤ lastOf ys <;> by_cases b : j ≤ lastOf ys <;> simp only [a, b, if_true, if_false]
  all_goals
    by_cases c : lvl ys i = lvl ys j
    · simp only [c, if_true]
      first
        | (by_cases d : i = j
           · simp [d]
           · simp [d]; omega)
        | (simp; omega)
    · simp only [c, if_false]
      exact decide_eq_decide.mpr (by omega)
theorem key_inj {ys : List Int} {i j : Int} (hi : 0 ≤ i ∧ i < 10) (hj : 0 ≤ j ∧ j < 10) (h : keyOf (tri ys i) = keyOf (tri ys j)) : i = j := by
  revert h
  unfold tri keyOf
  by_cases a : i ≤ lastOf ys <;> by_cases b : j ≤ lastOf ys <;> simp only [a, b, if_true, if_false] <;> intro h <;> omega
theorem tri_get {ys : List Int} {n i : Nat} (hi : i < n) : ((rangeKs 0 n).map (tri ys)).getD i default = tri ys i := by
  unfold rangeKs
  simp [List.getD, hi]
theorem keys_lex {ys : List Int} {n : Nat} (hn : n ≤ 10) : ∀ i j, i < ((rangeKs 0 n).map (tri ys)).length → j < ((rangeKs 0 n).map (tri ys)).length →
    decide (keyOf (((rangeKs 0 n).map (tri ys)).getD i default) < keyOf (((rangeKs 0 n).map (tri ys)).getD j default)) = lex3 (((rangeKs 0 n).map (tri ys)).getD i default) (((rangeKs 0 n).map (tri ys)).getD j default) := by
  intro i j hi hj
  rw [List.length_map, rangeKs_length] at hi hj
  rw [tri_get hi, tri_get hj]
  exact key_lex (by omega) (by omega)
theorem keys_inj {ys : List Int} {n : Nat} (hn : n ≤ 10) : Inj (fun i => keyOf (((rangeKs 0 n).map (tri ys)).getD i default)) ((rangeKs 0 n).map (tri ys)).length := by
  intro i j hi hj h
  rw [List.length_map, rangeKs_length] at hi hj
  dsimp only at h
  rw [tri_get hi, tri_get hj] at h
  have := key_inj (by omega) (by omega) h
  omega
end Mine
namespace Mine
theorem tri_abs {ys : List Int} {n i : Nat} (hi : i < n) : (((rangeKs 0 n).map (tri ys)).getD i default).2.2.natAbs < n := by
  rw [tri_get hi]
  unfold tri
  split
  · show (i : Int).natAbs < n; omega
  · show (-(i : Int)).natAbs < n; omega
end Mine
namespace Mine
open PyProof.Rows.LCg
theorem due_end {h₀ : Heap} {L T I C D : Nat} {m : Str → Option Value} {s₁ : Shared} {o oI oC : Obj} {ys : List Value} {p q : Addr × Obj} {tl : List (Addr × Obj)} {S : List (Addr × Obj) → Prop} {rest : Value → List (Addr × Obj) → Prop} {h' : Heap} {tk : Nat} {R : Prop}
    (F : Fr h₀ L h' m) (N : News h₀ L h' ((T, o) :: (I, oI) :: (C, oC) :: (D, lst ys) :: p :: q :: tl)) (off : Off3 I C D (p :: q :: tl)) (l1 : @LT.lt Nat _ I T ∧ @LT.lt Nat _ C T ∧ @LT.lt Nat _ D T ∧ R) (hS : S (p :: q :: (T, o) :: tl)) (r : rest (.ref T) (p :: q :: (T, o) :: tl)) :
    CompEnd h₀ L m s₁ I oI C oC D (lst ys) S rest (.ref T) { s₁ with heap := h', toks := tk } := by
  refine CompEnd.intro F N _ ?_ ?_ hS r
  · intro x hx
    simp only [List.mem_cons] at hx ⊢
    rcases hx with h | h | h | h | h | h | h <;> simp [h]
  · exact ⟨off.1, off.2.1, ⟨Nat.ne_of_gt l1.1, Nat.ne_of_gt l1.2.1, Nat.ne_of_gt l1.2.2.1⟩, off.2.2⟩
theorem due_in {news : List (Addr × Obj)} {T : Addr} {hts : List Int} {x y z : Int} {u v : Tok} (h : (T, ({ cls := .type "tuple", data := .seq #[.int (if z < 0 then -z else z) u, .int (2 ^ Int.toNat 20 * x) v, .bool (hts.getD (if z < 0 then -z else z).toNat 0 == x)] } : Obj)) ∈ news) :
    DatIn news (.ref T) (due hts (x, y, z)) := by
  unfold due
  dsimp only
  have e : (if z < 0 then -z else z) = (z.natAbs : Int) := by split <;> omega
  have e2 : (2 : Int) ^ Int.toNat 20 * x = 1048576 * x := by rw [show (2 : Int) ^ Int.toNat 20 = 1048576 by decide +kernel]
  rw [e, e2, show (hts.getD ((z.natAbs : Int)).toNat 0 == x) = decide (hts.getD z.natAbs 0 = x) by rw [show ((z.natAbs : Int)).toNat = z.natAbs by omega]; exact (decide_eq_decide.mpr Iff.rfl)] at h
  exact .tuple (vs := [_, _, _]) h (.cons (.int _ _) (.cons (.int _ _) (.cons (.bool _) .nil)))
theorem due_list {hts : List Int} {r : Array Nat} {n : Nat} (hp : Pm n r) : ((r.toList.map fun i => ((rangeKs 0 n).map (tri hts)).getD i default).map (due hts)) = r.toList.map fun i => due hts (tri hts (i : Nat)) := by
  rw [List.map_map]
  refine List.map_congr_left fun i hi => ?_
  show due hts (((rangeKs 0 n).map (tri hts)).getD i default) = _
  rw [tri_get (by simpa using hp.mem_iff.mp hi)]
theorem due_up {hts : List Int} {r : Array Nat} {n : Nat} (hp : Pm n r) (hu : Up (fun i => keyOf (((rangeKs 0 n).map (tri hts)).getD i default)) r n) : Up (fun i => keyOf (tri hts (i : Nat))) r n := by
  intro i j hij hj
  have := hu i j hij hj
  dsimp only at this ⊢
  rwa [tri_get (hp.lt (by omega)), tri_get (hp.lt hj)] at this
end Mine
namespace Mine
theorem drop2 {h₀ h : Heap} {L : Addr} {x y : Addr × Obj} {r : List (Addr × Obj)} (N : News h₀ L h (x :: y :: r)) : News h₀ L h (x :: r) := by
  intro p hp
  rcases List.mem_cons.mp hp with rfl | hp
  · exact N _ (.head _)
  · exact N _ (.tail _ (.tail _ hp))
end Mine
namespace Mine
abbrev spotsF (ys : List Int) (M : Int) : List Int := List.foldl (fun l' k' => if ys.getD k'.toNat 0 = M then l' ++ [k'] else l') [] (rangeKs 0 ((ys.length : Int) - 0).toNat)
theorem last_is {hts : List Int} {M2 M3 : Int} (hy : ∀ y ∈ hts, 0 ≤ y ∧ y < 64) (a3 : M3 ∈ hts) (b3 : ∀ a, a ∈ hts → a ≤ M3) (a2 : M2 ∈ spotsF hts M3) (b2 : ∀ a, a ∈ spotsF hts M3 → a ≤ M2) : lastOf hts = M2 := by
  have e3 : mx hts = M3 := mx_eq a3 b3 fun y h => (hy y h).1
  unfold lastOf
  rw [e3]
  unfold spotsF at a2 b2
  rw [spots_eq] at a2 b2
  exact mx_eq a2 b2 fun y h => (mem_range0.mp (List.mem_filter.mp h).1).1
theorem lvl_is {hts : List Int} {k M0 M1 : Int} {p : Nat} (hy : ∀ y ∈ hts, 0 ≤ y ∧ y < 64) (hk : k = 0 + (p : Int)) (a1 : M1 ∈ hts.take (k + 1).toNat) (b1 : ∀ a, a ∈ hts.take (k + 1).toNat → a ≤ M1) (a0 : M0 ∈ hts.drop k.toNat) (b0 : ∀ a, a ∈ hts.drop k.toNat → a ≤ M0) :
    lvl hts k = if M0 < M1 then M0 else M1 := by
  unfold lvl
  rw [show k.toNat + 1 = (k + 1).toNat by omega, mx_eq a1 b1 fun y h => (hy y (List.mem_of_mem_take h)).1, mx_eq a0 b0 fun y h => (hy y (List.mem_of_mem_drop h)).1]
  by_cases c : M0 < M1
  · rw [if_pos c]; omega
  · rw [if_neg c]; omega
theorem state_front {hts pre : List Int} {k M0 M1 M2 M3 : Int} (hle : k ≤ M2) (hk : k = 0 + (pre.length : Int)) (hl : pre.length < ((hts.length : Int) - 0).toNat) (h10 : hts.length ≤ 10) (hy : ∀ y ∈ hts, 0 ≤ y ∧ y < 64)
    (a2 : M2 ∈ spotsF hts M3) (b2 : ∀ a, a ∈ spotsF hts M3 → a ≤ M2) (a3 : M3 ∈ hts) (b3 : ∀ a, a ∈ hts → a ≤ M3) (a1 : M1 ∈ hts.take (k + 1).toNat) (b1 : ∀ a, a ∈ hts.take (k + 1).toNat → a ≤ M1) (a0 : M0 ∈ hts.drop k.toNat) (b0 : ∀ a, a ∈ hts.drop k.toNat → a ≤ M0) :
    List.map (row hts) pre ++ [Dat.tuple [Dat.int (if M0 < M1 then M0 else M1), Dat.int 0, Dat.int k]] = List.map (row hts) (pre ++ [k]) ∧ (List.map (row hts) pre ++ [Dat.tuple [Dat.int (if M0 < M1 then M0 else M1), Dat.int 0, Dat.int k]]).length ≤ 10 := by
  refine ⟨?_, by rw [List.length_append, List.length_map, List.length_singleton]; omega⟩
  rw [List.map_append]
  congr 1
  show _ = [row hts k]
  unfold row
  rw [last_is hy a3 b3 a2 b2, if_pos hle, lvl_is hy hk a1 b1 a0 b0]
theorem state_back {hts pre : List Int} {k M0 M1 M2 M3 : Int} (hle : ¬ k ≤ M2) (hk : k = 0 + (pre.length : Int)) (hl : pre.length < ((hts.length : Int) - 0).toNat) (h10 : hts.length ≤ 10) (hy : ∀ y ∈ hts, 0 ≤ y ∧ y < 64)
    (a2 : M2 ∈ spotsF hts M3) (b2 : ∀ a, a ∈ spotsF hts M3 → a ≤ M2) (a3 : M3 ∈ hts) (b3 : ∀ a, a ∈ hts → a ≤ M3) (a1 : M1 ∈ hts.take (k + 1).toNat) (b1 : ∀ a, a ∈ hts.take (k + 1).toNat → a ≤ M1) (a0 : M0 ∈ hts.drop k.toNat) (b0 : ∀ a, a ∈ hts.drop k.toNat → a ≤ M0) :
    List.map (row hts) pre ++ [Dat.tuple [Dat.int (if M0 < M1 then M0 else M1), Dat.int 1, Dat.int (-k)]] = List.map (row hts) (pre ++ [k]) ∧ (List.map (row hts) pre ++ [Dat.tuple [Dat.int (if M0 < M1 then M0 else M1), Dat.int 1, Dat.int (-k)]]).length ≤ 10 := by
  refine ⟨?_, by rw [List.length_append, List.length_map, List.length_singleton]; omega⟩
  rw [List.map_append]
  congr 1
  show _ = [row hts k]
  unfold row
  rw [last_is hy a3 b3 a2 b2, if_neg hle, lvl_is hy hk a1 b1 a0 b0]
theorem more2 {h₀ h : Heap} {L : Addr} {p q : Addr × Obj} {r : List (Addr × Obj)} (N : News h₀ L h r) (hp : p ∈ r) (hq : q ∈ r) : News h₀ L h (p :: q :: r) := fun x hx => by
  rcases List.mem_cons.mp hx with e | hx
  · rw [e]; exact N _ hp
  · rcases List.mem_cons.mp hx with e | hx
    · rw [e]; exact N _ hq
    · exact N _ hx
end Mine
end
section
open PySem PySem.Spec PySem.W PySem.Calls PyProof.Rows PyProof.Rows.LCg
namespace Mine
section
local macro_rules | `(tactic| k_ne) => `(tactic| walk_at "my ne")
local macro_rules | `(tactic| omega) => `(tactic| walk_at "my omega")
set_option maxRecDepth 100000 in
set_option maxHeartbeats 8000000 in
theorem due_call {w : World} {hb : Heap} {mg mb : Str → Option Value} {mean : ExcName → Option Value} {env : Env} {L : Addr} {m : Str → Option Value} {s : Shared} {news : List (Addr × Obj)}
    {E : Value → Shared → Prop} {Q : Value → Shared → Prop} {a : Addr} {kk : Nat} {vs : List Value} {hts : List Int}
    (G : Gd w hb mg mb mean) (hl : InLaw env L) (F : Fr hb L s.heap m) (N : News hb L s.heap ((a, W.listOf vs.toArray kk) :: news)) (hI : IntsAre vs hts) (h4 : 4 ≤ hts.length) (h10 : hts.length ≤ 10)
    (hy : ∀ y ∈ hts, 0 ≤ y ∧ y < 64) 
    (hne : ∀ p ∈ news, p.1 ≠ a)
    (h : ∀ D h' tk xs tl r, Pm hts.length r → Up (fun i => keyOf (tri hts (i : Nat))) r hts.length → DatAll tl xs (r.toList.map fun i => due hts (tri hts (i : Nat))) →
      Fr hb L h' m → News hb L h' ((D, LCg.lst xs) :: (a, W.listOf vs.toArray kk) :: tl) → News hb L h' news → Q (.ref D) { s with heap := h', toks := tk }) :
    wpAny (model Challenge.rw_wu0002_01.row.prog w) (callerA.deeper env) (call (.ref 104) [.ref a] []) Q E s := by
  k_with_none
  (k_with "my ne" => refine neN ?_; (try dsimp only); first
    | with_reducible assumption
    | with_reducible exact (by assumption : _ ∧ _).1
    | with_reducible exact (by assumption : _ ∧ _ ∧ _).2.1
    | with_reducible exact (by assumption : _ ∧ _ ∧ _).2.2
    | with_reducible exact (by assumption : (_ ∧ _) ∧ _).1.1
    | with_reducible exact (by assumption : (_ ∧ _ ∧ _) ∧ _).1.2.1
    | with_reducible exact (by assumption : (_ ∧ _ ∧ _) ∧ _).1.2.2
    | with_reducible exact (by assumption : _ ∧ (_ ∧ _) ∧ _).2.1.1
    | with_reducible exact (by assumption : _ ∧ (_ ∧ _ ∧ _) ∧ _).2.1.2.1
    | with_reducible exact (by assumption : _ ∧ (_ ∧ _ ∧ _) ∧ _).2.1.2.2
    | with_reducible exact (by assumption : _ ∧ _ ∧ _ ∧ _).2.2.1
    | with_reducible exact (by assumption : _ ∧ _ ∧ _ ∧ _).2.2.2
    | with_reducible exact (by assumption : _ ∧ _ ∧ _ ∧ _ ∧ _).2.2.2.1
    | with_reducible exact (by assumption : _ ∧ _ ∧ _ ∧ _ ∧ _).2.2.2.2
    | omega)
  (k_with "my omega" => first
    | omega -splitDisjunctions
    | ((repeat (first | ((with_reducible rename _ ≠ _ => h9); clear h9) | ((with_reducible rename _ ≠ _ ∧ _ => h9); clear h9) | ((with_reducible rename (_ ≠ _ ∧ _) ∧ _ => h9); clear h9))); omega +splitDisjunctions)
    | omega +splitDisjunctions)
  (k_with "my steps" => repeat' (first
  | (fail_if_success (with_reducible show wpAny _ _ (exec (Stmt.Return _ _) _) _ _ _)); first | (k_unfold; (try dsimp only)) | (k_end; wrow_close) | walk1 | (dsimp only; walk1) | (leave1; walk_say "STEP leave1"; try dsimp only)
  | fail "no step"))
  (k_with "wp steps" => repeat' (first
  | (with_reducible show wpAny _ _ _ _ _ _); first | (k_unfold; (try dsimp only)) | (k_end; wrow_close) | walk1 | (dsimp only; walk1)
  | fail "no step"))
  (k_with "call builtin:max" => (k_here; (with_reducible show wpAny _ _ (call (Value.builtin _) [Value.ref _]) _ _ _); (with_unfolding_all refine' kso_max ?k1 ?k2 ?k3 ?k4 ?k5 ?k6 ?_; (case k1 => k_asm); (case k2 => k_asm); (case k3 => kso_list); (case k4 => l_ints); (case k5 => ((simp only [List.length_take, List.length_drop]); omega)); (case k6 => with_unfolding_all rfl); k_whole); intro h' M' t' k' F' N' a' b'; (try k_sweep)))
  (k_with "call builtin:sorted" => (k_here; refine' sort_tri (key := keyOf) ?F ?N ?m ?T ?h2 ?h64 ?hk ?hi ?_; (case F => k_asm); (case N => k_asm); (case m => k_mem); (case T => refine TriAll.mono ?_ (tri_all _ (by assumption)); intro p hp; exact .tail _ hp); (case hk => apply keys_lex; omega); (case hi => apply keys_inj; omega)))
  (k_with "call builtin:max" => (k_here; (with_reducible show wpAny _ _ (call (Value.builtin _) [Value.ref _]) _ _ _); (with_unfolding_all refine' kso_max ?k1 ?k2 ?k3 ?k4 ?k5 ?k6 ?_; (case k1 => k_asm); (case k2 => k_asm); (case k3 => kso_list); (case k4 => l_ints); (case k5 => with_reducible exact spots_pos (by assumption)); (case k6 => with_unfolding_all rfl); k_whole); intro h' M' t' k' F' N' a' b'; (try k_sweep)))
  w_top off
  obtain ⟨KX, X', V, GL, T, K0⟩ := G
  obtain ⟨hf, hk⟩ := hl
  k_with "table" => skip
  k_with "pyIter ref" => k_dat (fun pre out => out = pre.map (row hts) ∧ out.length ≤ 10) "rows*"
  k_with "state" => first | exact ⟨rfl, by decide⟩ | refine state_front (by with_reducible assumption) (by with_reducible assumption) (by with_reducible assumption) h10 hy (by with_reducible assumption) (by with_reducible assumption) (by with_reducible assumption) (by with_reducible assumption) (by with_reducible assumption) (by with_reducible assumption) (by with_reducible assumption) (by with_reducible assumption) | refine state_back (by with_reducible assumption) (by with_reducible assumption) (by with_reducible assumption) h10 hy (by with_reducible assumption) (by with_reducible assumption) (by with_reducible assumption) (by with_reducible assumption) (by with_reducible assumption) (by with_reducible assumption) (by with_reducible assumption) (by with_reducible assumption)
  revert KX; k_fill; intro KX
  refine wpAny_call ?_
  refine' code_defC ?k1 ?k2 ?k3 ?k4 ?k5 ?kA hf hk ?k6 ?k7 ?k8 ?k9 ?kB ?kD ?_ ?c2 ?c3 ?c4
  case kA => exact rfl
  case k1 => k_asm
  case k2 => k_asm
  case k3 => k_asm
  case k4 => k_asm
  case k5 => k_asm
  case k6 => k_is
  case k7 => k_is
  case k8 => k_room
  case k9 => exact BindsTo.of_eq rfl
  case kB => exact rfl
  case kD => decide +kernel
  case c2 => exact rfl
  case c3 => exact rfl
  case c4 => exact rfl
  k_whole
  intro g' L' h' tk' cells' FG' F' N' Y' B' X' T' l1
  have l2 : @LT.lt Nat _ a L' := l1 _ (.head _)
  have l3 : ∀ p ∈ news, p.1 < L' := fun p hp => l1 p (.tail _ hp)
  clear l1
  obtain ⟨oA, oB, hE, dA, dB⟩ := CellsAre.two Y'
  subst hE; clear Y'
  obtain ⟨g2, hz, st, F2, N2, hx⟩ := narrow (cells := [_, _]) F' N' (by intro p hp; simp only [List.mem_cons, List.not_mem_nil, or_false] at hp; rcases hp with hp | hp <;> subst hp <;> first | exact Nat.le_succ _ | exact Nat.le_succ_of_le (Nat.le_succ _)) l2 l3 hne
  have hL : ∀ p ∈ news, g'.get? p.1 = none := fun p hp => (N' p (.tail _ (.tail _ (.tail _ hp)))).2.2
  refine wpAny_mono ?_ (fun fl s' hq => leave_narrow hz st hx hL hq) (fun _ _ e => e)
  have FG2 : Fr hb L g2 m := ⟨FG'.ns.at' fun o e => st _ _ e, fun b o e => st _ _ (FG'.keep b o e), FG'.above⟩
  have B2 := below_stays B' st
  have X2 := X'.keeps st
  have T2 := T'.keeps st
  clear FG' F' N' B' X' T' hL hx hne hz st
  (try simp only [List.cons_append, List.nil_append] at N2)
  (try dsimp only); (try k_lift B2); (try k_fold)
  walk_at "my steps"
  walk1
  refine' comp3 kFr ?hclos ?hcell ?hkind ?hnames ?hx1 ?hx2 ?hx3 ?h12 ?h13 ?h23 ?hh ?go
  case hclos => with_unfolding_all rfl
  case hcell => decide
  case hkind => rfl
  case hnames => decide
  case hx1 => rfl
  case hx2 => rfl
  case hx3 => rfl
  case h12 => decide
  case h13 => decide
  case h23 => decide
  case hh => with_unfolding_all rfl
  walk_at "wp steps"
  case h2 => rw [List.length_map, rangeKs_length]; omega
  case h64 => rw [List.length_map, rangeKs_length]; omega
  intro D h5 c r hp hu F5 N5 lD
  rw [List.length_map, rangeKs_length] at hp hu
  have kF0 := kFacts
  rw [show ((hts.length : Int) - 0).toNat = hts.length by omega] at kF0 hp hu
  obtain ⟨ts, hv, hit⟩ := TriAll.pick (tri_all _ kF0) r.toList (fun i hi => by
    rw [List.length_map, rangeKs_length]
    have := hp.mem_iff.mp hi
    simpa using this)
  generalize htr : (r.toList.map fun i => ((rangeKs 0 hts.length).map (tri hts)).getD i default) = trs at hit
  have habs : ∀ t ∈ trs, t.2.2.natAbs < hts.length := by
    intro t ht
    rw [← htr] at ht
    obtain ⟨i, hi, rfl⟩ := List.mem_map.mp ht
    exact tri_abs (by simpa using hp.mem_iff.mp hi)
  rw [← hv] at N5
  have N6 := more2 N5 (p := (L' + 1, oB)) (q := (a, W.listOf vs.toArray kk)) (by k_mem) (by k_mem)
  refine ⟨D, ts, c, _, rfl, F5, N6, .tail _ (.tail _ (.head _)), ?size, fun g => ?_⟩
  case size => rw [hit.length, ← htr, List.length_map, hp.length_eq, List.length_range, sizeLine_eq]; omega
  refine Rest3.of_turns (fun rs ys nw => ∃ tl pre post, nw = (L' + 1, oB) :: (a, W.listOf vs.toArray kk) :: tl ∧ (D, W.listOf (vals3 ts).toArray c) ∈ tl ∧ trs = pre ++ post ∧ ItsAre tl rs post ∧ DatAll tl ys (pre.map (due hts))) ?fin ?step _ _ _
    ⟨_, [], trs, rfl, .head _, rfl, hit.mono ?sub, .nil⟩
  case sub => exact fun p hp => .tail _ (.tail _ hp)
  case fin =>
    rintro ys nw ⟨tl, pre, post, rfl, hm, htrs, hi, hD⟩
    cases hi
    rw [List.append_nil] at htrs
    rw [← htrs, ← htr, due_list hp] at hD
    clear N5 N6 F5 kNews kFr
    unfold FinE
    intro D' h' tk' FF NN o1
    k_steps
    exact h D' h' tk' ys tl r hp (due_up hp hu) hD (by assumption) (drop2 (y := (L' + 1, oB)) (by assumption)) (by assumption)
  case step =>
    rintro t v1 v2 v3 rs ys nw ⟨tl, pre, post, rfl, hm, htrs, hi, hD⟩
    cases hi with
    | cons hm1 hi' =>
      refine ⟨⟨_, .tail _ (.tail _ hm1)⟩, ?_⟩
      clear N5 N6 F5 kNews kFr
      intro I oI C oC D' m₂ h tk E' hC h1 h2 h3 FF NN off ne
      have hz := habs _ (htrs ▸ List.mem_append.mpr (.inr (.head _)))
      dsimp only at hz
      k_steps
      refine due_end (by assumption) (by assumption) off (by assumption) (.tail _ (.tail _ (.tail _ hm))) ?_
      refine ⟨_, pre ++ [_], _, rfl, .tail _ hm, by rw [htrs, List.append_assoc]; rfl, hi'.mono fun p hp => .tail _ hp, ?_⟩
      rw [List.map_append]
      exact DatAll.append (hD.mono fun p hp => .tail _ hp) (.one (due_in (.head _)))
end
end Mine
end
section
open PySem PySem.W PyProof.Rows
set_option linter.unusedVariables false
namespace Mine
section
variable {ys : List Int}
theorem le_mx {l : List Int} {y : Int} (h : y ∈ l) : y ≤ mx l := (mx_acc l 0).2.1 y h
theorem mx_nn (l : List Int) : 0 ≤ mx l := (mx_acc l 0).1
theorem mx_at (l : List Int) : mx l = 0 ∨ mx l ∈ l := (mx_acc l 0).2.2
theorem getD_at {i : Nat} (h : i < ys.length) : ys.getD i 0 = ys[i] := by simp [List.getD, h]
theorem tk_le {i k : Nat} (hi : i ≤ k) (h : i < ys.length) : ys.getD i 0 ≤ mx (ys.take (k + 1)) := by
  rw [getD_at h]
  refine le_mx (List.mem_take_iff_getElem.mpr ⟨i, by omega, rfl⟩)
theorem tk_at (k : Nat) : mx (ys.take (k + 1)) = 0 ∨ ∃ i, i ≤ k ∧ i < ys.length ∧ mx (ys.take (k + 1)) = ys.getD i 0 := by
  rcases mx_at (ys.take (k + 1)) with h | h
  · exact .inl h
  · obtain ⟨i, hi, e⟩ := List.mem_take_iff_getElem.mp h
    exact .inr ⟨i, by omega, by omega, by rw [getD_at (by omega)]; exact e.symm⟩
theorem dr_le {j k : Nat} (hj : k ≤ j) (h : j < ys.length) : ys.getD j 0 ≤ mx (ys.drop k) := by
  rw [getD_at h]
  refine le_mx (List.mem_drop_iff_getElem.mpr ⟨j - k, by omega, ?_⟩)
  congr 1; omega
theorem dr_at (k : Nat) : mx (ys.drop k) = 0 ∨ ∃ j, k ≤ j ∧ j < ys.length ∧ mx (ys.drop k) = ys.getD j 0 := by
  rcases mx_at (ys.drop k) with h | h
  · exact .inl h
  · obtain ⟨i, hi, e⟩ := List.mem_drop_iff_getElem.mp h
    exact .inr ⟨k + i, by omega, by omega, by rw [getD_at (by omega)]; exact e.symm⟩

/-- what holds between the turns: l walls fell in front, those from e on behind -/
structure Mid (ys : List Int) (l e : Nat) (W : Int) : Prop where
  le : l ≤ e
  en : e ≤ ys.length
  nn : ∀ i, i < ys.length → 0 ≤ ys.getD i 0
  w0 : 0 ≤ W
  frontW : ∀ i, i < l → ys.getD i 0 ≤ W
  backW : ∀ j, e ≤ j → j < ys.length → ys.getD j 0 ≤ W
  from_ : W = 0 ∨ (∃ i, i < l ∧ W = ys.getD i 0) ∨ ∃ j, e ≤ j ∧ j < ys.length ∧ W = ys.getD j 0
  front : ∀ i, i < l → ∃ j, e ≤ j + 1 ∧ j < ys.length ∧ ys.getD i 0 ≤ ys.getD j 0
  back : ∀ j, e ≤ j → j < ys.length → ∃ i, i ≤ l ∧ i < ys.length ∧ ys.getD j 0 < ys.getD i 0
theorem mid_start (h : ∀ y ∈ ys, 0 ≤ y) : Mid ys 0 ys.length 0 where
  le := Nat.zero_le _
  en := Nat.le_refl _
  nn := fun i hi => by rw [getD_at hi]; exact h _ (List.getElem_mem hi)
  w0 := Int.le_refl _
  frontW := fun i h => by omega
  backW := fun j h h' => by omega
  from_ := .inl rfl
  front := fun i h => by omega
  back := fun j h h' => by omega
section
variable {l e : Nat} {W : Int}
theorem Mid.low (M : Mid ys l e W) (hl : l < e) : W ≤ max (ys.getD l 0) (ys.getD (e - 1) 0) := by
  have hl' : l < ys.length := by have := M.en; omega
  have h0 := M.nn l hl'
  have key : ∀ j, e ≤ j → j < ys.length → ys.getD j 0 = W → W ≤ ys.getD l 0 := fun j hj hj' ej => by
    obtain ⟨i, hi, hi', lt⟩ := M.back j hj hj'
    by_cases c : i = l
    · subst c; omega
    · have := M.frontW i (by omega); omega
  rcases M.from_ with h | ⟨i, hi, h⟩ | ⟨j, hj, hj', h⟩
  · omega
  · obtain ⟨j, hj, hj', le⟩ := M.front i hi
    by_cases c : j = e - 1
    · subst c; omega
    · have := M.backW j (by omega) hj'
      have := key j (by omega) hj' (by omega)
      omega
  · have := key j hj hj' h.symm; omega
/-- a front wall falls -/
theorem Mid.fallF (M : Mid ys l e W) (hl : l < e) (hf : ys.getD l 0 ≤ ys.getD (e - 1) 0) : Mid ys (l + 1) e (max W (min (ys.getD l 0) (ys.getD (e - 1) 0))) := by
  have he := M.en
  have hm : min (ys.getD l 0) (ys.getD (e - 1) 0) = ys.getD l 0 := by omega
  rw [hm]
  refine ⟨hl, he, M.nn, by have := M.w0; omega, fun i hi => ?_, fun j hj hj' => ?_, ?_, fun i hi => ?_, fun j hj hj' => ?_⟩
  · by_cases c : i = l
    · subst c; omega
    · have := M.frontW i (by omega); omega
  · have := M.backW j hj hj'; omega
  · by_cases c : W ≤ ys.getD l 0
    · exact .inr (.inl ⟨l, by omega, by omega⟩)
    · rw [show max W (ys.getD l 0) = W by omega]
      rcases M.from_ with h | ⟨i, hi, h⟩ | h
      · exact .inl h
      · exact .inr (.inl ⟨i, by omega, h⟩)
      · exact .inr (.inr h)
  · by_cases c : i = l
    · subst c; exact ⟨e - 1, by omega, by omega, hf⟩
    · exact M.front i (by omega)
  · obtain ⟨i, hi, r⟩ := M.back j hj hj'
    exact ⟨i, by omega, r⟩
/-- a back wall falls -/
theorem Mid.fallB (M : Mid ys l e W) (hl : l < e) (hb : ¬ ys.getD l 0 ≤ ys.getD (e - 1) 0) : Mid ys l (e - 1) (max W (min (ys.getD l 0) (ys.getD (e - 1) 0))) := by
  have he := M.en
  have hm : min (ys.getD l 0) (ys.getD (e - 1) 0) = ys.getD (e - 1) 0 := by omega
  rw [hm]
  refine ⟨by omega, by omega, M.nn, by have := M.w0; omega, fun i hi => ?_, fun j hj hj' => ?_, ?_, fun i hi => ?_, fun j hj hj' => ?_⟩
  · have := M.frontW i hi; omega
  · by_cases c : j = e - 1
    · subst c; omega
    · have := M.backW j (by omega) hj'; omega
  · by_cases c : W ≤ ys.getD (e - 1) 0
    · exact .inr (.inr ⟨e - 1, by omega, by omega, by omega⟩)
    · rw [show max W (ys.getD (e - 1) 0) = W by omega]
      rcases M.from_ with h | h | ⟨j, hj, h⟩
      · exact .inl h
      · exact .inr (.inl h)
      · exact .inr (.inr ⟨j, by omega, h⟩)
  · obtain ⟨j, hj, r⟩ := M.front i hi
    exact ⟨j, by omega, r⟩
  · by_cases c : j = e - 1
    · subst c; exact ⟨l, by omega, by omega, by omega⟩
    · exact M.back j (by omega) hj'
/-- the level at a front wall that falls -/
theorem Mid.lvlF (M : Mid ys l e W) (hl : l < e) (hf : ys.getD l 0 ≤ ys.getD (e - 1) 0) : lvl ys (l : Nat) = max W (ys.getD l 0) ∧ lvl ys (l : Nat) = mx (ys.take (l + 1)) := by
  have he := M.en
  have f0 := M.nn l (by omega)
  have w0 := M.w0
  unfold lvl
  rw [show ((l : Nat) : Int).toNat = l by omega]
  have A1 := tk_le (ys := ys) (Nat.le_refl l) (by omega)
  have B1 := dr_le (ys := ys) (Nat.le_refl l) (by omega)
  have A2 : mx (ys.take (l + 1)) ≤ max W (ys.getD l 0) := by
    rcases tk_at (ys := ys) l with h | ⟨i, hi, hi', h⟩
    · omega
    · by_cases c : i = l
      · subst c; omega
      · have := M.frontW i (by omega); omega
  have A3 : W ≤ mx (ys.take (l + 1)) := by
    rcases M.from_ with h | ⟨i, hi, h⟩ | ⟨j, hj, hj', h⟩
    · omega
    · have := tk_le (ys := ys) (show i ≤ l by omega) (by omega); omega
    · obtain ⟨i, hi, hi', lt⟩ := M.back j hj hj'
      have := tk_le (ys := ys) hi hi'; omega
  have B3 : W ≤ mx (ys.drop l) := by
    rcases M.from_ with h | ⟨i, hi, h⟩ | ⟨j, hj, hj', h⟩
    · omega
    · obtain ⟨j, hj, hj', le⟩ := M.front i hi
      have := dr_le (ys := ys) (show l ≤ j by omega) hj'; omega
    · have := dr_le (ys := ys) (show l ≤ j by omega) hj'; omega
  omega
/-- the level at a back wall that falls -/
theorem Mid.lvlB (M : Mid ys l e W) (hl : l < e) (hb : ¬ ys.getD l 0 ≤ ys.getD (e - 1) 0) : lvl ys ((e - 1 : Nat) : Int) = max W (ys.getD (e - 1) 0) ∧ lvl ys ((e - 1 : Nat) : Int) = mx (ys.drop (e - 1)) := by
  have he := M.en
  have b0 := M.nn (e - 1) (by omega)
  have w0 := M.w0
  unfold lvl
  rw [show (((e - 1 : Nat) : Int)).toNat = e - 1 by omega]
  have A1 := tk_le (ys := ys) (Nat.le_refl (e - 1)) (by omega)
  have B1 := dr_le (ys := ys) (Nat.le_refl (e - 1)) (by omega)
  have B2 : mx (ys.drop (e - 1)) ≤ max W (ys.getD (e - 1) 0) := by
    rcases dr_at (ys := ys) (e - 1) with h | ⟨j, hj, hj', h⟩
    · omega
    · by_cases c : j = e - 1
      · subst c; omega
      · have := M.backW j (by omega) hj'; omega
  have A3 : W ≤ mx (ys.take (e - 1 + 1)) := by
    rcases M.from_ with h | ⟨i, hi, h⟩ | ⟨j, hj, hj', h⟩
    · omega
    · have := tk_le (ys := ys) (show i ≤ e - 1 by omega) (by omega); omega
    · obtain ⟨i, hi, hi', lt⟩ := M.back j hj hj'
      have := tk_le (ys := ys) (show i ≤ e - 1 by omega) hi'; omega
  have B3 : W ≤ mx (ys.drop (e - 1)) := by
    rcases M.from_ with h | ⟨i, hi, h⟩ | ⟨j, hj, hj', h⟩
    · omega
    · obtain ⟨j, hj, hj', le⟩ := M.front i hi
      have := dr_le (ys := ys) (show e - 1 ≤ j by omega) hj'; omega
    · have := dr_le (ys := ys) (show e - 1 ≤ j by omega) hj'; omega
  omega
end
end
end Mine
end
section
open PySem PySem.W PyProof.Rows
set_option linter.unusedVariables false
namespace Mine
section
variable {ys : List Int} {l e : Nat} {W : Int}
/-- the last spot of the highest wall -/
theorem last_spec (hn : 0 < ys.length) (h0 : ∀ y ∈ ys, 0 ≤ y) : ∃ t : Nat, lastOf ys = t ∧ t < ys.length ∧ (∀ j, j < ys.length → ys.getD j 0 ≤ ys.getD t 0) ∧ ∀ j, j < ys.length → ys.getD j 0 = ys.getD t 0 → j ≤ t := by
  have hmem : mx ys ∈ ys := by
    rcases mx_at ys with h | h
    · rw [h]
      have h1 : ys[0] ∈ ys := List.getElem_mem hn
      have h2 := le_mx h1
      have h3 := h0 _ h1
      rwa [show (0 : Int) = ys[0] by omega]
    · exact h
  have hm : lastOf ys ∈ (rangeKs 0 ys.length).filter fun k => decide (ys.getD k.toNat 0 = mx ys) := by
    unfold lastOf
    rcases mx_at ((rangeKs 0 ys.length).filter fun k => decide (ys.getD k.toNat 0 = mx ys)) with h | h
    · obtain ⟨i, hi, e⟩ := List.getElem_of_mem hmem
      have hin : (i : Int) ∈ (rangeKs 0 ys.length).filter fun k => decide (ys.getD k.toNat 0 = mx ys) := List.mem_filter.mpr ⟨mem_range0.mpr ⟨by omega, by omega⟩, by simp [hi, e]⟩
      have := le_mx hin
      have e0 : (i : Int) = 0 := by omega
      rw [h]
      rw [e0] at hin
      exact hin
    · exact h
  obtain ⟨a, b⟩ := List.mem_filter.mp hm
  have a' := mem_range0.mp a
  have b' : ys.getD (lastOf ys).toNat 0 = mx ys := by simpa using b
  refine ⟨(lastOf ys).toNat, by omega, by omega, fun j hj => ?_, fun j hj ej => ?_⟩
  · rw [b', getD_at hj]; exact le_mx (List.getElem_mem hj)
  · rw [b'] at ej
    have : (j : Int) ∈ (rangeKs 0 ys.length).filter fun k => decide (ys.getD k.toNat 0 = mx ys) := List.mem_filter.mpr ⟨mem_range0.mpr ⟨by omega, by omega⟩, by simpa using ej⟩
    have := le_mx this
    have e2 : lastOf ys = mx ((rangeKs 0 ys.length).filter fun k => decide (ys.getD k.toNat 0 = mx ys)) := rfl
    omega
theorem Mid.sideF (M : Mid ys l e W) (hl : l < e) (hf : ys.getD l 0 ≤ ys.getD (e - 1) 0) (h0 : ∀ y ∈ ys, 0 ≤ y) : ((l : Nat) : Int) ≤ lastOf ys := by
  have he := M.en
  obtain ⟨t, ht, htn, top, last⟩ := last_spec (ys := ys) (by omega) h0
  rw [ht]
  by_cases c : l ≤ t
  · omega
  · obtain ⟨j, hj, hj', le⟩ := M.front t (by omega)
    have := top j hj'
    have := last j hj' (by omega)
    omega
theorem Mid.sideB (M : Mid ys l e W) (hl : l < e) (hb : ¬ ys.getD l 0 ≤ ys.getD (e - 1) 0) (h0 : ∀ y ∈ ys, 0 ≤ y) : ¬ ((e - 1 : Nat) : Int) ≤ lastOf ys := by
  have he := M.en
  obtain ⟨t, ht, htn, top, last⟩ := last_spec (ys := ys) (by omega) h0
  rw [ht]
  intro c
  have hl' := top l (by omega)
  by_cases c2 : t = e - 1
  · subst c2; omega
  · obtain ⟨i, hi, hi', lt⟩ := M.back t (by omega) htn
    have := top i hi'
    omega
/-- the walls in the order in which they fall: spot, level, whether the wall is as high as the level -/
def fall (ys : List Int) : Nat → Nat → Nat → Int → List (Nat × Int × Bool)
  | 0, _, _, _ => []
  | n + 1, l, e, W => if l < e then
      if ys.getD l 0 ≤ ys.getD (e - 1) 0 then (l, max W (min (ys.getD l 0) (ys.getD (e - 1) 0)), decide (W ≤ ys.getD l 0)) :: fall ys n (l + 1) e (max W (min (ys.getD l 0) (ys.getD (e - 1) 0)))
      else (e - 1, max W (min (ys.getD l 0) (ys.getD (e - 1) 0)), decide (W ≤ ys.getD (e - 1) 0)) :: fall ys n l (e - 1) (max W (min (ys.getD l 0) (ys.getD (e - 1) 0)))
    else []
/-- what is so of each wall that falls -/
structure Good (ys : List Int) (l e : Nat) (W : Int) (x : Nat × Int × Bool) : Prop where
  lo : l ≤ x.1
  hi : x.1 < e
  level : x.2.1 = lvl ys x.1
  flag : x.2.2 = decide (ys.getD x.1 0 = lvl ys x.1)
  grow : W ≤ x.2.1
  side : ((x.1 : Int) ≤ lastOf ys ∧ ∀ i, i ≤ x.1 → ys.getD i 0 ≤ lvl ys x.1) ∨ ¬ (x.1 : Int) ≤ lastOf ys
theorem Good.mono {l' e' : Nat} {W' : Int} {x : Nat × Int × Bool} (g : Good ys l' e' W' x) (hl : l ≤ l') (he : e' ≤ e) (hw : W ≤ W') : Good ys l e W x :=
  ⟨Nat.le_trans hl g.lo, Nat.lt_of_lt_of_le g.hi he, g.level, g.flag, Int.le_trans hw g.grow, g.side⟩
theorem key_of (k : Int) : keyOf (tri ys k) = if k ≤ lastOf ys then 1000 * lvl ys k + k else 1000 * lvl ys k + 100 - k := by
  unfold keyOf tri
  by_cases c : k ≤ lastOf ys
  · rw [if_pos c, if_pos c]; dsimp only; omega
  · rw [if_neg c, if_neg c]; dsimp only; omega
theorem fall_ok (h0 : ∀ y ∈ ys, 0 ≤ y) (h10 : ys.length ≤ 10) : ∀ (n l e : Nat) (W : Int), e - l ≤ n → Mid ys l e W →
    (∀ x ∈ fall ys n l e W, Good ys l e W x) ∧ (fall ys n l e W).Pairwise (fun x y => keyOf (tri ys x.1) < keyOf (tri ys y.1)) ∧ (fall ys n l e W).length = e - l
  | 0, l, e, W, hn, M => ⟨fun x hx => (nomatch hx), .nil, by show 0 = e - l; omega⟩
  | n + 1, l, e, W, hn, M => by
    unfold fall
    by_cases hl : l < e
    · rw [if_pos hl]
      have he := M.en
      by_cases hf : ys.getD l 0 ≤ ys.getD (e - 1) 0
      · rw [if_pos hf]
        obtain ⟨g1, g2, g3⟩ := fall_ok h0 h10 n (l + 1) e _ (by omega) (M.fallF hl hf)
        have hm : min (ys.getD l 0) (ys.getD (e - 1) 0) = ys.getD l 0 := by omega
        obtain ⟨v1, v2⟩ := M.lvlF hl hf
        have sd := M.sideF hl hf h0
        refine ⟨List.forall_mem_cons.mpr ⟨⟨Nat.le_refl _, hl, ?_, ?_, ?_, .inl ⟨sd, fun i hi => ?_⟩⟩, fun x hx => (g1 x hx).mono (by omega) (Nat.le_refl _) (by omega)⟩, List.pairwise_cons.mpr ⟨fun x hx => ?_, g2⟩, ?_⟩
        · dsimp only; rw [hm]; exact v1.symm
        · dsimp only; rw [v1]; exact decide_eq_decide.mpr (by omega)
        · dsimp only; omega
        · dsimp only at hi ⊢; rw [v2]; exact tk_le hi (by omega)
        · have g := g1 x hx
          have a1 := g.lo; have a2 := g.hi; have a3 := g.grow; have a4 := g.level
          rw [key_of, key_of]
          dsimp only
          rw [if_pos sd]
          rw [hm] at a3
          rcases g.side with ⟨s, _⟩ | s
          · rw [if_pos s]; omega
          · rw [if_neg s]; omega
        · rw [List.length_cons, g3]; omega
      · rw [if_neg hf]
        have M' := M.fallB hl hf
        obtain ⟨g1, g2, g3⟩ := fall_ok h0 h10 n l (e - 1) _ (by omega) M'
        have hm : min (ys.getD l 0) (ys.getD (e - 1) 0) = ys.getD (e - 1) 0 := by omega
        obtain ⟨v1, v2⟩ := M.lvlB hl hf
        have sd := M.sideB hl hf h0
        refine ⟨List.forall_mem_cons.mpr ⟨⟨by dsimp only; omega, by dsimp only; omega, ?_, ?_, ?_, .inr sd⟩, fun x hx => (g1 x hx).mono (Nat.le_refl _) (by omega) (by omega)⟩, List.pairwise_cons.mpr ⟨fun x hx => ?_, g2⟩, ?_⟩
        · dsimp only; rw [hm]; exact v1.symm
        · dsimp only; rw [v1]; exact decide_eq_decide.mpr (by omega)
        · dsimp only; omega
        · have g := g1 x hx
          have a1 := g.lo; have a2 := g.hi; have a3 := g.grow; have a4 := g.level
          rw [key_of, key_of]
          dsimp only
          rw [if_neg sd]
          rw [hm] at a3
          rcases g.side with ⟨s, up⟩ | s
          · rw [if_pos s]
            have strict : lvl ys ((e - 1 : Nat) : Int) < lvl ys x.1 := by
              rw [v2]
              rcases dr_at (ys := ys) (e - 1) with h | ⟨j, hj, hj', h⟩
              · rw [h]
                obtain ⟨i, hi, hi', lt⟩ := M'.back (e - 1) (Nat.le_refl _) (by omega)
                have := up i (by omega)
                have := M.nn (e - 1) (by omega)
                omega
              · rw [h]
                obtain ⟨i, hi, hi', lt⟩ := M'.back j hj hj'
                have := up i (by omega)
                omega
            omega
          · rw [if_neg s]; omega
        · rw [List.length_cons, g3]; omega
    · rw [if_neg hl]
      exact ⟨fun x hx => (nomatch hx), .nil, by show 0 = e - l; omega⟩
end
end Mine
end
section
open PySem PySem.W PyProof.Rows
set_option linter.unusedVariables false
namespace Mine
theorem sorted_sub (k : Nat → Int) : ∀ (l2 l1 : List Nat), l1.Pairwise (fun a b => k a < k b) → l2.Pairwise (fun a b => k a < k b) → (∀ x ∈ l1, x ∈ l2) → l1.length ≤ l2.length ∧ (l1.length = l2.length → l1 = l2)
  | [], l1, h1, h2, hs => by
    cases l1 with
    | nil => exact ⟨Nat.le_refl _, fun _ => rfl⟩
    | cons a l => exact (nomatch hs a (.head _))
  | b :: l2, [], h1, h2, hs => ⟨Nat.zero_le _, fun h => by simp at h⟩
  | b :: l2, a :: l1, h1, h2, hs => by
    obtain ⟨p1, q1⟩ := List.pairwise_cons.mp h1
    obtain ⟨p2, q2⟩ := List.pairwise_cons.mp h2
    by_cases c : a = b
    · subst c
      obtain ⟨i1, i2⟩ := sorted_sub k l2 l1 q1 q2 fun x hx => by
        rcases List.mem_cons.mp (hs x (.tail _ hx)) with e | e
        · have := p1 x hx; rw [e] at this; omega
        · exact e
      refine ⟨by simp only [List.length_cons]; omega, fun e => ?_⟩
      rw [i2 (by simpa using e)]
    · have ha : a ∈ l2 := by
        rcases List.mem_cons.mp (hs a (.head _)) with e | e
        · exact absurd e c
        · exact e
      obtain ⟨i1, _⟩ := sorted_sub k l2 (a :: l1) h1 q2 fun x hx => by
        rcases List.mem_cons.mp (hs x hx) with e | e
        · subst e
          have hb := p2 a ha
          rcases List.mem_cons.mp hx with e | hx
          · exact absurd e.symm c
          · have := p1 x hx; omega
        · exact e
      simp only [List.length_cons] at i1 ⊢
      exact ⟨by omega, fun e => by omega⟩
/-- a fallen wall as the law writes it down -/
def fell (x : Nat × Int × Bool) : Dat := .tuple [.int (x.1 : Int), .int (1048576 * x.2.1), .bool x.2.2]
theorem fell_due {ys : List Int} (h0 : ∀ y ∈ ys, 0 ≤ y) (h10 : ys.length ≤ 10) {r : Array Nat} (hp : Pm ys.length r) (hu : Up (fun i => keyOf (tri ys (i : Nat))) r ys.length) :
    (fall ys ys.length 0 ys.length 0).map fell = r.toList.map fun i => due ys (tri ys (i : Nat)) := by
  obtain ⟨g1, g2, g3⟩ := fall_ok h0 h10 ys.length 0 ys.length 0 (by omega) (mid_start h0)
  have hr : r.toList.Pairwise (fun a b => keyOf (tri ys (a : Nat)) < keyOf (tri ys (b : Nat))) := by
    have hs := hp.size
    refine List.pairwise_iff_getElem.mpr fun i j hi hj hij => ?_
    have hi' : i < r.size := by simpa using hi
    have hj' : j < r.size := by simpa using hj
    have := hu i j hij (by omega)
    simpa [Array.getD, hi', hj'] using this
  have e : (fall ys ys.length 0 ys.length 0).map (·.1) = r.toList := by
    refine (sorted_sub (fun i => keyOf (tri ys (i : Nat))) r.toList _ (List.pairwise_map.mpr g2) hr fun x hx => ?_).2 ?_
    · obtain ⟨y, hy, rfl⟩ := List.mem_map.mp hx
      exact hp.mem_iff.mpr (List.mem_range.mpr (g1 y hy).hi)
    · rw [List.length_map, g3, hp.length_eq, List.length_range]; omega
  rw [← e, List.map_map]
  refine List.map_congr_left fun x hx => ?_
  have g := g1 x hx
  show fell x = due ys (tri ys (x.1 : Nat))
  unfold fell due
  have e1 : (tri ys (x.1 : Nat)).1 = lvl ys (x.1 : Nat) := by unfold tri; split <;> rfl
  have e2 : (tri ys (x.1 : Nat)).2.2.natAbs = x.1 := by unfold tri; split <;> simp
  rw [e1, e2, g.level, g.flag]
end Mine
end
section
open PySem PySem.Builtin PySem.Builtin.Str PySem.StrLaws
set_option linter.unusedVariables false
namespace Mine
theorem one_len (c : Nat) : (⟨#[c]⟩ : Str).length = 1 := rfl
/-- the first place of a sign -/
theorem find_at {x : Str} {c : Nat} {pre post : List Nat} (e : x.cps.toList = pre ++ c :: post) (hp : c ∉ pre) : Txt.find x ⟨#[c]⟩ = (pre.length : Int) := by
  have at_ : ∀ i, At x ⟨#[c]⟩ x.length i ↔ x.cps.toList[i]? = some c := fun i => subAt_one x c i
  have hpre : ∀ k, k < pre.length → x.cps.toList[k]? ≠ some c := fun k hk h => by
    rw [e, List.getElem?_append_left hk] at h
    exact hp (List.mem_of_getElem? h)
  have hat : x.cps.toList[pre.length]? = some c := by rw [e]; simp
  unfold Txt.find
  rcases occ_head x ⟨#[c]⟩ 1 (Nat.le_refl _) with ⟨_, hn⟩ | ⟨i, r, e2, hi, hn⟩
  · exact absurd ((at_ _).mpr hat) (hn _)
  · rw [e2]
    have h1 := (at_ i).mp hi
    have : i = pre.length := by
      rcases Nat.lt_trichotomy i pre.length with h | h | h
      · exact absurd h1 (hpre i h)
      · exact h
      · exact absurd ((at_ _).mpr hat) (hn _ h)
    rw [this]
theorem range_mem_split {lo n a : Nat} {pre post : List Nat} (h : List.range' lo n = pre ++ a :: post) : ∀ k, lo ≤ k → k < a → k ∈ pre := by
  intro k h1 h2
  have ha : a ∈ List.range' lo n := by rw [h]; simp
  have ha' := List.mem_range'.mp ha
  have hk : k ∈ List.range' lo n := List.mem_range'.mpr ⟨k - lo, by omega, by omega⟩
  rw [h] at hk
  rcases List.mem_append.mp hk with hk | hk
  · exact hk
  · have hs : (List.range' lo n).Pairwise (· < ·) := List.pairwise_lt_range'
    rw [h] at hs
    have hs2 := (List.pairwise_append.mp hs).2.1
    rcases List.mem_cons.mp hk with e | hk
    · omega
    · have := (List.pairwise_cons.mp hs2).1 k hk; omega
/-- the first place of a sign from a place on -/
theorem find3_at {x : Str} {c i : Nat} {pre post : List Nat} (e : x.cps.toList = pre ++ c :: post) (hi : i ≤ pre.length) (hp : c ∉ pre.drop i) : Txt.find3 x ⟨#[c]⟩ (i : Int) = (pre.length : Int) := by
  have at_ : ∀ i, At x ⟨#[c]⟩ x.length i ↔ x.cps.toList[i]? = some c := fun i => subAt_one x c i
  have hpre : ∀ k, i ≤ k → k < pre.length → x.cps.toList[k]? ≠ some c := fun k hik hk h => by
    rw [e, List.getElem?_append_left hk] at h
    refine hp (List.mem_of_getElem? (i := k - i) ?_)
    rw [List.getElem?_drop, show i + (k - i) = k by omega]; exact h
  have hat : x.cps.toList[pre.length]? = some c := by rw [e]; simp
  have hlen : pre.length < x.length := by
    have := congrArg List.length e
    simp only [List.length_append, List.length_cons] at this
    show pre.length < x.cps.size
    have h2 : x.cps.toList.length = x.cps.size := by simp
    omega
  unfold Txt.find3
  rw [show PySem.fromIndex x.length (i : Int) = i by unfold PySem.fromIndex; omega, occ_eq]
  rcases occ_first x ⟨#[c]⟩ x.length 1 (Nat.le_refl _) (List.range' i (x.length + 1 - i)) i (fun k hk => (List.mem_range'_1.mp hk).1) with ⟨h0, hn⟩ | ⟨p, a, q, e2, h0, ha, hn⟩
  · exact absurd ((at_ _).mpr hat) (hn _ (List.mem_range'_1.mpr ⟨hi, by omega⟩))
  · generalize (forIn (List.range' i (x.length + 1 - i)) ((#[] : Array Nat), i) (occBody x ⟨#[c]⟩ x.length 1)).run.fst = arr at h0
    have h1 : arr.toList[0]? = some a := by simpa using h0
    have ha' := (at_ a).mp ha
    have hia : i ≤ a := by
      have : a ∈ List.range' i (x.length + 1 - i) := by rw [e2]; simp
      exact (List.mem_range'_1.mp this).1
    have haa : a = pre.length := by
      rcases Nat.lt_trichotomy a pre.length with h | h | h
      · exact absurd ha' (hpre a hia h)
      · exact h
      · exact absurd ((at_ _).mpr hat) (hn _ (range_mem_split e2 _ hi h))
    cases hL : arr.toList with
    | nil => rw [hL] at h1; cases h1
    | cons b t => rw [hL] at h1; simp at h1; rw [h1, haa]
end Mine
end
section
open PySem PySem.Builtin PySem.Builtin.Str PySem.StrLaws
set_option linter.unusedVariables false
namespace Mine
theorem join_cons2 (c : Nat) (p q : Str) (r : List Str) : (Str.join ⟨#[c]⟩ (p :: q :: r)).cps.toList = p.cps.toList ++ c :: (Str.join ⟨#[c]⟩ (q :: r)).cps.toList := by
  show ((p ++ ⟨#[c]⟩) ++ Str.join ⟨#[c]⟩ (q :: r)).cps.toList = _
  rw [Str.cps_append, Str.cps_append]
  simp
theorem free_cut {c : Nat} : ∀ {a a' b b' : List Nat}, c ∉ a → c ∉ a' → a ++ c :: b = a' ++ c :: b' → a = a' ∧ b = b'
  | [], [], b, b', _, _, h => ⟨rfl, by simpa using h⟩
  | [], x :: a', b, b', _, h', h => by
    simp only [List.nil_append, List.cons_append, List.cons.injEq] at h
    exact absurd (by rw [← h.1]; exact List.mem_cons_self) h'
  | x :: a, [], b, b', h0, _, h => by
    simp only [List.nil_append, List.cons_append, List.cons.injEq] at h
    exact absurd (by rw [h.1]; exact List.mem_cons_self) h0
  | x :: a, y :: a', b, b', h0, h', h => by
    simp only [List.cons_append, List.cons.injEq] at h
    obtain ⟨e1, e2⟩ := free_cut (fun m => h0 (.tail _ m)) (fun m => h' (.tail _ m)) h.2
    exact ⟨by rw [h.1, e1], e2⟩
theorem str_ext {a b : Str} (h : a.cps.toList = b.cps.toList) : a = b := Str.ext' (Array.toList_inj.mp h)
theorem join_inj (c : Nat) : ∀ (l1 l2 : List Str), l1 ≠ [] → l2 ≠ [] → (∀ p ∈ l1, c ∉ p.cps.toList) → (∀ p ∈ l2, c ∉ p.cps.toList) → Str.join ⟨#[c]⟩ l1 = Str.join ⟨#[c]⟩ l2 → l1 = l2
  | [], _, h, _, _, _, _ => absurd rfl h
  | _, [], _, h, _, _, _ => absurd rfl h
  | [p], [q], _, _, _, _, h => by rw [show p = q from h]
  | [p], q :: q2 :: r, _, _, f1, f2, h => by
    have := congrArg (·.cps.toList) h
    try dsimp only at this
    rw [join_cons2] at this
    refine absurd ?_ (f1 p (.head _))
    show c ∈ (Str.join ⟨#[c]⟩ [p]).cps.toList
    rw [this]; simp
  | p :: p2 :: r, [q], _, _, f1, f2, h => by
    have := congrArg (·.cps.toList) h
    try dsimp only at this
    rw [join_cons2] at this
    refine absurd ?_ (f2 q (.head _))
    show c ∈ (Str.join ⟨#[c]⟩ [q]).cps.toList
    rw [← this]; simp
  | p :: p2 :: r, q :: q2 :: r', _, _, f1, f2, h => by
    have h' := congrArg (·.cps.toList) h
    try dsimp only at h'
    rw [join_cons2, join_cons2] at h'
    obtain ⟨e1, e2⟩ := free_cut (f1 p (.head _)) (f2 q (.head _)) h'
    rw [str_ext e1, join_inj c (p2 :: r) (q2 :: r') (by simp) (by simp) (fun x hx => f1 x (.tail _ hx)) (fun x hx => f2 x (.tail _ hx)) (str_ext e2)]
theorem split_at {x : Str} {c : Nat} {parts : List Str} (hj : Str.join ⟨#[c]⟩ parts = x) (hn : parts ≠ []) (hf : ∀ p ∈ parts, c ∉ p.cps.toList) : Txt.split x ⟨#[c]⟩ = parts := by
  refine join_inj c _ _ ?_ hn (split_free x c) hf ((join_split x ⟨#[c]⟩).trans hj.symm)
  intro h
  have := PyProof.Rows.split_pos x ⟨#[c]⟩
  rw [h] at this
  simp at this
theorem item_at {x : Str} {i c : Nat} (h : x.cps.toList[i]? = some c) : Txt.item x (i : Int) = ⟨#[c]⟩ := by
  unfold Txt.item Txt.charAt
  rw [at_nonneg (by omega) (n := c) (by rw [show ((i : Int)).toNat = i by omega, ← Array.getElem?_toList]; exact h)]
  rfl
theorem slice_at {x : Str} {i j : Nat} (hij : i ≤ j) (hj : j ≤ x.cps.toList.length) : (Txt.slice x (some (i : Int)) (some (j : Int))).cps.toList = (x.cps.toList.drop i).take (j - i) := by
  have := sliceText_plain (x := x) (i := (i : Int)) (j := (j : Int)) ⟨by omega, by omega, by omega⟩
  show (sliceText x (some (i : Int)) (some (j : Int))).cps.toList = _
  rw [this, show ((i : Int)).toNat = i by omega, show ((j : Int) - (i : Int)).toNat = j - i by omega]
theorem slice_to {x : Str} {j : Nat} (hj : j ≤ x.cps.toList.length) : (Txt.slice x none (some (j : Int))).cps.toList = x.cps.toList.take j := by
  have := sliceText_to (x := x) (j := (j : Int)) ⟨by omega, by omega⟩
  show (sliceText x none (some (j : Int))).cps.toList = _
  rw [this, show ((j : Int) - 0).toNat = j by omega]
  simp
end Mine
end
section
open PySem PySem.Builtin PySem.Builtin.Str PySem.StrLaws
set_option linter.unusedVariables false
namespace Mine
abbrev toL (x : Str) : List Nat := x.cps.toList
/-- what stands between the brackets of a wall's text -/
def midL (x : Int) : List Nat := 32 :: (toL (pA x) ++ 32 :: (toL (pB x) ++ 32 :: (toL (figS x) ++ [32])))
theorem sp_one : Str.ofString " " = ⟨#[32]⟩ := by decide +kernel
theorem op_one : Str.ofString "(" = ⟨#[40]⟩ := by decide +kernel
theorem cl_one : Str.ofString ")" = ⟨#[41]⟩ := by decide +kernel
theorem toL_append (a b : Str) : toL (a ++ b) = toL a ++ toL b := by
  unfold toL
  rw [Str.cps_append]; simp
theorem piece_L (x : Int) : toL (pieceT x) = [70, 76, 65, 71, 83, 32] ++ 40 :: (midL x ++ [41]) := by
  unfold pieceT
  rw [toL_append, toL_append]
  have e1 : toL (Str.ofString "FLAGS ( ") = [70, 76, 65, 71, 83, 32, 40, 32] := by decide +kernel
  have e2 : toL (Str.ofString " )") = [32, 41] := by decide +kernel
  have e3 : toL (Txt.join (Str.ofString " ") [pA x, pB x, figS x]) = toL (pA x) ++ 32 :: (toL (pB x) ++ 32 :: toL (figS x)) := by
    unfold Txt.join
    rw [glued_eq_join, sp_one]
    show (Str.join ⟨#[32]⟩ (pA x :: pB x :: [figS x])).cps.toList = _
    rw [join_cons2, join_cons2]
    rfl
  rw [e1, e2, e3]
  unfold midL
  simp
theorem sign_L {w : Str} {p : Nat → Bool} (h : w.cps.toList.all (fun c => wordSign c && p c) = true) : ∀ c ∈ toL w, wordSign c = true := fun c hc => by
  have := List.all_eq_true.mp h c hc
  simp only [Bool.and_eq_true] at this
  exact this.1
theorem sign_A (x : Int) : ∀ c ∈ toL (pA x), wordSign c = true := sign_L (tab_ok _).1.2.2
theorem sign_B (x : Int) : ∀ c ∈ toL (pB x), wordSign c = true := sign_L (tab_ok _).2.2
theorem sign_F (x : Int) : ∀ c ∈ toL (figS x), wordSign c = true := by
  have := figN_signs _ (pj_lt x) _ (ph_lt x)
  refine sign_L (p := fun c => c != 40 && c != 70) ?_
  unfold figS
  simpa only [Bool.and_assoc] using this
theorem sign_no {c : Nat} {l : List Nat} (h : ∀ c ∈ l, wordSign c = true) (hc : wordSign c = false) : c ∉ l := fun m => by rw [h c m] at hc; cases hc
theorem mid_no41 (x : Int) : 41 ∉ midL x := by
  unfold midL
  simp only [List.mem_cons, List.mem_append, List.not_mem_nil, or_false, not_or]
  exact ⟨by decide, sign_no (sign_A x) (by decide), by decide, sign_no (sign_B x) (by decide), by decide, sign_no (sign_F x) (by decide), by decide⟩
theorem mid_last (x : Int) : ∃ m, midL x = m ++ [32] ∧ 1 ≤ m.length := ⟨32 :: (toL (pA x) ++ 32 :: (toL (pB x) ++ 32 :: toL (figS x))), by unfold midL; simp, by simp⟩
theorem toL_len (x : Str) : (toL x).length = x.length := by unfold toL; simp [Str.length]

/-- what parse229 sees -/
structure Sees (X : Str) (n : Int) (lf rt : Int) (p1 p2 p3 : Str) : Prop where
  h229 : Txt.slice X none (some 3) = Str.ofString "229"
  hlf : Txt.find X (Str.ofString "(") = lf
  hrt : Txt.find3 X (Str.ofString ")") (lf + 1) = rt
  l0 : 0 ≤ lf
  l1 : lf + 2 ≤ rt
  l2 : rt < X.length
  i1 : Txt.item X (lf + 1) = Str.ofString " "
  i2 : Txt.item X (rt - 1) = Str.ofString " "
  hsp : Txt.split (Txt.slice X (some (lf + 1)) (some rt)) (Str.ofString " ") = [Str.empty, p1, p2, p3, Str.empty]
theorem sees {X : Str} {hd rest : List Nat} {x : Int} (e : toL X = (50 :: 50 :: 57 :: hd) ++ (toL (pieceT x) ++ rest)) (h40 : 40 ∉ hd) :
    Sees X (x.fmod 64) ((hd.length + 9 : Nat) : Int) ((hd.length + 10 + (midL x).length : Nat) : Int) (pA x) (pB x) (figS x) := by
  rw [piece_L] at e
  have e1 : toL X = ((50 :: 50 :: 57 :: hd) ++ [70, 76, 65, 71, 83, 32]) ++ 40 :: (midL x ++ 41 :: rest) := by rw [e]; simp
  have e2 : toL X = ((50 :: 50 :: 57 :: hd) ++ [70, 76, 65, 71, 83, 32] ++ 40 :: midL x) ++ 41 :: rest := by rw [e]; simp
  have n1 : ((50 :: 50 :: 57 :: hd) ++ [70, 76, 65, 71, 83, 32]).length = hd.length + 9 := by simp
  have n2 : ((50 :: 50 :: 57 :: hd) ++ [70, 76, 65, 71, 83, 32] ++ 40 :: midL x).length = hd.length + 10 + (midL x).length := by simp; omega
  have hl : (toL X).length = hd.length + 10 + (midL x).length + 1 + rest.length := by rw [e2, List.length_append, n2]; simp; omega
  obtain ⟨m, hm, m1⟩ := mid_last x
  have hml : (midL x).length = m.length + 1 := by rw [hm]; simp
  have g : ∀ i, (toL X)[hd.length + 10 + i]? = (midL x ++ 41 :: rest)[i]? := fun i => by
    rw [e1, show hd.length + 10 + i = ((50 :: 50 :: 57 :: hd) ++ [70, 76, 65, 71, 83, 32]).length + (i + 1) by rw [n1]; omega, List.getElem?_append_right (by omega)]
    simp
  refine ⟨?_, ?_, ?_, by omega, by omega, by rw [← toL_len]; omega, ?_, ?_, ?_⟩
  · refine str_ext ?_
    rw [show (3 : Int) = ((3 : Nat) : Int) from rfl, slice_to (by show 3 ≤ (toL X).length; omega)]
    show (toL X).take 3 = toL (Str.ofString "229")
    rw [e]
    have : toL (Str.ofString "229") = [50, 50, 57] := by decide +kernel
    rw [this]; rfl
  · rw [op_one, find_at e1 ?_, n1]
    simp only [List.mem_append, List.mem_cons, List.not_mem_nil, or_false, not_or]
    exact ⟨⟨by decide, by decide, by decide, h40⟩, by decide⟩
  · rw [cl_one, show ((hd.length + 9 : Nat) : Int) + 1 = ((hd.length + 10 : Nat) : Int) by omega, find3_at e2 (by omega) ?_, n2]
    have : ((50 :: 50 :: 57 :: hd) ++ [70, 76, 65, 71, 83, 32] ++ 40 :: midL x).drop (hd.length + 10) = midL x := by
      rw [show hd.length + 10 = ((50 :: 50 :: 57 :: hd) ++ [70, 76, 65, 71, 83, 32]).length + 1 by rw [n1], List.drop_append]
      simp
    rw [this]
    exact mid_no41 x
  · rw [sp_one, show ((hd.length + 9 : Nat) : Int) + 1 = ((hd.length + 10 + 0 : Nat) : Int) by omega]
    refine item_at ?_
    rw [g 0]; unfold midL; rfl
  · rw [sp_one, show ((hd.length + 10 + (midL x).length : Nat) : Int) - 1 = ((hd.length + 10 + m.length : Nat) : Int) by omega]
    refine item_at ?_
    rw [g, hm]; simp
  · rw [sp_one, show ((hd.length + 9 : Nat) : Int) + 1 = ((hd.length + 10 : Nat) : Int) by omega]
    refine split_at (str_ext ?_) (by simp) ?_
    · rw [slice_at (by omega) (by show _ ≤ (toL X).length; omega)]
      show _ = ((toL X).drop _).take _
      rw [show hd.length + 10 + (midL x).length - (hd.length + 10) = (midL x).length by omega]
      have : (toL X).drop (hd.length + 10) = midL x ++ 41 :: rest := by
        rw [e1, show hd.length + 10 = ((50 :: 50 :: 57 :: hd) ++ [70, 76, 65, 71, 83, 32]).length + 1 by rw [n1], List.drop_append]
        simp
      rw [this, List.take_left]
      rw [join_cons2, join_cons2, join_cons2, join_cons2]
      rfl
    · intro p hp
      simp only [List.mem_cons, List.not_mem_nil, or_false] at hp
      rcases hp with rfl | rfl | rfl | rfl | rfl
      · exact fun h => nomatch h
      · exact sign_no (sign_A x) (by decide)
      · exact sign_no (sign_B x) (by decide)
      · exact sign_no (sign_F x) (by decide)
      · exact fun h => nomatch h
end Mine
end
section
open PySem PySem.Builtin PySem.Builtin.Str PySem.StrLaws
set_option linter.unusedVariables false
namespace Mine
section
variable {t : Array Nat}
theorem drop_cons {p : Nat} (h : p < t.size) : t.toList.drop p = t.getD p 0 :: t.toList.drop (p + 1) := by
  have h' : p < t.toList.length := by simpa using h
  rw [List.drop_eq_getElem_cons h']
  simp [Array.getD, h]
theorem matchAt_iff : ∀ (ks : List Nat) (p : Nat), matchAt t p ks = true ↔ ks <+: t.toList.drop p
  | [], p => by simp [matchAt]
  | k :: ks, p => by
    by_cases h : p < t.size
    · rw [drop_cons h, List.cons_prefix_cons, ← matchAt_iff ks (p + 1)]
      simp only [matchAt, h, decide_true, Bool.true_and, Bool.and_eq_true, beq_iff_eq]
      constructor
      · rintro ⟨a, b⟩; exact ⟨a.symm, b⟩
      · rintro ⟨a, b⟩; exact ⟨a.symm, b⟩
    · have : t.toList.drop p = [] := List.drop_eq_nil_of_le (by simp; omega)
      rw [this]
      simp [matchAt, h]
theorem runLen_is {c : Nat} : ∀ (a b : List Nat) (p : Nat), t.toList.drop p = a ++ c :: b → c ∉ a → runLen t c (t.size - p) p = a.length
  | [], b, p, h, hc => by
    have hp : p < t.size := by
      have := congrArg List.length h
      simp at this; omega
    rw [show t.size - p = (t.size - p - 1) + 1 by omega]
    unfold runLen
    rw [drop_cons hp] at h
    simp only [List.nil_append, List.cons.injEq] at h
    rw [if_pos h.1]; rfl
  | x :: a, b, p, h, hc => by
    have hp : p < t.size := by
      have := congrArg List.length h
      simp at this; omega
    rw [drop_cons hp] at h
    simp only [List.cons_append, List.cons.injEq] at h
    rw [show t.size - p = (t.size - (p + 1)) + 1 by omega]
    unfold runLen
    rw [if_neg (fun e => hc (by rw [← h.1, e]; exact .head _)), runLen_is a b (p + 1) h.2 fun m => hc (.tail _ m)]
    rfl
theorem runLen_no {c : Nat} : ∀ (n p : Nat), n = t.size - p → c ∉ t.toList.drop p → runLen t c n p = n
  | 0, p, _, _ => rfl
  | n + 1, p, hn, hc => by
    have hp : p < t.size := by omega
    rw [drop_cons hp] at hc
    unfold runLen
    rw [if_neg (fun e => hc (by rw [e]; exact .head _)), runLen_no n (p + 1) (by omega) fun m => hc (.tail _ m)]
theorem shut_is {a b : List Nat} {p : Nat} (h : t.toList.drop p = a ++ 41 :: b) (hc : 41 ∉ a) : shut t p = p + a.length := by
  unfold shut; rw [runLen_is a b p h hc]
theorem shut_no {p : Nat} (hp : p ≤ t.size) (hc : 41 ∉ t.toList.drop p) : shut t p = t.size := by
  unfold shut; rw [runLen_no _ p rfl hc]; omega
/-- the end of the first line -/
theorem line_is {a b : List Nat} (h : t.toList = a ++ 10 :: b) (hc : 10 ∉ a) : runLen t 10 t.size 0 = a.length := by
  have := runLen_is (t := t) a b 0 (by rw [List.drop_zero]; exact h) hc
  simpa using this
theorem line_no (hc : 10 ∉ t.toList) : runLen t 10 t.size 0 = t.size := runLen_no _ 0 (by omega) (by rw [List.drop_zero]; exact hc)
end
/-- the ends that a reply may have -/
def tails : List (List Nat) := [[], [32, 70, 76, 65, 71, 83, 32, 40, 57], [10, 70, 76, 65, 71, 83, 32, 40, 32, 57, 32, 57, 32, 57, 32, 41], [32, 70, 76, 65, 71, 83, 40, 32, 57, 32, 57, 32, 57, 32, 41], [32, 102, 108, 97, 103, 115, 32, 40, 32, 57, 32, 57, 32, 57, 32, 41]]
theorem tails_match : ∀ tl ∈ tails, ∀ k, k < 17 → FL <+: tl.drop k → k = 1 ∧ (tl = [32, 70, 76, 65, 71, 83, 32, 40, 57] ∨ tl = [10, 70, 76, 65, 71, 83, 32, 40, 32, 57, 32, 57, 32, 57, 32, 41]) := by decide +kernel
theorem tails_len : ∀ tl ∈ tails, tl.length ≤ 16 := by decide +kernel
/-- what the pattern finds: front, the word, the inner text, the bracket, the end -/
theorem flags_at {t : Array Nat} {f i tl : List Nat} (h : t.toList = f ++ FL ++ (i ++ 41 :: tl)) (htl : tl ∈ tails) (f10 : 10 ∉ f) (i10 : 10 ∉ i) (i41 : 41 ∉ i) (i70 : 70 ∉ i) :
    f.length ≤ runLen t 10 t.size 0 ∧ good t f.length ∧ (∀ j, f.length < j → j ≤ runLen t 10 t.size 0 → ¬ good t j) ∧ shut t (f.length + 7) = f.length + 7 + i.length := by
  have hd7 : t.toList.drop (f.length + 7) = i ++ 41 :: tl := by
    rw [h, show f.length + 7 = (f ++ FL).length by simp [FL], List.drop_left]
  have hsz : t.size = f.length + 7 + i.length + 1 + tl.length := by
    have := congrArg List.length h
    simp [FL] at this; omega
  have hsh := shut_is hd7 i41
  have hlines : ∀ tl ∈ tails, 10 ∉ tl ∨ tl = 10 :: [70, 76, 65, 71, 83, 32, 40, 32, 57, 32, 57, 32, 57, 32, 41] := by decide +kernel
  have hrun : f.length ≤ runLen t 10 t.size 0 ∧ (tl = 10 :: [70, 76, 65, 71, 83, 32, 40, 32, 57, 32, 57, 32, 57, 32, 41] → runLen t 10 t.size 0 = f.length + 7 + i.length + 1) := by
    have n10 : 10 ∉ f ++ FL ++ i ++ [41] := by
      simp only [List.mem_append, not_or]
      exact ⟨⟨⟨f10, by decide⟩, i10⟩, by decide⟩
    rcases hlines tl htl with hn | hy
    · have : 10 ∉ t.toList := by
        rw [h]
        simp only [List.mem_append, List.mem_cons, not_or]
        exact ⟨⟨f10, by decide⟩, i10, by decide, hn⟩
      rw [line_no this]
      exact ⟨by omega, fun e => absurd (by rw [e]; exact .head _) hn⟩
    · have : t.toList = (f ++ FL ++ i ++ [41]) ++ 10 :: [70, 76, 65, 71, 83, 32, 40, 32, 57, 32, 57, 32, 57, 32, 41] := by rw [h, hy]; simp
      rw [line_is this n10]
      exact ⟨by simp [FL]; try omega, fun _ => by simp [FL]; try omega⟩
  refine ⟨hrun.1, ⟨(matchAt_iff FL f.length).mpr ?_, by rw [hsh]; omega⟩, fun j hj hjr hg => ?_, hsh⟩
  · rw [h, List.append_assoc, List.drop_left]
    exact List.prefix_append _ _
  · obtain ⟨hm, hs⟩ := hg
    have hm' := (matchAt_iff FL j).mp hm
    have hU : t.toList = (f ++ [70]) ++ (([76, 65, 71, 83, 32, 40] ++ i ++ [41]) ++ tl) := by rw [h]; simp [FL]
    generalize hV : [76, 65, 71, 83, 32, 40] ++ i ++ [41] = V at hU
    have v70 : 70 ∉ V := by
      rw [← hV]
      simp only [List.mem_append, not_or]
      exact ⟨⟨by decide, i70⟩, by decide⟩
    have hVl : V.length = i.length + 7 := by rw [← hV]; simp; try omega
    have hdj : ∀ k, t.toList.drop (f.length + 1 + V.length + k) = tl.drop k := fun k => by
      rw [hU, ← List.append_assoc, show f.length + 1 + V.length + k = (f ++ [70] ++ V).length + k by (simp; try omega), List.drop_append]
      simp
    by_cases hc : j < f.length + 1 + V.length
    · have hj2 : j < t.toList.length := by simp; omega
      rw [List.drop_eq_getElem_cons hj2] at hm'
      have e70 : (70 : Nat) = t.toList[j] := (List.cons_prefix_cons.mp hm').1
      refine v70 ?_
      rw [e70]
      have : t.toList[j]? = V[j - (f.length + 1)]? := by
        rw [hU, List.getElem?_append_right (by simp; omega), List.getElem?_append_left (by simp; omega)]
        simp
      rw [List.getElem?_eq_getElem hj2] at this
      exact List.mem_of_getElem? this.symm
    · obtain ⟨k, rfl⟩ : ∃ k, j = f.length + 1 + V.length + k := ⟨j - (f.length + 1 + V.length), by omega⟩
      rw [hdj] at hm'
      by_cases hk : k < 17
      · obtain ⟨rfl, h1 | h2⟩ := tails_match tl htl k hk hm'
        · have : t.toList.drop (f.length + 1 + V.length + 1 + 7) = [57] := by
            rw [show f.length + 1 + V.length + 1 + 7 = f.length + 1 + V.length + 8 by omega, hdj, h1]; rfl
          rw [shut_no (by rw [hsz, h1]; simp; omega) (by rw [this]; decide)] at hs
          omega
        · have := hrun.2 h2
          omega
      · have : tl.drop k = [] := List.drop_eq_nil_of_le (by have := tails_len tl htl; omega)
        rw [this] at hm'
        simp [FL] at hm'
end Mine
end
section
open PySem PySem.Builtin PySem.Builtin.Str PySem.StrLaws
set_option linter.unusedVariables false
namespace Mine
open Builtin.Bytes (isSpace words)
theorem codes_map (x : Str) : codes x = (toL x).map (·.toUInt8) := by
  unfold codes toL
  rw [Array.toList_map]
/-- a sign of a word is no blank as a byte -/
theorem sign_byte : ∀ c, c < 128 → wordSign c = true → isSpace c.toUInt8 = false := by decide +kernel
theorem sign_lt {c : Nat} (h : wordSign c = true) : c < 128 := by
  simp only [wordSign, Bool.and_eq_true, decide_eq_true_eq] at h
  exact h.1.1.1.1
theorem sign_dull {c : Nat} (h : wordSign c = true) : isSpace c.toUInt8 = false := sign_byte c (sign_lt h) h
theorem take_word {P : UInt8 → Bool} : ∀ {l : List UInt8} {r : List UInt8}, (∀ c ∈ l, P c = true) → (∀ c, r.head? = some c → P c = false) → (l ++ r).takeWhile P = l ∧ (l ++ r).dropWhile P = r
  | [], [], _, _ => ⟨rfl, rfl⟩
  | [], c :: r, _, h => by
    have := h c rfl
    simp [List.takeWhile, List.dropWhile, this]
  | a :: l, r, h, h' => by
    have e := h a (.head _)
    obtain ⟨e1, e2⟩ := take_word (l := l) (r := r) (fun c hc => h c (.tail _ hc)) h'
    simp [List.takeWhile, List.dropWhile, e, e1, e2]
theorem words_step {n k : Nat} {w r : List UInt8} (hw : ∀ c ∈ w, isSpace c = false) (hne : w ≠ []) : words (n + 1) (k + 1) (32 :: (w ++ 32 :: r)) = w :: words n k (32 :: r) := by
  have s32 : isSpace 32 = true := by decide
  match w, hne with
  | a :: w, _ =>
    have ha := hw a (.head _)
    have hd : (32 :: ((a :: w) ++ 32 :: r)).dropWhile isSpace = (a :: w) ++ 32 :: r := by
      simp [List.dropWhile, s32, ha]
    obtain ⟨e1, e2⟩ := take_word (P := fun c => !isSpace c) (l := a :: w) (r := 32 :: r) (fun c hc => by simp [hw c hc]) (fun c hc => by simp at hc; subst hc; simp [s32])
    rw [words, hd]
    show (if (k + 1 == 0) = true then _ else _) = _
    rw [if_neg (by simp)]
    rw [e1, e2]
    rfl
theorem words_end {n k : Nat} : words (n + 1) k [32] = [] := by
  have s32 : isSpace 32 = true := by decide
  rw [words]
  simp [List.dropWhile, s32]
theorem flags_case (x : Int) (h : pA x = Str.ofString "FLAGS") : pB x = Str.ofString "(" := by
  unfold pA at h
  unfold pB
  revert h
  generalize (x.fdiv 256).fmod 4 = k
  unfold tabA tabB
  by_cases h0 : k = 0
  · simp only [h0, if_true]; intro h; exact absurd h (by decide +kernel)
  · by_cases h1 : k = 1
    · simp only [h1, if_true, show ¬ (1 : Int) = 0 by decide, if_false]; intro h; exact absurd h (by decide +kernel)
    · by_cases h2 : k = 2
      · simp only [h2, if_true, show ¬ (2 : Int) = 0 by decide, show ¬ (2 : Int) = 1 by decide, if_false]; intro h; exact absurd h (by decide +kernel)
      · simp only [h0, h1, h2, if_false]; intro _; trivial
theorem plain_case (x : Int) (h : pA x ≠ Str.ofString "FLAGS") : 70 ∉ toL (pA x) := by
  unfold pA at h ⊢
  revert h
  generalize (x.fdiv 256).fmod 4 = k
  unfold tabA
  by_cases h0 : k = 0
  · simp only [h0, if_true]; intro _; decide +kernel
  · by_cases h1 : k = 1
    · simp only [h1, if_true, show ¬ (1 : Int) = 0 by decide, if_false]; intro _; decide +kernel
    · by_cases h2 : k = 2
      · simp only [h2, if_true, show ¬ (2 : Int) = 0 by decide, show ¬ (2 : Int) = 1 by decide, if_false]; intro _; decide +kernel
      · simp only [h0, h1, h2, if_false]; intro h; exact absurd trivial (by simp at h)
theorem pB_no70 (x : Int) : 70 ∉ toL (pB x) := fun m => by
  have := List.all_eq_true.mp (tab_ok ((x.fdiv 256).fmod 4)).2.2 70 m
  simp at this
theorem fig_no70 (x : Int) : 70 ∉ toL (figS x) := fun m => by
  have := List.all_eq_true.mp (figN_signs _ (pj_lt x) _ (ph_lt x)) 70 m
  simp at this
theorem ne_of_len {x : Str} (h : 1 ≤ x.length) : toL x ≠ [] := fun e => by
  have := toL_len x
  rw [e] at this
  simp at this
  omega
/-- what ParseFlags sees -/
structure Reads (b : Array UInt8) (ws : List (List UInt8)) (p : Nat) : Prop where
  hp : p ≤ runLen (b.map (·.toNat)) 10 b.size 0
  hg : good (b.map (·.toNat)) p
  hno : ∀ j, p < j → j ≤ runLen (b.map (·.toNat)) 10 b.size 0 → ¬ good (b.map (·.toNat)) j
  hin : (inner b p).size ≤ 1000
  hsp : (inner b p).any isSpace = true
  hw : words ((inner b p).size + 1) ((inner b p).size + 1) (inner b p).toList = ws
theorem bytes_back {X : Str} (h : ∀ c ∈ toL X, c < 128) : ((codes X).toArray.map (·.toNat)).toList = toL X := by
  rw [Array.toList_map, codes_map, List.toList_toArray, List.map_map]
  conv => rhs; rw [← List.map_id (toL X)]
  refine List.map_congr_left fun c hc => ?_
  have := h c hc
  show c.toUInt8.toNat = c
  simp
  omega
theorem reads_of {X : Str} {f i tl : List Nat} {ws : List (List UInt8)} (h : toL X = f ++ FL ++ (i ++ 41 :: tl)) (hlt : ∀ c ∈ toL X, c < 128) (htl : tl ∈ tails) (f10 : 10 ∉ f) (i10 : 10 ∉ i) (i41 : 41 ∉ i) (i70 : 70 ∉ i)
    (hl : i.length ≤ 1000) (hsp : 32 ∈ i) (hw : words (i.length + 1) (i.length + 1) (i.map (·.toUInt8)) = ws) : Reads (codes X).toArray ws f.length := by
  have hb := bytes_back hlt
  have hz : (codes X).toArray.size = ((codes X).toArray.map (·.toNat)).size := by simp
  have e : ((codes X).toArray.map (·.toNat)).toList = f ++ FL ++ (i ++ 41 :: tl) := by rw [hb]; exact h
  obtain ⟨a1, a2, a3, a4⟩ := flags_at e htl f10 i10 i41 i70
  have hin : (inner (codes X).toArray f.length).toList = i.map (·.toUInt8) := by
    unfold inner
    rw [Array.toList_map, Array.toList_extract, a4, e]
    congr 1
    have : (f ++ FL ++ (i ++ 41 :: tl)).drop (f.length + 7) = i ++ 41 :: tl := by
      rw [show f.length + 7 = (f ++ FL).length by simp [FL], List.drop_left]
    simp only [List.extract_eq_drop_take] 
    rw [this, show f.length + 7 + i.length - (f.length + 7) = i.length by omega, List.take_left]
  have hsz : (inner (codes X).toArray f.length).size = i.length := by
    have := congrArg List.length hin
    simpa using this
  refine ⟨by rw [hz]; exact a1, a2, by rw [hz]; exact a3, by omega, ?_, by rw [hsz, hin]; exact hw⟩
  rw [← Array.any_toList, hin, List.any_eq_true]
  exact ⟨(32 : Nat).toUInt8, List.mem_map.mpr ⟨32, hsp, rfl⟩, by decide⟩
end Mine
end
section
open PySem PySem.Builtin PySem.Builtin.Str PySem.StrLaws
set_option linter.unusedVariables false
namespace Mine
open Builtin.Bytes (isSpace words)
theorem word_bytes {w : Str} (h : ∀ c ∈ toL w, wordSign c = true) : ∀ c ∈ (toL w).map (·.toUInt8), isSpace c = false := fun c hc => by
  obtain ⟨d, hd, rfl⟩ := List.mem_map.mp hc
  exact sign_dull (h d hd)
theorem word_ne {w : Str} (h : 1 ≤ w.length) : (toL w).map (·.toUInt8) ≠ [] := fun e => ne_of_len h (List.map_eq_nil_iff.mp e)
theorem reads_last {X : Str} {F0 tl : List Nat} {x : Int} (e : toL X = F0 ++ (toL (pieceT x) ++ tl)) (hlt : ∀ c ∈ toL X, c < 128) (htl : tl ∈ tails) (f10 : 10 ∉ F0) : ∃ p, Reads (codes X).toArray ((pieceWords x).map codes) p := by
  rw [piece_L] at e
  have a10 := sign_no (sign_A x) (show wordSign 10 = false by decide)
  have b10 := sign_no (sign_B x) (show wordSign 10 = false by decide)
  have c10 := sign_no (sign_F x) (show wordSign 10 = false by decide)
  have a41 := sign_no (sign_A x) (show wordSign 41 = false by decide)
  have b41 := sign_no (sign_B x) (show wordSign 41 = false by decide)
  have c41 := sign_no (sign_F x) (show wordSign 41 = false by decide)
  have la : (toL (pA x)).length ≤ 5 ∧ 1 ≤ (toL (pA x)).length := by rw [toL_len]; exact ⟨(tab_ok _).1.1, (tab_ok _).1.2.1⟩
  have lb : (toL (pB x)).length = 1 := by rw [toL_len]; exact (tab_ok _).2.1
  have lc : (toL (figS x)).length ≤ 4 ∧ 1 ≤ (toL (figS x)).length := by rw [toL_len]; exact figS_len x
  by_cases hF : pA x = Str.ofString "FLAGS"
  · have hB := flags_case x hF
    have eA : toL (pA x) = [70, 76, 65, 71, 83] := by rw [hF]; decide +kernel
    have eB : toL (pB x) = [40] := by rw [hB]; decide +kernel
    have hw : (pieceWords x).map codes = [codes (figS x)] := by unfold pieceWords; rw [if_pos hF]; rfl
    refine ⟨_, reads_of (f := F0 ++ FL ++ [32]) (i := 32 :: (toL (figS x) ++ [32])) (tl := tl) ?_ hlt htl ?_ ?_ ?_ ?_ ?_ (.head _) ?_⟩
    · rw [e]; unfold midL; rw [eA, eB]; simp [FL]
    · simp only [List.mem_append, not_or]; exact ⟨⟨f10, by decide⟩, by decide⟩
    · simp only [List.mem_cons, List.mem_append, List.not_mem_nil, or_false, not_or]; exact ⟨by decide, c10, by decide⟩
    · simp only [List.mem_cons, List.mem_append, List.not_mem_nil, or_false, not_or]; exact ⟨by decide, c41, by decide⟩
    · simp only [List.mem_cons, List.mem_append, List.not_mem_nil, or_false, not_or]; exact ⟨by decide, fig_no70 x, by decide⟩
    · simp only [List.length_cons, List.length_append, List.length_nil]; omega
    · rw [hw, codes_map]
      rw [show (32 :: (toL (figS x) ++ [32])).map (·.toUInt8) = 32 :: ((toL (figS x)).map (·.toUInt8) ++ 32 :: []) by simp]
      rw [show (32 :: (toL (figS x) ++ [32])).length + 1 = (toL (figS x)).length + 1 + 1 + 1 by simp]
      rw [words_step (word_bytes (sign_F x)) (word_ne (figS_len x).2), words_end]
  · have hw : (pieceWords x).map codes = [codes (pA x), codes (pB x), codes (figS x)] := by unfold pieceWords; rw [if_neg hF]; rfl
    refine ⟨_, reads_of (f := F0) (i := midL x) (tl := tl) ?_ hlt htl f10 ?_ (mid_no41 x) ?_ ?_ ?_ ?_⟩
    · rw [e]; simp [FL]
    · unfold midL; simp only [List.mem_cons, List.mem_append, List.not_mem_nil, or_false, not_or]; exact ⟨by decide, a10, by decide, b10, by decide, c10, by decide⟩
    · unfold midL; simp only [List.mem_cons, List.mem_append, List.not_mem_nil, or_false, not_or]; exact ⟨by decide, plain_case x hF, by decide, pB_no70 x, by decide, fig_no70 x, by decide⟩
    · unfold midL; simp only [List.length_cons, List.length_append, List.length_nil]; omega
    · unfold midL; exact .head _
    · rw [hw, codes_map, codes_map, codes_map]
      have em : (midL x).map (·.toUInt8) = 32 :: ((toL (pA x)).map (·.toUInt8) ++ 32 :: ((toL (pB x)).map (·.toUInt8) ++ 32 :: ((toL (figS x)).map (·.toUInt8) ++ 32 :: []))) := by unfold midL; simp
      have el : (midL x).length + 1 = (midL x).length - 3 + 1 + 1 + 1 + 1 := by unfold midL; simp only [List.length_cons, List.length_append, List.length_nil]; omega
      rw [em, el, words_step (word_bytes (sign_A x)) (word_ne (tab_ok _).1.2.1), words_step (word_bytes (sign_B x)) (word_ne (by rw [← toL_len, lb]; exact Nat.le_refl _)), words_step (word_bytes (sign_F x)) (word_ne (figS_len x).2), words_end]
end Mine
end
section
open PySem PySem.Builtin PySem.Builtin.Str PySem.StrLaws
set_option linter.unusedVariables false
namespace Mine
abbrev headS (k : Int) : Str := [Str.ofString "", Str.ofString ") ", Str.ofString "FLAGS ", Str.ofString "FLAGS) "].getD (k.fmod 4).toNat Str.empty
abbrev tailS (k : Int) : Str := [Str.ofString "", Str.ofString " FLAGS (9", Str.ofString "\nFLAGS ( 9 9 9 )", Str.ofString " FLAGS( 9 9 9 )", Str.ofString " flags ( 9 9 9 )"].getD ((k.fdiv 4).fmod 5).toNat Str.empty
theorem heads_ok : ∀ j, j < 4 → (fun H : Str => 40 ∉ toL H ∧ 10 ∉ toL H ∧ (toL H).all (· < 128) = true ∧ (toL H).length ≤ 7) ([Str.ofString "", Str.ofString ") ", Str.ofString "FLAGS ", Str.ofString "FLAGS) "].getD j Str.empty) := by decide +kernel
theorem tails_ok : ∀ j, j < 5 → (fun T : Str => toL T ∈ tails ∧ (toL T).all (· < 128) = true ∧ (toL T).length ≤ 16) ([Str.ofString "", Str.ofString " FLAGS (9", Str.ofString "\nFLAGS ( 9 9 9 )", Str.ofString " FLAGS( 9 9 9 )", Str.ofString " flags ( 9 9 9 )"].getD j Str.empty) := by decide +kernel
theorem head_ok (k : Int) : 40 ∉ toL (headS k) ∧ 10 ∉ toL (headS k) ∧ (toL (headS k)).all (· < 128) = true ∧ (toL (headS k)).length ≤ 7 := heads_ok _ (by
  have h1 := Int.fmod_nonneg_of_pos k (show (0 : Int) < 4 by decide)
  have h2 := Int.fmod_lt_of_pos k (show (0 : Int) < 4 by decide)
  omega)
theorem tail_ok (k : Int) : toL (tailS k) ∈ tails ∧ (toL (tailS k)).all (· < 128) = true ∧ (toL (tailS k)).length ≤ 16 := tails_ok _ (by
  have h1 := Int.fmod_nonneg_of_pos (k.fdiv 4) (show (0 : Int) < 5 by decide)
  have h2 := Int.fmod_lt_of_pos (k.fdiv 4) (show (0 : Int) < 5 by decide)
  omega)
/-- the walls' texts, glued -/
def joinP (xs : List Int) : Str := Txt.join (Str.ofString " ") (xs.map pieceT)
theorem joinP_cons (x y : Int) (r : List Int) : toL (joinP (x :: y :: r)) = toL (pieceT x) ++ 32 :: toL (joinP (y :: r)) := by
  unfold joinP Txt.join
  rw [glued_eq_join, glued_eq_join, sp_one]
  exact join_cons2 32 (pieceT x) (pieceT y) (r.map pieceT)
theorem joinP_one (x : Int) : toL (joinP [x]) = toL (pieceT x) := by
  unfold joinP Txt.join
  rw [glued_eq_join]
  rfl
theorem mem_midL {c : Nat} {x : Int} (h : c ∈ midL x) : c = 32 ∨ wordSign c = true := by
  unfold midL at h
  simp only [List.mem_cons, List.mem_append, List.not_mem_nil, or_false] at h
  rcases h with h | h | h | h | h | h | h
  · exact .inl h
  · exact .inr (sign_A x c h)
  · exact .inl h
  · exact .inr (sign_B x c h)
  · exact .inl h
  · exact .inr (sign_F x c h)
  · exact .inl h
theorem mem_piece {c : Nat} {x : Int} (h : c ∈ toL (pieceT x)) : c < 128 ∧ c ≠ 10 := by
  rw [piece_L] at h
  have ws : wordSign c = true → c < 128 ∧ c ≠ 10 := fun hw => ⟨sign_lt hw, fun e => by rw [e] at hw; exact absurd hw (by decide)⟩
  have six : ∀ c ∈ ([70, 76, 65, 71, 83, 32] : List Nat), c < 128 ∧ c ≠ 10 := by decide
  rcases List.mem_append.mp h with h | h
  · exact six c h
  · rcases List.mem_cons.mp h with h | h
    · rw [h]; decide
    · rcases List.mem_append.mp h with h | h
      · rcases mem_midL h with h | h
        · rw [h]; decide
        · exact ws h
      · rw [List.mem_singleton.mp h]; decide
theorem mem_joinP {c : Nat} : ∀ {xs : List Int}, xs ≠ [] → c ∈ toL (joinP xs) → c < 128 ∧ c ≠ 10 := by
  intro xs
  induction xs with
  | nil => intro h; exact absurd rfl h
  | cons x r ih =>
    intro _ h
    cases r with
    | nil => rw [joinP_one] at h; exact mem_piece h
    | cons y r =>
      rw [joinP_cons] at h
      rcases List.mem_append.mp h with h | h
      · exact mem_piece h
      · rcases List.mem_cons.mp h with h | h
        · rw [h]; decide
        · exact ih (by simp) h
theorem piece_len (x : Int) : (toL (pieceT x)).length ≤ 22 := by
  have la : (toL (pA x)).length ≤ 5 := by rw [toL_len]; exact (tab_ok _).1.1
  have lb : (toL (pB x)).length = 1 := by rw [toL_len]; exact (tab_ok _).2.1
  have lc : (toL (figS x)).length ≤ 4 := by rw [toL_len]; exact (figS_len x).1
  rw [piece_L]; unfold midL
  simp only [List.length_cons, List.length_append, List.length_nil]; omega
theorem joinP_len : ∀ {xs : List Int}, xs ≠ [] → (toL (joinP xs)).length ≤ 23 * xs.length
  | [x], _ => by rw [joinP_one]; have := piece_len x; simp only [List.length_cons, List.length_nil]; omega
  | x :: y :: r, _ => by
    rw [joinP_cons]
    have h1 := piece_len x
    have h2 := joinP_len (xs := y :: r) (by simp)
    simp only [List.length_cons, List.length_append] at h2 ⊢; omega
theorem joinP_first (x : Int) : ∀ r : List Int, ∃ q, toL (joinP (x :: r)) = toL (pieceT x) ++ q
  | [] => ⟨[], by rw [joinP_one, List.append_nil]⟩
  | y :: r => ⟨_, joinP_cons x y r⟩
theorem joinP_last (xl : Int) : ∀ r : List Int, ∃ q, toL (joinP (r ++ [xl])) = q ++ toL (pieceT xl) ∧ 10 ∉ q
  | [] => ⟨[], by rw [List.nil_append, joinP_one, List.nil_append], by simp⟩
  | [x] => ⟨toL (pieceT x) ++ [32], by rw [show [x] ++ [xl] = [x, xl] from rfl, joinP_cons, joinP_one]; simp, by
      simp only [List.mem_append, List.mem_cons, List.not_mem_nil, or_false, not_or]
      exact ⟨fun m => (mem_piece m).2 rfl, by decide⟩⟩
  | x :: y :: r => by
    obtain ⟨q, e, n⟩ := joinP_last xl (y :: r)
    refine ⟨toL (pieceT x) ++ 32 :: q, ?_, ?_⟩
    · rw [show (x :: y :: r) ++ [xl] = x :: y :: (r ++ [xl]) from rfl, joinP_cons, show y :: (r ++ [xl]) = (y :: r) ++ [xl] from rfl, e]; simp
    · simp only [List.mem_append, List.mem_cons, not_or]
      exact ⟨fun m => (mem_piece m).2 rfl, by decide, n⟩
/-- the reply of a turn -/
abbrev replyS (k : Int) (xs : List Int) : Str := (Str.ofString "229 " ++ headS k) ++ joinP xs ++ tailS k
structure ReplyOk (X : Str) (x0 xl : Int) : Prop where
  sees : ∃ lf rt, Sees X (x0.fmod 64) lf rt (pA x0) (pB x0) (figS x0)
  reads : ∃ p, Reads (codes X).toArray ((pieceWords xl).map codes) p
  plain : ∀ c ∈ X.cps, c < 128
  long : 8 ≤ X.length
  short : X.length ≤ 1000
theorem reply_ok {k : Int} {xs : List Int} {x0 xl : Int} {r r' : List Int} (h1 : xs = x0 :: r) (h2 : xs = r' ++ [xl]) (hn : xs.length ≤ 10) : ReplyOk (replyS k xs) x0 xl := by
  obtain ⟨a1, a2, a3, a4⟩ := head_ok k
  obtain ⟨b1, b2, b3⟩ := tail_ok k
  have ne : xs ≠ [] := by rw [h1]; simp
  have e229 : toL (Str.ofString "229 ") = [50, 50, 57, 32] := by decide +kernel
  have eX : toL (replyS k xs) = [50, 50, 57, 32] ++ toL (headS k) ++ toL (joinP xs) ++ toL (tailS k) := by
    unfold replyS
    rw [toL_append, toL_append, toL_append, e229]
  have f229 : ∀ c ∈ ([50, 50, 57, 32] : List Nat), c < 128 := by decide
  have lt : ∀ c ∈ toL (replyS k xs), c < 128 := by
    intro c hc
    rw [eX] at hc
    rcases List.mem_append.mp hc with hc | hc
    · rcases List.mem_append.mp hc with hc | hc
      · rcases List.mem_append.mp hc with hc | hc
        · exact f229 c hc
        · simpa using List.all_eq_true.mp a3 c hc
      · exact (mem_joinP ne hc).1
    · simpa using List.all_eq_true.mp b2 c hc
  have hl := joinP_len ne
  have hL := congrArg List.length eX
  simp only [List.length_append, List.length_cons, List.length_nil] at hL
  rw [toL_len] at hL
  obtain ⟨q, eq⟩ := joinP_first x0 r
  obtain ⟨q', eq', n10⟩ := joinP_last xl r'
  have hp := congrArg List.length eq
  rw [piece_L] at hp
  simp only [List.length_append, List.length_cons, List.length_nil] at hp
  rw [← h1] at eq hp
  rw [← h2] at eq'
  refine ⟨⟨_, _, sees (hd := 32 :: toL (headS k)) (rest := q ++ toL (tailS k)) (x := x0) ?_ ?_⟩, reads_last (F0 := [50, 50, 57, 32] ++ toL (headS k) ++ q') (tl := toL (tailS k)) ?_ lt b1 ?_, fun c hc => lt c (Array.mem_toList_iff.mpr hc), by omega, by omega⟩
  · rw [eX, eq]; simp
  · simp only [List.mem_cons, not_or]; exact ⟨by decide, a1⟩
  · rw [eX, eq']; simp
  · simp only [List.mem_append, not_or]; exact ⟨⟨by decide, a2⟩, n10⟩
end Mine
end
section
open PySem PySem.Spec PySem.W PySem.Calls PyProof.Rows PyProof.Rows.LCg
set_option linter.unusedVariables false
namespace Mine
/-- the turns of a comprehension by what holds ahead of each -/
theorem rest_of {prog : Program} {w : World} {A : Around} {h₀ : Heap} {L : Addr} {m : Str → Option Value} {env : Env} {elt : Expr} {x : Str} {scope : Scope} {cl : List (Str × Addr)} {s : Shared} {S : List (Addr × Obj) → Prop}
    {P : Nat → Value → Prop} {Fin : List Value → List (Addr × Obj) → Prop} {n : Nat} (Inv : Nat → List Value → List (Addr × Obj) → Prop) (fin : ∀ ys news, Inv n ys news → Fin ys news)
    (step : ∀ i ys news, i < n → Inv i ys news → ∀ v I oI C oC D m₂ h tk (E' : Value → Shared → Prop), P i v → NsObj oC m₂ → m₂ x = some v → Fr h₀ L h m → News h₀ L h ((I, oI) :: (C, oC) :: (D, lst ys) :: news) → Off3 I C D news → ((@Ne Nat I C) ∧ (@Ne Nat I D) ∧ (@Ne Nat C D)) →
      wpAny (model prog w) A (eval elt (compEnvC scope cl C env)) (CompEnd h₀ L m { s with heap := h, toks := tk } I oI C oC D (lst ys) S (fun y nw => Inv (i + 1) (ys ++ [y]) nw)) E' { s with heap := h, toks := tk }) :
    ∀ k i ys news, i + k = n → Inv i ys news → CompRest prog w A h₀ L m env elt x scope cl s S P Fin k i ys news
  | 0, i, ys, news, hi, h => CompRest.zero (fin ys news (by rw [← hi]; exact h))
  | k + 1, i, ys, news, hi, h => by
    refine CompRest.succ fun v I oI C oC D m₂ h' tk E' a b c d e f g => ?_
    refine wpAny_mono (step i ys news (by omega) h v I oI C oC D m₂ h' tk E' a b c d e f g) (fun y s₂ q => ?_) fun _ _ x => x
    obtain ⟨h'', tk', nw, e1, e2, e3, e4, e5, e6⟩ := q
    exact ⟨h'', tk', nw, e1, e2, e3, e4, e5, rest_of Inv fin step k (i + 1) _ _ (by omega) e6⟩
/-- values that are walls of the ledger -/
inductive WallsAre (news : List (Addr × Obj)) : List Value → List Int → Prop
  | nil : WallsAre news [] []
  | cons {a c : Addr} {x : Int} {tt : Tok} {ws vs : List Value} {xs : List Int} : (a, tupO #[.str (pieceT x) tt, .ref c]) ∈ news → (c, tupO ws.toArray) ∈ news → BytesAre ws ((pieceWords x).map codes) → WallsAre news vs xs → WallsAre news (.ref a :: vs) (x :: xs)
theorem WallsAre.mono {n₁ n₂ : List (Addr × Obj)} (hs : ∀ p ∈ n₁, p ∈ n₂) : ∀ {vs : List Value} {xs : List Int}, WallsAre n₁ vs xs → WallsAre n₂ vs xs
  | _, _, .nil => .nil
  | _, _, .cons h1 h2 h3 r => .cons (hs _ h1) (hs _ h2) h3 (r.mono hs)
theorem WallsAre.length {news : List (Addr × Obj)} : ∀ {vs : List Value} {xs : List Int}, WallsAre news vs xs → vs.length = xs.length
  | _, _, .nil => rfl
  | _, _, .cons _ _ _ r => by rw [List.length_cons, List.length_cons, r.length]
theorem WallsAre.snoc {news : List (Addr × Obj)} {a c : Addr} {x : Int} {tt : Tok} {ws : List Value} (h1 : (a, tupO #[.str (pieceT x) tt, .ref c]) ∈ news) (h2 : (c, tupO ws.toArray) ∈ news) (h3 : BytesAre ws ((pieceWords x).map codes)) :
    ∀ {vs : List Value} {xs : List Int}, WallsAre news vs xs → WallsAre news (vs ++ [.ref a]) (xs ++ [x])
  | _, _, .nil => .cons h1 h2 h3 .nil
  | _, _, .cons g1 g2 g3 r => .cons g1 g2 g3 (r.snoc h1 h2 h3)
theorem WallsAre.at {news : List (Addr × Obj)} : ∀ {vs : List Value} {xs : List Int} {i : Nat}, WallsAre news vs xs → i < xs.length →
    ∃ a c tt ws, vs[i]? = some (.ref a) ∧ (a, tupO #[.str (pieceT (xs.getD i 0)) tt, .ref c]) ∈ news ∧ (c, tupO ws.toArray) ∈ news ∧ BytesAre ws ((pieceWords (xs.getD i 0)).map codes)
  | _, _, _, .nil, h => absurd h (Nat.not_lt_zero _)
  | _, _, 0, .cons g1 g2 g3 r, _ => ⟨_, _, _, _, rfl, g1, g2, g3⟩
  | _, _, i + 1, .cons g1 g2 g3 r, h => by
    obtain ⟨a, c, tt, ws, e, k⟩ := r.at (Nat.lt_of_succ_lt_succ h)
    exact ⟨a, c, tt, ws, e, k⟩
theorem WallsAre.cut {news : List (Addr × Obj)} : ∀ {vs : List Value} {xs : List Int} (l r : Nat), WallsAre news vs xs → WallsAre news ((vs.drop l).take r) ((xs.drop l).take r)
  | _, _, _, _, .nil => by simp; exact .nil
  | _, _, 0, 0, .cons _ _ _ _ => .nil
  | _, _, 0, r + 1, .cons g1 g2 g3 h => by
    have := h.cut 0 r
    simp only [List.drop_zero] at this
    exact .cons g1 g2 g3 this
  | _, _, l + 1, r, .cons g1 g2 g3 h => h.cut l r
end Mine
namespace Mine
/-- the walls' comprehension: the ledger ahead of it, the walls behind -/
def WallInv (base : List (Addr × Obj)) (dr : List Int) (i : Nat) (ys : List Value) (nw : List (Addr × Obj)) : Prop := ∃ tl, nw = base ++ tl ∧ WallsAre tl ys (dr.take i)
theorem WallInv.start {base : List (Addr × Obj)} {dr : List Int} : WallInv base dr 0 [] base := ⟨[], (List.append_nil _).symm, by rw [List.take_zero]; exact .nil⟩
theorem walls_end {h₀ : Heap} {L I C D a c : Nat} {m : Str → Option Value} {s₁ : Shared} {oI oC : Obj} {ys : List Value} {base tl : List (Addr × Obj)} {S : List (Addr × Obj) → Prop} {dr : List Int} {i : Nat} {x : Int} {tt : Tok} {ws : List Value} {h' : Heap} {tk : Nat}
    (hi : i < dr.length) (hx : dr[i]? = some x) (hw : WallsAre tl ys (dr.take i)) (hb : BytesAre ws ((pieceWords x).map codes)) (F : Fr h₀ L h' m)
    (N : News h₀ L h' ((a, tupO #[.str (pieceT x) tt, .ref c]) :: (c, tupO ws.toArray) :: (I, oI) :: (C, oC) :: (D, lst ys) :: (base ++ tl))) (off : Off3 I C D (base ++ tl))
    (hac : @LT.lt Nat _ c a) (hl : ∀ p ∈ (I, oI) :: (C, oC) :: (D, lst ys) :: (base ++ tl), @LT.lt Nat _ p.1 a) (hcI : I ≠ c ∧ C ≠ c ∧ D ≠ c) (hS : ∀ t', S (base ++ t')) :
    CompEnd h₀ L m s₁ I oI C oC D (lst ys) S (fun y nw => WallInv base dr (i + 1) (ys ++ [y]) nw) (.ref a) { s₁ with heap := h', toks := tk } := by
  refine CompEnd.intro F N (base ++ ((a, tupO #[.str (pieceT x) tt, .ref c]) :: (c, tupO ws.toArray) :: tl)) ?_ ?_ (hS _) ⟨_, rfl, ?_⟩
  · intro p hp
    simp only [List.mem_cons, List.mem_append] at hp ⊢
    rcases hp with h | h | h | h | h | h | h <;> simp [h]
  · refine Off3.of fun p hp => ?_
    rcases List.mem_append.mp hp with hp | hp
    · exact off.mem p (List.mem_append.mpr (.inl hp))
    · rcases List.mem_cons.mp hp with rfl | hp
      · exact ⟨Nat.ne_of_gt (hl _ (.head _)), Nat.ne_of_gt (hl _ (.tail _ (.head _))), Nat.ne_of_gt (hl _ (.tail _ (.tail _ (.head _))))⟩
      · rcases List.mem_cons.mp hp with rfl | hp
        · exact ⟨hcI.1.symm, hcI.2.1.symm, hcI.2.2.symm⟩
        · exact off.mem p (List.mem_append.mpr (.inr hp))
  · have e : dr.take (i + 1) = dr.take i ++ [x] := by rw [List.take_add_one, hx]; rfl
    rw [e]
    exact (hw.mono fun p hp => .tail _ (.tail _ hp)).snoc (.head _) (.tail _ (.head _)) hb
end Mine
namespace Mine
theorem name_ints {vs : List Value} {ns : List Int} (h : IntsAre vs ns) : ∃ dr, dr = ns ∧ IntsAre vs dr := ⟨ns, rfl, h⟩
theorem drawn_len {sc dr : List Int} {f : Int → Int} (h : dr = List.map f (List.take 6 sc) ++ [20, 353, 652, 985]) : 4 ≤ dr.length ∧ dr.length ≤ 10 := by
  rw [h, List.length_append, List.length_map, List.length_take]
  simp only [List.length_cons, List.length_nil]
  omega
end Mine
end
section
open PySem PySem.Spec PySem.W PySem.Calls PyProof.Rows PyProof.Rows.LCg
set_option linter.unusedVariables false
namespace Mine
theorem name_ledger {h₀ h : Heap} {L : Addr} {X tl : List (Addr × Obj)} {fl pc ht : Addr} {wv hv : List Value} {f : Int → Int} {dr : List Int} (hi : IntsAre hv (dr.map f)) (N : News h₀ L h X) (m1 : (fl, W.listOf #[] 0) ∈ X) (m2 : (pc, lst wv) ∈ X) (m3 : (ht, lst hv) ∈ X) (ms : ∀ p ∈ tl, p ∈ X) :
    ∃ fl' pc' ht' hv', fl' = fl ∧ pc' = pc ∧ ht' = ht ∧ IntsAre hv' (dr.map f) ∧ News h₀ L h ((fl', W.listOf (([] : List Value).toArray) 0) :: (pc', lst wv) :: (ht', lst hv') :: (tl ++ [])) := by
  refine ⟨fl, pc, ht, hv, rfl, rfl, rfl, hi, fun p hp => ?_⟩
  rw [List.append_nil] at hp
  rcases List.mem_cons.mp hp with rfl | hp
  · exact N _ m1
  · rcases List.mem_cons.mp hp with rfl | hp
    · exact N _ m2
    · rcases List.mem_cons.mp hp with rfl | hp
      · exact N _ m3
      · exact N _ (ms p hp)
/-- the state of the law's while -/
structure WS where
  l : Nat
  e : Nat
  W : Int
  t1 : Tok
  t2 : Tok
  t3 : Tok
  xs : List Value
  nn : Nat
  own : List (Addr × Obj)
/-- its invariant -/
structure WP (fl : Addr) (hts : List Int) (c : WS) : Prop where
  mid : Mid hts c.l c.e c.W
  done : ∃ pre k, c.e - c.l ≤ k ∧ fall hts hts.length 0 hts.length 0 = pre ++ fall hts k c.l c.e c.W ∧ DatAll c.own c.xs (pre.map fell) ∧ c.xs.length + k ≤ 10
  own : ∀ p ∈ c.own, @LT.lt Nat _ fl p.1
theorem wp_start {fl : Addr} {hts : List Int} (h0 : ∀ y ∈ hts, 0 ≤ y) (h10 : hts.length ≤ 10) {t1 t2 t3 : Tok} : WP fl hts ⟨0, hts.length, 0, t1, t2, t3, [], 0, []⟩ := ⟨mid_start h0, ⟨[], hts.length, by simp, rfl, .nil, by simpa using h10⟩, fun p hp => (nomatch hp)⟩
theorem wp_start' {fl : Addr} {dr : List Int} {f : Int → Int} (h0 : ∀ y ∈ dr.map f, 0 ≤ y) (h10 : dr.length ≤ 10) {t1 t2 t3 : Tok} : WP fl (dr.map f) ⟨0, dr.length, 0, t1, t2, t3, [], 0, []⟩ := by
  have := wp_start (fl := fl) h0 (by simpa using h10) (t1 := t1) (t2 := t2) (t3 := t3)
  rwa [List.length_map] at this
theorem below_fl {fl pc ht a1 a2 a3 a4 a5 a6 a7 : Addr} {tl : List (Addr × Obj)} (h : @LT.lt Nat _ a1 fl ∧ @LT.lt Nat _ a2 fl ∧ @LT.lt Nat _ a3 fl ∧ @LT.lt Nat _ pc fl ∧ @LT.lt Nat _ ht fl ∧ @LT.lt Nat _ a4 fl ∧ @LT.lt Nat _ a5 fl ∧ @LT.lt Nat _ a6 fl ∧ @LT.lt Nat _ a7 fl ∧ AllLt fl tl) :
    @LT.lt Nat _ pc fl ∧ @LT.lt Nat _ ht fl ∧ AllLt fl tl := ⟨h.2.2.2.1, h.2.2.2.2.1, h.2.2.2.2.2.2.2.2.2⟩
theorem fmod_list {dr : List Int} : ∀ y ∈ dr.map (fun k' => k'.fmod 64), 0 ≤ y ∧ y < 64 := fun y hy => by
  obtain ⟨x, _, rfl⟩ := List.mem_map.mp hy
  exact ⟨Int.fmod_nonneg_of_pos x (by decide), Int.fmod_lt_of_pos x (by decide)⟩
end Mine
end
section
open PySem PySem.Spec PySem.W PySem.Calls PyProof.Rows PyProof.Rows.LCg
set_option linter.unusedVariables false
namespace Mine
section
variable {prog : Program} {w : World} {A : Around} {E : Value → Shared → Prop} {s : Shared} {Q : Value → Shared → Prop} {h₀ : Heap} {L : Addr} {m : Str → Option Value} {news : List (Addr × Obj)}
theorem slice_walls {value slice : Expr} {l e : Nat} {a : Addr} {n : Nat} {vs : List Value} {xs : List Int} {tl : List (Addr × Obj)} {t u : Tok} {j : Int}
    (F : Fr h₀ L s.heap m) (N : News h₀ L s.heap news) (hm : (a, W.listOf vs.toArray n) ∈ news) (hW : WallsAre tl vs xs) (hj : j = (e : Int)) (hl : l ≤ e) (he : e ≤ xs.length) (h10 : xs.length ≤ 10)
    (h : ∀ D ws h', WallsAre tl ws ((xs.drop l).take (e - l)) → Fr h₀ L h' m → News h₀ L h' ((D, W.listOf ws.toArray 0) :: news) → (∀ p ∈ news, p.1 < D) → Q (.ref D) { s with heap := h' })
    (hs : subscripted slice false (.ref a) (.ref s.heap.objs.size) = operate [.ref s.heap.objs.size, .ref a] (getItem (.ref a) (.ref s.heap.objs.size))) (ht : ∀ r, letTemporaryGo value (.ref a) r = pure ()) :
    wpAny (model prog w) A (subscriptTail value slice (.ref a) (.ref s.heap.objs.size)) Q E { s with heap := s.heap.push { cls := .type "slice", data := .fields #[.int (l : Int) t, .int j u, .none] } } := by
  have hl' : s.heap.IsList a vs.toArray := ⟨_, (N _ hm).1, rfl, n, rfl⟩
  subst hj
  refine kmk_slice F N hl' (IsPart.int _ _) (IsPart.int _ _) (fun D h' F' N' l1 => ?_) hs ht (by rw [List.size_toArray, hW.length, sizeLine_eq]; omega)
  rw [slicePick_run vs.toArray l e (by rw [List.size_toArray, hW.length]; exact he) hl] at N'
  exact h D _ h' (hW.cut l (e - l)) F' N' l1
end
/-- the texts of a slice -/
def TextInv (base : List (Addr × Obj)) (zs : List Int) (i : Nat) (ys : List Value) (nw : List (Addr × Obj)) : Prop := nw = base ∧ StrsAre ys ((zs.take i).map pieceT)
theorem TextInv.start {base : List (Addr × Obj)} {zs : List Int} : TextInv base zs 0 [] base := ⟨rfl, by rw [List.take_zero]; exact .nil⟩
theorem TextInv.next {base : List (Addr × Obj)} {zs : List Int} {i : Nat} {ys : List Value} {x : Int} {t : Tok} (h : StrsAre ys ((zs.take i).map pieceT)) (hx : zs[i]? = some x) : TextInv base zs (i + 1) (ys ++ [.str (pieceT x) t]) base := by
  refine ⟨rfl, ?_⟩
  have e : zs.take (i + 1) = zs.take i ++ [x] := by rw [List.take_add_one, hx]; rfl
  rw [e, List.map_append]
  exact StrsAre.append' h (.cons _ _ .nil)
theorem WallsAre.get {news : List (Addr × Obj)} : ∀ {vs : List Value} {xs : List Int} {i : Nat} {v : Value}, WallsAre news vs xs → vs[i]? = some v →
    ∃ x a c tt ws, v = .ref a ∧ xs[i]? = some x ∧ (a, tupO #[.str (pieceT x) tt, .ref c]) ∈ news ∧ (c, tupO ws.toArray) ∈ news ∧ BytesAre ws ((pieceWords x).map codes)
  | _, _, i, v, .nil, h => by simp at h
  | _, _, 0, v, .cons g1 g2 g3 r, h => by
    simp only [List.getElem?_cons_zero, Option.some.injEq] at h
    exact ⟨_, _, _, _, _, h.symm, rfl, g1, g2, g3⟩
  | _, _, i + 1, v, .cons g1 g2 g3 r, h => by
    obtain ⟨x, k⟩ := r.get (by simpa using h)
    exact ⟨x, k⟩
theorem more1 {h₀ h : Heap} {L : Addr} {p : Addr × Obj} {r : List (Addr × Obj)} (N : News h₀ L h r) (hp : p ∈ r) : News h₀ L h (p :: r) := fun x hx => by
  rcases List.mem_cons.mp hx with e | hx
  · rw [e]; exact N _ hp
  · exact N _ hx
/-- what _law_due is given of the ledger -/
theorem due_news {h₀ h : Heap} {L : Addr} {a b c : Addr × Obj} {tl own : List (Addr × Obj)} (N : News h₀ L h (a :: b :: c :: (tl ++ own))) : News h₀ L h (c :: a :: own) := fun x hx => by
  rcases List.mem_cons.mp hx with e | hx
  · rw [e]; exact N _ (.tail _ (.tail _ (.head _)))
  · rcases List.mem_cons.mp hx with e | hx
    · rw [e]; exact N _ (.head _)
    · exact N _ (.tail _ (.tail _ (.tail _ (List.mem_append.mpr (.inr hx)))))
end Mine
end
section
open PySem PySem.Spec PySem.W PySem.Calls PyProof.Rows PyProof.Rows.LCg
set_option linter.unusedVariables false
namespace Mine
def trip (x : Nat × Int × Bool) : PyData := .tuple [.int (x.1 : Int), .int (1048576 * x.2.1), .bool x.2.2]
theorem fell_reads {h₀ h : Heap} {L : Addr} {news : List (Addr × Obj)} (N : News h₀ L h news) : ∀ (l : List (Nat × Int × Bool)) {vs : List Value}, DatAll news vs (l.map fell) → ∃ as, ReadsAll h vs (l.map trip) as := by
  intro l
  induction l with
  | nil => intro vs H; cases H; exact ⟨_, .nil⟩
  | cons x l ih =>
    intro vs H
    rw [List.map_cons] at H ⊢
    cases H with
    | cons hd r =>
      obtain ⟨bs, p⟩ := ih r
      unfold fell at hd
      cases hd with
      | tuple hm q =>
        cases q with
        | cons a q => cases a; cases q with
          | cons a q => cases a; cases q with
            | cons a q => cases a; cases q; exact ⟨_, .cons (reads_tuple_at (N.get hm) rfl rfl (.cons (.int _ _) (.cons (.int _ _) (.cons (.bool _) .nil)))) p⟩
theorem trip_lay : ∀ l : List (Nat × Int × Bool), PyData.canLayAll0 (l.map trip) = true ∧ PyData.depthAll (l.map trip) ≤ 2 := by
  intro l
  induction l with
  | nil => simp [PyData.canLayAll0, PyData.depthAll]
  | cons x l ih =>
    have a := ih.2
    simp only [List.map_cons, trip, PyData.canLayAll0, PyData.canLay0, PyData.depthAll, PyData.depth, ih.1, Bool.and_self, true_and]
    omega
theorem trip_eqv : ∀ l : List (Nat × Int × Bool), PyData.eqvAll (l.map trip) (l.map trip) = true := by
  intro l
  induction l with
  | nil => simp [PyData.eqvAll]
  | cons x l ih =>
    simp [trip, PyData.eqvAll, PyData.eqv, ih]
section
variable {prog : Program} {w : World} {A : Around} {E : Value → Shared → Prop} {s : Shared} {Q : Value → Shared → Prop} {h₀ : Heap} {L : Addr}
theorem end_eq {n1 n2 own tl : List (Addr × Obj)} {a b : Addr} {xs ys : List Value} {k k' : Nat} {l : List (Nat × Int × Bool)} (N1 : News h₀ L s.heap n1) (N2 : News h₀ L s.heap n2) (m1 : (a, W.listOf xs.toArray k) ∈ n1) (m2 : (b, W.listOf ys.toArray k') ∈ n2)
    (D1 : DatAll own xs (l.map fell)) (D2 : DatAll tl ys (l.map fell)) (s1 : ∀ p ∈ own, p ∈ n1) (s2 : ∀ p ∈ tl, p ∈ n2) (hu : A.units + 64 < cLine) (h : Q (.bool true) s) : wpAny (model prog w) A (compareOp .Eq (.ref a) (.ref b)) Q E s := by
  obtain ⟨as, ra⟩ := fell_reads N1 l (D1.mono s1)
  obtain ⟨bs, rb⟩ := fell_reads N2 l (D2.mono s2)
  have q := trip_lay l
  have sh : SeqAt.shaped (.list (l.map trip)) = true := by
    unfold SeqAt.shaped
    have q2 := q.2
    simp only [PyData.canLay0, PyData.depth, q.1, Bool.true_and]
    exact decide_eq_true (by omega)
  refine eq_dataH (reads_list_at (N1.get m1) rfl rfl (by simpa using ra)) (reads_list_at (N2.get m2) rfl rfl (by simpa using rb)) sh sh hu ?_
  rw [PyData.eqv, trip_eqv]
  exact h
end
theorem fall_nil {ys : List Int} {n l e : Nat} {W : Int} (h : ¬ l < e) : fall ys n l e W = [] := by
  cases n with
  | zero => rfl
  | succ n => unfold fall; rw [if_neg h]
/-- the end of the law: both lists hold the same data -/
theorem WP.due {fl : Addr} {hts : List Int} {c : WS} (P : WP fl hts c) (h0 : ∀ y ∈ hts, 0 ≤ y ∧ y < 64) (h10 : hts.length ≤ 10) (hx : ¬ (c.l : Int) ≤ (c.e : Int) - 1) {r : Array Nat} (hp : Pm hts.length r) (hu : Up (fun i => keyOf (tri hts (i : Nat))) r hts.length)
    {tl : List (Addr × Obj)} {ys : List Value} (D : DatAll tl ys (r.toList.map fun i => due hts (tri hts (i : Nat)))) : ∃ l : List (Nat × Int × Bool), DatAll c.own c.xs (l.map fell) ∧ DatAll tl ys (l.map fell) := by
  obtain ⟨pre, k, hk, e, hd, -⟩ := P.done
  rw [fall_nil (n := k) (l := c.l) (e := c.e) (by omega), List.append_nil] at e
  rw [← e] at hd
  rw [← fell_due (fun y hy => (h0 y hy).1) h10 hp hu] at D
  exact ⟨_, hd, D⟩
theorem own_off {fl ht : Addr} {hts : List Int} {c : WS} {o : Obj} (P : WP fl hts c) (h : @LT.lt Nat _ ht fl) : ∀ p ∈ (fl, o) :: c.own, p.1 ≠ ht := fun p hp => by
  rcases List.mem_cons.mp hp with e | hp
  · rw [e]; exact Nat.ne_of_gt h
  · exact Nat.ne_of_gt (Nat.lt_trans h (P.own p hp))
end Mine
end
section
open PySem PySem.Spec PySem.W PySem.Calls PyProof.Rows PyProof.Rows.LCg
set_option linter.unusedVariables false
namespace Mine
theorem cut_ends {dr : List Int} {l e : Nat} (hl : l < e) (he : e ≤ dr.length) : ∃ x0 xl r r', (dr.drop l).take (e - l) = x0 :: r ∧ (dr.drop l).take (e - l) = r' ++ [xl] ∧ dr[l]? = some x0 ∧ dr[e - 1]? = some xl ∧ ((dr.drop l).take (e - l)).length = e - l := by
  have hlen : ((dr.drop l).take (e - l)).length = e - l := by rw [List.length_take, List.length_drop]; omega
  have g0 : ((dr.drop l).take (e - l))[0]? = dr[l]? := by
    rw [List.getElem?_take, if_pos (by omega), List.getElem?_drop]; congr 1
  have g1 : ((dr.drop l).take (e - l))[e - l - 1]? = dr[e - 1]? := by
    rw [List.getElem?_take, if_pos (by omega), List.getElem?_drop]; congr 1; omega
  have e0 : dr[l]? = some dr[l] := List.getElem?_eq_getElem (by omega)
  have e1 : dr[e - 1]? = some dr[e - 1] := List.getElem?_eq_getElem (by omega)
  rw [← g0] at e0 ⊢
  rw [← g1] at e1 ⊢
  generalize (dr.drop l).take (e - l) = zs at *
  cases zs with
  | nil => simp at hlen; omega
  | cons x r =>
    refine ⟨x, dr[e - 1], r, (x :: r).dropLast, rfl, ?_, rfl, e1, hlen⟩
    have h2 : (x :: r).getLast? = some dr[e - 1] := by rw [List.getLast?_eq_getElem?, hlen]; exact e1
    have ne : x :: r ≠ [] := by simp
    have h3 : (x :: r).getLast ne = dr[e - 1] := by rw [List.getLast?_eq_some_getLast ne] at h2; exact Option.some.inj h2
    rw [← h3]
    exact (List.dropLast_concat_getLast ne).symm
theorem toL_eq_len (x : Str) : (toL x).length = x.length := toL_len x
section
variable {prog : Program} {w : World} {A : Around} {E : Value → Shared → Prop} {s : Shared} {Q : Value → Shared → Prop} {h₀ : Heap} {L : Addr} {m : Str → Option Value} {news : List (Addr × Obj)}
theorem join_walls {D : Addr} {ys : List Value} {n : Nat} {zs : List Int} {t : Tok} (N : News h₀ L s.heap news) (hm : (D, W.listOf ys.toArray n) ∈ news) (hS : StrsAre ys (zs.map pieceT)) (hz : zs.length ≤ 10)
    (h : ∀ t' k, Q (.str (joinP zs) t') { s with toks := k }) : wpAny (model prog w) A (call (.builtin "str.join") [.str (Str.ofString " ") t, .ref D]) Q E s := by
  refine join_list (items := ys.toArray) ⟨_, (N _ hm).1, rfl, n, rfl⟩ (by simpa using hS) ?_ h
  have sums : ∀ l : List Int, ((l.map pieceT).map (·.length)).sum ≤ 22 * l.length := by
    intro l
    induction l with
    | nil => simp
    | cons x l ih =>
      have := piece_len x
      rw [toL_len] at this
      simp only [List.map_cons, List.sum_cons, List.length_cons]
      omega
  have h1 := sums zs
  have h2 : (Str.ofString " ").length = 1 := by decide +kernel
  rw [List.length_map, h2]; omega
theorem reply_one {k : Int} {zs : List Int} {x0 xl : Int} {t u : Tok} (ok : ReplyOk (replyS k zs) x0 xl) (h : ∀ t' n, Q (.str ((Str.ofString "229 " ++ headS k) ++ joinP zs) t') { s with toks := n }) :
    wpAny (model prog w) A (binaryOp .Add (.str (Str.ofString "229 " ++ headS k) t) (.str (joinP zs) u)) Q E s := by
  have := ok.short
  unfold replyS at this
  simp only [Str.length_append] at this
  refine SB.add h ?_
  simp only [Str.length_append, sizeLine_eq]; omega
theorem reply_two {k : Int} {zs : List Int} {x0 xl : Int} {t u : Tok} (ok : ReplyOk (replyS k zs) x0 xl) (h : ∀ X t' n, ReplyOk X x0 xl → Q (.str X t') { s with toks := n }) :
    wpAny (model prog w) A (binaryOp .Add (.str ((Str.ofString "229 " ++ headS k) ++ joinP zs) t) (.str (tailS k) u)) Q E s := by
  have := ok.short
  unfold replyS at this
  simp only [Str.length_append] at this
  refine SB.add (fun t' n => h _ t' n ok) ?_
  simp only [Str.length_append, sizeLine_eq]; omega
theorem encode_reply {X : Str} {x0 xl : Int} {t u : Tok} (ok : ReplyOk X x0 xl) (h : ∀ t' k, Q (.bytes (codes X).toArray t') { s with toks := k }) :
    wpAny (model prog w) A (call (.builtin "str.encode") [.str X t, .str (Str.ofString "ascii") u]) Q E s :=
  encode_any ok.plain (by have := ok.short; omega) fun t' k => by rw [bytes_codes]; exact h t' k
theorem height_at {value slice : Expr} {ht : Addr} {hv : List Value} {n : Nat} {dr : List Int} {l : Nat} {x0 : Int} {t : Tok} (N : News h₀ L s.heap news) (hm : (ht, W.listOf hv.toArray n) ∈ news) (hH : IntsAre hv (dr.map fun k => k.fmod 64)) (hx : dr[l]? = some x0) (hl : l < 1000)
    (h : ∀ t', Q (.int (x0.fmod 64) t') s)
    (hs : subscripted slice false (.ref ht) (.int (l : Int) t) = operate [.ref ht, .int (l : Int) t] (getItem (.ref ht) (.int (l : Int) t))) :
    wpAny (model prog w) A (subscriptTail value slice (.ref ht) (.int (l : Int) t)) Q E s := by
  have hL : s.heap.IsList ht hv.toArray := ⟨_, (N _ hm).1, rfl, n, rfl⟩
  have hlt : l < hv.length := by rw [IntsAre.length hH, List.length_map]; exact (List.getElem?_eq_some_iff.mp hx).1
  obtain ⟨k, t', hv', hk⟩ := IntsAre.at hH l hv[l] (List.getElem?_eq_getElem hlt)
  rw [List.getElem?_map, hx] at hk
  simp only [Option.map_some, Option.some.injEq] at hk
  refine list_item_to (c := l) (by omega) hL (v := .int (x0.fmod 64) t') ?_ (h t') hs
  rw [List.getElem?_eq_getElem hlt, hv', hk]
theorem wall_at {value slice : Expr} {pc : Addr} {ys : List Value} {n : Nat} {dr : List Int} {tl : List (Addr × Obj)} {e : Nat} {xl : Int} {j : Int} {t : Tok} (N : News h₀ L s.heap news) (hm : (pc, W.listOf ys.toArray n) ∈ news) (hW : WallsAre tl ys dr) (ht : ∀ p ∈ tl, p ∈ news) (hx : dr[e - 1]? = some xl) (he : e < 1000) (he0 : 0 < e) (hj : j = (e : Int) - 1)
    (h : ∀ a c tt ws, BytesAre ws ((pieceWords xl).map codes) → News h₀ L s.heap ((a, tupO #[.str (pieceT xl) tt, .ref c]) :: (c, tupO ws.toArray) :: news) → Q (.ref a) s)
    (hs : ∀ j, subscripted slice false (.ref pc) (.int j t) = operate [.ref pc, .int j t] (getItem (.ref pc) (.int j t))) :
    wpAny (model prog w) A (subscriptTail value slice (.ref pc) (.int j t)) Q E s := by
  have hL : s.heap.IsList pc ys.toArray := ⟨_, (N _ hm).1, rfl, n, rfl⟩
  have hd : xl = dr.getD (e - 1) 0 := by simp [List.getD, hx]
  obtain ⟨a, c, tt, ws, e1, ma, mc, hb⟩ := hW.at (i := e - 1) (List.getElem?_eq_some_iff.mp hx).1
  rw [← hd] at ma hb
  have hj' : j = ((e - 1 : Nat) : Int) := by omega
  rw [hj']
  exact list_item_to (c := e - 1) (by omega) hL e1 (h a c tt ws hb (more1 (more1 N (ht _ mc)) (.tail _ (ht _ ma)))) (hs _)
theorem fig_codes (x : Int) : ∃ c cs, codes (figS x) = c :: cs := by
  cases hc : codes (figS x) with
  | nil =>
    have h1 := (figS_len x).2
    have h2 := congrArg List.length hc
    unfold codes at h2
    simp at h2
    rw [Str.length] at h1
    simp [h2] at h1
  | cons c cs => exact ⟨c, cs, rfl⟩
theorem words_last {vs : List Value} {x : Int} (h : BytesAre vs ((pieceWords x).map codes)) : 0 < vs.length ∧ vs.length ≤ 3 ∧ ∃ t, vs[vs.length - 1]? = some (.bytes (codes (figS x)).toArray t) := by
  unfold pieceWords at h
  by_cases c : pA x = Str.ofString "FLAGS"
  · rw [if_pos c] at h
    cases h with
    | cons r => cases r; exact ⟨by simp, by simp, _, rfl⟩
  · rw [if_neg c] at h
    cases h with
    | cons r => cases r with
      | cons r => cases r with
        | cons r => cases r; exact ⟨by simp, by simp, _, rfl⟩
theorem flag_last {value slice : Expr} {a : Addr} {vs : List Value} {x : Int} {t : Tok} (N : News h₀ L s.heap news) (hm : (a, tupO vs.toArray) ∈ news) (hb : BytesAre vs ((pieceWords x).map codes))
    (h : ∀ t', Q (.bytes (codes (figS x)).toArray t') s)
    (hs : subscripted slice false (.ref a) (.int (-1) t) = operate [.ref a, .int (-1) t] (getItem (.ref a) (.int (-1) t))) (hg : ∀ r, letTemporaryGo value (.ref a) r = pure ()) :
    wpAny (model prog w) A (subscriptTail value slice (.ref a) (.int (-1) t)) Q E s := by
  obtain ⟨h1, h3, t', e⟩ := words_last hb
  exact item_tupleL ⟨_, (N _ hm).1, rfl, _, rfl⟩ (by decide) (by decide) (seqIndex?_neg_one h1) e (h t') hs hg
theorem decode_fig {x : Int} {t u : Tok} (h : ∀ t' k, Q (.str (figS x) t') { s with toks := k }) : wpAny (model prog w) A (call (.builtin "bytes.decode") [.bytes (codes (figS x)).toArray t, .str (Str.ofString "ascii") u]) Q E s := by
  obtain ⟨c, cs, e⟩ := fig_codes x
  have hlt := figS_lt x
  have back : (⟨(codes (figS x)).toArray.map (·.toNat)⟩ : Str) = figS x := by
    show (⟨_⟩ : Str) = ⟨(figS x).cps⟩
    congr 1
    apply Array.ext'
    have := bytes_back (X := figS x) (fun c hc => hlt c (Array.mem_toList_iff.mp hc))
    exact this
  have sz : (codes (figS x)).length ≤ 4 := by
    have := (figS_len x).1
    unfold codes
    rw [Array.length_toList, Array.size_map]
    exact this
  have lt : ∀ y ∈ (codes (figS x)).toArray, y.toNat < 128 := fun y hy => by
    unfold codes at hy
    rw [Array.toArray_toList] at hy
    obtain ⟨z, hz, rfl⟩ := Array.mem_map.mp hy
    have := hlt z hz
    have e2 : (z.toUInt8).toNat = z % 256 := rfl
    omega
  rw [← back] at h
  rw [e] at h lt sz ⊢
  exact decode_any lt (by omega) h
end
end Mine
end
section
open PySem PySem.Spec PySem.W PySem.Calls PyProof.Rows PyProof.Rows.LCg
set_option linter.unusedVariables false
namespace Mine
section
variable {w : World} {hb : Heap} {mg mb : Str → Option Value} {mean : ExcName → Option Value} {env : Env} {L : Addr} {m : Str → Option Value} {s : Shared} {news : List (Addr × Obj)} {E : Value → Shared → Prop} {Q : Value → Shared → Prop}
theorem parse_reply {X : Str} {tx : Tok} {pa : Addr} {i j x0 xl : Int} {ti tj : Tok} (G : Gd w hb mg mb mean) (hl : InLaw env L) (F : Fr hb L s.heap m) (N : News hb L s.heap ((pa, { cls := .type "tuple", data := .seq #[.int i ti, .int j tj] }) :: news)) (ok : ReplyOk X x0 xl)
    (h : ∀ a h' tk t1 t2, Fr hb L h' m → News hb L h' ((a, { cls := .type "tuple", data := .seq #[.int i t1, .int (x0.fmod 64) t2] }) :: news) → (∀ p ∈ news, p.1 < a) → Q (.ref a) { s with heap := h', toks := tk }) :
    wpAny (model Challenge.rw_wu0002_01.row.prog w) (callerA.deeper env) (call (.ref 94) [.str X tx, .ref pa] []) Q E s := by
  obtain ⟨lf, rt, S⟩ := ok.sees
  have := ok.short
  have q := PyProof.Txt.length_slice_le X (some (lf + 1)) (some rt)
  exact parse_call G hl F N (by omega) (by omega) S.h229 S.hlf S.hrt S.l0 S.l1 S.l2 S.i1 S.i2 rfl S.hsp (figS_int x0) (by have := (figS_len x0).1; omega) h
theorem codes_size (X : Str) : (codes X).toArray.size = X.length := by
  unfold codes
  rw [Array.toArray_toList, Array.size_map]; rfl
theorem flags_reply {X : Str} {t : Tok} {x0 xl : Int} (G : Gd w hb mg mb mean) (hl : InLaw env L) (F : Fr hb L s.heap m) (N : News hb L s.heap news) (ok : ReplyOk X x0 xl)
    (h : ∀ a vs h' tk, BytesAre vs ((pieceWords xl).map codes) → Fr hb L h' m → News hb L h' ((a, tupO vs.toArray) :: news) → (∀ p ∈ news, p.1 < a) → Q (.ref a) { s with heap := h', toks := tk }) :
    wpAny (model Challenge.rw_wu0002_01.row.prog w) (callerA.deeper env) (call (.ref 43) [.bytes (codes X).toArray t] []) Q E s := by
  obtain ⟨p, R⟩ := ok.reads
  have h8 := ok.long
  have hs := ok.short
  have e := codes_size X
  refine flags_call G hl F N (by omega) (by omega) R.hp R.hg R.hno R.hin R.hsp R.hw ?_ h
  rw [List.length_map]
  unfold pieceWords
  split <;> simp
theorem rgb_turn {r g b : UInt64} {tr tg tb : Tok} {Fi B W : Int} (G : Gd w hb mg mb mean) (hl : InLaw env L) (F : Fr hb L s.heap m) (N : News hb L s.heap news) (hr : I64 r Fi) (hg : I64 g B) (hb' : I64 b W)
    (F0 : 0 ≤ Fi) (F1 : Fi ≤ 63) (B0 : 0 ≤ B) (B1 : B ≤ 63) (W0 : 0 ≤ W) (hW : W ≤ max Fi B)
    (h : ∀ h1 h2 h3 a h' tk t1 t2 t3, TurnOk (h1, h2, h3) Fi B W → Fr hb L h' m → News hb L h' ((a, { cls := .type "tuple", data := .seq #[.float h1 t1, .float h2 t2, .float h3 t3] }) :: news) →
      (∀ p ∈ news, p.1 < a) → Q (.ref a) { s with heap := h', toks := tk }) :
    wpAny (model Challenge.rw_wu0002_01.row.prog w) (callerA.deeper env) (call (.ref 50) [.float r tr, .float g tg, .float b tb] []) Q E s := by
  have T := turn_ok hr hg hb' F0 F1 B0 B1 W0 hW
  refine rgb_call G hl F N (divs_ok hr hg hb' F0 F1 B0 B1 W0 hW) fun a h' tk t1 t2 t3 F' N' l1 => ?_
  exact h _ _ _ a h' tk t1 t2 t3 T F' N' l1
end
open Float64 in
/-- a double and the 64th that it is -/
def okV (x : UInt64) (n : Nat) : Bool := match decode x with
  | .fin false m e => decide (e ≤ 0) && (n * 2 ^ e.natAbs == 64 * m)
  | _ => false
theorem I64_of {x : UInt64} {n : Nat} (h : okV x n = true) : I64 x (n : Int) := by
  unfold okV at h
  split at h
  · rename_i m e hd
    simp only [Bool.and_eq_true, decide_eq_true_eq, beq_iff_eq] at h
    obtain ⟨h1, h2⟩ := h
    refine const_rv hd e.natAbs (by omega) _ ?_
    have h3 : ((n : Nat) : Rat) * 2 ^ e.natAbs = 64 * (m : Rat) := by
      have := congrArg (fun k : Nat => (k : Rat)) h2
      simpa using this
    have h4 : ((Float64.sgn false m : Int) : Rat) = (m : Rat) := rfl
    rw [h4]
    have e5 : (((n : Nat) : Int) : Rat) = (n : Rat) := rfl
    rw [e5]
    grind
  · cases h
theorem parts64 : ∀ n, n < 64 → okV (Float64.ofFrac false n 64) n = true := by decide +kernel
theorem parts26 : ∀ n, n < 64 → okV (Float64.ofFrac false (1048576 * n) 67108864) n = true := by decide +kernel
section
variable {prog : Program} {w : World} {A : Around} {E : Value → Shared → Prop} {s : Shared} {Q : Value → Shared → Prop}
theorem div_64 {a b : Int} {t u : Tok} (hA : A.handled = none) (hb : b = 64) (h0 : 0 ≤ a) (h1 : a < 64) (h : ∀ x t' k, I64 x a → Q (.float x t') { s with toks := k }) : wpAny (model prog w) A (binaryOp .Div (.int a t) (.int b u)) Q E s := by
  subst hb
  refine Flt.div_ii_fits hA (Nat.lt_of_lt_of_le (show a.natAbs < 2 ^ 6 by omega) (Nat.pow_le_pow_right (by decide) (by decide))) (fun h => absurd h (by decide)) fun _ _ => h _ _ _ ?_
  have e : (decide (a < 0) != decide ((64 : Int) < 0)) = false := by rw [decide_eq_false (by omega)]; rfl
  rw [e]
  have := I64_of (parts64 a.natAbs (by omega))
  rwa [show ((a.natAbs : Nat) : Int) = a by omega] at this
theorem div_26 {a b W : Int} {t u : Tok} (hA : A.handled = none) (hb : b = 67108864) (ha : a = 1048576 * W) (h0 : 0 ≤ W) (h1 : W < 64) (h : ∀ x t' k, I64 x W → Q (.float x t') { s with toks := k }) : wpAny (model prog w) A (binaryOp .Div (.int a t) (.int b u)) Q E s := by
  subst hb
  refine Flt.div_ii_fits hA (Nat.lt_of_lt_of_le (show a.natAbs < 2 ^ 26 by omega) (Nat.pow_le_pow_right (by decide) (by decide))) (fun h => absurd h (by decide)) fun _ _ => h _ _ _ ?_
  have e : (decide (a < 0) != decide ((67108864 : Int) < 0)) = false := by rw [decide_eq_false (by omega)]; rfl
  rw [e]
  have := I64_of (parts26 W.natAbs (by omega))
  have e2 : a.natAbs = 1048576 * W.natAbs := by omega
  rw [e2]
  rwa [show ((W.natAbs : Nat) : Int) = W by omega] at this
theorem round_ok {x : UInt64} {t : Tok} {n : Int} (hA : A.handled = none) (hf : Float64.isFinite x = true) (hn : Flt.toInt Float64.nearestOf x = n) (h : ∀ t' k, Q (.int n t') { s with toks := k }) : wpAny (model prog w) A (call (.builtin "round") [.float x t]) Q E s := by
  refine Flt.call_round_float hA (fun hN => ?_) (fun hI => ?_) fun _ => by rw [hn]; exact h _ _
  · exfalso
    unfold Float64.isFinite at hf
    unfold Float64.isNaN at hN
    cases hd : Float64.decode x <;> simp [hd] at hf hN
  · exfalso
    unfold Float64.isFinite at hf
    unfold Float64.isInf at hI
    cases hd : Float64.decode x <;> simp [hd] at hf hI
end
end Mine
end
section
open PySem PySem.Spec PySem.W PySem.Calls PyProof.Rows PyProof.Rows.LCg
set_option linter.unusedVariables false
namespace Mine
structure TF (dr : List Int) (l e : Nat) (W : Int) (x0 xl : Int) : Prop where
  f : (dr.map fun k' => k'.fmod 64).getD l 0 = x0.fmod 64
  b : (dr.map fun k' => k'.fmod 64).getD (e - 1) 0 = xl.fmod 64
  f0 : 0 ≤ x0.fmod 64
  f1 : x0.fmod 64 < 64
  b0 : 0 ≤ xl.fmod 64
  b1 : xl.fmod 64 < 64
  w0 : 0 ≤ W
  w1 : W ≤ max (x0.fmod 64) (xl.fmod 64)
theorem turn_facts {fl : Addr} {dr : List Int} {c : WS} {x0 xl : Int} (P : WP fl (dr.map fun k' => k'.fmod 64) c) (hl : c.l < c.e) (c0 : dr[c.l]? = some x0) (cl : dr[c.e - 1]? = some xl) : TF dr c.l c.e c.W x0 xl := by
  have h1 : (dr.map fun k' => k'.fmod 64).getD c.l 0 = x0.fmod 64 := by simp [List.getD, List.getElem?_map, c0]
  have h2 : (dr.map fun k' => k'.fmod 64).getD (c.e - 1) 0 = xl.fmod 64 := by simp [List.getD, List.getElem?_map, cl]
  refine ⟨h1, h2, Int.fmod_nonneg_of_pos _ (by decide), Int.fmod_lt_of_pos _ (by decide), Int.fmod_nonneg_of_pos _ (by decide), Int.fmod_lt_of_pos _ (by decide), P.mid.w0, ?_⟩
  have := P.mid.low hl
  rwa [h1, h2] at this
theorem TF.small {dr : List Int} {l e : Nat} {W x0 xl : Int} (h : TF dr l e W x0 xl) : W < 64 := by
  have h1 := h.w1; have h2 := h.f1; have h3 := h.b1
  omega
theorem pair_snd {prog : Program} {w : World} {A : Around} {E : Value → Shared → Prop} {s : Shared} {Q : Value → Shared → Prop} {h₀ : Heap} {L : Addr} {news : List (Addr × Obj)} {value slice : Expr} {a c : Addr} {v0 : Value} {t : Tok} (N : News h₀ L s.heap news) (hm : (a, tupO #[v0, .ref c]) ∈ news) (h : Q (.ref c) s)
    (hs : subscripted slice false (.ref a) (.int 1 t) = operate [.ref a, .int 1 t] (getItem (.ref a) (.int 1 t))) : wpAny (model prog w) A (subscriptTail value slice (.ref a) (.int 1 t)) Q E s :=
  have ht : IsTup s.heap a #[v0, .ref c] := ⟨_, (N _ hm).1, rfl, _, rfl⟩
  tail_any ht.typeIs slot_tuple_getitem.lookup (getItem_tuple ht (by decide) (by decide) (j := 1) rfl rfl h) hs
theorem ne_flags {prog : Program} {w : World} {A : Around} {E : Value → Shared → Prop} {s : Shared} {Q : Value → Shared → Prop} {h₀ : Heap} {L : Addr} {news : List (Addr × Obj)} {a b : Addr} {xs ys : List Value} {bs : List (List UInt8)} (N : News h₀ L s.heap news) (ma : (a, tupO xs.toArray) ∈ news) (mb : (b, tupO ys.toArray) ∈ news)
    (hx : BytesAre xs bs) (hy : BytesAre ys bs) (hu : A.units < cLine) (h : Q (.bool false) s) : wpAny (model prog w) A (compareOp .NotEq (.ref a) (.ref b)) Q E s :=
  ne_bytesTuples (N.get ma) (N.get mb) hx hy hu h
theorem drop8 {h₀ h : Heap} {L : Addr} {p1 p2 p3 p4 p5 p6 p7 p8 : Addr × Obj} {r : List (Addr × Obj)} (N : News h₀ L h (p1 :: p2 :: p3 :: p4 :: p5 :: p6 :: p7 :: p8 :: r)) : News h₀ L h r :=
  news_tail (news_tail (news_tail (news_tail (news_tail (news_tail (news_tail (news_tail N)))))))
end Mine
end
section
open PySem PySem.Spec PySem.W PySem.Calls PyProof.Rows PyProof.Rows.LCg
set_option linter.unusedVariables false
namespace Mine
theorem pow26 : (2 : Int) ^ Int.toNat 26 = 67108864 := by decide +kernel
section
variable {prog : Program} {w : World} {A : Around} {E : Value → Shared → Prop} {s : Shared} {Q : Value → Shared → Prop} {x y1 y2 y3 : UInt64} {t : Tok} {Fi B W : Int}
theorem round_F (hA : A.handled = none) (tfr : frontB y3 (turnV y1) = decide (Fi ≤ B)) (tlv : Flt.toInt Float64.nearestOf (levV y2 y3 (wayV (decide (Fi ≤ B)) (turnV y1))) = 1048576 * max W (min Fi B)) (tfi : Float64.isFinite (levV y2 y3 (wayV (decide (Fi ≤ B)) (turnV y1))) = true)
    (hb : frontB y3 (turnV y1) = true) (hx : x = levV y2 y3 (wayV true (turnV y1))) (h : Fi ≤ B → ∀ t' k, Q (.int (1048576 * max W (min Fi B)) t') { s with toks := k }) : wpAny (model prog w) A (call (.builtin "round") [.float x t]) Q E s := by
  rw [hb] at tfr
  rw [← tfr] at tlv tfi
  subst hx
  exact round_ok hA tfi tlv (h (of_decide_eq_true tfr.symm))
theorem round_B (hA : A.handled = none) (tfr : frontB y3 (turnV y1) = decide (Fi ≤ B)) (tlv : Flt.toInt Float64.nearestOf (levV y2 y3 (wayV (decide (Fi ≤ B)) (turnV y1))) = 1048576 * max W (min Fi B)) (tfi : Float64.isFinite (levV y2 y3 (wayV (decide (Fi ≤ B)) (turnV y1))) = true)
    (hb : frontB y3 (turnV y1) = false) (hx : x = levV y2 y3 (wayV false (turnV y1))) (h : ¬ Fi ≤ B → ∀ t' k, Q (.int (1048576 * max W (min Fi B)) t') { s with toks := k }) : wpAny (model prog w) A (call (.builtin "round") [.float x t]) Q E s := by
  rw [hb] at tfr
  rw [← tfr] at tlv tfi
  subst hx
  exact round_ok hA tfi tlv (h (of_decide_eq_false tfr.symm))
end
section
variable {y1 y3 : UInt64}
theorem front1 (h : (Float64.cmp y3 0 == some Ordering.eq) = true) : frontB y3 (turnV y1) = true := by
  show ((Float64.cmp y3 0 == some Ordering.eq) || _) = true
  rw [h]; rfl
theorem front2 (h1 : (Float64.cmp 4607092346807469998 (Float64.mul 4618441417868443648 y1) == some Ordering.lt || Float64.cmp 4607092346807469998 (Float64.mul 4618441417868443648 y1) == some Ordering.eq) = true)
    (h2 : (Float64.cmp (Float64.mul 4618441417868443648 y1) 4613960336239210004 == some Ordering.lt || Float64.cmp (Float64.mul 4618441417868443648 y1) 4613960336239210004 == some Ordering.eq) = true) : frontB y3 (turnV y1) = true := by
  show (_ || (_ && _)) = true
  have e1 : leF c099 (turnV y1) = true := h1
  have e2 : leF (turnV y1) c301 = true := h2
  rw [e1, e2]; simp
theorem front3 (h0 : (Float64.cmp y3 0 == some Ordering.eq) = false) (h1 : (Float64.cmp 4607092346807469998 (Float64.mul 4618441417868443648 y1) == some Ordering.lt || Float64.cmp 4607092346807469998 (Float64.mul 4618441417868443648 y1) == some Ordering.eq) = false) : frontB y3 (turnV y1) = false := by
  have e1 : leF c099 (turnV y1) = false := h1
  have e0 : eqF y3 c0 = false := h0
  unfold frontB
  rw [e1, e0]; rfl
theorem front4 (h0 : (Float64.cmp y3 0 == some Ordering.eq) = false) (h2 : (Float64.cmp (Float64.mul 4618441417868443648 y1) 4613960336239210004 == some Ordering.lt || Float64.cmp (Float64.mul 4618441417868443648 y1) 4613960336239210004 == some Ordering.eq) = false) : frontB y3 (turnV y1) = false := by
  have e2 : leF (turnV y1) c301 = false := h2
  have e0 : eqF y3 c0 = false := h0
  unfold frontB
  rw [e2, e0]; simp
end
end Mine
end
section
open PySem PySem.Spec PySem.W PySem.Calls PyProof.Rows PyProof.Rows.LCg
set_option linter.unusedVariables false
namespace Mine
theorem allLt_ne {d : Addr} {l : List (Addr × Obj)} (h : AllLt d l) : ∀ p ∈ l, p.1 ≠ d := fun p hp => Nat.ne_of_lt (allLt_to h p hp)
section
variable {prog : Program} {w : World} {A : Around} {E : Value → Shared → Prop} {s : Shared} {Q : Value → Shared → Prop} {h₀ : Heap} {L : Addr} {m : Str → Option Value}
theorem append_fl {fl T pc ht : Addr} {oT o1 o2 : Obj} {tl own : List (Addr × Obj)} {xs : List Value} {nn : Nat} (F : Fr h₀ L s.heap m) (N : News h₀ L s.heap ((T, oT) :: (fl, W.listOf xs.toArray nn) :: (pc, o1) :: (ht, o2) :: (tl ++ own)))
    (hT : @LT.lt Nat _ fl T) (hfl : @LT.lt Nat _ pc fl ∧ @LT.lt Nat _ ht fl ∧ AllLt fl tl) (ho : ∀ p ∈ own, @LT.lt Nat _ fl p.1) (hlen : xs.length ≤ 10)
    (h : ∀ h', Fr h₀ L h' m → News h₀ L h' ((T, oT) :: (fl, W.listOf (xs ++ [Value.ref T]).toArray (nn + 1)) :: (pc, o1) :: (ht, o2) :: (tl ++ own)) → Q .none { s with heap := h' }) :
    wpAny (model prog w) A (call (.builtin "list.append") [.ref fl, .ref T]) Q E s := by
  refine append_K (its := xs.toArray) (n := nn) F N (news' := (T, oT) :: (fl, W.listOf (xs ++ [Value.ref T]).toArray (nn + 1)) :: (pc, o1) :: (ht, o2) :: (tl ++ own)) ?_ h (by rw [List.size_toArray, sizeLine_eq]; omega)
  rw [show (xs ++ [Value.ref T]).toArray = xs.toArray.push (Value.ref T) by rw [List.push_toArray]]
  refine .tail (Nat.ne_of_gt hT) (.head fun p hp => ?_)
  rcases List.mem_cons.mp hp with rfl | hp
  · exact Nat.ne_of_lt hfl.1
  · rcases List.mem_cons.mp hp with rfl | hp
    · exact Nat.ne_of_lt hfl.2.1
    · rcases List.mem_append.mp hp with hp | hp
      · exact allLt_ne hfl.2.2 p hp
      · exact Nat.ne_of_gt (ho p hp)
end
theorem led_sub {fl pc ht : Addr} {of o1 o2 : Obj} {q : Addr × Obj} {tl own : List (Addr × Obj)} : ∀ p ∈ (fl, of) :: (pc, o1) :: (ht, o2) :: (tl ++ q :: own), p ∈ q :: (fl, of) :: (pc, o1) :: (ht, o2) :: (tl ++ own) := fun p hp => by
  simp only [List.mem_cons, List.mem_append] at hp ⊢
  rcases hp with h | h | h | h | h | h <;> simp [h]
def fallT (l : Nat) (lv : Int) (b : Bool) (a1 a2 : Tok) : Obj := { cls := .type "tuple", data := .seq #[.int (l : Int) a1, .int (1048576 * lv) a2, .bool b] }
theorem fell_in {news : List (Addr × Obj)} {T : Addr} {l : Nat} {lv : Int} {b : Bool} {a1 a2 : Tok} {n : Nat} (h : (T, ({ cls := .type "tuple", data := .seq #[.int (l : Int) a1, .int (1048576 * lv) a2, .bool b] n } : Obj)) ∈ news) : DatIn news (.ref T) (fell (l, lv, b)) :=
  DatIn.tuple (vs := [.int (l : Int) a1, .int (1048576 * lv) a2, .bool b]) h (.cons (.int _ _) (.cons (.int _ _) (.cons (.bool _) .nil)))
section
variable {fl T : Addr} {dr : List Int} {l e nn nn' : Nat} {W x0 xl : Int} {t1 t2 t3 u1 u2 u3 a1 a2 : Tok} {xs : List Value} {own : List (Addr × Obj)} {b : Bool} {n : Nat}
theorem WP.nextF (P : WP fl (dr.map fun k' => k'.fmod 64) ⟨l, e, W, t1, t2, t3, xs, nn, own⟩) (hl : l < e) (tf : TF dr l e W x0 xl) (hFB : x0.fmod 64 ≤ xl.fmod 64) (hb : b = decide (W ≤ x0.fmod 64)) (hT : @LT.lt Nat _ fl T) :
    WP fl (dr.map fun k' => k'.fmod 64) ⟨l + 1, e, max W (min (x0.fmod 64) (xl.fmod 64)), u1, u2, u3, xs ++ [.ref T], nn', (T, { cls := .type "tuple", data := .seq #[.int (l : Int) a1, .int (1048576 * max W (min (x0.fmod 64) (xl.fmod 64))) a2, .bool b] n }) :: own⟩ := by
  obtain ⟨mid, ⟨pre, k, hk, e1, hd, hlen⟩, ho⟩ := P
  dsimp only at mid hk e1 hd hlen ho
  have M' := mid.fallF hl (by rw [tf.f, tf.b]; exact hFB)
  rw [tf.f, tf.b] at M'
  cases k with
  | zero => omega
  | succ k =>
    rw [fall, if_pos hl, tf.f, tf.b, if_pos hFB] at e1
    refine ⟨M', ⟨pre ++ [(l, max W (min (x0.fmod 64) (xl.fmod 64)), decide (W ≤ x0.fmod 64))], k, ?_, ?_, ?_, ?_⟩, ?_⟩
    · dsimp only; omega
    · rw [e1, List.append_assoc]; rfl
    · rw [List.map_append]
      refine DatAll.append (hd.mono fun p hp => .tail _ hp) (.one ?_)
      rw [← hb]
      exact fell_in (.head _)
    · dsimp only
      rw [List.length_append, List.length_cons, List.length_nil]; omega
    · intro p hp
      rcases List.mem_cons.mp hp with rfl | hp
      · exact hT
      · exact ho p hp
theorem WP.nextB (P : WP fl (dr.map fun k' => k'.fmod 64) ⟨l, e, W, t1, t2, t3, xs, nn, own⟩) (hl : l < e) (tf : TF dr l e W x0 xl) (hFB : ¬ x0.fmod 64 ≤ xl.fmod 64) (hb : b = decide (W ≤ xl.fmod 64)) (hT : @LT.lt Nat _ fl T) {j : Int} (hj : j = ((e - 1 : Nat) : Int)) :
    WP fl (dr.map fun k' => k'.fmod 64) ⟨l, e - 1, max W (min (x0.fmod 64) (xl.fmod 64)), u1, u2, u3, xs ++ [.ref T], nn', (T, { cls := .type "tuple", data := .seq #[.int j a1, .int (1048576 * max W (min (x0.fmod 64) (xl.fmod 64))) a2, .bool b] n }) :: own⟩ := by
  subst hj
  obtain ⟨mid, ⟨pre, k, hk, e1, hd, hlen⟩, ho⟩ := P
  dsimp only at mid hk e1 hd hlen ho
  have M' := mid.fallB hl (by rw [tf.f, tf.b]; exact hFB)
  rw [tf.f, tf.b] at M'
  cases k with
  | zero => omega
  | succ k =>
    rw [fall, if_pos hl, tf.f, tf.b, if_neg hFB] at e1
    refine ⟨M', ⟨pre ++ [(e - 1, max W (min (x0.fmod 64) (xl.fmod 64)), decide (W ≤ xl.fmod 64))], k, ?_, ?_, ?_, ?_⟩, ?_⟩
    · dsimp only; omega
    · rw [e1, List.append_assoc]; rfl
    · rw [List.map_append]
      refine DatAll.append (hd.mono fun p hp => .tail _ hp) (.one ?_)
      rw [← hb]
      exact fell_in (.head _)
    · dsimp only
      rw [List.length_append, List.length_cons, List.length_nil]; omega
    · intro p hp
      rcases List.mem_cons.mp hp with rfl | hp
      · exact hT
      · exact ho p hp
theorem WP.short (P : WP fl (dr.map fun k' => k'.fmod 64) ⟨l, e, W, t1, t2, t3, xs, nn, own⟩) : xs.length ≤ 10 := by
  obtain ⟨pre, k, hk, e1, hd, hlen⟩ := P.done
  dsimp only at hlen
  omega
end
end Mine
end
section
open PySem PySem.Spec PySem.W PySem.Calls PyProof.Rows PyProof.Rows.LCg
set_option linter.unusedVariables false
namespace Mine
/-- ways that meet again in one truth value -/
theorem bool_join {M : Model} {A : Around} {E : Value → Shared → Prop} {Q : Value → Shared → Prop} {s : Shared} {t : Sem Value} (b : Bool)
    (one : wpAny M A t (fun v s' => v = Value.bool b ∧ ∃ k, s' = { s with toks := k }) E s) (two : ∀ k, Q (.bool b) { s with toks := k }) : wpAny M A t Q E s :=
  wpAny_mono one (fun v s' h => by obtain ⟨rfl, k, rfl⟩ := h; exact two k) (fun _ _ e => e)
section
variable {y1 y3 : UInt64} {b : Bool}
theorem leaf1 (tfr : frontB y3 (turnV y1) = b) (h : (Float64.cmp y3 0 == some Ordering.eq) = true) : (Float64.cmp y3 0 == some Ordering.eq) = b := h.trans ((front1 h).symm.trans tfr)
theorem leaf2 (tfr : frontB y3 (turnV y1) = b) (h0 : (Float64.cmp y3 0 == some Ordering.eq) = false) (h1 : (Float64.cmp 4607092346807469998 (Float64.mul 4618441417868443648 y1) == some Ordering.lt || Float64.cmp 4607092346807469998 (Float64.mul 4618441417868443648 y1) == some Ordering.eq) = true) :
    (Float64.cmp (Float64.mul 4618441417868443648 y1) 4613960336239210004 == some Ordering.lt || Float64.cmp (Float64.mul 4618441417868443648 y1) 4613960336239210004 == some Ordering.eq) = b := by
  cases h2 : (Float64.cmp (Float64.mul 4618441417868443648 y1) 4613960336239210004 == some Ordering.lt || Float64.cmp (Float64.mul 4618441417868443648 y1) 4613960336239210004 == some Ordering.eq) with
  | true => exact (front2 h1 h2).symm.trans tfr
  | false => exact (front4 h0 h2).symm.trans tfr
theorem leaf3 (tfr : frontB y3 (turnV y1) = b) (h0 : (Float64.cmp y3 0 == some Ordering.eq) = false) (h1 : (Float64.cmp 4607092346807469998 (Float64.mul 4618441417868443648 y1) == some Ordering.lt || Float64.cmp 4607092346807469998 (Float64.mul 4618441417868443648 y1) == some Ordering.eq) = false) :
    (Float64.cmp 4607092346807469998 (Float64.mul 4618441417868443648 y1) == some Ordering.lt || Float64.cmp 4607092346807469998 (Float64.mul 4618441417868443648 y1) == some Ordering.eq) = b := h1.trans ((front3 h0 h1).symm.trans tfr)
end
theorem less_F {l e : Nat} (h : l < e) : e - (l + 1) < e - l := by omega
theorem less_B {l e : Nat} (h : l < e) : e - 1 - l < e - l := by omega
theorem cast_B {l e : Nat} (h : l < e) : (((e - 1 : Nat) : Int) - 1) = (e : Int) - 1 - 1 := by omega
theorem cast_B2 {l e : Nat} (h : l < e) : (e : Int) - 1 = ((e - 1 : Nat) : Int) := by omega
end Mine
end
section
open PySem PySem.Spec PySem.W PySem.Calls PyProof.Rows PyProof.Rows.LCg
set_option linter.unusedVariables false
namespace Mine
theorem q_names {p : Program} {l n : List Str} (h : PySem.W.Fast.tw17448422675489707002 p (PySem.W.Fast.tw821141287760084731 p l) n = true) : namesOk p (looseW p l) n = true := by
  rw [PySem.W.Fast.te17448422675489707002, PySem.W.Fast.te821141287760084731]; exact h
theorem q_imports {p : Program} (h : PySem.W.Fast.tw2458874890965802552 p = true) : importsNone p = true := by
  rw [PySem.W.Fast.te2458874890965802552]; exact h
local macro_rules | `(tactic| k_qdec) => `(tactic| walk_at "my q")
set_option maxRecDepth 100000 in
set_option maxHeartbeats 8000000 in
theorem law_ok : PySem.Challenge.rw_wu0002_01.Holds := hd (by
  k_with_none
  (k_with "all steps" => repeat' (first | (k_unfold; (try dsimp only)) | (k_end; kc_close) | (walk1; (try dsimp only)) | (dsimp only; walk1) | (leave1; walk_say "STEP leave1"; (try dsimp only)) | fail "no step"))
  (k_with "my q" => first | exact q_names (by decide +kernel) | exact q_imports (by decide +kernel))
  (k_with "my steps" => (repeat' (first
      | (fail_if_success (with_reducible show wpAny _ _ (call (Value.ref 104) _ _) _ _ _)); (fail_if_success (with_reducible show wpAny _ _ (execs (Stmt.Assign [Expr.Name (PySem.Str.ofString "turn") _] _ _ :: _) _) _ _ _)); (fail_if_success (with_reducible show CompRest _ _ _ _ _ _ _ _ _ _ _ _ _ _ _ _ _ _ _)); (fail_if_success (with_reducible show wpAny _ _ (exec (Stmt.While _ _ _ _) _) _ _ _)); first | (k_unfold; (try dsimp only)) | (k_end; wrow_close) | (walk1; (try dsimp only)) | (dsimp only; walk1) | (leave1; walk_say "STEP leave1"; try dsimp only)
      | fail "no step")))
  (k_with "float steps" => (repeat' (first
      | (fail_if_success (with_reducible show wpAny _ _ (call (Value.builtin "round") _) _ _ _)); first | (k_unfold; (try dsimp only)) | (k_end; wrow_close) | (walk1; (try dsimp only)) | (dsimp only; walk1) | (leave1; walk_say "STEP leave1"; try dsimp only)
      | fail "no step")))
  (k_with "front steps" => (repeat' (first
      | (fail_if_success (with_reducible show wpAny _ _ (eval (Expr.BoolOp _ _ _) _) _ _ _)); first | (k_unfold; (try dsimp only)) | (k_end; wrow_close) | (walk1; (try dsimp only)) | (dsimp only; walk1) | (leave1; walk_say "STEP leave1"; try dsimp only)
      | fail "no step")))
  (k_with "my same" => ((intro z h2 h3; (have k1 := h2 _ (.head _)); (have k2 := h2 _ (.tail _ (.head _))); (have k3 := h2 _ (.tail _ (.tail _ (.head _)))); (dsimp only at k1 k2 k3); (have h4 := h3); (simp only [List.contains_cons, List.contains_nil, Bool.or_false, Bool.or_eq_false_iff, beq_eq_false_iff_ne, ne_eq] at h4); simp only [kstB, h3, h4, k1, k2, k3, if_false, Bool.false_eq_true])))
  (k_with "end steps" => (repeat' (first
      | (fail_if_success (with_reducible show KswEnd _ _ _ _ _ _ _ _ _ _ _ _)); first | (k_unfold; (try dsimp only)) | (k_end; wrow_close) | (walk1; (try dsimp only)) | (dsimp only; walk1) | (leave1; walk_say "STEP leave1"; try dsimp only)
      | fail "no step")))
  (k_with "exec Assign cons ListComp" => (k_here; (with_reducible show wpAny _ _ (exec (Stmt.Assign _ (Expr.ListComp (Expr.Call (Expr.Name (PySem.Str.ofString "_law_piece") _) _ _ _) _ _ _) _) _) _ _ _); (k_dflt (refine LCg.Assign_ListComp_U (F₀ := by k_asm) (by rfl) (by with_unfolding_all rfl) (by with_unfolding_all rfl) (by decide) (by rfl) (by decide) (by rfl) (by rfl) (by rfl) ?_))))
  (k_with "CompSrc" => (k_here; (with_reducible show LCg.CompSrc _ _ _ _ _ _ _ (Expr.Call (Expr.Name (PySem.Str.ofString "_law_piece") _) _ _ _) _ _ _ _ _ _); (k_dflt (refine LCg.CompSrc.ledger (by rfl) (by k_asm) (by k_asm) (by k_mem) (by kcf_size) ?_; intro _))))
  (k_with "call ref" => (k_here; (with_reducible show wpAny _ _ (call (Value.ref 99) [Value.int _ _]) _ _ _); (refine' piece_call ⟨?z9g1, ?z9g2, ?z9g3, ?z9g4, ?z9g5, below_caller _⟩ ⟨rfl, rfl⟩ ?z9F ?z9N ?_; (case z9g1 => assumption); (case z9g2 => assumption); (case z9g3 => assumption); (case z9g4 => assumption); (case z9g5 => assumption); (case z9F => k_asm); (case z9N => k_asm); intro _ _ _ _ _ _ _ _ _ _ _ _)))
  (k_with "subscriptTail Name Slice ref ref" => (k_here; (with_reducible show wpAny _ _ (subscriptTail (Expr.Name (PySem.Str.ofString "pieces") _) _ _ _) _ _ _); (with_unfolding_all refine' slice_walls ?z9F ?z9N ?z9m (by with_reducible assumption : WallsAre _ _ _) ?z9j ?z9l ?z9e ?z9n ?_ ?z9s ?z9t; (case z9F => k_asm); (case z9N => k_asm); (case z9m => k_mem); (case z9j => exact Int.sub_add_cancel _ _); (case z9l => omega); (case z9e => omega); (case z9n => omega); (case z9s => with_unfolding_all rfl); (case z9t => (intro _; with_unfolding_all rfl)); intro _ _ _ _ _ _ _)))
  (k_with "CompSrc" => (k_here; (with_reducible show LCg.CompSrc _ _ _ _ _ _ _ (Expr.Subscript (Expr.Name (PySem.Str.ofString "piece") _) _ _) _ _ _ _ _ _); (k_dflt (refine LCg.CompSrc.ledger (by rfl) (by k_asm) (by k_asm) (by k_mem) (by rw [List.size_toArray, WallsAre.length (by with_reducible assumption : WallsAre _ _ (List.take _ _)), List.length_take, List.length_drop, sizeLine_eq]; omega) ?_; intro _))))
  (k_with "call builtin:str.join" => (k_here; (refine' join_walls ?z9N ?z9m (by with_reducible assumption) ?z9z ?_; (case z9N => k_asm); (case z9m => k_mem); (case z9z => omega); intro _ _)))
  (k_with "binaryOp Add str str" => (k_here; (first | ((with_reducible show wpAny _ _ (binaryOp Operator.Add (Value.str (_ ++ _) _) (Value.str (joinP _) _)) _ _ _); refine' reply_one (by with_reducible assumption) ?_; intro _ _) | ((with_reducible show wpAny _ _ (binaryOp Operator.Add (Value.str (_ ++ joinP _) _) _) _ _ _); refine' reply_two (by with_reducible assumption) ?_; intro _ _ _ _))))
  (k_with "call ref" => (k_here; (with_reducible show wpAny _ _ (call (Value.ref 94) [Value.str _ _, Value.ref _]) _ _ _); (refine' parse_reply (G := ⟨?z9g1, ?z9g2, ?z9g3, ?z9g4, ?z9g5, below_caller _⟩) ⟨rfl, rfl⟩ ?z9F ?z9N (by with_reducible assumption) ?_; (case z9g1 => assumption); (case z9g2 => assumption); (case z9g3 => assumption); (case z9g4 => assumption); (case z9g5 => assumption); (case z9F => k_asm); (case z9N => k_asm); intro _ _ _ _ _ _ _ _)))
  (k_with "call ref" => (k_here; (with_reducible show wpAny _ _ (call (Value.ref 43) [Value.bytes _ _]) _ _ _); (refine' flags_reply (G := ⟨?z9g1, ?z9g2, ?z9g3, ?z9g4, ?z9g5, below_caller _⟩) ⟨rfl, rfl⟩ ?z9F ?z9N (by with_reducible assumption) ?_; (case z9g1 => assumption); (case z9g2 => assumption); (case z9g3 => assumption); (case z9g4 => assumption); (case z9g5 => assumption); (case z9F => k_asm); (case z9N => k_asm); intro _ _ _ _ _ _ _ _)))
  (k_with "getMethod str" => (k_here; (with_reducible show wpAny _ _ (getMethod _ (PySem.Str.ofString "encode") _) _ _ _); refine getMethod_encode ?_))
  (k_with "call builtin:str.encode" => (k_here; (refine' encode_reply (by with_reducible assumption) ?_; intro _ _)))
  (k_with "subscriptTail Name Name ref int" => (k_here; (with_reducible show wpAny _ _ (subscriptTail (Expr.Name (PySem.Str.ofString "heights") _) _ _ _) _ _ _); (with_unfolding_all refine' height_at ?z9N ?z9m (by with_reducible assumption) ?z9x ?z9l ?_ ?z9s; (case z9N => k_asm); (case z9m => k_mem); (case z9x => with_reducible assumption); (case z9l => omega); (case z9s => with_unfolding_all rfl); intro _)))
  (k_with "subscriptTail Name Name ref int" => (k_here; (with_reducible show wpAny _ _ (subscriptTail (Expr.Name (PySem.Str.ofString "pieces") _) _ _ _) _ _ _); (with_unfolding_all refine' wall_at ?z9N ?z9m ?z9W ?z9tt ?z9x ?z9l ?z9l0 rfl ?_ ?z9s; (case z9N => k_asm); (case z9m => k_mem); (case z9W => with_reducible assumption); (case z9tt => (intro p hp; kst_mem)); (case z9x => with_reducible assumption); (case z9l => omega); (case z9l0 => omega); (case z9s => (intro _; with_unfolding_all rfl)); intro _ _ _ _ _ _; (rename News _ _ _ _ => N9; (try dsimp only at N9); revert N9; intro _))))
  (k_with "compareOp NotEq ref ref" => (k_here; (with_unfolding_all refine' ne_flags ?z9N ?z9m ?z9m2 ?z9x ?z9y ?z9hu ?_; (case z9hu => ke_room); (case z9N => k_asm); (case z9m => k_mem); (case z9m2 => k_mem); (case z9x => with_reducible assumption); (case z9y => with_reducible assumption))))
  (k_with "subscriptTail" => (k_here; (with_reducible show wpAny _ _ (subscriptTail (Expr.Name (PySem.Str.ofString "flags") _) _ (Value.ref _) (Value.int _ _)) _ _ _); (with_unfolding_all refine' flag_last ?z9N ?z9m ?z9bb ?_ ?z9s ?z9g; (case z9N => k_asm); (case z9m => k_mem); (case z9bb => with_reducible assumption); (case z9s => with_unfolding_all rfl); (case z9g => (intro _; with_unfolding_all rfl)); intro _)))
  (k_with "subscriptTail Subscript Name Name" => (k_here; (with_reducible show wpAny _ _ (subscriptTail (Expr.Subscript _ _ _) _ (Value.ref _) (Value.int _ _)) _ _ _); (with_unfolding_all refine' pair_snd ?z9N ?z9m ?_ ?z9s; (case z9N => k_asm); (case z9m => k_mem); (case z9s => with_unfolding_all rfl))))
  (k_with "call builtin:bytes.decode" => (k_here; (refine' decode_fig ?_; intro _ _)))
  (k_with "call type:int" => (k_here; (with_reducible show wpAny _ _ (call _ [Value.str _ _]) _ _ _); (refine' PySem.W.KIN.call_text (figS_int _) ?z9k2 ?_; (case z9k2 => exact Nat.le_trans (figS_len _).1 (by decide)))))
  (k_with "binaryOp Div int int" => (k_here; (first
  | (with_unfolding_all refine' div_64 rfl rfl ?z9a ?z9b ?_; (case z9a => first | exact TF.f0 (by with_reducible assumption) | exact TF.b0 (by with_reducible assumption)); (case z9b => first | exact TF.f1 (by with_reducible assumption) | exact TF.b1 (by with_reducible assumption)); intro _ _ _ _)
  | (with_unfolding_all refine' div_26 rfl ?z9e rfl ?z9a ?z9b ?_; (case z9e => first | rfl | decide +kernel); (case z9a => exact TF.w0 (by with_reducible assumption)); (case z9b => exact TF.small (by with_reducible assumption)); intro _ _ _ _))))
  (k_with "call ref" => (k_here; (with_reducible show wpAny _ _ (call (Value.ref 50) [Value.float _ _, Value.float _ _, Value.float _ _]) _ _ _); (refine' rgb_turn (G := ⟨?z9g1, ?z9g2, ?z9g3, ?z9g4, ?z9g5, below_caller _⟩) ⟨rfl, rfl⟩ ?z9F ?z9N (by with_reducible assumption) (by with_reducible assumption) (by with_reducible assumption) ?z9f0 ?z9f1 ?z9b0 ?z9b1 ?z9w0 ?z9w1 ?_; (case z9g1 => assumption); (case z9g2 => assumption); (case z9g3 => assumption); (case z9g4 => assumption); (case z9g5 => assumption); (case z9F => k_asm); (case z9N => k_asm); (case z9f0 => exact TF.f0 (by with_reducible assumption)); (case z9f1 => exact Int.le_of_lt_add_one (TF.f1 (by with_reducible assumption))); (case z9b0 => exact TF.b0 (by with_reducible assumption)); (case z9b1 => exact Int.le_of_lt_add_one (TF.b1 (by with_reducible assumption))); (case z9w0 => exact TF.w0 (by with_reducible assumption)); (case z9w1 => exact TF.w1 (by with_reducible assumption)); intro _ _ _ _ _ _ _ _ _ _ _ _ _)))
  (k_with "call builtin:min" => (k_here; (with_reducible show wpAny _ _ (call (Value.builtin _) [Value.float _ _, Value.float _ _]) _ _ _); (k_dflt (refine' Flt.min_two_ff ?z9k0 ?z9k1 ?z9k2 ?_; (case z9k0 => with_unfolding_all rfl); (case z9k1 => k_asm); (case z9k2 => k_asm); k_whole); intro _ _ _ _ _; (try k_sweep))))
  (k_with "call builtin:list.append" => (k_here; (with_unfolding_all refine' append_fl ?z9F ?z9N ?z9T ?z9fl ?z9o ?z9le ?_; (case z9F => k_asm); (case z9N => k_asm); (case z9T => exact And.left (by with_reducible assumption : _ ∧ _ ∧ _ ∧ AllLt _ (_ ++ _))); (case z9fl => with_reducible assumption); (case z9o => exact WP.own (by with_reducible assumption)); (case z9le => exact WP.short (by with_reducible assumption)); intro _ _ _)))
  (k_with "table" => skip)
  k_go0
  (all_goals try k_fold)
  walk_at "my steps"
  obtain ⟨dr, hdr, hDr⟩ := name_ints (by with_reducible assumption : IntsAre _ (List.map _ _ ++ [20, 353, 652, 985]))
  have hlen := drawn_len hdr
  refine rest_of (WallInv _ dr) ?fin ?step _ _ _ _ (Nat.zero_add _) WallInv.start
  case step =>
    rintro i ys nw hi ⟨tl, rfl, hW⟩ v I oI C oC D m₂ h tk E' hv hC hx FF NN off ne
    simp only [List.cons_append, List.nil_append] at NN
    obtain ⟨k, t, rfl, hk⟩ := IntsAre.at hDr i v (by simpa using hv)
    walk_at "all steps"
    refine walls_end (by simpa using (List.getElem?_eq_some_iff.mp hk).1) hk hW (by assumption) (by assumption) (by assumption) off (by assumption) (by assumption) ?_ ?_
    · have l3 := (by assumption : ∀ p ∈ (I, oI) :: (C, oC) :: (D, lst ys) :: _, p.1 < _)
      exact ⟨Nat.ne_of_lt (l3 _ (.head _)), Nat.ne_of_lt (l3 _ (.tail _ (.head _))), Nat.ne_of_lt (l3 _ (.tail _ (.tail _ (.head _))))⟩
    · intro t'
      exact Or.inr ⟨_, by kcf_m, rfl, _, rfl⟩
  case fin =>
    rintro ys nw ⟨tl, rfl, hW⟩
    unfold FinA
    intro D h tk FF NN o1
    rw [List.take_of_length_le (by simpa using Nat.le_of_eq (IntsAre.length hDr).symm)] at hW
    simp only [List.cons_append, List.nil_append] at NN
    (try dsimp only)
    (try k_fold)
    simp only [← hdr] at *
    walk_at "my steps"
    obtain ⟨fl, pc, ht, hv, e1, e2, e3, hH, NL⟩ := name_ledger (tl := tl) (by with_reducible assumption : IntsAre _ (List.map _ dr)) (by with_reducible assumption) (by k_mem) (by k_mem : (D, lst ys) ∈ _) (by k_mem) (by intro p hp; repeat (first | exact hp | refine List.Mem.tail _ ?_))
    subst e1 e2 e3
    rename Fr _ _ _ _ => lF'
    rename News _ _ _ _ => lN'
    clear lN'
    have hfl := below_fl (by with_reducible assumption : _ ∧ _ ∧ _ ∧ _ ∧ _ ∧ _ ∧ _ ∧ _ ∧ _ ∧ AllLt fl tl)
    refine' ksw_while (σ := WS) (fun c => (fl, W.listOf c.xs.toArray c.nn) :: (pc, lst ys) :: (ht, lst hv) :: (tl ++ c.own)) (fun c => [(Str.ofString "left", .int c.l c.t1), (Str.ofString "right", .int ((c.e : Int) - 1) c.t2), (Str.ofString "level", .int (1048576 * c.W) c.t3)]) (fun _ => True)
      [Str.ofString "reply", Str.ofString "told", Str.ofString "flags", Str.ofString "back", Str.ofString "hue", Str.ofString "light", Str.ofString "share", Str.ofString "turn", Str.ofString "front", Str.ofString "way"]
      (WP fl (dr.map fun k' => k'.fmod 64)) (fun c => c.e - c.l) ⟨0, dr.length, 0, _, _, _, [], 0, []⟩ lF' NL trivial ?kk ?kp ?turn
    case kk => kst_all
    case kp => exact wp_start' (fun y hy => (fmod_list y hy).1) hlen.2
    case turn =>
      rintro ⟨l, e, W, t1, t2, t3, xs, nn, own⟩ u h2 tk2 - hP F N
      clear lF' NL
      dsimp only at F N ⊢
      k_fold
      have hen := hP.mid.en
      rw [List.length_map] at hen
      dsimp only at hen
      walk_at "my steps"
      · refine rest_of (TextInv _ ((dr.drop l).take (e - l))) ?fin ?step _ _ _ _ (Nat.zero_add _) TextInv.start
        case step =>
          rintro i ys' nw hi ⟨rfl, hS⟩ v I oI C oC D m₂ h tk E' hv hC hx FF NN off ne
          obtain ⟨x, a, c, tt, ws, rfl, hxi, ma, mc, hb⟩ := WallsAre.get (by with_reducible assumption : WallsAre _ _ (List.take _ _)) (by simpa using hv)
          have N8 := more1 NN (.tail _ (.tail _ (.tail _ (.tail _ (.tail _ (.tail _ (.tail _ (List.mem_append.mpr (.inl ma))))))))) 
          clear NN
          walk_at "my steps"
          refine LCg.CompEnd.intro (by assumption) (by assumption) _ (fun p hp => .tail _ hp) off ?_ (TextInv.next hS hxi)
          exact Or.inr ⟨_, .head _, rfl, _, rfl⟩
        case fin =>
          rintro ys' nw ⟨rfl, hS⟩
          have hlt : l < e := by omega
          obtain ⟨x0, xl, r, r', c1, c2, cx0, cxl, clen⟩ := cut_ends hlt hen
          have ok0 : ReplyOk (replyS dr.sum ((dr.drop l).take (e - l))) x0 xl := reply_ok c1 c2 (by omega)
          have tf := turn_facts hP hlt cx0 cxl
          dsimp only at tf
          rw [List.take_of_length_le (by rw [List.size_toArray, WallsAre.length (by with_reducible assumption : WallsAre _ _ (List.take _ _))]; exact Nat.le_refl _)] at hS
          clear c1 c2
          unfold FinE
          intro D h tk FF NN o1
          (try dsimp only)
          (try k_fold)
          walk_at "my steps"
          rename News _ _ _ _ => NZ
          have NY := drop8 NZ
          clear NZ
          rename TurnOk _ _ _ _ => tok
          obtain ⟨tfr, tfl, tlv, tfi⟩ := tok
          dsimp only at tfr tfl tlv tfi
          walk_at "front steps"
          refine bool_join (decide (x0.fmod 64 ≤ xl.fmod 64)) ?one fun k8 => ?_
          case one =>
            walk_at "float steps"
            · exact congrArg Value.bool (leaf1 tfr (by with_reducible assumption))
            · exact congrArg Value.bool (leaf2 tfr (by with_reducible assumption) (by with_reducible assumption))
            · exact congrArg Value.bool (leaf3 tfr (by with_reducible assumption) (by with_reducible assumption))
          walk_at "float steps"
          all_goals first
            | (refine' round_F rfl tfr tlv tfi (tfr.trans (decide_eq_true (by with_reducible assumption))) ?hx ?_; (case hx => (simp only [pow26]; with_unfolding_all rfl)); intro hFB t9 k9)
            | (refine' round_B rfl tfr tlv tfi (tfr.trans (decide_eq_false (by with_reducible assumption))) ?hx ?_; (case hx => (simp only [pow26]; with_unfolding_all rfl)); intro hFB t9 k9)
          · walk_at "end steps"
            rename News _ _ _ _ => nE'
            have hTT := And.left (by with_reducible assumption : _ ∧ _ ∧ _ ∧ AllLt _ (_ ++ own))
            refine ksw_end (⟨l + 1, e, max W (min (x0.fmod 64) (xl.fmod 64)), _, _, _, _, _, _⟩ : WS) (by with_reducible assumption) nE' led_sub trivial (by kst_all) (by walk_at "my same") ?hp ?hm
            case hp => exact WP.nextF hP hlt tf hFB (tfl.trans (if_pos hFB)) hTT
            case hm => exact less_F hlt
          · walk_at "end steps"
            rename News _ _ _ _ => nE'
            have hTT := And.left (by with_reducible assumption : _ ∧ _ ∧ _ ∧ AllLt _ (_ ++ own))
            refine ksw_end (⟨l, e - 1, max W (min (x0.fmod 64) (xl.fmod 64)), _, _, _, _, _, _⟩ : WS) (by with_reducible assumption) nE' led_sub trivial (by (try dsimp only); rw [cast_B hlt]; kst_all) (by walk_at "my same") ?hp ?hm
            case hp => exact WP.nextB hP hlt tf hFB (tfl.trans (if_neg hFB)) hTT (cast_B2 hlt)
            case hm => exact less_B hlt
      · refine' due_call (G := ⟨?g1, ?g2, ?g3, ?g4, ?g5, below_caller _⟩) ⟨rfl, rfl⟩ ?F (due_news ?N) ?hI ?h4 ?h10 ?hy ?hne ?_
        case g1 => assumption
        case g2 => assumption
        case g3 => assumption
        case g4 => assumption
        case g5 => assumption
        case F => k_asm
        case N => k_asm
        case hI => assumption
        case h4 => rw [List.length_map]; omega
        case h10 => rw [List.length_map]; omega
        case hy => exact fmod_list
        case hne => exact own_off hP hfl.2.1
        intro D' h' tk' xs' tl' r' hp' hu' hD' F' N' N2'
        obtain ⟨lfin, hA, hB⟩ := hP.due fmod_list (by rw [List.length_map]; omega) (by assumption) hp' hu' hD'
        refine end_eq N2' N' (.head _) (.head _) hA hB (fun p hp => .tail _ hp) (fun p hp => .tail _ (.tail _ hp)) ?hu ?_
        case hu => ke_room
        walk_at "my steps")
end Mine
end
theorem PySem.Challenge.cw_wu0002_01_holds : PySem.Challenge.rw_wu0002_01.Holds := by
  exact Mine.law_ok
