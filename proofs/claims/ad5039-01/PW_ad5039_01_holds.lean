import PyProof.Rows.All
import Wide.All
import OpenK.AllK
import Wide.FinOn
import Lean
import PySem.Challenge.RW_ad5039_01
open PySem PySem.W PyProof.Rows
set_option Elab.async false
set_option linter.all false
set_option rowWalk.seconds 0
set_option maxRecDepth 100000
set_option maxHeartbeats 8000000
namespace Mine
open PySem.Float64

def IsF (x : UInt64) : Prop := ∃ a m e, decode x = .fin a m e
/-- the unit: 2 ^ 1074 -/
def UU : Int := 2 ^ 1074
theorem UU_pos : (0 : Int) < UU := Int.pow_pos (by decide)
theorem UU_nat : UU = ((2 ^ 1074 : Nat) : Int) := by unfold UU; rw [Int.natCast_pow]; rfl
theorem UU_split {j : Nat} (h : j ≤ 1074) : UU = 2 ^ (1074 - j) * 2 ^ j := by
  unfold UU; rw [← Int.pow_add, Nat.sub_add_cancel h]

def Rp (Z : Int) : Prop := ∃ s t, Z = sgn s (V t)
theorem rp_nat {n e : Nat} (h : n ≤ 2 ^ 53) : ∃ t, V t = n * 2 ^ e := by
  by_cases h0 : n = 0
  · subst h0; exact ⟨0, by rw [V_zero, Nat.zero_mul]⟩
  by_cases hs : n * 2 ^ e ≤ 2 ^ 53
  · exact ⟨0 * 2 ^ 52 + n * 2 ^ e, by rw [V_at hs (.inr rfl), Nat.pow_zero, Nat.mul_one]⟩
  · by_cases hb : n = 2 ^ 53
    · exact ⟨e * 2 ^ 52 + n, V_at h (.inl (by omega))⟩
    have hl : 2 ^ n.log2 ≤ n := Nat.log2_self_le h0
    have hu : n < 2 ^ (n.log2 + 1) := Nat.lt_log2_self
    have hlt : n.log2 < 53 := (Nat.log2_lt h0).mpr (by omega)
    have hi : 52 - n.log2 ≤ e := by
      by_cases q : 52 - n.log2 ≤ e
      · exact q
      · exfalso; apply hs
        have : n * 2 ^ e ≤ 2 ^ (n.log2 + 1) * 2 ^ e := Nat.mul_le_mul_right _ (Nat.le_of_lt hu)
        rw [← Nat.pow_add] at this
        exact Nat.le_trans this (Nat.pow_le_pow_right (by decide) (by omega))
    have hq1 : n * 2 ^ (52 - n.log2) ≤ 2 ^ 53 := by
      have : n * 2 ^ (52 - n.log2) ≤ 2 ^ (n.log2 + 1) * 2 ^ (52 - n.log2) := Nat.mul_le_mul_right _ (Nat.le_of_lt hu)
      rw [← Nat.pow_add] at this
      exact Nat.le_trans this (Nat.pow_le_pow_right (by decide) (by omega))
    have hq2 : 2 ^ 52 ≤ n * 2 ^ (52 - n.log2) := by
      have : 2 ^ n.log2 * 2 ^ (52 - n.log2) ≤ n * 2 ^ (52 - n.log2) := Nat.mul_le_mul_right _ hl
      rw [← Nat.pow_add] at this
      exact Nat.le_trans (Nat.pow_le_pow_right (by decide) (by omega)) this
    refine ⟨(e - (52 - n.log2)) * 2 ^ 52 + n * 2 ^ (52 - n.log2), ?_⟩
    rw [V_at hq1 (.inl hq2), Nat.mul_assoc, ← Nat.pow_add]
    congr 2; omega
theorem rp_of {n : Int} {e : Nat} (h : n.natAbs ≤ 2 ^ 53) : Rp (n * 2 ^ e) := by
  obtain ⟨t, ht⟩ := rp_nat (e := e) h
  by_cases hn : n < 0
  · refine ⟨true, t, ?_⟩
    unfold sgn
    simp only [if_true]
    rw [ht, Int.natCast_mul, Int.natCast_pow]
    have : (n.natAbs : Int) = -n := by omega
    rw [this, Int.neg_mul, Int.neg_neg]; rfl
  · refine ⟨false, t, ?_⟩
    unfold sgn
    simp only [Bool.false_eq_true, if_false]
    rw [ht, Int.natCast_mul, Int.natCast_pow]
    have : (n.natAbs : Int) = n := by omega
    rw [this]; rfl
theorem rp_U {n : Int} {j : Nat} (hj : j ≤ 1074) (h : n.natAbs ≤ 2 ^ 53) : Rp (n * 2 ^ (1074 - j)) := rp_of h
theorem rp_U0 {n : Int} (h : n.natAbs ≤ 2 ^ 53) : Rp (n * UU) := by unfold UU; exact rp_of h

/-- the rounded result is nearest -/
theorem near_of_right {r : UInt64} {neg : Bool} {W D : Nat} (R : Right r neg W D) (hno : 2 * W < D * ((2 ^ 54 - 1) * 2 ^ 2045)) :
    IsF r ∧ ∀ Z, Rp Z → ((D : Int) * val r - sgn neg W).natAbs ≤ ((D : Int) * Z - sgn neg W).natAbs := by
  obtain ⟨t, rfl, hle, hiff, hn⟩ := R
  have hlt : t < infMag := by
    rcases Nat.lt_or_ge t infMag with h | h
    · exact h
    · have := hiff.mp (Nat.le_antisymm hle h); omega
  obtain ⟨m, e, hd, _⟩ := decode_pack neg hlt
  refine ⟨⟨neg, m, e, hd⟩, fun Z hZ => ?_⟩
  rw [val_pack neg hlt]
  obtain ⟨s, t', rfl⟩ := hZ
  have h1 := (hn hlt t').1
  have h0 := (hn hlt 0).1
  rw [V_zero, Nat.mul_zero] at h0
  unfold dist at h0 h1
  have e1 : ∀ v : Nat, (D : Int) * (v : Int) = ((D * v : Nat) : Int) := fun v => by rw [Int.natCast_mul]
  have e2 : ∀ v : Nat, (D : Int) * -(v : Int) = -((D * v : Nat) : Int) := fun v => by rw [Int.mul_neg, Int.natCast_mul]
  unfold sgn
  cases neg <;> cases s <;> simp only [if_true, Bool.false_eq_true, if_false, e1, e2] <;> omega

/-- nearness, as the words below take it -/
def Nr (D : Int) (v Ws : Int) : Prop := 0 < D ∧ ∀ Z, Rp Z → (D * v - Ws).natAbs ≤ (D * Z - Ws).natAbs
theorem Nr.ge {D v Ws L : Int} (N : Nr D v Ws) (hL : Rp L) (h : D * L ≤ Ws) : L ≤ v := by
  have h1 := N.2 L hL
  rcases Int.lt_or_le v L with q | q
  · have := Int.mul_lt_mul_of_pos_left q N.1
    omega
  · exact q
theorem Nr.le {D v Ws L : Int} (N : Nr D v Ws) (hL : Rp L) (h : Ws ≤ D * L) : v ≤ L := by
  have h1 := N.2 L hL
  rcases Int.lt_or_le L v with q | q
  · have := Int.mul_lt_mul_of_pos_left q N.1
    omega
  · exact q
theorem Nr.lt {D v Ws L B : Int} (N : Nr D v Ws) (hL : Rp L) (hB : L < B) (h : 2 * Ws < D * L + D * B) : v < B := by
  have h1 := N.2 L hL
  rcases Int.lt_or_le v B with q | q
  · exact q
  · have := Int.mul_le_mul_of_nonneg_left q (Int.le_of_lt N.1)
    have := Int.mul_lt_mul_of_pos_left hB N.1
    omega
theorem Nr.gt {D v Ws L B : Int} (N : Nr D v Ws) (hL : Rp L) (hB : B < L) (h : D * L + D * B < 2 * Ws) : B < v := by
  have h1 := N.2 L hL
  rcases Int.lt_or_le B v with q | q
  · exact q
  · have := Int.mul_le_mul_of_nonneg_left q (Int.le_of_lt N.1)
    have := Int.mul_lt_mul_of_pos_left hB N.1
    omega
theorem Nr.eq {D v Ws L : Int} (N : Nr D v Ws) (hL : Rp L) (h : Ws = D * L) : v = L :=
  Int.le_antisymm (N.le hL (Int.le_of_eq h)) (N.ge hL (Int.le_of_eq h.symm))

theorem big_room : (2 : Nat) * 2 ^ 1200 < (2 ^ 54 - 1) * 2 ^ 2045 := by decide +kernel
/-- no overflow while the quotient is below 2 ^ 1200 units -/
theorem room {W D : Nat} (hD : 0 < D) (h : W ≤ D * 2 ^ 1200) : 2 * W < D * ((2 ^ 54 - 1) * 2 ^ 2045) := by
  have h2 : D * (2 * 2 ^ 1200) < D * ((2 ^ 54 - 1) * 2 ^ 2045) := Nat.mul_lt_mul_of_pos_left big_room hD
  have e : D * (2 * 2 ^ 1200) = 2 * (D * 2 ^ 1200) := by rw [← Nat.mul_assoc, Nat.mul_comm D 2, Nat.mul_assoc]
  omega
end Mine

namespace Mine
open PySem.Float64

theorem pow1074 : ((2 ^ 1074 : Nat) : Int) = UU := UU_nat.symm
theorem sgn_mul2 (a b : Bool) (m k : Nat) : sgn (a != b) (m * k) = sgn a m * sgn b k := by
  unfold sgn
  cases a <;> cases b <;> simp [Int.natCast_mul, Int.neg_mul, Int.mul_neg]

theorem add_val {x y : UInt64} (hx : IsF x) (hy : IsF y) (hR : Rp (val x + val y)) (hs : (val x + val y).natAbs ≤ 2 ^ 1200) :
    IsF (add x y) ∧ val (add x y) = val x + val y := by
  obtain ⟨a, m, e, hd⟩ := hx
  obtain ⟨b, k, f, hd'⟩ := hy
  obtain ⟨h0, h1⟩ := add_right hd hd'
  by_cases hz : val x + val y = 0
  · rw [h0 hz, hz]
    have hlt : 0 < infMag := by decide
    obtain ⟨m', e', h', _⟩ := decode_pack (a && b) hlt
    refine ⟨⟨_, _, _, h'⟩, ?_⟩
    show val (pack (a && b) 0) = 0
    rw [val_pack _ hlt, V_zero]
    cases (a && b) <;> rfl
  · obtain ⟨hf, hn⟩ := near_of_right (h1 hz) (room (by decide) (by omega))
    refine ⟨hf, ?_⟩
    have e1 : sgn (decide (val x + val y < 0)) (val x + val y).natAbs = val x + val y := by
      unfold sgn
      by_cases q : val x + val y < 0
      · rw [decide_eq_true q]; simp only [if_true]; omega
      · rw [decide_eq_false q]; simp only [Bool.false_eq_true, if_false]; omega
    rw [e1] at hn
    exact Nr.eq (D := 1) ⟨by decide, fun Z hZ => hn Z hZ⟩ hR (by rw [Int.one_mul])
theorem neg_isF {y : UInt64} (hy : IsF y) : IsF (neg y) ∧ val (neg y) = -val y := by
  obtain ⟨b, k, f, hd⟩ := hy
  exact ⟨⟨_, _, _, neg_decode hd⟩, neg_val hd⟩
theorem sub_val {x y : UInt64} (hx : IsF x) (hy : IsF y) (hR : Rp (val x - val y)) (hs : (val x - val y).natAbs ≤ 2 ^ 1200) :
    IsF (sub x y) ∧ val (sub x y) = val x - val y := by
  have h := neg_isF hy
  have := add_val hx h.1 (by rw [h.2, ← Int.sub_eq_add_neg]; exact hR) (by rw [h.2, ← Int.sub_eq_add_neg]; exact hs)
  rw [h.2, ← Int.sub_eq_add_neg] at this
  unfold Float64.sub
  exact this
theorem mul_nr {x y : UInt64} (hx : IsF x) (hy : IsF y) (hs : (val x * val y).natAbs ≤ 2 ^ 1074 * 2 ^ 1200) :
    IsF (mul x y) ∧ Nr UU (val (mul x y)) (val x * val y) := by
  obtain ⟨a, m, e, hd⟩ := hx
  obtain ⟨b, k, f, hd'⟩ := hy
  rw [Int.natAbs_mul] at hs
  obtain ⟨hf, hn⟩ := near_of_right (mul_right hd hd') (room (Nat.two_pow_pos _) hs)
  refine ⟨hf, UU_pos, ?_⟩
  have e1 : sgn (a != b) ((val x).natAbs * (val y).natAbs) = val x * val y := by
    rw [val_natAbs hd, val_natAbs hd', sgn_mul2, ← val_eq hd, ← val_eq hd']
  rw [e1, pow1074] at hn
  exact hn
theorem div_nr {x y : UInt64} (hx : IsF x) (hy : IsF y) (hp : 0 < val y) (hs : (val x).natAbs * 2 ^ 1074 ≤ (val y).natAbs * 2 ^ 1200) :
    IsF (div x y) ∧ Nr (val y) (val (div x y)) (val x * UU) := by
  obtain ⟨a, m, e, hd⟩ := hx
  obtain ⟨b, k, f, hd'⟩ := hy
  have hb : b = false := by
    cases b
    · rfl
    · rw [val_eq hd'] at hp; unfold sgn at hp; simp only [if_true] at hp; omega
  have hk : k ≠ 0 := by
    rintro rfl
    rw [val_eq hd'] at hp; unfold sgn at hp; rw [hb] at hp; simp at hp
  obtain ⟨hf, hn⟩ := near_of_right (div_right hd hd' hk) (room (by omega) hs)
  refine ⟨hf, hp, ?_⟩
  have e1 : sgn (a != b) ((val x).natAbs * 2 ^ 1074) = val x * UU := by
    rw [hb, Bool.bne_false, sgn_mul, val_natAbs hd, ← val_eq hd, pow1074]
  have e2 : (((val y).natAbs : Nat) : Int) = val y := by omega
  rw [e1, e2] at hn
  exact hn
/-- int / int -/
theorem frac_nr {a b : Int} (hb : 0 < b) (hs : a.natAbs * 2 ^ 1074 ≤ b.natAbs * 2 ^ 1200) :
    IsF (ofFrac (decide (a < 0) != decide (b < 0)) a.natAbs b.natAbs) ∧ Nr b (val (ofFrac (decide (a < 0) != decide (b < 0)) a.natAbs b.natAbs)) (a * UU) := by
  have hb0 : decide (b < 0) = false := decide_eq_false (by omega)
  have R : Right (ofFrac (decide (a < 0) != decide (b < 0)) a.natAbs b.natAbs) (decide (a < 0) != decide (b < 0)) (a.natAbs * 2 ^ 1074) b.natAbs :=
    ofFrac_right (by omega) rfl (by omega)
  rw [hb0, Bool.bne_false] at R ⊢
  obtain ⟨hf, hn⟩ := near_of_right R (room (by omega) hs)
  refine ⟨hf, hb, ?_⟩
  have e1 : sgn (decide (a < 0)) (a.natAbs * 2 ^ 1074) = a * UU := by
    rw [sgn_mul, pow1074]
    congr 1
    unfold sgn
    by_cases q : a < 0
    · rw [decide_eq_true q]; simp only [if_true]; omega
    · rw [decide_eq_false q]; simp only [Bool.false_eq_true, if_false]; omega
  have e2 : ((b.natAbs : Nat) : Int) = b := by omega
  rw [e1, e2] at hn
  exact hn
theorem ofInt_val {i : Int} (h : i.natAbs ≤ 2 ^ 53) : IsF (ofInt i) ∧ val (ofInt i) = i * UU := by
  have R := ofInt_right i
  have hs : i.natAbs * 2 ^ 1074 ≤ 1 * 2 ^ 1200 := by
    rw [Nat.one_mul]
    exact Nat.le_trans (Nat.mul_le_mul_right _ h) (by decide +kernel)
  obtain ⟨hf, hn⟩ := near_of_right R (room (by decide) hs)
  refine ⟨hf, ?_⟩
  have e1 : sgn (decide (i < 0)) (i.natAbs * 2 ^ 1074) = i * UU := by
    rw [sgn_mul, pow1074]
    congr 1
    unfold sgn
    by_cases q : i < 0
    · rw [decide_eq_true q]; simp only [if_true]; omega
    · rw [decide_eq_false q]; simp only [Bool.false_eq_true, if_false]; omega
  rw [e1] at hn
  exact Nr.eq (D := 1) ⟨by decide, fun Z hZ => hn Z hZ⟩ (rp_U0 h) (by rw [Int.one_mul])

/-- the value is A / 2 ^ k -/
def Fx (k : Nat) (x : UInt64) (A : Int) : Prop := IsF x ∧ val x * 2 ^ k = A * UU
theorem pow2_pos (k : Nat) : (0 : Int) < 2 ^ k := Int.pow_pos (by decide)
theorem Fx.val {k : Nat} {x : UInt64} {A : Int} (h : Fx k x A) (hk : k ≤ 1074) : Float64.val x = A * 2 ^ (1074 - k) := by
  have := h.2
  rw [UU_split hk, ← Int.mul_assoc] at this
  exact Int.eq_of_mul_eq_mul_right (Int.ne_of_gt (pow2_pos k)) this
theorem Fx.of_val {k : Nat} {x : UInt64} {A : Int} (hf : IsF x) (hk : k ≤ 1074) (h : Float64.val x = A * 2 ^ (1074 - k)) : Fx k x A :=
  ⟨hf, by rw [h, UU_split hk, Int.mul_assoc]⟩
theorem small_of {A : Int} {j : Nat} (h : A.natAbs ≤ 2 ^ 53) (hj : j ≤ 1074) : (A * 2 ^ j).natAbs ≤ 2 ^ 1200 := by
  rw [Int.natAbs_mul, Int.natAbs_pow]
  have e : (2 : Int).natAbs = 2 := rfl
  rw [e]
  refine Nat.le_trans (Nat.mul_le_mul h (Nat.pow_le_pow_right (by decide) hj)) ?_
  decide +kernel
theorem Fx.add {k : Nat} {x y : UInt64} {A B : Int} (hx : Fx k x A) (hy : Fx k y B) (hk : k ≤ 1074) (h : (A + B).natAbs ≤ 2 ^ 53) : Fx k (add x y) (A + B) := by
  have e : Float64.val x + Float64.val y = (A + B) * 2 ^ (1074 - k) := by rw [hx.val hk, hy.val hk, Int.add_mul]
  have := add_val hx.1 hy.1 (by rw [e]; exact rp_of h) (by rw [e]; exact small_of h (by omega))
  exact Fx.of_val this.1 hk (this.2.trans e)
theorem Fx.sub {k : Nat} {x y : UInt64} {A B : Int} (hx : Fx k x A) (hy : Fx k y B) (hk : k ≤ 1074) (h : (A - B).natAbs ≤ 2 ^ 53) : Fx k (sub x y) (A - B) := by
  have e : Float64.val x - Float64.val y = (A - B) * 2 ^ (1074 - k) := by rw [hx.val hk, hy.val hk, Int.sub_mul]
  have := sub_val hx.1 hy.1 (by rw [e]; exact rp_of h) (by rw [e]; exact small_of h (by omega))
  exact Fx.of_val this.1 hk (this.2.trans e)
theorem Fx.ofInt {i : Int} (h : i.natAbs ≤ 2 ^ 53) : Fx 0 (ofInt i) i := by
  obtain ⟨h1, h2⟩ := ofInt_val h
  exact ⟨h1, by rw [h2, Int.pow_zero, Int.mul_one]⟩
theorem Fx.up {k : Nat} {x : UInt64} {A : Int} (h : Fx k x A) (j : Nat) : Fx (k + j) x (A * 2 ^ j) :=
  ⟨h.1, by rw [Int.pow_add, ← Int.mul_assoc, h.2, Int.mul_right_comm]⟩
theorem Fx.mul {k j : Nat} {x y : UInt64} {A B : Int} (hx : Fx k x A) (hy : Fx j y B) (hk : k + j ≤ 1074) (h : (A * B).natAbs ≤ 2 ^ 53) : Fx (k + j) (mul x y) (A * B) := by
  have e : Float64.val x * Float64.val y = UU * (A * B * 2 ^ (1074 - (k + j))) := by
    rw [hx.val (by omega), hy.val (by omega)]
    have e1 : (2 : Int) ^ (1074 - k) * 2 ^ (1074 - j) = UU * 2 ^ (1074 - (k + j)) := by
      rw [← Int.pow_add, UU_split (j := k + j) hk, Int.mul_right_comm, ← Int.pow_add, Int.mul_comm, ← Int.pow_add]
      have e9 : 1074 - k + (1074 - j) = k + j + (1074 - (k + j) + (1074 - (k + j))) := by omega
      rw [e9]
    calc A * 2 ^ (1074 - k) * (B * 2 ^ (1074 - j)) = A * B * (2 ^ (1074 - k) * 2 ^ (1074 - j)) := by ac_rfl
      _ = A * B * (UU * 2 ^ (1074 - (k + j))) := by rw [e1]
      _ = _ := by rw [Int.mul_left_comm]
  obtain ⟨hf, hn⟩ := mul_nr hx.1 hy.1 (by
    rw [e, Int.natAbs_mul]
    have e2 : UU.natAbs = 2 ^ 1074 := by rw [UU_nat]; exact Int.natAbs_natCast _
    rw [e2]
    exact Nat.mul_le_mul_left _ (small_of h (by omega)))
  exact Fx.of_val hf hk (hn.eq (rp_of h) e)
theorem isF_of {x : UInt64} {s : Bool} {m : Nat} {e : Int} (h : decode x = .fin s m e) : IsF x := ⟨s, m, e, h⟩
end Mine

namespace Mine
open PySem.Float64

def Flo (z : UInt64) (n : Int) : Prop := IsF z ∧ n * UU ≤ val z ∧ val z < (n + 1) * UU
def Cei (z : UInt64) (n : Int) : Prop := IsF z ∧ (n - 1) * UU < val z ∧ val z ≤ n * UU

theorem mul_lt_cancel {a b c : Int} (hc : 0 < c) (h : a * c < b * c) : a < b := by
  rcases Int.lt_or_le a b with q | q
  · exact q
  · have := Int.mul_le_mul_of_nonneg_right q (Int.le_of_lt hc); omega
theorem mul_le_cancel {a b c : Int} (hc : 0 < c) (h : a * c ≤ b * c) : a ≤ b := by
  rcases Int.lt_or_le b a with q | q
  · have := Int.mul_lt_mul_of_pos_right q hc; omega
  · exact q

theorem Nr.flo {D v Ws n : Int} {j : Nat} (N : Nr D v Ws) (hj : j ≤ 1074) (hn : n.natAbs ≤ 2 ^ 53) (hu : ((n + 1) * 2 ^ j - 1).natAbs ≤ 2 ^ 53)
    (h1 : D * (n * UU) ≤ Ws) (h2 : 2 * Ws * 2 ^ j < D * ((2 * ((n + 1) * 2 ^ j) - 1) * UU)) : n * UU ≤ v ∧ v < (n + 1) * UU := by
  refine ⟨N.ge (rp_U0 hn) h1, N.lt (rp_of (e := 1074 - j) hu) ?_ ?_⟩
  · refine mul_lt_cancel (pow2_pos j) ?_
    rw [Int.mul_assoc, ← UU_split hj, Int.mul_right_comm]
    exact Int.mul_lt_mul_of_pos_right (by omega) UU_pos
  · refine mul_lt_cancel (pow2_pos j) ?_
    have e : (D * (((n + 1) * 2 ^ j - 1) * 2 ^ (1074 - j)) + D * ((n + 1) * UU)) * 2 ^ j = D * ((2 * ((n + 1) * 2 ^ j) - 1) * UU) := by
      rw [Int.add_mul, Int.mul_assoc D, Int.mul_assoc D, ← Int.mul_add, Int.mul_assoc _ _ (2 ^ j), ← UU_split hj, Int.mul_right_comm _ UU, ← Int.add_mul]
      congr 2; omega
    rw [e]; exact h2
theorem Nr.cei {D v Ws n : Int} {j : Nat} (N : Nr D v Ws) (hj : j ≤ 1074) (hn : n.natAbs ≤ 2 ^ 53) (hu : ((n - 1) * 2 ^ j + 1).natAbs ≤ 2 ^ 53)
    (h1 : Ws ≤ D * (n * UU)) (h2 : D * ((2 * ((n - 1) * 2 ^ j) + 1) * UU) < 2 * Ws * 2 ^ j) : (n - 1) * UU < v ∧ v ≤ n * UU := by
  refine ⟨N.gt (rp_of (e := 1074 - j) hu) ?_ ?_, N.le (rp_U0 hn) h1⟩
  · refine mul_lt_cancel (pow2_pos j) ?_
    rw [Int.mul_assoc _ (2 ^ (1074 - j)) (2 ^ j), ← UU_split hj, Int.mul_right_comm]
    exact Int.mul_lt_mul_of_pos_right (by omega) UU_pos
  · refine mul_lt_cancel (pow2_pos j) ?_
    have e : (D * (((n - 1) * 2 ^ j + 1) * 2 ^ (1074 - j)) + D * ((n - 1) * UU)) * 2 ^ j = D * ((2 * ((n - 1) * 2 ^ j) + 1) * UU) := by
      rw [Int.add_mul, Int.mul_assoc D, Int.mul_assoc D, ← Int.mul_add, Int.mul_assoc _ _ (2 ^ j), ← UU_split hj, Int.mul_right_comm _ UU, ← Int.add_mul]
      congr 2; omega
    rw [e]; exact h2

theorem quot_e1 (D n U B : Int) : D * (n * U) * B = (n * B) * (U * D) := by ac_rfl
theorem quot_e2 (W p B : Int) : 2 * W * p * B = 2 * p * (W * B) := by ac_rfl
theorem quot_e3 (A U D p : Int) : 2 * p * (A * U * D) = 2 * A * p * (U * D) := by ac_rfl
theorem quot_e4 (q B U D : Int) : q * B * (U * D) = D * (q * U) * B := by ac_rfl
/-- floor of the rounded quotient A / B is A / B -/
theorem Nr.quot {D v Ws A B : Int} (N : Nr D v Ws) (hB : 0 < B) (hW : Ws * B = A * UU * D) (hs : A.natAbs + 2 * B.natAbs ≤ 2 ^ 53) :
    (A / B) * UU ≤ v ∧ v < (A / B + 1) * UU := by
  have hD := N.1
  have hmod := Int.emod_add_mul_ediv A B
  have hr0 := Int.emod_nonneg A (Int.ne_of_gt hB)
  have hr1 := Int.emod_lt_of_pos A hB
  generalize hn : A / B = n at *
  generalize A % B = r at *
  have hle : n * B ≤ A := by rw [Int.mul_comm]; omega
  have hlt : A + 1 ≤ (n + 1) * B := by rw [Int.add_mul, Int.one_mul, Int.mul_comm]; omega
  have hl : (2 : Nat) ^ B.natAbs.log2 ≤ B.natAbs := Nat.log2_self_le (by omega)
  have hl2 : B.natAbs < (2 : Nat) ^ (B.natAbs.log2 + 1) := Nat.lt_log2_self
  have hj53 : B.natAbs.log2 < 53 := (Nat.log2_lt (by omega)).mpr (by omega)
  generalize B.natAbs.log2 = j at *
  have hjI : (2 : Int) ^ j ≤ B := by
    have : ((2 ^ j : Nat) : Int) ≤ (B.natAbs : Int) := Int.ofNat_le.mpr hl
    rw [Int.natCast_pow] at this
    have e : ((2 : Nat) : Int) = 2 := rfl
    rw [e] at this; omega
  have hjI2 : B < 2 * (2 : Int) ^ j := by
    have : (B.natAbs : Int) < ((2 ^ (j + 1) : Nat) : Int) := Int.ofNat_lt.mpr hl2
    rw [Int.natCast_pow, Int.pow_succ] at this
    have e : ((2 : Nat) : Int) = 2 := rfl
    rw [e] at this; omega
  have hp := pow2_pos j
  have hnabs : -((A.natAbs : Int)) - B ≤ n * B ∧ n * B ≤ A.natAbs := by
    rw [Int.add_mul, Int.one_mul] at hlt
    constructor <;> omega
  have hn53 : n.natAbs ≤ 2 ^ 53 := by
    have h1 : n.natAbs * 1 ≤ n.natAbs * B.natAbs := Nat.mul_le_mul_left _ (by omega)
    rw [← Int.natAbs_mul, Nat.mul_one] at h1
    omega
  have hu53 : ((n + 1) * 2 ^ j - 1).natAbs ≤ 2 ^ 53 := by
    have hb : (n + 1) * B ≤ A.natAbs + B ∧ -((A.natAbs : Int)) ≤ (n + 1) * B := by
      rw [Int.add_mul, Int.one_mul] at hlt ⊢
      constructor <;> omega
    rcases Int.lt_or_le (n + 1) 0 with q | q
    · have h1 : (n + 1) * B ≤ (n + 1) * 2 ^ j := Int.mul_le_mul_of_nonpos_left (by omega) hjI
      have h2 : (n + 1) * 2 ^ j ≤ 0 := Int.mul_nonpos_of_nonpos_of_nonneg (by omega) (by omega)
      omega
    · have h1 : (n + 1) * 2 ^ j ≤ (n + 1) * B := Int.mul_le_mul_of_nonneg_left hjI q
      have h2 : 0 ≤ (n + 1) * 2 ^ j := Int.mul_nonneg q (by omega)
      omega
  refine N.flo (j := j) (by omega) hn53 hu53 ?_ ?_
  · refine mul_le_cancel hB ?_
    rw [hW]
    calc D * (n * UU) * B = (n * B) * (UU * D) := quot_e1 _ _ _ _
      _ ≤ A * (UU * D) := Int.mul_le_mul_of_nonneg_right hle (Int.mul_nonneg (Int.le_of_lt UU_pos) (Int.le_of_lt hD))
      _ = A * UU * D := by rw [Int.mul_assoc]
  · refine mul_lt_cancel hB ?_
    have hUD : 0 < UU * D := Int.mul_pos UU_pos hD
    have key : 2 * A * 2 ^ j < (2 * ((n + 1) * 2 ^ j) - 1) * B := by
      have h1 : (A + 1) * 2 ^ j ≤ (n + 1) * B * 2 ^ j := Int.mul_le_mul_of_nonneg_right hlt (Int.le_of_lt hp)
      rw [Int.add_mul, Int.one_mul] at h1
      rw [Int.sub_mul, Int.one_mul, Int.mul_assoc 2, Int.mul_assoc 2, Int.mul_right_comm (n + 1)]
      omega
    calc 2 * Ws * 2 ^ j * B = 2 * 2 ^ j * (Ws * B) := quot_e2 _ _ _
      _ = 2 * A * 2 ^ j * (UU * D) := by rw [hW]; exact quot_e3 _ _ _ _
      _ < (2 * ((n + 1) * 2 ^ j) - 1) * B * (UU * D) := Int.mul_lt_mul_of_pos_right key hUD
      _ = D * ((2 * ((n + 1) * 2 ^ j) - 1) * UU) * B := quot_e4 _ _ _ _
theorem Nr.quotC {D v Ws A B : Int} (N : Nr D v Ws) (hB : 0 < B) (hW : Ws * B = A * UU * D) (hs : A.natAbs + 2 * B.natAbs ≤ 2 ^ 53) :
    (-((-A) / B) - 1) * UU < v ∧ v ≤ -((-A) / B) * UU := by
  have N' : Nr D (-v) (-Ws) := by
    refine ⟨N.1, fun Z hZ => ?_⟩
    have hZ' : Rp (-Z) := by
      obtain ⟨s, t, rfl⟩ := hZ
      exact ⟨!s, t, by rw [sgn_not]⟩
    have := N.2 _ hZ'
    rw [Int.mul_neg] at this ⊢
    omega
  have := N'.quot (A := -A) hB (by rw [Int.neg_mul, hW, Int.neg_mul, Int.neg_mul]) (by rw [Int.natAbs_neg]; exact hs)
  obtain ⟨h1, h2⟩ := this
  rw [Int.add_mul, Int.one_mul] at h2
  rw [Int.sub_mul, Int.one_mul, Int.neg_mul]
  constructor <;> omega

theorem pow_toNat {e : Int} (h : 0 ≤ e) : (2 : Int) ^ (e + 1074).toNat = 2 ^ e.toNat * UU := by
  unfold UU
  rw [← Int.pow_add]
  have e9 : (e + 1074).toNat = e.toNat + 1074 := by omega
  rw [e9]
theorem floorOf_is {s : Bool} {m : Nat} {e : Int} {n : Int} (he : -1074 ≤ e) (h1 : n * UU ≤ sgn s (m * 2 ^ (e + 1074).toNat)) (h2 : sgn s (m * 2 ^ (e + 1074).toNat) < (n + 1) * UU) : floorOf s m e = n := by
  rw [sgn_mul, Int.natCast_pow] at h1 h2
  have e2 : ((2 : Nat) : Int) = 2 := rfl
  rw [e2] at h1 h2
  unfold floorOf
  split
  · rename_i h0
    rw [pow_toNat h0, ← Int.mul_assoc] at h1 h2
    have := mul_le_cancel UU_pos h1
    have := mul_lt_cancel UU_pos h2
    omega
  · rename_i h0
    have hs : UU = 2 ^ (-e).toNat * 2 ^ (e + 1074).toNat := by
      unfold UU
      rw [← Int.pow_add]
      have e9 : (-e).toNat + (e + 1074).toNat = 1074 := by omega
      rw [e9]
    rw [hs, ← Int.mul_assoc] at h1 h2
    have a1 := mul_le_cancel (pow2_pos _) h1
    have a2 := mul_lt_cancel (pow2_pos _) h2
    rw [Int.fdiv_eq_ediv_of_nonneg _ (Int.le_of_lt (pow2_pos _))]
    have b1 := (Int.le_ediv_iff_mul_le (pow2_pos _)).mpr a1
    have b2 := (Int.ediv_lt_iff_lt_mul (pow2_pos _)).mpr a2
    omega
theorem ceilOf_is {s : Bool} {m : Nat} {e : Int} {n : Int} (he : -1074 ≤ e) (h1 : (n - 1) * UU < sgn s (m * 2 ^ (e + 1074).toNat)) (h2 : sgn s (m * 2 ^ (e + 1074).toNat) ≤ n * UU) : ceilOf s m e = n := by
  unfold ceilOf
  rw [floorOf_is (n := -n) he]
  · omega
  · rw [sgn_not, Int.neg_mul]; omega
  · rw [sgn_not]
    have : (-n + 1) * UU = -((n - 1) * UU) := by rw [← Int.neg_mul]; congr 1; omega
    omega
theorem toInt_fin {f : Bool → Nat → Int → Int} {x : UInt64} {s : Bool} {m : Nat} {e : Int} (h : decode x = .fin s m e) : Flt.toInt f x = f s m e := by
  unfold Flt.toInt; rw [h]
theorem Flo.floor {z : UInt64} {n : Int} (h : Flo z n) : Flt.toInt floorOf z = n := by
  obtain ⟨⟨s, m, e, hd⟩, h1, h2⟩ := h
  rw [toInt_fin hd]
  rw [val_eq hd] at h1 h2
  exact floorOf_is (decode_ge hd) h1 h2
theorem Cei.ceil {z : UInt64} {n : Int} (h : Cei z n) : Flt.toInt ceilOf z = n := by
  obtain ⟨⟨s, m, e, hd⟩, h1, h2⟩ := h
  rw [toInt_fin hd]
  rw [val_eq hd] at h1 h2
  exact ceilOf_is (decode_ge hd) h1 h2
theorem Flo.trunc {z : UInt64} {n : Int} (h : Flo z n) (h0 : 0 ≤ n) : Flt.toInt truncOf z = n := by
  obtain ⟨⟨s, m, e, hd⟩, h1, h2⟩ := h
  rw [toInt_fin hd]
  rw [val_eq hd] at h1 h2
  unfold truncOf
  cases s
  · simp only [Bool.false_eq_true, if_false]
    exact floorOf_is (decode_ge hd) h1 h2
  · simp only [if_true]
    have hz : sgn true (m * 2 ^ (e + 1074).toNat) ≤ 0 := by unfold sgn; simp only [if_true]; omega
    have hn : n = 0 := by
      have : n * UU ≤ 0 * UU := by omega
      have := mul_le_cancel UU_pos this
      omega
    subst hn
    refine ceilOf_is (decode_ge hd) ?_ (by omega)
    have := UU_pos
    rw [Int.sub_mul]; omega
theorem Fx.flo {k : Nat} {x : UInt64} {A : Int} (h : Fx k x A) : Flo x (A / 2 ^ k) := by
  have hp := pow2_pos k
  refine ⟨h.1, mul_le_cancel hp ?_, mul_lt_cancel hp ?_⟩
  · rw [h.2, Int.mul_right_comm]
    exact Int.mul_le_mul_of_nonneg_right (Int.ediv_mul_le _ (Int.ne_of_gt hp)) (Int.le_of_lt UU_pos)
  · rw [h.2, Int.mul_right_comm]
    exact Int.mul_lt_mul_of_pos_right (Int.lt_ediv_add_one_mul_self _ hp) UU_pos
theorem Fx.cei {k : Nat} {x : UInt64} {A : Int} (h : Fx k x A) : Cei x (-((-A) / 2 ^ k)) := by
  have hp := pow2_pos k
  have h1 := Int.ediv_mul_le (-A) (Int.ne_of_gt hp)
  have h2 := Int.lt_ediv_add_one_mul_self (-A) hp
  rw [Int.add_mul, Int.one_mul] at h2
  refine ⟨h.1, mul_lt_cancel hp ?_, mul_le_cancel hp ?_⟩
  · rw [h.2, Int.mul_right_comm]
    refine Int.mul_lt_mul_of_pos_right ?_ UU_pos
    rw [Int.sub_mul, Int.one_mul, Int.neg_mul]; omega
  · rw [h.2, Int.mul_right_comm]
    refine Int.mul_le_mul_of_nonneg_right ?_ (Int.le_of_lt UU_pos)
    rw [Int.neg_mul]; omega
theorem Fx.trunc0 {x : UInt64} {A : Int} (h : Fx 0 x A) : Flt.toInt truncOf x = A := by
  have hv := h.2
  rw [Int.pow_zero, Int.mul_one] at hv
  obtain ⟨⟨s, m, e, hd⟩, _⟩ := h
  have hU := UU_pos
  rw [toInt_fin hd]
  rw [val_eq hd] at hv
  unfold truncOf
  cases s
  · simp only [Bool.false_eq_true, if_false]
    exact floorOf_is (decode_ge hd) (by omega) (by rw [Int.add_mul]; omega)
  · simp only [if_true]
    exact ceilOf_is (decode_ge hd) (by rw [Int.sub_mul]; omega) (by omega)
theorem Fx.fin {k : Nat} {x : UInt64} {A : Int} (h : Fx k x A) : Float64.isFinite x = true := by
  obtain ⟨⟨s, m, e, hd⟩, _⟩ := h
  unfold Float64.isFinite; rw [hd]
theorem IsF.fin {x : UInt64} (h : IsF x) : Float64.isFinite x = true := by
  obtain ⟨s, m, e, hd⟩ := h
  unfold Float64.isFinite; rw [hd]
theorem IsF.nan {x : UInt64} (h : IsF x) : ¬ Float64.isNaN x = true := by
  obtain ⟨s, m, e, hd⟩ := h
  unfold Float64.isNaN; rw [hd]; simp
theorem IsF.inf {x : UInt64} (h : IsF x) : ¬ Float64.isInf x = true := by
  obtain ⟨s, m, e, hd⟩ := h
  unfold Float64.isInf; rw [hd]; simp
end Mine

namespace Mine
open PySem.Float64

theorem isZero_iff {x : UInt64} (h : IsF x) : Float64.isZero x = true ↔ val x = 0 := by
  obtain ⟨s, m, e, hd⟩ := h
  have hp : (0 : Nat) < 2 ^ (e + 1074).toNat := Nat.two_pow_pos _
  unfold Float64.isZero
  rw [hd, val_eq hd]
  constructor
  · intro h
    split at h
    · rename_i h2; cases h2; unfold sgn; cases s <;> simp
    · cases h
  · intro h
    have : (sgn s (m * 2 ^ (e + 1074).toNat)).natAbs = 0 := by rw [h]; rfl
    rw [sgn_natAbs] at this
    have hm : m = 0 := by
      rcases Nat.mul_eq_zero.mp this with h | h
      · exact h
      · omega
    rw [hm]
    rfl
theorem ofBin_val {a : Bool} {M : Nat} {g : Int} (hg : -1074 ≤ g) (hR : Rp (sgn a (M * 2 ^ (g + 1074).toNat))) (hs : M * 2 ^ (g + 1074).toNat ≤ 2 ^ 1200) :
    IsF (ofBin a M g) ∧ val (ofBin a M g) = sgn a (M * 2 ^ (g + 1074).toNat) := by
  have R : Right (ofBin a M g) a (M * 2 ^ (g + 1074).toNat) 1 := by
    unfold ofBin
    refine ofFrac_right (shift_pos _ _ _ (by decide)) ?_ (by decide)
    have := shift_one M g 1074 (by omega)
    rw [Nat.mul_one]
    exact this
  obtain ⟨hf, hn⟩ := near_of_right R (room (by decide) (by omega))
  exact ⟨hf, Nr.eq (D := 1) ⟨by decide, fun Z hZ => hn Z hZ⟩ hR (by rw [Int.one_mul])⟩
theorem zero_val : IsF (zero false) ∧ val (zero false) = 0 := by
  have hlt : 0 < infMag := by decide
  obtain ⟨m', e', h', _⟩ := decode_pack false hlt
  refine ⟨⟨_, _, _, h'⟩, ?_⟩
  show val (pack false 0) = 0
  rw [val_pack _ hlt, V_zero]; rfl
theorem lt_zero {x : UInt64} (h : IsF x) : Float64.lt x (zero false) = decide (val x < 0) := by
  obtain ⟨s, m, e, hd⟩ := h
  obtain ⟨⟨s', m', e', hd'⟩, hv⟩ := zero_val
  unfold Float64.lt
  rw [cmp_right hd hd', hv]
  rcases Int.lt_trichotomy (val x) 0 with h | h | h
  · rw [Int.compare_eq_lt.mpr h, decide_eq_true h]; rfl
  · rw [h]; rfl
  · rw [Int.compare_eq_gt.mpr h, decide_eq_false (by omega)]; rfl
theorem fmod_val {x y : UInt64} {A B P : Int} {j : Nat} (hx : IsF x) (hy : IsF y) (hP : P = 2 ^ j) (hj : j ≤ 1074) (hvx : val x = A * P) (hvy : val y = B * P) (hB : 0 < B) (hB2 : B ≤ 2 ^ 53) :
    IsF (fmod x y) ∧ (val (fmod x y) = (A.natAbs % B.natAbs : Nat) * P ∧ 0 ≤ A ∨ val (fmod x y) = -((A.natAbs % B.natAbs : Nat) * P) ∧ A < 0) := by
  have hPp : 0 < P := by rw [hP]; exact pow2_pos j
  obtain ⟨a, m, e, hd⟩ := hx
  obtain ⟨b, k, f, hd'⟩ := hy
  have he := decode_ge hd
  have hf := decode_ge hd'
  have nx := val_natAbs hd
  have ny := val_natAbs hd'
  have hk : k ≠ 0 := by
    rintro rfl
    rw [Nat.zero_mul, hvy, Int.natAbs_mul] at ny
    rcases Nat.mul_eq_zero.mp ny with h | h <;> omega
  have e1 : (e - min e f).toNat + (min e f + 1074).toNat = (e + 1074).toNat := by omega
  have e2 : (f - min e f).toNat + (min e f + 1074).toNat = (f + 1074).toNat := by omega
  have hfm : fmod x y = ofBin a (m * 2 ^ (e - min e f).toNat % (k * 2 ^ (f - min e f).toNat)) (min e f) := by
    unfold fmod
    rw [hd, hd']
    simp only [align]
    rw [if_neg (by simpa using hk)]
    unfold sgn
    simp only [Bool.false_eq_true, if_false, Int.toNat_natCast]
  have hmod : m * 2 ^ (e - min e f).toNat % (k * 2 ^ (f - min e f).toNat) * 2 ^ (min e f + 1074).toNat = A.natAbs % B.natAbs * P.natAbs := by
    rw [← Nat.mul_mod_mul_right, Nat.mul_assoc, Nat.mul_assoc, ← Nat.pow_add, ← Nat.pow_add, e1, e2, ← nx, ← ny, hvx, hvy, Int.natAbs_mul, Int.natAbs_mul, Nat.mul_mod_mul_right]
  have hPn : P.natAbs = 2 ^ j := by rw [hP, Int.natAbs_pow]; rfl
  have hrB : A.natAbs % B.natAbs < B.natAbs := Nat.mod_lt _ (by omega)
  have hr53 : A.natAbs % B.natAbs ≤ 2 ^ 53 := by omega
  have hsg : ∀ s : Bool, sgn s (A.natAbs % B.natAbs * P.natAbs) = if s then -((A.natAbs % B.natAbs : Nat) * P) else (A.natAbs % B.natAbs : Nat) * P := by
    intro s
    have : ((P.natAbs : Nat) : Int) = P := by omega
    rw [sgn_mul, this]
    unfold sgn
    cases s
    · rfl
    · simp only [if_true]; rw [Int.neg_mul]
  obtain ⟨h1, h2⟩ := ofBin_val (a := a) (M := m * 2 ^ (e - min e f).toNat % (k * 2 ^ (f - min e f).toNat)) (g := min e f) (by omega)
    (by
      rw [hmod, hsg, hP]
      cases a
      · simp only [Bool.false_eq_true, if_false]; exact rp_of (by omega)
      · simp only [if_true]; rw [← Int.neg_mul]; exact rp_of (by omega))
    (by
      rw [hmod, hPn]
      exact Nat.le_trans (Nat.mul_le_mul hr53 (Nat.pow_le_pow_right (by decide) hj)) (by decide +kernel))
  rw [hmod, hsg] at h2
  rw [← hfm] at h1 h2
  refine ⟨h1, ?_⟩
  have hsx : (a = false → 0 ≤ A) ∧ (a = true → A ≤ 0) := by
    rw [val_eq hd] at hvx
    constructor
    · rintro rfl
      unfold sgn at hvx
      simp only [Bool.false_eq_true, if_false] at hvx
      have : 0 * P ≤ A * P := by omega
      exact mul_le_cancel hPp this
    · rintro rfl
      unfold sgn at hvx
      simp only [if_true] at hvx
      have : A * P ≤ 0 * P := by omega
      exact mul_le_cancel hPp this
  cases a
  · simp only [Bool.false_eq_true, if_false] at h2
    exact .inl ⟨h2, hsx.1 rfl⟩
  · simp only [if_true] at h2
    have := hsx.2 rfl
    by_cases q : A < 0
    · exact .inr ⟨h2, q⟩
    · left
      have hA : A = 0 := by omega
      refine ⟨?_, by omega⟩
      rw [h2, hA]; simp
theorem mod_val {x y : UInt64} {A B P : Int} {j : Nat} (hx : IsF x) (hy : IsF y) (hP : P = 2 ^ j) (hj : j ≤ 1074) (hvx : val x = A * P) (hvy : val y = B * P) (hB : 0 < B) (hB2 : B ≤ 2 ^ 53) :
    IsF (divmod x y).2 ∧ val (divmod x y).2 = A % B * P := by
  have hPp : 0 < P := by rw [hP]; exact pow2_pos j
  obtain ⟨hf, hv⟩ := fmod_val hx hy hP hj hvx hvy hB hB2
  have hyp : 0 < val y := by rw [hvy]; exact Int.mul_pos hB hPp
  have hr := Int.emod_nonneg A (Int.ne_of_gt hB)
  have hr2 := Int.emod_lt_of_pos A hB
  have hn : ((A.natAbs % B.natAbs : Nat) : Int) = if 0 ≤ A then A % B else if A % B = 0 then 0 else B - A % B := by
    rw [Int.natCast_emod]
    have hBn : ((B.natAbs : Nat) : Int) = B := by omega
    rw [hBn]
    split
    · rename_i h; have : ((A.natAbs : Nat) : Int) = A := by omega
      rw [this]
    · have : ((A.natAbs : Nat) : Int) = -A := by omega
      rw [this]
      split
      · rename_i h
        rw [Int.neg_emod, if_pos (Int.dvd_of_emod_eq_zero h)]
      · rename_i h
        rw [Int.neg_emod, if_neg (fun q => h (Int.emod_eq_zero_of_dvd q))]
        omega
  rw [hn] at hv
  have hlty : Float64.lt y (zero false) = false := by rw [lt_zero hy, decide_eq_false (by omega)]
  have hsnd : (divmod x y).2 = if Float64.isZero (fmod x y) then copysign (zero false) y else if Float64.lt y (zero false) != Float64.lt (fmod x y) (zero false) then add (fmod x y) y else fmod x y := by
    unfold divmod
    by_cases h1 : Float64.isZero (fmod x y) = true
    · simp only [h1, if_true]
    · simp only [h1, if_false, Bool.false_eq_true]
      by_cases h2 : (Float64.lt y (zero false) != Float64.lt (fmod x y) (zero false)) = true
      · simp only [h2, if_true]
      · simp only [h2, if_false, Bool.false_eq_true]
  rw [hsnd, lt_zero hf, hlty]
  by_cases hz : Float64.isZero (fmod x y) = true
  · rw [if_pos hz]
    have h0 := (isZero_iff hf).mp hz
    have hc : copysign (zero false) y = zero false := by
      have hsb : signBit y = false := by
        obtain ⟨b, k, f, hd'⟩ := hy
        have : b = false := by
          cases b
          · rfl
          · rw [val_eq hd'] at hyp; unfold sgn at hyp; simp only [if_true] at hyp; omega
        subst this
        unfold signBit
        unfold decode at hd'
        simp only at hd'
        split at hd'
        · split at hd' <;> cases hd'
        · split at hd' <;> (injection hd')
      have hnz : Float64.isNaN (zero false) = false := by decide +kernel
      unfold copysign
      rw [hsb, hnz]
      decide +kernel
    rw [hc]
    refine ⟨zero_val.1, ?_⟩
    rw [zero_val.2]
    have hA0 : A % B = 0 := by
      rcases hv with ⟨h, h'⟩ | ⟨h, h'⟩
      · rw [if_pos h', h0] at h
        rcases Int.mul_eq_zero.mp h.symm with q | q <;> omega
      · rw [if_neg (by omega), h0] at h
        split at h
        · assumption
        · rcases Int.mul_eq_zero.mp (by omega : (B - A % B) * P = 0) with q | q <;> omega
    rw [hA0, Int.zero_mul]
  · rw [if_neg hz]
    have hne : val (fmod x y) ≠ 0 := fun q => hz ((isZero_iff hf).mpr q)
    rcases hv with ⟨h, h'⟩ | ⟨h, h'⟩
    · rw [if_pos h'] at h
      have : ¬ val (fmod x y) < 0 := by rw [h]; have := Int.mul_nonneg hr (Int.le_of_lt hPp); omega
      rw [decide_eq_false this]
      simp only [bne_self_eq_false, Bool.false_eq_true, if_false]
      exact ⟨hf, h⟩
    · rw [if_neg (by omega)] at h
      have hA0 : ¬ A % B = 0 := by
        intro q; rw [if_pos q] at h; apply hne; rw [h]; simp
      rw [if_neg hA0] at h
      have hpos : 0 < (B - A % B) * P := Int.mul_pos (by omega) hPp
      rw [decide_eq_true (by omega : val (fmod x y) < 0)]
      simp only [Bool.false_bne, if_true]
      have e : val (fmod x y) + val y = A % B * P := by rw [h, hvy, ← Int.neg_mul, ← Int.add_mul]; congr 1; omega
      have := add_val hf hy (by rw [e, hP]; exact rp_of (by omega)) (by rw [e, hP]; exact small_of (by omega) hj)
      exact ⟨this.1, this.2.trans e⟩
theorem Fx.mod {k : Nat} {x y : UInt64} {A B : Int} (hx : Fx k x A) (hy : Fx k y B) (hk : k ≤ 1074) (hB : 0 < B) (hB2 : B ≤ 2 ^ 53) : Fx k (divmod x y).2 (A % B) := by
  obtain ⟨h1, h2⟩ := mod_val hx.1 hy.1 rfl (by omega : 1074 - k ≤ 1074) (hx.val hk) (hy.val hk) hB hB2
  exact Fx.of_val h1 hk h2
theorem Fx.cmp {k : Nat} {x y : UInt64} {A B : Int} (hx : Fx k x A) (hy : Fx k y B) : Float64.cmp x y = some (compare A B) := by
  obtain ⟨⟨s, m, e, hd⟩, h1⟩ := hx
  obtain ⟨⟨s', m', e', hd'⟩, h2⟩ := hy
  rw [cmp_right hd hd']
  have hp := pow2_pos k
  have hU := UU_pos
  congr 1
  rcases Int.lt_trichotomy A B with h | h | h
  · have : A * UU < B * UU := Int.mul_lt_mul_of_pos_right h hU
    rw [← h1, ← h2] at this
    rw [Int.compare_eq_lt.mpr h, Int.compare_eq_lt.mpr (mul_lt_cancel hp this)]
  · subst h
    rw [← h2] at h1
    rw [Int.eq_of_mul_eq_mul_right (Int.ne_of_gt hp) h1]; simp
  · have : B * UU < A * UU := Int.mul_lt_mul_of_pos_right h hU
    rw [← h1, ← h2] at this
    rw [Int.compare_eq_gt.mpr h, Int.compare_eq_gt.mpr (mul_lt_cancel hp this)]
theorem cmpInt_val {x : UInt64} (hx : IsF x) (i : Int) : Float64.cmpInt x i = some (compare (val x) (i * UU)) := by
  obtain ⟨s, m, e, hd⟩ := hx
  exact cmpInt_right hd i
theorem Fx.cmpInt {k : Nat} {x : UInt64} {A : Int} (hx : Fx k x A) (i : Int) : Float64.cmpInt x i = some (compare A (i * 2 ^ k)) := by
  rw [cmpInt_val hx.1]
  have h1 := hx.2
  have hp := pow2_pos k
  have hU := UU_pos
  refine congrArg some ?_
  rcases Int.lt_trichotomy A (i * 2 ^ k) with h | h | h
  · have : A * UU < i * 2 ^ k * UU := Int.mul_lt_mul_of_pos_right h hU
    rw [← h1, Int.mul_right_comm] at this
    rw [Int.compare_eq_lt.mpr h, Int.compare_eq_lt.mpr (mul_lt_cancel hp this)]
  · rw [h, Int.mul_right_comm] at h1
    rw [h, Int.eq_of_mul_eq_mul_right (Int.ne_of_gt hp) h1]; simp
  · have : i * 2 ^ k * UU < A * UU := Int.mul_lt_mul_of_pos_right h hU
    rw [← h1, Int.mul_right_comm] at this
    rw [Int.compare_eq_gt.mpr h, Int.compare_eq_gt.mpr (mul_lt_cancel hp this)]
theorem Fx.lit {x : UInt64} {m : Nat} {e : Int} {k : Nat} {A : Int} (hd : decode x = .fin false m e) (h0 : e ≤ 0) (hA : (m : Int) * 2 ^ k = A * 2 ^ (-e).toNat) : Fx k x A := by
  refine ⟨⟨_, _, _, hd⟩, ?_⟩
  have hg := decode_ge hd
  have e1 : UU = 2 ^ (-e).toNat * 2 ^ (e + 1074).toNat := by
    unfold UU
    rw [← Int.pow_add]
    have e9 : (-e).toNat + (e + 1074).toNat = 1074 := by omega
    rw [e9]
  rw [val_eq hd, e1, ← Int.mul_assoc, ← hA, Int.mul_right_comm]
  unfold sgn
  simp only [Bool.false_eq_true, if_false, Int.natCast_mul, Int.natCast_pow]
  rfl
theorem lit_greg : Fx 1 0x413a445180000000 3442851 := Fx.lit (m := 0x1a445180000000) (e := -32) (by kernel_rfl) (by decide) (by decide +kernel)
end Mine

namespace Mine
open PySem.Float64

/- ---- facts over halves (k = 1) ---- -/
theorem Fx.int1 {i : Int} (h : -9007199254740992 ≤ i ∧ i ≤ 9007199254740992) : Fx 1 (Float64.ofInt i) (2 * i) := by
  have := (Fx.ofInt (i := i) (by omega)).up 1
  rw [Int.mul_comm]
  exact this
theorem Fx.add1 {x y : UInt64} {H G : Int} (hx : Fx 1 x H) (hy : Fx 1 y G) (h : -9007199254740992 ≤ H + G ∧ H + G ≤ 9007199254740992) : Fx 1 (Float64.add x y) (H + G) :=
  hx.add hy (by decide) (by omega)
theorem Fx.sub1 {x y : UInt64} {H G : Int} (hx : Fx 1 x H) (hy : Fx 1 y G) (h : -9007199254740992 ≤ H - G ∧ H - G ≤ 9007199254740992) : Fx 1 (Float64.sub x y) (H - G) :=
  hx.sub hy (by decide) (by omega)
theorem Fx.half {x : UInt64} {D : Int} (h : Fx 1 x (2 * D)) : Fx 0 x D := by
  refine ⟨h.1, ?_⟩
  have := h.2
  rw [Int.pow_zero, Int.mul_one]
  rw [Int.pow_one] at this
  rw [Int.mul_assoc] at this
  generalize D * UU = g at *
  omega
theorem Fx.val0 {x : UInt64} {D : Int} (h : Fx 0 x D) : Float64.val x = D * UU := by
  have := h.2
  rw [Int.pow_zero, Int.mul_one] at this
  exact this
theorem not_inf {i : Int} (h : -9007199254740992 ≤ i ∧ i ≤ 9007199254740992) : ¬ Float64.isInf (ofInt i) = true := (Fx.ofInt (i := i) (by omega)).1.inf
theorem not_zero {x : UInt64} {k : Nat} {b : Int} (h : Fx k x b) (hb : 0 < b) : ¬ Float64.isZero x = true := by
  intro q
  have := (isZero_iff h.1).mp q
  have h2 := h.2
  rw [this, Int.zero_mul] at h2
  have := Int.mul_pos hb UU_pos
  omega
theorem div_e1 (A U b : Int) : A * U * U * b = A * U * (b * U) := by ac_rfl
theorem big_b : (9007199254740992 : Nat) ≤ 2 ^ 53 := by decide
theorem ubound {a c : Nat} (ha : a ≤ 2 ^ 60) (hc : 1 ≤ c) : a * 2 ^ 1074 ≤ c * 2 ^ 1200 :=
  Nat.le_trans (Nat.mul_le_mul_right _ ha) (Nat.le_trans (by decide +kernel) (Nat.mul_le_mul_right _ hc))
theorem natAbs_UU (b : Int) : (b * UU).natAbs = b.natAbs * 2 ^ 1074 := by
  rw [Int.natAbs_mul, UU_nat, Int.natAbs_natCast]
/-- an integer over an integer -/
theorem Fx.divF {x y : UInt64} {D b : Int} (hx : Fx 0 x D) (hy : Fx 0 y b) (hb : 0 < b) (hs : D.natAbs + 2 * b.natAbs ≤ 2 ^ 53) : Flo (div x y) (D / b) := by
  have vx := hx.val0
  have vy := hy.val0
  obtain ⟨hf, N⟩ := div_nr hx.1 hy.1 (by rw [vy]; exact Int.mul_pos hb UU_pos) (by
    rw [vx, vy, natAbs_UU, natAbs_UU]
    rw [Nat.mul_right_comm b.natAbs]
    refine Nat.mul_le_mul_right _ ?_
    exact ubound (by omega) (by omega))
  have := N.quot (A := D) hb (by rw [vx, vy]; exact div_e1 _ _ _) hs
  exact ⟨hf, this⟩
theorem Fx.divC {x y : UInt64} {A b : Int} (hx : Fx 1 x A) (hy : Fx 1 y b) (hb : 0 < b) (hs : A.natAbs + 2 * b.natAbs ≤ 2 ^ 53) : Cei (div x y) (-((-A) / b)) := by
  have hp : (0 : Int) < 2 ^ (1074 - 1) := pow2_pos _
  have vx := hx.val (by decide)
  have vy := hy.val (by decide)
  generalize (2 : Int) ^ (1074 - 1) = P at *
  obtain ⟨hf, N⟩ := div_nr hx.1 hy.1 (by rw [vy]; exact Int.mul_pos hb hp) (by
    rw [vx, vy, Int.natAbs_mul, Int.natAbs_mul, Nat.mul_right_comm, Nat.mul_right_comm b.natAbs]
    refine Nat.mul_le_mul_right _ ?_
    exact ubound (by omega) (by omega))
  have := N.quotC (A := A) hb (by rw [vx, vy]; generalize UU = U; ac_rfl) hs
  exact ⟨hf, this⟩
theorem fracF {a b : Int} (hb : 0 < b) (hs : a.natAbs + 2 * b.natAbs ≤ 2 ^ 53) : Flo (ofFrac (decide (a < 0) != decide (b < 0)) a.natAbs b.natAbs) (a / b) := by
  obtain ⟨hf, N⟩ := frac_nr (a := a) hb (ubound (by omega) (by omega))
  have := N.quot (A := a) hb rfl hs
  exact ⟨hf, this⟩
/-- between n and n + 63/64 -/
def Btw (z : UInt64) (n : Int) : Prop := IsF z ∧ n * UU ≤ val z ∧ val z * 64 ≤ (64 * n + 63) * UU
theorem UU6 : UU = 2 ^ 1068 * 64 := UU_split (j := 6) (by decide)
theorem Btw.flo {z : UInt64} {n : Int} (h : Btw z n) : Flo z n := by
  obtain ⟨h0, h1, h2⟩ := h
  refine ⟨h0, h1, ?_⟩
  have := UU_pos
  rw [Int.add_mul, Int.mul_assoc] at h2
  rw [Int.add_mul, Int.one_mul]
  generalize n * UU = g at *
  omega
theorem up_bound {n : Int} (h : -1000000 ≤ n ∧ n ≤ 1000000) : Rp ((64 * n + 63) * 2 ^ 1068) := rp_of (by omega)
theorem fracB {a b : Int} (hb : 0 < b) (hb2 : b ≤ 64) (hs : -100000 ≤ a ∧ a ≤ 100000) : Btw (ofFrac (decide (a < 0) != decide (b < 0)) a.natAbs b.natAbs) (a / b) := by
  obtain ⟨hf, N⟩ := frac_nr (a := a) hb (ubound (by omega) (by omega))
  have hmod := Int.emod_add_mul_ediv a b
  have hr0 := Int.emod_nonneg a (Int.ne_of_gt hb)
  have hr1 := Int.emod_lt_of_pos a hb
  have hq : -100001 ≤ a / b ∧ a / b ≤ 100000 := by
    constructor
    · have := (Int.le_ediv_iff_mul_le (a := -100001) (b := a) hb).mpr (by omega); exact this
    · have := (Int.ediv_lt_iff_lt_mul (a := a) (b := 100001) hb).mpr (by omega); omega
  generalize a / b = n at *
  generalize a % b = r at *
  have hU := UU_pos
  refine ⟨hf, N.ge (rp_U0 (by omega)) ?_, ?_⟩
  · rw [← Int.mul_assoc]
    exact Int.mul_le_mul_of_nonneg_right (by omega) (Int.le_of_lt hU)
  · have hle := N.le (up_bound (n := n) (by omega)) (by
      refine mul_le_cancel (c := 64) (by decide) ?_
      have e : b * ((64 * n + 63) * 2 ^ 1068) * 64 = b * (64 * n + 63) * UU := by rw [UU6]; generalize (2 : Int) ^ 1068 = g; ac_rfl
      rw [e, Int.mul_right_comm]
      refine Int.mul_le_mul_of_nonneg_right ?_ (Int.le_of_lt hU)
      rw [Int.mul_add, Int.mul_left_comm]
      generalize b * n = g at *
      omega)
    have := Int.mul_le_mul_of_nonneg_right hle (by decide : (0 : Int) ≤ 64)
    rw [Int.mul_assoc, ← UU6] at this
    exact this
theorem Btw.add {z : UInt64} {n i : Int} (h : Btw z n) (hn : -1000 ≤ n ∧ n ≤ 1000) (hi : -1000 ≤ i ∧ i ≤ 1000) : Btw (add z (ofInt i)) (n + i) := by
  obtain ⟨h0, h1, h2⟩ := h
  obtain ⟨hf, hv⟩ := ofInt_val (i := i) (by omega)
  obtain ⟨a, m, e, hd⟩ := h0
  obtain ⟨b, k, f, hd'⟩ := hf
  obtain ⟨r0, r1⟩ := add_right hd hd'
  have hU := UU_pos
  have hlo : (n + i) * UU ≤ val z + val (ofInt i) := by rw [hv, Int.add_mul]; omega
  have hup : (val z + val (ofInt i)) * 64 ≤ (64 * (n + i) + 63) * UU := by
    rw [hv]
    have : (64 * (n + i) + 63) * UU = (64 * n + 63) * UU + i * UU * 64 := by
      have e8 : 64 * (n + i) + 63 = (64 * n + 63) + i * 64 := by omega
      rw [e8, Int.add_mul, Int.mul_right_comm i 64]
    rw [this, Int.add_mul]; omega
  by_cases hz : val z + val (ofInt i) = 0
  · rw [r0 hz]
    have hlt : 0 < infMag := by decide
    obtain ⟨m', e', h', _⟩ := decode_pack (a && b) hlt
    have hv0 : val (zero (a && b)) = 0 := by
      show val (pack (a && b) 0) = 0
      rw [val_pack _ hlt, V_zero]
      cases (a && b) <;> rfl
    refine ⟨⟨_, _, _, h'⟩, ?_, ?_⟩
    · rw [hv0]; omega
    · rw [hv0]; omega
  · have hs : (val z + val (ofInt i)).natAbs ≤ 1 * 2 ^ 1200 := by
      have h5 : (val z + val (ofInt i)).natAbs ≤ 10000 * 2 ^ 1074 := by
        have e1 : (((2 : Nat) ^ 1074 : Nat) : Int) = UU := pow1074
        have a1 : (n + i) * UU ≥ (-2000) * UU := Int.mul_le_mul_of_nonneg_right (by omega) (Int.le_of_lt hU)
        have a2 : (64 * (n + i) + 63) * UU ≤ 130000 * UU := Int.mul_le_mul_of_nonneg_right (by omega) (Int.le_of_lt hU)
        generalize (n + i) * UU = g1 at *
        generalize (64 * (n + i) + 63) * UU = g2 at *
        generalize (2 : Nat) ^ 1074 = g3 at *
        omega
      exact Nat.le_trans h5 (by decide +kernel)
    obtain ⟨hf, hn'⟩ := near_of_right (r1 hz) (room (by decide) hs)
    have e1 : sgn (decide (val z + val (ofInt i) < 0)) (val z + val (ofInt i)).natAbs = val z + val (ofInt i) := by
      unfold sgn
      by_cases q : val z + val (ofInt i) < 0
      · rw [decide_eq_true q]; simp only [if_true]; omega
      · rw [decide_eq_false q]; simp only [Bool.false_eq_true, if_false]; omega
    rw [e1] at hn'
    have N : Nr 1 (val (Float64.add z (ofInt i))) (val z + val (ofInt i)) := ⟨by decide, fun Z hZ => hn' Z hZ⟩
    refine ⟨hf, N.ge (rp_U0 (by omega)) (by rw [Int.one_mul]; exact hlo), ?_⟩
    have hle := N.le (up_bound (n := n + i) (by omega)) (by
      rw [Int.one_mul]
      refine mul_le_cancel (c := 64) (by decide) ?_
      rw [Int.mul_assoc, ← UU6]; exact hup)
    have := Int.mul_le_mul_of_nonneg_right hle (by decide : (0 : Int) ≤ 64)
    rw [Int.mul_assoc, ← UU6] at this
    exact this

/- ---- moments: H / 2 and p parts of 2 ^ k ---- -/
structure Mo (k : Nat) (x : UInt64) (H p W : Int) : Prop where
  fx : Fx k x (H * 2 ^ (k - 1) + p)
  k1 : 1 ≤ k
  k29 : k ≤ 29
  p0 : 0 ≤ p
  p1 : p < 2 ^ k
  W0 : 0 ≤ W
  hW : W * 2 ^ (k - 1) ≤ 2251799813685248
  hH : -(W + 8388608) ≤ H ∧ H ≤ W + 8388608
theorem pk1 {k : Nat} (h1 : 1 ≤ k) : (2 : Int) ^ k = 2 * 2 ^ (k - 1) := by
  obtain ⟨j, rfl⟩ : ∃ j, k = j + 1 := ⟨k - 1, by omega⟩
  rw [Nat.add_sub_cancel, Int.pow_succ, Int.mul_comm]
theorem pk29 {k : Nat} (h2 : k ≤ 29) : (2 : Int) ^ (k - 1) ≤ 268435456 := by
  have : (2 : Nat) ^ (k - 1) ≤ 2 ^ 28 := Nat.pow_le_pow_right (by decide) (by omega)
  have := Int.ofNat_le.mpr this
  rw [Int.natCast_pow] at this
  exact this
theorem mo_size {k : Nat} {H p W : Int} (k1 : 1 ≤ k) (k29 : k ≤ 29) (p0 : 0 ≤ p) (p1 : p < 2 ^ k) (hW : W * 2 ^ (k - 1) ≤ 2251799813685248) (hH : -(W + 8388608) ≤ H ∧ H ≤ W + 8388608) :
    -4503599627370496 ≤ H * 2 ^ (k - 1) + p ∧ H * 2 ^ (k - 1) + p ≤ 4503600164241408 := by
  have hP := pk29 k29
  have hP0 := pow2_pos (k - 1)
  rw [pk1 k1] at p1
  generalize (2 : Int) ^ (k - 1) = P at *
  have a1 : H * P ≤ (W + 8388608) * P := Int.mul_le_mul_of_nonneg_right hH.2 (Int.le_of_lt hP0)
  have a2 : (-(W + 8388608)) * P ≤ H * P := Int.mul_le_mul_of_nonneg_right hH.1 (Int.le_of_lt hP0)
  rw [Int.neg_mul] at a2
  rw [Int.add_mul] at a1 a2
  omega
theorem Mo.size {k : Nat} {x : UInt64} {H p W : Int} (h : Mo k x H p W) : -4503599627370496 ≤ H * 2 ^ (k - 1) + p ∧ H * 2 ^ (k - 1) + p ≤ 4503600164241408 := mo_size h.k1 h.k29 h.p0 h.p1 h.hW h.hH
theorem Fx.scale {k : Nat} {y : UInt64} {G : Int} (h : Fx 1 y G) (h1 : 1 ≤ k) : Fx k y (G * 2 ^ (k - 1)) := by
  have := h.up (k - 1)
  have e : 1 + (k - 1) = k := by omega
  rw [e] at this
  exact this
theorem Mo.add {k : Nat} {x y : UInt64} {H p W G : Int} (h : Mo k x H p W) (hy : Fx 1 y G) (hb : -(W + 8388608) ≤ H + G ∧ H + G ≤ W + 8388608) : Mo k (Float64.add x y) (H + G) p W := by
  have sz := mo_size h.k1 h.k29 h.p0 h.p1 h.hW hb
  refine ⟨?_, h.k1, h.k29, h.p0, h.p1, h.W0, h.hW, hb⟩
  have e : H * 2 ^ (k - 1) + p + G * 2 ^ (k - 1) = (H + G) * 2 ^ (k - 1) + p := by rw [Int.add_mul]; omega
  have := h.fx.add (hy.scale h.k1) (by have := h.k29; omega) (by rw [e]; omega)
  rw [e] at this
  exact this
theorem Mo.sub {k : Nat} {x y : UInt64} {H p W G : Int} (h : Mo k x H p W) (hy : Fx 1 y G) (hb : -(W + 8388608) ≤ H - G ∧ H - G ≤ W + 8388608) : Mo k (Float64.sub x y) (H - G) p W := by
  have sz := mo_size h.k1 h.k29 h.p0 h.p1 h.hW hb
  refine ⟨?_, h.k1, h.k29, h.p0, h.p1, h.W0, h.hW, hb⟩
  have e : H * 2 ^ (k - 1) + p - G * 2 ^ (k - 1) = (H - G) * 2 ^ (k - 1) + p := by rw [Int.sub_mul]; omega
  have := h.fx.sub (hy.scale h.k1) (by have := h.k29; omega) (by rw [e]; omega)
  rw [e] at this
  exact this
theorem Mo.flo {k : Nat} {x : UInt64} {H p W n : Int} (h : Mo k x H p W) (he : H = 2 * n) : Flo x n := by
  have := h.fx.flo
  have e : (H * 2 ^ (k - 1) + p) / 2 ^ k = n := by
    have h1 := h.p0
    have h2 := h.p1
    have e1 : H * 2 ^ (k - 1) + p = p + n * 2 ^ k := by rw [he, pk1 h.k1, Int.mul_left_comm, Int.mul_assoc]; omega
    rw [e1, Int.add_mul_ediv_right _ _ (Int.ne_of_gt (pow2_pos k)), Int.ediv_eq_zero_of_lt h1 h2, Int.zero_add]
  rw [e] at this
  exact this
theorem Mo.floNoon {k : Nat} {x : UInt64} {H p W n : Int} (h : Mo k x H p W) (he : H = 2 * n + 1) (hp : 2 * p < 2 ^ k) : Flo x n := by
  have := h.fx.flo
  have e : (H * 2 ^ (k - 1) + p) / 2 ^ k = n := by
    have h1 := h.p0
    have h2 := pk1 h.k1
    have h3 := pow2_pos (k - 1)
    have e1 : H * 2 ^ (k - 1) + p = (2 ^ (k - 1) + p) + n * 2 ^ k := by rw [he, pk1 h.k1, Int.add_mul, Int.one_mul, Int.mul_left_comm, Int.mul_assoc]; omega
    rw [e1, Int.add_mul_ediv_right _ _ (Int.ne_of_gt (pow2_pos k)), Int.ediv_eq_zero_of_lt (by omega) (by omega), Int.zero_add]
  rw [e] at this
  exact this
theorem Mo.div {k : Nat} {x y : UInt64} {H p W N b : Int} (h : Mo k x H p W) (he : H = 2 * N) (hy : Fx 0 y b) (hb : 0 < b) (hb2 : b ≤ 1000000) : Flo (Float64.div x y) (N / b) := by
  have sz := h.size
  have hk : k ≤ 1074 := by have := h.k29; omega
  have hp := pow2_pos k
  have vx := h.fx.val hk
  have vy := hy.val0
  have e1 : H * 2 ^ (k - 1) + p = p + N * 2 ^ k := by rw [he, pk1 h.k1, Int.mul_left_comm, Int.mul_assoc]; omega
  have hP : (2 : Int) ^ k ≤ 536870912 := by have := pk29 h.k29; rw [pk1 h.k1]; omega
  obtain ⟨hf, Nn⟩ := div_nr h.fx.1 hy.1 (by rw [vy]; exact Int.mul_pos hb UU_pos) (by
    rw [vx, vy, natAbs_UU, Int.natAbs_mul, Nat.mul_right_comm b.natAbs]
    refine Nat.mul_le_mul ?_ (Nat.le_refl _)
    have c1 : (H * 2 ^ (k - 1) + p).natAbs ≤ 2 ^ 60 := by omega
    have c2 : ((2 : Int) ^ (1074 - k)).natAbs ≤ 2 ^ 1074 := by
      rw [Int.natAbs_pow]; exact Nat.pow_le_pow_right (by decide) (by omega)
    exact Nat.le_trans (Nat.mul_le_mul c1 c2) (ubound (Nat.le_refl _) (by omega)))
  have hb2k : b * 2 ^ k ≤ 1000000 * 536870912 := Int.mul_le_mul hb2 hP (Int.le_of_lt hp) (by decide)
  have hbk : 0 < b * 2 ^ k := Int.mul_pos hb hp
  have q := Nn.quot (A := H * 2 ^ (k - 1) + p) hbk (by
    rw [vx, vy]
    generalize H * 2 ^ (k - 1) + p = A
    have eU := UU_split hk
    calc A * 2 ^ (1074 - k) * UU * (b * 2 ^ k) = A * (2 ^ (1074 - k) * 2 ^ k) * (b * UU) := by generalize UU = U; ac_rfl
      _ = A * UU * (b * UU) := by rw [← eU]) (by omega)
  have e2 : (H * 2 ^ (k - 1) + p) / (b * 2 ^ k) = N / b := by
    rw [Int.mul_comm b, ← Int.ediv_ediv_of_nonneg (Int.le_of_lt hp), e1, Int.add_mul_ediv_right _ _ (Int.ne_of_gt hp), Int.ediv_eq_zero_of_lt h.p0 h.p1, Int.zero_add]
  rw [e2] at q
  exact ⟨hf, q⟩
theorem Mo.mod {k : Nat} {x y : UInt64} {H p W N b : Int} (h : Mo k x H p W) (he : H = 2 * N) (hy : Fx 0 y b) (hb : 0 < b) (hb2 : b ≤ 1000000) : Mo k (divmod x y).2 (2 * (N % b)) p W := by
  have hk : k ≤ 1074 := by have := h.k29; omega
  have hp := pow2_pos k
  have h0 := Int.emod_nonneg N (Int.ne_of_gt hb)
  have h1 := Int.emod_lt_of_pos N hb
  have hP : (2 : Int) ^ k ≤ 536870912 := by have := pk29 h.k29; rw [pk1 h.k1]; omega
  have hy' : Fx k y (b * 2 ^ k) := by have := hy.up k; rw [Nat.zero_add] at this; exact this
  have hb2k : b * 2 ^ k ≤ 1000000 * 536870912 := Int.mul_le_mul hb2 hP (Int.le_of_lt hp) (by decide)
  have hbk : 0 < b * 2 ^ k := Int.mul_pos hb hp
  have := h.fx.mod hy' hk hbk (by omega)
  have e : (H * 2 ^ (k - 1) + p) % (b * 2 ^ k) = 2 * (N % b) * 2 ^ (k - 1) + p := by
    have e1 : H * 2 ^ (k - 1) + p = p + N * 2 ^ k := by rw [he, pk1 h.k1, Int.mul_left_comm, Int.mul_assoc]; omega
    have e3 : 2 * (N % b) * 2 ^ (k - 1) = N % b * 2 ^ k := by rw [pk1 h.k1, Int.mul_left_comm, Int.mul_assoc]
    have hN := Int.emod_add_mul_ediv N b
    rw [e1, e3]
    have e4 : p + N * 2 ^ k = (p + N % b * 2 ^ k) + (N / b) * (b * 2 ^ k) := by
      have : N * 2 ^ k = N % b * 2 ^ k + (N / b) * (b * 2 ^ k) := by
        rw [← Int.mul_assoc, ← Int.add_mul, Int.mul_comm (N / b), hN]
      rw [this]; omega
    have p0 := h.p0
    have p1 := h.p1
    have hnn : 0 ≤ N % b * 2 ^ k := Int.mul_nonneg h0 (Int.le_of_lt hp)
    have hlt : N % b * 2 ^ k + 2 ^ k ≤ b * 2 ^ k := by
      have : (N % b + 1) * 2 ^ k ≤ b * 2 ^ k := Int.mul_le_mul_of_nonneg_right (by omega) (Int.le_of_lt hp)
      rw [Int.add_mul, Int.one_mul] at this; exact this
    rw [e4, Int.add_mul_emod_self_right, Int.emod_eq_of_lt (by omega) (by omega)]
    omega
  rw [e] at this
  have hW0 := h.W0
  exact ⟨this, h.k1, h.k29, h.p0, h.p1, h.W0, h.hW, by omega, by omega⟩
theorem Mo.ltInt {k : Nat} {x : UInt64} {H p W N i : Int} (h : Mo k x H p W) (he : H = 2 * N) : (Float64.cmpInt x i == some .lt) = decide (H < 2 * i) := by
  rw [h.fx.cmpInt]
  have e1 : H * 2 ^ (k - 1) + p = p + N * 2 ^ k := by rw [he, pk1 h.k1, Int.mul_left_comm, Int.mul_assoc]; omega
  rw [e1]
  have p0 := h.p0
  have p1 := h.p1
  have hp := pow2_pos k
  by_cases q : N < i
  · have : (N + 1) * 2 ^ k ≤ i * 2 ^ k := Int.mul_le_mul_of_nonneg_right (by omega) (Int.le_of_lt hp)
    rw [Int.add_mul, Int.one_mul] at this
    rw [Int.compare_eq_lt.mpr (by omega), decide_eq_true (by omega)]; rfl
  · have : i * 2 ^ k ≤ N * 2 ^ k := Int.mul_le_mul_of_nonneg_right (by omega) (Int.le_of_lt hp)
    rw [decide_eq_false (by omega)]
    have hn : compare (p + N * 2 ^ k) (i * 2 ^ k) ≠ .lt := by rw [ne_eq, Int.compare_eq_lt]; omega
    revert hn
    cases compare (p + N * 2 ^ k) (i * 2 ^ k) <;> simp
theorem Mo.ltF {k : Nat} {x y : UInt64} {H p W G N : Int} (h : Mo k x H p W) (hy : Fx 1 y G) (he : H - G = 2 * N) : (Float64.cmp x y == some .lt) = decide (H < G) := by
  rw [h.fx.cmp (hy.scale h.k1)]
  have p0 := h.p0
  have p1 := h.p1
  have hp := pow2_pos k
  have e1 : H * 2 ^ (k - 1) + p = p + N * 2 ^ k + G * 2 ^ (k - 1) := by
    have : H = 2 * N + G := by omega
    rw [this, pk1 h.k1, Int.mul_left_comm, Int.add_mul, Int.mul_assoc]; omega
  rw [e1]
  by_cases q : N < 0
  · have : (N + 1) * 2 ^ k ≤ 0 * 2 ^ k := Int.mul_le_mul_of_nonneg_right (by omega) (Int.le_of_lt hp)
    rw [Int.add_mul, Int.one_mul] at this
    rw [Int.compare_eq_lt.mpr (by omega), decide_eq_true (by omega)]; rfl
  · have : 0 * 2 ^ k ≤ N * 2 ^ k := Int.mul_le_mul_of_nonneg_right (by omega) (Int.le_of_lt hp)
    rw [decide_eq_false (by omega)]
    have hn : compare (p + N * 2 ^ k + G * 2 ^ (k - 1)) (G * 2 ^ (k - 1)) ≠ .lt := by rw [ne_eq, Int.compare_eq_lt]; omega
    revert hn
    cases compare (p + N * 2 ^ k + G * 2 ^ (k - 1)) (G * 2 ^ (k - 1)) <;> simp
/-- a half or a whole number is a moment too -/
theorem Fx.mo {x : UInt64} {H : Int} (h : Fx 1 x H) {W : Int} (hW0 : 0 ≤ W) (hW : W ≤ 2251799813685248) (hH : -(W + 8388608) ≤ H ∧ H ≤ W + 8388608) : Mo 1 x H 0 W :=
  ⟨by simpa using h, by decide, by decide, by decide, by decide, hW0, by simpa using hW, hH⟩
/-- a part of a day -/
structure Pt (k : Nat) (x : UInt64) (p W : Int) : Prop where
  fx : Fx k x p
  k1 : 1 ≤ k
  k29 : k ≤ 29
  p0 : 0 ≤ p
  p1 : p < 2 ^ k
  W0 : 0 ≤ W
  hW : W * 2 ^ (k - 1) ≤ 2251799813685248
theorem Pt.add {k : Nat} {x y : UInt64} {H p W : Int} (hx : Fx 1 x H) (h : Pt k y p W) (hb : -(W + 8388608) ≤ H ∧ H ≤ W + 8388608) : Mo k (Float64.add x y) H p W := by
  have sz := mo_size h.k1 h.k29 h.p0 h.p1 h.hW hb
  refine ⟨?_, h.k1, h.k29, h.p0, h.p1, h.W0, h.hW, hb⟩
  exact (hx.scale h.k1).add h.fx (by have := h.k29; omega) (by omega)
end Mine

namespace Mine
open PySem.Float64

theorem lit_arm : Fx 1 0x413d55c580000000 3845003 := Fx.lit (m := 0x1d55c580000000) (e := -32) (by kernel_rfl) (by decide) (by decide +kernel)
theorem lit_copt : Fx 1 0x413bd90580000000 3650059 := Fx.lit (m := 0x1bd90580000000) (e := -32) (by kernel_rfl) (by decide) (by decide +kernel)
theorem lit_fren : Fx 1 0x4142204fc0000000 4751679 := Fx.lit (m := 0x12204fc0000000) (e := -31) (by kernel_rfl) (by decide) (by decide +kernel)
theorem lit_isl : Fx 1 0x413dbb1780000000 3896879 := Fx.lit (m := 0x1dbb1780000000) (e := -32) (by kernel_rfl) (by decide) (by decide +kernel)
theorem lit_may : Fx 1 0x4121d4b500000000 1168565 := Fx.lit (m := 0x11d4b500000000) (e := -33) (by kernel_rfl) (by decide) (by decide +kernel)
theorem lit_half : Fx 1 0x3fe0000000000000 1 := Fx.lit (m := 0x10000000000000) (e := -53) (by kernel_rfl) (by decide) (by decide +kernel)
theorem lit_c1524 : Fx 1 0x4097d20000000000 3049 := Fx.lit (m := 0x17d20000000000) (e := -42) (by kernel_rfl) (by decide) (by decide +kernel)
theorem lit_c365 : Fx 0 0x4076d00000000000 365 := Fx.lit (m := 0x16d00000000000) (e := -44) (by kernel_rfl) (by decide) (by decide +kernel)
theorem lit1_c365 : Fx 1 0x4076d00000000000 730 := Fx.lit (m := 0x16d00000000000) (e := -44) (by kernel_rfl) (by decide) (by decide +kernel)
theorem lit_c1461 : Fx 0 0x4096d40000000000 1461 := Fx.lit (m := 0x16d40000000000) (e := -42) (by kernel_rfl) (by decide) (by decide +kernel)
theorem lit1_c1461 : Fx 1 0x4096d40000000000 2922 := Fx.lit (m := 0x16d40000000000) (e := -42) (by kernel_rfl) (by decide) (by decide +kernel)
theorem lit_c4 : Fx 0 0x4010000000000000 4 := Fx.lit (m := 0x10000000000000) (e := -50) (by kernel_rfl) (by decide) (by decide +kernel)
theorem lit1_c4 : Fx 1 0x4010000000000000 8 := Fx.lit (m := 0x10000000000000) (e := -50) (by kernel_rfl) (by decide) (by decide +kernel)
theorem lit_c30 : Fx 0 0x403e000000000000 30 := Fx.lit (m := 0x1e000000000000) (e := -48) (by kernel_rfl) (by decide) (by decide +kernel)
theorem lit1_c30 : Fx 1 0x403e000000000000 60 := Fx.lit (m := 0x1e000000000000) (e := -48) (by kernel_rfl) (by decide) (by decide +kernel)
theorem lit_c365q : Fx 2 0x4076d40000000000 1461 := Fx.lit (m := 0x16d40000000000) (e := -44) (by kernel_rfl) (by decide) (by decide +kernel)
theorem lit_c295 : Fx 1 0x403d800000000000 59 := Fx.lit (m := 0x1d800000000000) (e := -48) (by kernel_rfl) (by decide) (by decide +kernel)
theorem dec_1221 : decode 0x405e866666666666 = .fin false 0x1e866666666666 (-46) := by kernel_rfl
/-- what floor sees -/
def FlI (z : UInt64) (n : Int) : Prop := IsF z ∧ Flt.toInt floorOf z = n
theorem Flo.fl {z : UInt64} {n : Int} (h : Flo z n) : FlI z n := ⟨h.1, h.floor⟩
def flb (z : UInt64) (n : Int) : Bool := match decode z with
  | .fin s m e => decide (floorOf s m e = n)
  | _ => false
theorem FlI.of_flb {z : UInt64} {n : Int} (h : flb z n = true) : FlI z n := by
  unfold flb at h
  split at h
  · rename_i s m e hd
    exact ⟨⟨_, _, _, hd⟩, by rw [toInt_fin hd]; exact of_decide_eq_true h⟩
  · cases h
theorem mul306_all : (List.range 21).all (fun i => flb (Float64.mul 0x403e99a027525461 (Float64.ofInt (Int.ofNat i))) (306001 * Int.ofNat i / 10000)) = true := by decide +kernel
theorem mul306 {e : Int} (h : 0 ≤ e ∧ e ≤ 20) : FlI (Float64.mul 0x403e99a027525461 (Float64.ofInt e)) (306001 * e / 10000) := by
  have := List.all_eq_true.mp mul306_all e.toNat (List.mem_range.mpr (by omega))
  have e1 : Int.ofNat e.toNat = e := by rw [Int.ofNat_eq_natCast]; omega
  rw [e1] at this
  exact FlI.of_flb this
theorem div306_all : (List.range 500).all (fun i => flb (Float64.div (Float64.ofInt (Int.ofNat i)) 0x403e99a027525461) (10000 * Int.ofNat i / 306001)) = true := by decide +kernel
theorem div306 {e : Int} (h : 0 ≤ e ∧ e ≤ 499) : FlI (Float64.div (Float64.ofInt e) 0x403e99a027525461) (10000 * e / 306001) := by
  have := List.all_eq_true.mp div306_all e.toNat (List.mem_range.mpr (by omega))
  have e1 : Int.ofNat e.toNat = e := by rw [Int.ofNat_eq_natCast]; omega
  rw [e1] at this
  exact FlI.of_flb this
theorem lit306_nz : ¬ Float64.isZero 0x403e99a027525461 = true := by decide +kernel

/-- b - 122.1 -/
def J1 (z : UInt64) (b : Int) : Prop := IsF z ∧ (16 * b - 1954) * UU ≤ val z * 16 ∧ val z * 16 ≤ (16 * b - 1953) * UU
theorem UU4 : UU = 2 ^ 1070 * 16 := UU_split (j := 4) (by decide)
theorem UU46 : UU = 2 ^ 1028 * 70368744177664 := UU_split (j := 46) (by decide)
theorem j1_make {b : Int} (h : -300000000000000 ≤ b ∧ b ≤ 300000000000000) : J1 (Float64.sub (Float64.ofInt b) 0x405e866666666666) b := by
  obtain ⟨⟨a, m, e, hd⟩, hv⟩ := ofInt_val (i := b) (by omega)
  have hy := dec_1221
  have vy : val 0x405e866666666666 = 8592023664092774 * 2 ^ 1028 := by
    have e0 : ((-46 : Int) + 1074).toNat = 1028 := by decide
    have e2 : ((2 : Nat) : Int) = 2 := by decide
    have e3 : sgn false 0x1e866666666666 = 8592023664092774 := by decide
    rw [val_eq hy, e0, sgn_mul, Int.natCast_pow, e2, e3]
  have hU := UU_pos
  have hp : (0 : Int) < 2 ^ 1028 := pow2_pos _
  have hU46 := UU46
  have hU4 := UU4
  have ed : val (Float64.ofInt b) - val 0x405e866666666666 = (b * 70368744177664 - 8592023664092774) * 2 ^ 1028 := by
    rw [hv, vy, Int.sub_mul, UU46, Int.mul_assoc b]; rw [Int.mul_comm (2 ^ 1028)]
  obtain ⟨_, r1⟩ := sub_right hd hy
  rw [ed] at r1
  have hne : (b * 70368744177664 - 8592023664092774) * 2 ^ 1028 ≠ 0 := by
    intro q
    rcases Int.mul_eq_zero.mp q with q | q <;> omega
  have R := r1 hne
  obtain ⟨hf, hn'⟩ := near_of_right R (room (by decide) (by
    rw [Int.natAbs_mul, Int.natAbs_pow, Nat.one_mul]
    have c1 : (b * 70368744177664 - 8592023664092774).natAbs ≤ 2 ^ 100 := by omega
    exact Nat.le_trans (Nat.mul_le_mul_right _ c1) (by decide +kernel)))
  generalize hWs : (b * 70368744177664 - 8592023664092774) * 2 ^ 1028 = Ws at *
  have e1 : sgn (decide (Ws < 0)) Ws.natAbs = Ws := by
    unfold sgn
    by_cases q : Ws < 0
    · rw [decide_eq_true q]; simp only [if_true]; omega
    · rw [decide_eq_false q]; simp only [Bool.false_eq_true, if_false]; omega
  rw [e1] at hn'
  have N : Nr 1 (val (Float64.sub (Float64.ofInt b) 0x405e866666666666)) Ws := ⟨by decide, fun Z hZ => hn' Z hZ⟩
  have lo := N.ge (L := (16 * b - 1954) * 2 ^ 1070) (rp_of (by omega)) (by
    rw [Int.one_mul, ← hWs]
    have e2 : (2 : Int) ^ 1070 = 4398046511104 * 2 ^ 1028 := by
      have : (1070 : Nat) = 42 + 1028 := rfl
      rw [this, Int.pow_add]; rfl
    rw [e2, ← Int.mul_assoc]
    exact Int.mul_le_mul_of_nonneg_right (by omega) (Int.le_of_lt hp))
  have hi := N.le (L := (16 * b - 1953) * 2 ^ 1070) (rp_of (by omega)) (by
    rw [Int.one_mul, ← hWs]
    have e2 : (2 : Int) ^ 1070 = 4398046511104 * 2 ^ 1028 := by
      have : (1070 : Nat) = 42 + 1028 := rfl
      rw [this, Int.pow_add]; rfl
    rw [e2, ← Int.mul_assoc]
    exact Int.mul_le_mul_of_nonneg_right (by omega) (Int.le_of_lt hp))
  refine ⟨hf, ?_, ?_⟩
  · rw [UU4, ← Int.mul_assoc]
    exact Int.mul_le_mul_of_nonneg_right lo (by decide)
  · rw [UU4, ← Int.mul_assoc]
    exact Int.mul_le_mul_of_nonneg_right hi (by decide)
theorem j1_e (n v y U : Int) : y * (n * U) * 16 = (y * 4 * n * 4) * U := by
  have : (16 : Int) = 4 * 4 := rfl
  rw [this]; ac_rfl
theorem j1_div {z : UInt64} {b n : Int} (h : J1 z b) (hb : -300000000000000 ≤ b ∧ b ≤ 300000000000000) (h1 : 1461 * n ≤ 4 * b - 489) (h2 : 4 * b - 489 < 1461 * n + 1461) : Flo (Float64.div z 0x4076d40000000000) n := by
  obtain ⟨hz, z1, z2⟩ := h
  have hy := lit_c365q
  have vy : val 0x4076d40000000000 * 4 = 1461 * UU := hy.2
  have hU := UU_pos
  have hyp : 0 < val 0x4076d40000000000 := by omega
  have hzs : (val z).natAbs * 2 ^ 1074 ≤ (val 0x4076d40000000000).natAbs * 2 ^ 1200 := by
    have a1 : (16 * b - 1953) * UU ≤ 5000000000000000 * UU := Int.mul_le_mul_of_nonneg_right (by omega) (Int.le_of_lt hU)
    have a2 : (-5000000000000000) * UU ≤ (16 * b - 1954) * UU := Int.mul_le_mul_of_nonneg_right (by omega) (Int.le_of_lt hU)
    have a3 : (val z).natAbs ≤ 5000000000000000 * (val 0x4076d40000000000).natAbs := by
      generalize (16 * b - 1953) * UU = g1 at *
      generalize (16 * b - 1954) * UU = g2 at *
      generalize UU = U at *
      omega
    refine Nat.le_trans (Nat.mul_le_mul_right _ a3) ?_
    rw [Nat.mul_comm 5000000000000000, Nat.mul_assoc]
    exact Nat.mul_le_mul_left _ (by decide +kernel)
  obtain ⟨hf, N⟩ := div_nr hz hy.1 hyp hzs
  have r := N.flo (n := n) (j := 12) (by decide) (by omega) (by omega)
    (by
      refine mul_le_cancel (c := 16) (by decide) ?_
      have a1 : 5844 * n * UU ≤ (16 * b - 1954) * UU := Int.mul_le_mul_of_nonneg_right (by omega) (Int.le_of_lt hU)
      have a2 : 5844 * n * UU ≤ val z * 16 := Int.le_trans a1 z1
      have a3 := Int.mul_le_mul_of_nonneg_right a2 (Int.le_of_lt hU)
      have e1 : val 0x4076d40000000000 * (n * UU) * 16 = 5844 * n * UU * UU := by
        rw [j1_e n (val z), vy]
        have : (5844 : Int) = 1461 * 4 := rfl
        rw [this]
        generalize UU = U; ac_rfl
      rw [e1, Int.mul_right_comm (val z)]
      exact a3)
    (by
      refine mul_lt_cancel (c := 16) (by decide) ?_
      have a1 : 8192 * (16 * b - 1953) < 5844 * (2 * ((n + 1) * 2 ^ 12) - 1) := by
        have : (2 : Int) ^ 12 = 4096 := by decide
        rw [this]; omega
      have a2 : 8192 * (16 * b - 1953) * UU < 5844 * (2 * ((n + 1) * 2 ^ 12) - 1) * UU := Int.mul_lt_mul_of_pos_right a1 hU
      have a3 : 8192 * (val z * 16) ≤ 8192 * ((16 * b - 1953) * UU) := Int.mul_le_mul_of_nonneg_left z2 (by decide)
      rw [← Int.mul_assoc 8192 _ UU] at a3
      have a4 := Int.mul_lt_mul_of_pos_right (Int.lt_of_le_of_lt a3 a2) hU
      have e1 : val 0x4076d40000000000 * ((2 * ((n + 1) * 2 ^ 12) - 1) * UU) * 16 = 5844 * (2 * ((n + 1) * 2 ^ 12) - 1) * UU * UU := by
        rw [j1_e _ (val z), vy]
        have : (5844 : Int) = 1461 * 4 := rfl
        rw [this]
        generalize UU = U
        generalize 2 * ((n + 1) * 2 ^ 12) - 1 = q
        ac_rfl
      have e2 : 2 * (val z * UU) * 2 ^ 12 * 16 = 8192 * (val z * 16) * UU := by
        have : (8192 : Int) = 2 * 2 ^ 12 := by decide
        rw [this]
        generalize UU = U
        generalize (2 : Int) ^ 12 = q
        ac_rfl
      rw [e1, e2]
      exact a4)
  exact ⟨hf, r⟩
end Mine

namespace Mine
open PySem.Float64

section
variable {prog : Program} {w : World} {A : Around} {E : Value → Shared → Prop} {s : Shared} {Q : Value → Shared → Prop} {t u : Tok} {x y : UInt64} {H G W p n b i : Int} {k : Nat}

/- add -/
theorem r_add_ff (hx : Fx 1 x H) (hy : Fx 1 y G) (hb : -9007199254740992 ≤ H + G ∧ H + G ≤ 9007199254740992)
    (h : ∀ z, Fx 1 z (H + G) → Q (.float z s.toks) { s with toks := s.toks + 1 }) : wpAny (model prog w) A (binaryOp .Add (.float x t) (.float y u)) Q E s :=
  add_float (h _ (hx.add1 hy hb))
theorem r_add_fi (hx : Fx 1 x H) (hi : -9007199254740992 ≤ i ∧ i ≤ 9007199254740992) (hb : -9007199254740992 ≤ H + 2 * i ∧ H + 2 * i ≤ 9007199254740992)
    (h : ∀ z, Fx 1 z (H + 2 * i) → Q (.float z s.toks) { s with toks := s.toks + 1 }) : wpAny (model prog w) A (binaryOp .Add (.float x t) (.int i u)) Q E s :=
  AutoFloatOps.add_fi_1 (not_inf hi) (h _ (hx.add1 (Fx.int1 hi) hb))
theorem r_add_if (hx : Fx 1 x H) (hi : -9007199254740992 ≤ i ∧ i ≤ 9007199254740992) (hb : -9007199254740992 ≤ 2 * i + H ∧ 2 * i + H ≤ 9007199254740992)
    (h : ∀ z, Fx 1 z (2 * i + H) → Q (.float z s.toks) { s with toks := s.toks + 1 }) : wpAny (model prog w) A (binaryOp .Add (.int i t) (.float x u)) Q E s :=
  AutoFloatOps.add_if_1 (not_inf hi) (h _ ((Fx.int1 hi).add1 hx hb))
theorem r_iadd_fi (hx : Fx 1 x H) (hi : -9007199254740992 ≤ i ∧ i ≤ 9007199254740992) (hb : -9007199254740992 ≤ H + 2 * i ∧ H + 2 * i ≤ 9007199254740992)
    (h : ∀ z, Fx 1 z (H + 2 * i) → Q (.float z s.toks) { s with toks := s.toks + 1 }) : wpAny (model prog w) A (inplaceOp .Add (.float x t) (.int i u)) Q E s :=
  Flt.iadd_fi_1 (not_inf hi) (h _ (hx.add1 (Fx.int1 hi) hb))
theorem r_add_bi (hx : Btw x n) (hn : -1000 ≤ n ∧ n ≤ 1000) (hi : -1000 ≤ i ∧ i ≤ 1000)
    (h : ∀ z, Btw z (n + i) → Q (.float z s.toks) { s with toks := s.toks + 1 }) : wpAny (model prog w) A (binaryOp .Add (.float x t) (.int i u)) Q E s :=
  AutoFloatOps.add_fi_1 (not_inf (by omega)) (h _ (hx.add hn hi))
theorem r_add_mi (hx : Mo k x H p W) (hi : -9007199254740992 ≤ i ∧ i ≤ 9007199254740992) (hb : -(W + 8388608) ≤ H + 2 * i ∧ H + 2 * i ≤ W + 8388608)
    (h : ∀ z, Mo k z (H + 2 * i) p W → Q (.float z s.toks) { s with toks := s.toks + 1 }) : wpAny (model prog w) A (binaryOp .Add (.float x t) (.int i u)) Q E s :=
  AutoFloatOps.add_fi_1 (not_inf hi) (h _ (hx.add (Fx.int1 hi) hb))
theorem r_iadd_mf (hx : Mo k x H p W) (hy : Fx 1 y G) (hb : -(W + 8388608) ≤ H + G ∧ H + G ≤ W + 8388608)
    (h : ∀ z, Mo k z (H + G) p W → Q (.float z s.toks) { s with toks := s.toks + 1 }) : wpAny (model prog w) A (inplaceOp .Add (.float x t) (.float y u)) Q E s :=
  iadd_float (h _ (hx.add hy hb))
theorem r_add_fp (hx : Fx 1 x H) (hy : Pt k y p W) (hb : -(W + 8388608) ≤ H ∧ H ≤ W + 8388608)
    (h : ∀ z, Mo k z H p W → Q (.float z s.toks) { s with toks := s.toks + 1 }) : wpAny (model prog w) A (binaryOp .Add (.float x t) (.float y u)) Q E s :=
  add_float (h _ (Pt.add hx hy hb))
theorem r_add_fi2 (hx : Fx 1 x H) (he : H % 2 = 0) (hi : -9007199254740992 ≤ i ∧ i ≤ 9007199254740992) (hb : -18014398509481984 ≤ H + 2 * i ∧ H + 2 * i ≤ 18014398509481984)
    (h : ∀ z, Fx 1 z (H + 2 * i) → Q (.float z s.toks) { s with toks := s.toks + 1 }) : wpAny (model prog w) A (binaryOp .Add (.float x t) (.int i u)) Q E s := by
  obtain ⟨D, rfl⟩ : ∃ D, H = 2 * D := ⟨H / 2, by omega⟩
  have h1 := hx.half.add (Fx.ofInt (i := i) (by omega)) (by decide) (by omega)
  have h2 := h1.up 1
  rw [Nat.zero_add, Int.pow_one, Int.mul_comm, Int.mul_add] at h2
  exact AutoFloatOps.add_fi_1 (not_inf hi) (h _ h2)
theorem r_add_it (h : Q (.int (i + 1) s.toks) { s with toks := s.toks + 1 }) : wpAny (model prog w) A (binaryOp .Add (.int i t) (.bool true)) Q E s := add_int_bool h
theorem r_add_ib (h : Q (.int (i + 0) s.toks) { s with toks := s.toks + 1 }) : wpAny (model prog w) A (binaryOp .Add (.int i t) (.bool false)) Q E s := add_int_bool h
theorem r_sub_it (h : Q (.int (i - 1) s.toks) { s with toks := s.toks + 1 }) : wpAny (model prog w) A (binaryOp .Sub (.int i t) (.bool true)) Q E s := IntBool.sub_int_bool h
theorem r_sub_ib (h : Q (.int (i - 0) s.toks) { s with toks := s.toks + 1 }) : wpAny (model prog w) A (binaryOp .Sub (.int i t) (.bool false)) Q E s := IntBool.sub_int_bool h
/- sub -/
theorem r_sub_ff (hx : Fx 1 x H) (hy : Fx 1 y G) (hb : -9007199254740992 ≤ H - G ∧ H - G ≤ 9007199254740992)
    (h : ∀ z, Fx 1 z (H - G) → Q (.float z s.toks) { s with toks := s.toks + 1 }) : wpAny (model prog w) A (binaryOp .Sub (.float x t) (.float y u)) Q E s :=
  sub_float (h _ (hx.sub1 hy hb))
theorem r_sub_fi (hx : Fx 1 x H) (hi : -9007199254740992 ≤ i ∧ i ≤ 9007199254740992) (hb : -9007199254740992 ≤ H - 2 * i ∧ H - 2 * i ≤ 9007199254740992)
    (h : ∀ z, Fx 1 z (H - 2 * i) → Q (.float z s.toks) { s with toks := s.toks + 1 }) : wpAny (model prog w) A (binaryOp .Sub (.float x t) (.int i u)) Q E s :=
  AutoFloatOps.sub_fi_1 (not_inf hi) (h _ (hx.sub1 (Fx.int1 hi) hb))
theorem r_isub_fi (hx : Fx 1 x H) (hi : -9007199254740992 ≤ i ∧ i ≤ 9007199254740992) (hb : -9007199254740992 ≤ H - 2 * i ∧ H - 2 * i ≤ 9007199254740992)
    (h : ∀ z, Fx 1 z (H - 2 * i) → Q (.float z s.toks) { s with toks := s.toks + 1 }) : wpAny (model prog w) A (inplaceOp .Sub (.float x t) (.int i u)) Q E s :=
  Flt.isub_fi_1 (not_inf hi) (h _ (hx.sub1 (Fx.int1 hi) hb))
theorem r_sub_if (hx : Fx 1 x H) (hi : -9007199254740992 ≤ i ∧ i ≤ 9007199254740992) (hb : -9007199254740992 ≤ 2 * i - H ∧ 2 * i - H ≤ 9007199254740992)
    (h : ∀ z, Fx 1 z (2 * i - H) → Q (.float z s.toks) { s with toks := s.toks + 1 }) : wpAny (model prog w) A (binaryOp .Sub (.int i t) (.float x u)) Q E s :=
  AutoFloatOps.sub_if_1 (not_inf hi) (h _ ((Fx.int1 hi).sub1 hx hb))
theorem r_sub_j (hi : -300000000000000 ≤ i ∧ i ≤ 300000000000000)
    (h : ∀ z, J1 z i → Q (.float z s.toks) { s with toks := s.toks + 1 }) : wpAny (model prog w) A (binaryOp .Sub (.int i t) (.float 0x405e866666666666 u)) Q E s :=
  AutoFloatOps.sub_if_1 (not_inf (by omega)) (h _ (j1_make hi))
theorem r_sub_mf (hx : Mo k x H p W) (hy : Fx 1 y G) (hb : -(W + 8388608) ≤ H - G ∧ H - G ≤ W + 8388608)
    (h : ∀ z, Mo k z (H - G) p W → Q (.float z s.toks) { s with toks := s.toks + 1 }) : wpAny (model prog w) A (binaryOp .Sub (.float x t) (.float y u)) Q E s :=
  sub_float (h _ (hx.sub hy hb))
theorem r_sub_mi (hx : Mo k x H p W) (hi : -9007199254740992 ≤ i ∧ i ≤ 9007199254740992) (hb : -(W + 8388608) ≤ H - 2 * i ∧ H - 2 * i ≤ W + 8388608)
    (h : ∀ z, Mo k z (H - 2 * i) p W → Q (.float z s.toks) { s with toks := s.toks + 1 }) : wpAny (model prog w) A (binaryOp .Sub (.float x t) (.int i u)) Q E s :=
  AutoFloatOps.sub_fi_1 (not_inf hi) (h _ (hx.sub (Fx.int1 hi) hb))
theorem ediv_bounds {D b : Int} (hb : 0 < b) : b * (D / b) ≤ D ∧ D < b * (D / b) + b := by
  have h1 := Int.emod_add_mul_ediv D b
  have h2 := Int.emod_nonneg D (Int.ne_of_gt hb)
  have h3 := Int.emod_lt_of_pos D hb
  omega
/- mul -/
theorem fx_mul1 {H i : Int} (hx : Fx 1 x H) (hy : Fx 0 y i) (hb : -9007199254740992 ≤ H * i ∧ H * i ≤ 9007199254740992) : Fx 1 (Float64.mul x y) (H * i) := by
  have := hx.mul hy (by decide) (by omega)
  exact this
theorem fx_mul2 {H i : Int} (hx : Fx 1 x H) (hy : Fx 0 y i) (hb : -9007199254740992 ≤ i * H ∧ i * H ≤ 9007199254740992) : Fx 1 (Float64.mul y x) (i * H) := by
  have := hy.mul hx (by decide) (by omega)
  exact this
theorem fx_half_mul {H i D : Int} (hx : Fx 1 x H) (hy : Fx 0 y i) (he : H = 2 * D) (hb : -9007199254740992 ≤ D * i ∧ D * i ≤ 9007199254740992) : Fx 1 (Float64.mul x y) (2 * (D * i)) := by
  subst he
  have := (hx.half.mul hy (by decide) (by omega)).up 1
  rw [Int.mul_comm]
  exact this
theorem fx_half_mul2 {H i D : Int} (hx : Fx 1 x H) (hy : Fx 0 y i) (he : H = 2 * D) (hb : -9007199254740992 ≤ i * D ∧ i * D ≤ 9007199254740992) : Fx 1 (Float64.mul y x) (2 * (i * D)) := by
  subst he
  have := (hy.mul hx.half (by decide) (by omega)).up 1
  rw [Int.mul_comm]
  exact this
theorem r_mul_fi (hx : Fx 1 x H) (hi : -9007199254740992 ≤ i ∧ i ≤ 9007199254740992) (hb : -9007199254740992 ≤ H * i ∧ H * i ≤ 9007199254740992)
    (h : ∀ z, Fx 1 z (H * i) → Q (.float z s.toks) { s with toks := s.toks + 1 }) : wpAny (model prog w) A (binaryOp .Mult (.float x t) (.int i u)) Q E s :=
  AutoFloatOps.mul_fi_1 (not_inf hi) (h _ (fx_mul1 hx (Fx.ofInt (by omega)) hb))
/-- a whole number times an int; the value is even halves -/
theorem r_mul_if (hx : Fx 1 x H) (he : H % 2 = 0) (hi : -9007199254740992 ≤ i ∧ i ≤ 9007199254740992) (hb : -18014398509481984 ≤ i * H ∧ i * H ≤ 18014398509481984)
    (h : ∀ z, Fx 1 z (i * H) → Q (.float z s.toks) { s with toks := s.toks + 1 }) : wpAny (model prog w) A (binaryOp .Mult (.int i t) (.float x u)) Q E s := by
  obtain ⟨D, rfl⟩ : ∃ D, H = 2 * D := ⟨H / 2, by omega⟩
  rw [Int.mul_left_comm] at hb h
  exact AutoFloatOps.mul_if_1 (not_inf hi) (h _ (fx_half_mul2 hx (Fx.ofInt (by omega)) rfl (by omega)))
theorem r_mul_ff (hx : Fx 1 x H) (hy : Fx 0 y b) (hb : -9007199254740992 ≤ H * b ∧ H * b ≤ 9007199254740992)
    (h : ∀ z, Fx 1 z (H * b) → Q (.float z s.toks) { s with toks := s.toks + 1 }) : wpAny (model prog w) A (binaryOp .Mult (.float x t) (.float y u)) Q E s :=
  mul_float (h _ (fx_mul1 hx hy hb))
theorem r_mul_q (hi : -1000000000000 ≤ i ∧ i ≤ 1000000000000)
    (h : ∀ z, Fx 2 z (1461 * i) → Q (.float z s.toks) { s with toks := s.toks + 1 }) : wpAny (model prog w) A (binaryOp .Mult (.float 0x4076d40000000000 t) (.int i u)) Q E s :=
  AutoFloatOps.mul_fi_1 (not_inf (by omega)) (h _ (lit_c365q.mul (Fx.ofInt (by omega)) (by decide) (by omega)))
theorem r_mul_306 (hi : 0 ≤ i ∧ i ≤ 20)
    (h : ∀ z n, 10000 * n ≤ 306001 * i → 306001 * i < 10000 * n + 10000 → FlI z n → Q (.float z s.toks) { s with toks := s.toks + 1 }) : wpAny (model prog w) A (binaryOp .Mult (.float 0x403e99a027525461 t) (.int i u)) Q E s := by
  have e := ediv_bounds (D := 306001 * i) (b := 10000) (by decide)
  exact AutoFloatOps.mul_fi_1 (not_inf (by omega)) (h _ _ e.1 e.2 (mul306 hi))
/- div -/
theorem r_div_fi (hx : Fx 1 x H) (he : H % 2 = 0) (hi : 0 < b ∧ b ≤ 1000000) (hs : -18014398505481984 ≤ H ∧ H ≤ 18014398505481984)
    (h : ∀ z n, 2 * (b * n) ≤ H → H < 2 * (b * n) + 2 * b → Flo z n → Q (.float z s.toks) { s with toks := s.toks + 1 }) : wpAny (model prog w) A (binaryOp .Div (.float x t) (.int b u)) Q E s := by
  obtain ⟨D, rfl⟩ : ∃ D, H = 2 * D := ⟨H / 2, by omega⟩
  have hb := Fx.ofInt (i := b) (by omega)
  have e := ediv_bounds (D := D) hi.1
  exact AutoFloatOps.truediv_fi_2 (not_inf (by omega)) (not_zero hb hi.1) (h _ _ (by omega) (by omega) (hx.half.divF hb hi.1 (by omega)))
theorem r_div_ff (hx : Fx 1 x H) (he : H % 2 = 0) (hy : Fx 0 y b) (hi : 0 < b ∧ b ≤ 1000000) (hs : -18014398505481984 ≤ H ∧ H ≤ 18014398505481984)
    (h : ∀ z n, 2 * (b * n) ≤ H → H < 2 * (b * n) + 2 * b → Flo z n → Q (.float z s.toks) { s with toks := s.toks + 1 }) : wpAny (model prog w) A (binaryOp .Div (.float x t) (.float y u)) Q E s := by
  obtain ⟨D, rfl⟩ : ∃ D, H = 2 * D := ⟨H / 2, by omega⟩
  have e := ediv_bounds (D := D) hi.1
  exact AutoFloatOps.truediv_1 (not_zero hy hi.1) (h _ _ (by omega) (by omega) (hx.half.divF hy hi.1 (by omega)))
theorem r_div_if (hy : Fx 0 y b) (hi : 0 < b ∧ b ≤ 1000000) (hs : -9007199252740992 ≤ i ∧ i ≤ 9007199252740992)
    (h : ∀ z n, b * n ≤ i → i < b * n + b → Flo z n → Q (.float z s.toks) { s with toks := s.toks + 1 }) : wpAny (model prog w) A (binaryOp .Div (.int i t) (.float y u)) Q E s := by
  have e := ediv_bounds (D := i) hi.1
  exact AutoFloatOps.truediv_if_2 (not_inf (by omega)) (not_zero hy hi.1) (h _ _ e.1 e.2 ((Fx.ofInt (by omega)).divF hy hi.1 (by omega)))
theorem r_div_ii (hi : 0 < b ∧ b ≤ 1000000) (hs : -9007199252740992 ≤ i ∧ i ≤ 9007199252740992)
    (h : ∀ z n, b * n ≤ i → i < b * n + b → Flo z n → Q (.float z s.toks) { s with toks := s.toks + 1 }) : wpAny (model prog w) A (binaryOp .Div (.int i t) (.int b u)) Q E s := by
  have e := ediv_bounds (D := i) hi.1
  have f := fracF (a := i) (b := b) hi.1 (by omega)
  exact AutoIntOps.truediv_2 (by have := hi.1; simp only [beq_iff_eq]; omega) f.1.inf (h _ _ e.1 e.2 f)
theorem r_div_iib (hi : 0 < b ∧ b ≤ 64) (hs : -100000 ≤ i ∧ i ≤ 100000)
    (h : ∀ z n, b * n ≤ i → i < b * n + b → Btw z n → Q (.float z s.toks) { s with toks := s.toks + 1 }) : wpAny (model prog w) A (binaryOp .Div (.int i t) (.int b u)) Q E s := by
  have e := ediv_bounds (D := i) hi.1
  have f := fracB (a := i) (b := b) hi.1 hi.2 hs
  exact AutoIntOps.truediv_2 (by have := hi.1; simp only [beq_iff_eq]; omega) f.1.inf (h _ _ e.1 e.2 f)
theorem r_div_mi (hx : Mo k x H p W) (he : H % 2 = 0) (hi : 0 < b ∧ b ≤ 1000000)
    (h : ∀ z n, 2 * (b * n) ≤ H → H < 2 * (b * n) + 2 * b → Flo z n → Q (.float z s.toks) { s with toks := s.toks + 1 }) : wpAny (model prog w) A (binaryOp .Div (.float x t) (.int b u)) Q E s := by
  obtain ⟨N, rfl⟩ : ∃ D, H = 2 * D := ⟨H / 2, by omega⟩
  have hb := Fx.ofInt (i := b) (by omega)
  have e := ediv_bounds (D := N) hi.1
  exact AutoFloatOps.truediv_fi_2 (not_inf (by omega)) (not_zero hb hi.1) (h _ _ (by omega) (by omega) (hx.div rfl hb hi.1 hi.2))
theorem r_div_j (hz : J1 x i) (hi : -300000000000000 ≤ i ∧ i ≤ 300000000000000)
    (h : ∀ z n, 1461 * n ≤ 4 * i - 489 → 4 * i - 489 < 1461 * n + 1461 → Flo z n → Q (.float z s.toks) { s with toks := s.toks + 1 }) : wpAny (model prog w) A (binaryOp .Div (.float x t) (.float 0x4076d40000000000 u)) Q E s := by
  have e := ediv_bounds (D := 4 * i - 489) (b := 1461) (by decide)
  exact AutoFloatOps.truediv_1 (not_zero lit_c365q (by decide)) (h _ _ e.1 e.2 (j1_div hz hi e.1 e.2))
theorem r_div_306 (hi : 0 ≤ i ∧ i ≤ 499)
    (h : ∀ z n, 306001 * n ≤ 10000 * i → 10000 * i < 306001 * n + 306001 → FlI z n → Q (.float z s.toks) { s with toks := s.toks + 1 }) : wpAny (model prog w) A (binaryOp .Div (.int i t) (.float 0x403e99a027525461 u)) Q E s := by
  have e := ediv_bounds (D := 10000 * i) (b := 306001) (by decide)
  exact AutoFloatOps.truediv_if_2 (not_inf (by omega)) lit306_nz (h _ _ e.1 e.2 (div306 hi))
theorem r_div_295 (hx : Fx 1 x H) (hs : -1000000 ≤ H ∧ H ≤ 1000000)
    (h : ∀ z n, H ≤ 59 * n → 59 * n < H + 59 → Cei z n → Q (.float z s.toks) { s with toks := s.toks + 1 }) : wpAny (model prog w) A (binaryOp .Div (.float x t) (.float 0x403d800000000000 u)) Q E s := by
  have e := ediv_bounds (D := -H) (b := 59) (by decide)
  exact AutoFloatOps.truediv_1 (not_zero lit_c295 (by decide)) (h _ (-((-H) / 59)) (by omega) (by omega) (hx.divC lit_c295 (by decide) (by omega)))
/- mod -/
theorem emod_parts {D b : Int} (hb : 0 < b) : 0 ≤ D % b ∧ D % b < b ∧ D = b * (D / b) + D % b := by
  have h1 := Int.emod_add_mul_ediv D b
  have h2 := Int.emod_nonneg D (Int.ne_of_gt hb)
  have h3 := Int.emod_lt_of_pos D hb
  omega
theorem fx_mod {D : Int} (hx : Fx 1 x H) (he : H = 2 * D) (hy : Fx 0 y b) (hb : 0 < b) (hb2 : b ≤ 1000000) : Fx 1 (divmod x y).2 (2 * (D % b)) := by
  subst he
  have := (hx.half.mod hy (by decide) hb (by omega)).up 1
  rw [Int.mul_comm]
  exact this
theorem r_mod_fi (hx : Fx 1 x H) (he : H % 2 = 0) (hi : 0 < b ∧ b ≤ 1000000)
    (h : ∀ z q r, 0 ≤ r → r < b → H = 2 * (b * q) + 2 * r → Fx 1 z (2 * r) → Q (.float z s.toks) { s with toks := s.toks + 1 }) : wpAny (model prog w) A (binaryOp .Mod (.float x t) (.int b u)) Q E s := by
  obtain ⟨D, rfl⟩ : ∃ D, H = 2 * D := ⟨H / 2, by omega⟩
  have hb := Fx.ofInt (i := b) (by omega)
  have e := emod_parts (D := D) hi.1
  exact AutoFloatOps.mod_fi_2 (not_inf (by omega)) (not_zero hb hi.1) (h _ (D / b) _ e.1 e.2.1 (by omega) (fx_mod hx rfl hb hi.1 hi.2))
theorem r_mod_ff (hx : Fx 1 x H) (he : H % 2 = 0) (hy : Fx 0 y b) (hi : 0 < b ∧ b ≤ 1000000)
    (h : ∀ z q r, 0 ≤ r → r < b → H = 2 * (b * q) + 2 * r → Fx 1 z (2 * r) → Q (.float z s.toks) { s with toks := s.toks + 1 }) : wpAny (model prog w) A (binaryOp .Mod (.float x t) (.float y u)) Q E s := by
  obtain ⟨D, rfl⟩ : ∃ D, H = 2 * D := ⟨H / 2, by omega⟩
  have e := emod_parts (D := D) hi.1
  exact AutoFloatOps.mod_1 (not_zero hy hi.1) (h _ (D / b) _ e.1 e.2.1 (by omega) (fx_mod hx rfl hy hi.1 hi.2))
theorem r_mod_if (hy : Fx 0 y b) (hi : 0 < b ∧ b ≤ 1000000) (hs : -9007199254740992 ≤ i ∧ i ≤ 9007199254740992)
    (h : ∀ z q r, 0 ≤ r → r < b → i = b * q + r → Fx 1 z (2 * r) → Q (.float z s.toks) { s with toks := s.toks + 1 }) : wpAny (model prog w) A (binaryOp .Mod (.int i t) (.float y u)) Q E s := by
  have e := emod_parts (D := i) hi.1
  exact AutoFloatOps.mod_if_2 (not_inf hs) (not_zero hy hi.1) (h _ _ _ e.1 e.2.1 e.2.2 (fx_mod (Fx.int1 hs) rfl hy hi.1 hi.2))
theorem r_mod_mi (hx : Mo k x H p W) (he : H % 2 = 0) (hi : 0 < b ∧ b ≤ 1000000)
    (h : ∀ z q r, 0 ≤ r → r < b → H = 2 * (b * q) + 2 * r → Mo k z (2 * r) p W → Q (.float z s.toks) { s with toks := s.toks + 1 }) : wpAny (model prog w) A (binaryOp .Mod (.float x t) (.int b u)) Q E s := by
  obtain ⟨N, rfl⟩ : ∃ D, H = 2 * D := ⟨H / 2, by omega⟩
  have hb := Fx.ofInt (i := b) (by omega)
  have e := emod_parts (D := N) hi.1
  exact AutoFloatOps.mod_fi_2 (not_inf (by omega)) (not_zero hb hi.1) (h _ (N / b) _ e.1 e.2.1 (by omega) (hx.mod rfl hb hi.1 hi.2))
/- compare -/
theorem cmpB_lt (a b : Int) : (some (compare a b) == some Ordering.lt) = decide (a < b) := by
  by_cases q : a < b
  · rw [Int.compare_eq_lt.mpr q, decide_eq_true q]; rfl
  · have : compare a b ≠ .lt := fun e => q (Int.compare_eq_lt.mp e)
    rw [decide_eq_false q]
    revert this
    cases compare a b <;> simp
theorem cmpB_eq (a b : Int) : (some (compare a b) == some Ordering.eq) = decide (a = b) := by
  by_cases q : a = b
  · subst q; simp
  · have : compare a b ≠ .eq := fun e => q (Int.compare_eq_eq.mp e)
    rw [decide_eq_false q]
    revert this
    cases compare a b <;> simp
theorem cmpB_le (a b : Int) : (some (compare a b) == some Ordering.lt || some (compare a b) == some Ordering.eq) = decide (a ≤ b) := by
  rw [cmpB_lt, cmpB_eq]
  by_cases q : a < b
  · rw [decide_eq_true q, decide_eq_true (show a ≤ b by omega)]; rfl
  · by_cases r : a = b
    · rw [decide_eq_false q, decide_eq_true r, decide_eq_true (show a ≤ b by omega)]; rfl
    · rw [decide_eq_false q, decide_eq_false r, decide_eq_false (show ¬ a ≤ b by omega)]; rfl
theorem r_lt_fi (hx : Fx 1 x H) (h : Q (.bool (decide (H < 2 * i))) s) : wpAny (model prog w) A (compareOp .Lt (.float x t) (.int i u)) Q E s := by
  refine lt_fi ?_
  rw [hx.cmpInt, cmpB_lt, Int.pow_one, Int.mul_comm i]
  exact h
theorem r_lt_mi (hx : Mo k x H p W) (he : H % 2 = 0) (h : Q (.bool (decide (H < 2 * i))) s) : wpAny (model prog w) A (compareOp .Lt (.float x t) (.int i u)) Q E s := by
  refine lt_fi ?_
  rw [hx.ltInt (N := H / 2) (by omega)]
  exact h
theorem r_lt_mf (hx : Mo k x H p W) (hy : Fx 1 y G) (he : (H - G) % 2 = 0) (h : Q (.bool (decide (H < G))) s) : wpAny (model prog w) A (compareOp .Lt (.float x t) (.float y u)) Q E s := by
  refine AutoFloatOps.lt_0 ?_
  rw [hx.ltF hy (N := (H - G) / 2) (by omega)]
  exact h
theorem r_le_ff (hx : Fx 1 x H) (hy : Fx 1 y G) (h : Q (.bool (decide (H ≤ G))) s) : wpAny (model prog w) A (compareOp .LtE (.float x t) (.float y u)) Q E s := by
  refine AutoFloatOps.le_0 ?_
  rw [hx.cmp hy, cmpB_le]
  exact h
theorem r_eq_ff (hx : Fx 1 x H) (hy : Fx 1 y G) (h : Q (.bool (decide (H = G))) s) : wpAny (model prog w) A (compareOp .Eq (.float x t) (.float y u)) Q E s := by
  refine AutoFloatOps.eq_0 ?_
  rw [hx.cmp hy, cmpB_eq]
  exact h
theorem r_ne_ff (hx : Fx 1 x H) (hy : Fx 1 y G) (h : Q (.bool (decide (H ≠ G))) s) : wpAny (model prog w) A (compareOp .NotEq (.float x t) (.float y u)) Q E s := by
  refine AutoFloatOps.ne_0 ?_
  have : (Float64.cmp x y != some Ordering.eq) = decide (H ≠ G) := by
    rw [bne, hx.cmp hy, cmpB_eq]
    by_cases q : H = G
    · rw [decide_eq_true q, decide_eq_false (by omega)]; rfl
    · rw [decide_eq_false q, decide_eq_true q]; rfl
  rw [this]
  exact h
theorem r_eq_if (hx : Fx 1 x H) (h : Q (.bool (decide (2 * i = H))) s) : wpAny (model prog w) A (compareOp .Eq (.int i t) (.float x u)) Q E s := by
  refine eq_if ?_
  rw [hx.cmpInt, cmpB_eq, Int.pow_one, Int.mul_comm i]
  have : decide (H = 2 * i) = decide (2 * i = H) := decide_eq_decide.mpr eq_comm
  rw [this]
  exact h
/- floor, ceil, trunc, int -/
theorem fl_run {n : Int} (hA : A.handled = none) (hf : IsF x) (e : Flt.toInt floorOf x = n) (h : Q (.int n s.toks) { s with toks := s.toks + 1 }) : wpAny (model prog w) A (call (.builtin "math.floor") [.float x t]) Q E s :=
  Flt.call_floor_float hA (fun q => absurd q hf.nan) (fun q => absurd q hf.inf) fun _ => by rw [e]; exact h
theorem ce_run {n : Int} (hA : A.handled = none) (hf : IsF x) (e : Flt.toInt ceilOf x = n) (h : Q (.int n s.toks) { s with toks := s.toks + 1 }) : wpAny (model prog w) A (call (.builtin "math.ceil") [.float x t]) Q E s :=
  Flt.call_ceil_float hA (fun q => absurd q hf.nan) (fun q => absurd q hf.inf) fun _ => by rw [e]; exact h
theorem tr_run {n : Int} (hA : A.handled = none) (hf : IsF x) (e : Flt.toInt truncOf x = n) (h : Q (.int n s.toks) { s with toks := s.toks + 1 }) : wpAny (model prog w) A (call (.builtin "math.trunc") [.float x t]) Q E s :=
  Flt.call_trunc_float hA (fun q => absurd q hf.nan) (fun q => absurd q hf.inf) fun _ => by rw [e]; exact h
theorem in_run {n : Int} (hA : A.handled = none) (hf : IsF x) (e : Flt.toInt truncOf x = n) (h : Q (.int n s.toks) { s with toks := s.toks + 1 }) : wpAny (model prog w) A (call (.type "int") [.float x t]) Q E s :=
  Flt.call_int_float3 hA (fun q => absurd q hf.nan) (fun q => absurd q hf.inf) fun _ => by rw [e]; exact h
theorem r_floor (hx : Flo x n) (hA : A.handled = none) (h : Q (.int n s.toks) { s with toks := s.toks + 1 }) : wpAny (model prog w) A (call (.builtin "math.floor") [.float x t]) Q E s :=
  fl_run hA hx.1 hx.floor h
theorem r_floor_b (hx : Btw x n) (hA : A.handled = none) (h : Q (.int n s.toks) { s with toks := s.toks + 1 }) : wpAny (model prog w) A (call (.builtin "math.floor") [.float x t]) Q E s :=
  fl_run hA hx.1 hx.flo.floor h
theorem r_floor_i (hx : FlI x n) (hA : A.handled = none) (h : Q (.int n s.toks) { s with toks := s.toks + 1 }) : wpAny (model prog w) A (call (.builtin "math.floor") [.float x t]) Q E s :=
  fl_run hA hx.1 hx.2 h
theorem r_floor_q (hx : Fx 2 x n) (hA : A.handled = none) (h : ∀ r, 4 * r ≤ n → n < 4 * r + 4 → Q (.int r s.toks) { s with toks := s.toks + 1 }) : wpAny (model prog w) A (call (.builtin "math.floor") [.float x t]) Q E s :=
  have e := ediv_bounds (D := n) (b := 4) (by decide)
  fl_run hA hx.1 hx.flo.floor (h _ e.1 e.2)
theorem r_floor_m (hx : Mo k x H p W) (he : H % 2 = 0) (hA : A.handled = none) (h : ∀ N, H = 2 * N → Q (.int N s.toks) { s with toks := s.toks + 1 }) : wpAny (model prog w) A (call (.builtin "math.floor") [.float x t]) Q E s := by
  have e : H = 2 * (H / 2) := by omega
  exact fl_run hA hx.fx.1 (hx.flo e).floor (h _ e)
theorem r_floor_n (hx : Mo k x H p W) (he : H % 2 = 1) (hp : 2 * p < 2 ^ k) (hA : A.handled = none) (h : ∀ N, H = 2 * N + 1 → Q (.int N s.toks) { s with toks := s.toks + 1 }) : wpAny (model prog w) A (call (.builtin "math.floor") [.float x t]) Q E s := by
  have e : H = 2 * (H / 2) + 1 := by omega
  exact fl_run hA hx.fx.1 (hx.floNoon e hp).floor (h _ e)
theorem r_ceil (hx : Cei x n) (hA : A.handled = none) (h : Q (.int n s.toks) { s with toks := s.toks + 1 }) : wpAny (model prog w) A (call (.builtin "math.ceil") [.float x t]) Q E s :=
  ce_run hA hx.1 hx.ceil h
theorem r_ceil_f (hx : Fx 1 x H) (hA : A.handled = none) (h : ∀ n, H ≤ 2 * n → 2 * n < H + 2 → Q (.int n s.toks) { s with toks := s.toks + 1 }) : wpAny (model prog w) A (call (.builtin "math.ceil") [.float x t]) Q E s := by
  have e := ediv_bounds (D := -H) (b := 2) (by decide)
  have c := hx.cei
  rw [Int.pow_one] at c
  exact ce_run hA hx.1 c.ceil (h _ (by omega) (by omega))
theorem r_trunc (hx : Flo x n) (h0 : 0 ≤ n) (hA : A.handled = none) (h : Q (.int n s.toks) { s with toks := s.toks + 1 }) : wpAny (model prog w) A (call (.builtin "math.trunc") [.float x t]) Q E s :=
  tr_run hA hx.1 (hx.trunc h0) h
theorem r_trunc_m (hx : Mo k x H p W) (he : H % 2 = 0) (h0 : 0 ≤ H) (hA : A.handled = none) (h : ∀ N, H = 2 * N → Q (.int N s.toks) { s with toks := s.toks + 1 }) : wpAny (model prog w) A (call (.builtin "math.trunc") [.float x t]) Q E s := by
  have e : H = 2 * (H / 2) := by omega
  exact tr_run hA hx.fx.1 ((hx.flo e).trunc (by omega)) (h _ e)
theorem r_trunc_n (hx : Mo k x H p W) (he : H % 2 = 1) (hp : 2 * p < 2 ^ k) (h0 : 0 ≤ H) (hA : A.handled = none) (h : ∀ N, H = 2 * N + 1 → Q (.int N s.toks) { s with toks := s.toks + 1 }) : wpAny (model prog w) A (call (.builtin "math.trunc") [.float x t]) Q E s := by
  have e : H = 2 * (H / 2) + 1 := by omega
  exact tr_run hA hx.fx.1 ((hx.floNoon e hp).trunc (by omega)) (h _ e)
theorem r_trunc_f (hx : Fx 1 x H) (he : H % 2 = 0) (hA : A.handled = none) (h : ∀ N, H = 2 * N → Q (.int N s.toks) { s with toks := s.toks + 1 }) : wpAny (model prog w) A (call (.builtin "math.trunc") [.float x t]) Q E s := by
  obtain ⟨D, rfl⟩ : ∃ D, H = 2 * D := ⟨H / 2, by omega⟩
  exact tr_run hA hx.1 hx.half.trunc0 (h _ rfl)
theorem r_int_f (hx : Fx 1 x H) (he : H % 2 = 0) (hA : A.handled = none) (h : ∀ N, H = 2 * N → Q (.int N s.toks) { s with toks := s.toks + 1 }) : wpAny (model prog w) A (call (.type "int") [.float x t]) Q E s := by
  obtain ⟨D, rfl⟩ : ∃ D, H = 2 * D := ⟨H / 2, by omega⟩
  exact in_run hA hx.1 hx.half.trunc0 (h _ rfl)
theorem r_int_m (hx : Mo k x H p W) (he : H % 2 = 0) (h0 : 0 ≤ H) (hA : A.handled = none) (h : ∀ N, H = 2 * N → Q (.int N s.toks) { s with toks := s.toks + 1 }) : wpAny (model prog w) A (call (.type "int") [.float x t]) Q E s := by
  have e : H = 2 * (H / 2) := by omega
  exact in_run hA hx.fx.1 ((hx.flo e).trunc (by omega)) (h _ e)
end
end Mine

namespace Mine
open PySem.Float64
/-- a part of a day that may be halved -/
structure Pq (k : Nat) (x : UInt64) (p W : Int) : Prop where
  fx : Fx k x p
  k1 : 1 ≤ k
  k28 : k ≤ 28
  p0 : 0 ≤ p
  p1 : p < 2 ^ k
  W0 : 0 ≤ W
  hW : W * 2 ^ k ≤ 2251799813685248
theorem Pq.pt {k : Nat} {x : UInt64} {p W : Int} (h : Pq k x p W) : Pt k x p W := by
  refine ⟨h.fx, h.k1, by have := h.k28; omega, h.p0, h.p1, h.W0, ?_⟩
  have h1 := h.hW
  rw [pk1 h.k1] at h1
  have h2 := Int.mul_nonneg h.W0 (Int.le_of_lt (pow2_pos (k - 1)))
  rw [Int.mul_left_comm] at h1
  omega
theorem two_fx0 : Fx 0 (ofInt 2) 2 := Fx.ofInt (by decide)
theorem Pq.half {k : Nat} {x : UInt64} {p W : Int} (h : Pq k x p W) : Pt (k + 1) (Float64.div x (ofInt 2)) p W := by
  have hk : k ≤ 1073 := by have := h.k28; omega
  have hP : (2 : Int) ^ k ≤ 536870912 := by have := pk29 (k := k) (by have := h.k28; omega); rw [pk1 h.k1]; omega
  have vx := h.fx.val (by omega)
  have vy := two_fx0.val0
  have hp53 : p.natAbs ≤ 2 ^ 53 := by have := h.p0; have := h.p1; omega
  obtain ⟨hf, N⟩ := div_nr h.fx.1 two_fx0.1 (by rw [vy]; exact Int.mul_pos (by decide) UU_pos) (by
    rw [vx, vy, natAbs_UU, Int.natAbs_mul, Nat.mul_right_comm (Int.natAbs 2)]
    refine Nat.mul_le_mul ?_ (Nat.le_refl _)
    have c2 : ((2 : Int) ^ (1074 - k)).natAbs ≤ 2 ^ 1074 := by
      rw [Int.natAbs_pow]; exact Nat.pow_le_pow_right (by decide) (by omega)
    exact Nat.le_trans (Nat.mul_le_mul hp53 c2) (ubound (by decide) (by decide)))
  have hv := N.eq (rp_of (n := p) (e := 1074 - (k + 1)) hp53) (by
    rw [vx, vy]
    have e1 : (2 : Int) ^ (1074 - k) = 2 * 2 ^ (1074 - (k + 1)) := by
      have : 1074 - k = (1074 - (k + 1)) + 1 := by omega
      rw [this, Int.pow_succ, Int.mul_comm]
    rw [e1]
    generalize (2 : Int) ^ (1074 - (k + 1)) = g
    generalize UU = U
    ac_rfl)
  have hp2 : p < 2 ^ (k + 1) := by rw [Int.pow_succ]; have := h.p1; have := pow2_pos k; omega
  exact ⟨Fx.of_val hf (by omega) hv, by omega, by have := h.k28; omega, h.p0, hp2, h.W0, by rw [Nat.add_sub_cancel]; exact h.hW⟩
theorem frac_pow {k : Nat} {a : Int} (hk : k ≤ 28) (h0 : 0 ≤ a) (h1 : a < 2 ^ k) : Fx k (ofFrac (decide (a < 0) != decide ((2 : Int) ^ k < 0)) a.natAbs ((2 : Int) ^ k).natAbs) a := by
  have hP : (2 : Int) ^ k ≤ 536870912 := by
    have : (2 : Nat) ^ k ≤ 2 ^ 28 := Nat.pow_le_pow_right (by decide) hk
    have := Int.ofNat_le.mpr this
    rw [Int.natCast_pow] at this
    exact Int.le_trans this (by decide)
  have hp := pow2_pos k
  obtain ⟨hf, N⟩ := frac_nr (a := a) (b := 2 ^ k) hp (ubound (by omega) (by omega))
  have hv := N.eq (rp_of (n := a) (e := 1074 - k) (by omega)) (by
    rw [UU_split (j := k) (by omega), Int.mul_comm ((2 : Int) ^ k), Int.mul_assoc])
  exact Fx.of_val hf (by omega) hv
end Mine

namespace Mine
abbrev leapG (y : Int) : Prop := y % 4 = 0 ∧ (y % 100 ≠ 0 ∨ y % 400 = 0)
def jan (y : Int) : Int := 365 * (y - 1) + (y - 1) / 4 - (y - 1) / 100 + (y - 1) / 400
def offG (y m : Int) : Int := (367 * m - 362) / 12 + (if m ≤ 2 then 0 else if leapG y then -1 else -2)
def gN (y m d : Int) : Int := jan y + (offG y m + d)
def LegG (y m d : Int) : Prop := 1 ≤ d ∧ d ≤ 31 ∧ (m = 4 ∨ m = 6 ∨ m = 9 ∨ m = 11 → d ≤ 30) ∧ (m = 2 → d ≤ 28 ∨ d = 29 ∧ y % 4 = 0 ∧ (y % 100 ≠ 0 ∨ y % 400 = 0))
/-- y, m, d is the date of day D -/
structure GrP (D y m d : Int) : Prop where
  m1 : 1 ≤ m
  m2 : m ≤ 12
  leg : LegG y m d
  num : gN y m d = D + 1
/-- the year of a day, and the day in it -/
theorem greg_year {D q r c r2 d r3 e Y : Int} (h1 : D = 146097 * q + r) (h2 : 0 ≤ r) (h3 : r < 146097) (h4 : r = 36524 * c + r2) (h5 : 0 ≤ r2) (h6 : r2 < 36524)
    (h7 : r2 = 1461 * d + r3) (h8 : 0 ≤ r3) (h9 : r3 < 1461) (h10 : 365 * e ≤ r3) (h11 : r3 < 365 * e + 365)
    (hY : (c = 4 ∨ e = 4) ∧ Y = q * 400 + c * 100 + d * 4 + e ∨ ¬ (c = 4 ∨ e = 4) ∧ Y = q * 400 + c * 100 + d * 4 + e + 1) :
    jan Y ≤ D ∧ D ≤ jan Y + 365 ∧ (D = jan Y + 365 → leapG Y) := by
  unfold jan leapG
  have hc : 0 ≤ c ∧ c ≤ 4 := by omega
  have he : 0 ≤ e ∧ e ≤ 4 := by omega
  have hd : 0 ≤ d ∧ d ≤ 24 := by omega
  have h4c : c = 4 → d = 0 ∧ e = 0 ∧ r3 = 0 ∧ r2 = 0 := by omega
  rcases hY with ⟨hs, hY⟩ | ⟨hs, hY⟩
  · by_cases q4 : c = 4
    · obtain ⟨rfl, rfl, rfl, rfl⟩ := h4c q4
      subst q4
      have e1 : (Y - 1) / 4 = 100 * q + 99 := by omega
      have e2 : (Y - 1) / 100 = 4 * q + 3 := by omega
      have e3 : (Y - 1) / 400 = q := by omega
      rw [e1, e2, e3]
      refine ⟨by omega, by omega, fun _ => ⟨by omega, .inr (by omega)⟩⟩
    · have q5 : e = 4 := by omega
      subst q5
      have e1 : (Y - 1) / 4 = 100 * q + 25 * c + d := by omega
      have e2 : (Y - 1) / 100 = 4 * q + c := by omega
      have e3 : (Y - 1) / 400 = q := by omega
      rw [e1, e2, e3]
      refine ⟨by omega, by omega, fun _ => ⟨by omega, ?_⟩⟩
      by_cases q6 : d = 24
      · omega
      · left; omega
  · have e1 : (Y - 1) / 4 = 100 * q + 25 * c + d := by omega
    have e2 : (Y - 1) / 100 = 4 * q + c := by omega
    have e3 : (Y - 1) / 400 = q := by omega
    rw [e1, e2, e3]
    refine ⟨by omega, by omega, fun _ => ?_⟩
    omega
theorem greg_last {D q r c r2 d r3 e Y : Int} (h1 : D = 146097 * q + r) (h2 : 0 ≤ r) (h3 : r < 146097) (h4 : r = 36524 * c + r2) (h5 : 0 ≤ r2) (h6 : r2 < 36524)
    (h7 : r2 = 1461 * d + r3) (h8 : 0 ≤ r3) (h9 : r3 < 1461) (h10 : 365 * e ≤ r3) (h11 : r3 < 365 * e + 365) (hs : c = 4 ∨ e = 4) (hY : Y = q * 400 + c * 100 + d * 4 + e) : D = jan Y + 365 := by
  unfold jan
  have hd : 0 ≤ d ∧ d ≤ 24 := by omega
  have hc : 0 ≤ c ∧ c ≤ 4 := by omega
  have h4c : c = 4 → d = 0 ∧ e = 0 ∧ r3 = 0 ∧ r2 = 0 := by omega
  by_cases q4 : c = 4
  · obtain ⟨rfl, rfl, rfl, rfl⟩ := h4c q4
    subst q4
    have e1 : (Y - 1) / 4 = 100 * q + 99 := by omega
    have e2 : (Y - 1) / 100 = 4 * q + 3 := by omega
    have e3 : (Y - 1) / 400 = q := by omega
    rw [e1, e2, e3]
    omega
  · have q5 : e = 4 := by omega
    subst q5
    have e1 : (Y - 1) / 4 = 100 * q + 25 * c + d := by omega
    have e2 : (Y - 1) / 100 = 4 * q + c := by omega
    have e3 : (Y - 1) / 400 = q := by omega
    rw [e1, e2, e3]
    omega
/-- the month: yd is the day of the year, from nought -/
theorem greg_month {yd Y m a : Int} (h0 : 0 ≤ yd) (h1 : yd ≤ 365) (h2 : yd = 365 → leapG Y)
    (ha : (leapG Y ∧ (yd < 59 ∧ a = 0 ∨ ¬ yd < 59 ∧ a = 1)) ∨ (¬ leapG Y ∧ (yd < 58 ∧ a = 0 ∨ ¬ yd < 58 ∧ a = 2)))
    (hm1 : 367 * m ≤ (yd + a) * 12 + 373) (hm2 : (yd + a) * 12 + 373 < 367 * m + 367) :
    1 ≤ m ∧ m ≤ 12 ∧ LegG Y m (yd - offG Y m + 1) := by
  unfold offG
  have hya : 0 ≤ yd + a ∧ yd + a ≤ 366 := by
    rcases ha with ⟨_, h⟩ | ⟨hl, h⟩
    · omega
    · have : yd ≠ 365 := fun q => hl (h2 q)
      omega
  have hm : 1 ≤ m ∧ m ≤ 12 := by omega
  refine ⟨hm.1, hm.2, ?_⟩
  unfold LegG
  have hmm : m = 1 ∨ m = 2 ∨ m = 3 ∨ m = 4 ∨ m = 5 ∨ m = 6 ∨ m = 7 ∨ m = 8 ∨ m = 9 ∨ m = 10 ∨ m = 11 ∨ m = 12 := by omega
  by_cases hl : leapG Y
  · have ha' : yd < 59 ∧ a = 0 ∨ ¬ yd < 59 ∧ a = 1 := by
      rcases ha with h | h
      · exact h.2
      · exact absurd hl h.1
    have hl' : Y % 4 = 0 ∧ (Y % 100 ≠ 0 ∨ Y % 400 = 0) := hl
    rcases hmm with rfl | rfl | rfl | rfl | rfl | rfl | rfl | rfl | rfl | rfl | rfl | rfl <;> simp only [if_pos hl] <;> omega
  · have ha' : yd < 58 ∧ a = 0 ∨ ¬ yd < 58 ∧ a = 2 := by
      rcases ha with h | h
      · exact absurd h.1 hl
      · exact h.2
    have h3 : yd ≤ 364 := by
      by_cases q : yd = 365
      · exact absurd (h2 q) hl
      · omega
    rcases hmm with rfl | rfl | rfl | rfl | rfl | rfl | rfl | rfl | rfl | rfl | rfl | rfl <;> simp only [if_neg hl] <;> omega
/-- a date's year holds its day -/
theorem GrP.year {D y m d : Int} (h : GrP D y m d) : jan y ≤ D ∧ D ≤ jan y + 365 ∧ (D = jan y + 365 → leapG y) := by
  obtain ⟨h1, h2, h3, h4⟩ := h
  unfold gN offG at h4
  obtain ⟨l1, l2, l3, l4⟩ := h3
  have hmm : m = 1 ∨ m = 2 ∨ m = 3 ∨ m = 4 ∨ m = 5 ∨ m = 6 ∨ m = 7 ∨ m = 8 ∨ m = 9 ∨ m = 10 ∨ m = 11 ∨ m = 12 := by omega
  by_cases hl : leapG y
  · rw [if_pos hl] at h4
    refine ⟨?_, ?_, fun _ => hl⟩ <;> rcases hmm with rfl | rfl | rfl | rfl | rfl | rfl | rfl | rfl | rfl | rfl | rfl | rfl <;> omega
  · rw [if_neg hl] at h4
    have hn : ¬ (y % 4 = 0 ∧ (y % 100 ≠ 0 ∨ y % 400 = 0)) := hl
    refine ⟨?_, ?_, fun q => ?_⟩
    · rcases hmm with rfl | rfl | rfl | rfl | rfl | rfl | rfl | rfl | rfl | rfl | rfl | rfl <;> omega
    · rcases hmm with rfl | rfl | rfl | rfl | rfl | rfl | rfl | rfl | rfl | rfl | rfl | rfl <;> omega
    · exfalso
      rcases hmm with rfl | rfl | rfl | rfl | rfl | rfl | rfl | rfl | rfl | rfl | rfl | rfl <;> omega
theorem jan_next {y : Int} : jan y + 365 + (if leapG y then 1 else 0) = jan (y + 1) := by
  by_cases hl : leapG y
  · rw [if_pos hl]; unfold jan; unfold leapG at hl; omega
  · rw [if_neg hl]; unfold jan; unfold leapG at hl; omega
theorem jan_mono {y y' : Int} (h : y ≤ y') : jan y ≤ jan y' := by
  unfold jan; omega
theorem year_uniq {D y y' : Int} (h : jan y ≤ D ∧ D ≤ jan y + 365 ∧ (D = jan y + 365 → leapG y)) (h' : jan y' ≤ D ∧ D ≤ jan y' + 365 ∧ (D = jan y' + 365 → leapG y')) : y = y' := by
  have key : ∀ {a b : Int}, (jan a ≤ D ∧ D ≤ jan a + 365 ∧ (D = jan a + 365 → leapG a)) → jan b ≤ D → ¬ a < b := by
    intro a b ha hb q
    have h1 := jan_mono (y := a + 1) (y' := b) (by omega)
    have h2 := jan_next (y := a)
    by_cases hl : leapG a
    · rw [if_pos hl] at h2; omega
    · rw [if_neg hl] at h2
      have : D ≠ jan a + 365 := fun z => hl (ha.2.2 z)
      omega
  have a1 := key h h'.1
  have a2 := key h' h.1
  omega
theorem GrP.uniq {D y m d y' m' d' : Int} (h : GrP D y m d) (h' : GrP D y' m' d') : y = y' ∧ m = m' ∧ d = d' := by
  have e := year_uniq h.year h'.year
  subst e
  obtain ⟨h1, h2, h3, h4⟩ := h
  obtain ⟨g1, g2, g3, g4⟩ := h'
  unfold gN offG at h4 g4
  obtain ⟨l1, l2, l3, l4⟩ := h3
  obtain ⟨k1, k2, k3, k4⟩ := g3
  have hmm : m = 1 ∨ m = 2 ∨ m = 3 ∨ m = 4 ∨ m = 5 ∨ m = 6 ∨ m = 7 ∨ m = 8 ∨ m = 9 ∨ m = 10 ∨ m = 11 ∨ m = 12 := by omega
  have gmm : m' = 1 ∨ m' = 2 ∨ m' = 3 ∨ m' = 4 ∨ m' = 5 ∨ m' = 6 ∨ m' = 7 ∨ m' = 8 ∨ m' = 9 ∨ m' = 10 ∨ m' = 11 ∨ m' = 12 := by omega
  have hm : m = m' := by
    by_cases hl : leapG y
    · simp only [if_pos hl] at h4 g4
      have l5 : m = 2 → d ≤ 29 := by omega
      have k5 : m' = 2 → d' ≤ 29 := by omega
      clear l4 k4
      rcases hmm with rfl | rfl | rfl | rfl | rfl | rfl | rfl | rfl | rfl | rfl | rfl | rfl <;> rcases gmm with rfl | rfl | rfl | rfl | rfl | rfl | rfl | rfl | rfl | rfl | rfl | rfl <;> omega
    · have hl' : ¬ (y % 4 = 0 ∧ (y % 100 ≠ 0 ∨ y % 400 = 0)) := hl
      simp only [if_neg hl] at h4 g4
      have l5 : m = 2 → d ≤ 28 := by omega
      have k5 : m' = 2 → d' ≤ 28 := by omega
      clear l4 k4 hl'
      rcases hmm with rfl | rfl | rfl | rfl | rfl | rfl | rfl | rfl | rfl | rfl | rfl | rfl <;> rcases gmm with rfl | rfl | rfl | rfl | rfl | rfl | rfl | rfl | rfl | rfl | rfl | rfl <;> omega
  subst hm
  refine ⟨rfl, rfl, ?_⟩
  omega
theorem leap_shift {y k : Int} : leapG (y + 400 * k) ↔ leapG y := by unfold leapG; omega
theorem jan_shift {y k : Int} : jan (y + 400 * k) = jan y + 146097 * k := by unfold jan; omega
theorem GrP.shift {D y m d : Int} (k : Int) (h : GrP D y m d) : GrP (D + 146097 * k) (y + 400 * k) m d := by
  obtain ⟨h1, h2, h3, h4⟩ := h
  refine ⟨h1, h2, ?_, ?_⟩
  · obtain ⟨l1, l2, l3, l4⟩ := h3
    exact ⟨l1, l2, l3, by omega⟩
  · unfold gN offG at h4 ⊢
    rw [jan_shift]
    by_cases hl : leapG y
    · rw [if_pos (leap_shift.mpr hl)]; rw [if_pos hl] at h4; omega
    · rw [if_neg (fun q => hl (leap_shift.mp q))]; rw [if_neg hl] at h4; omega

/-- the year of day D is Y -/
structure YrP (D Y : Int) : Prop where
  lo : jan Y ≤ D
  hi : D ≤ jan Y + 365
  last : D = jan Y + 365 → leapG Y
theorem greg_in1 {N far q r c r2 d r3 e n q2 q3 : Int} (hN : 4903089 + 2 * far - 1 = 2 * N) (a1 : 2 * (146097 * n) ≤ 2 * N + 1 - 3442851) (a2 : 2 * N + 1 - 3442851 < 2 * (146097 * n) + 2 * 146097)
    (h1 : 2 * N + 1 - 3442851 = 2 * (146097 * q) + 2 * r) (h2 : 0 ≤ r) (h3 : r < 146097) (b1 : 2 * (36524 * c) ≤ 2 * r) (b2 : 2 * r < 2 * (36524 * c) + 2 * 36524) (h4 : 2 * r = 2 * (36524 * q2) + 2 * r2) (h5 : 0 ≤ r2) (h6 : r2 < 36524)
    (c1 : 2 * (1461 * d) ≤ 2 * r2) (c2 : 2 * r2 < 2 * (1461 * d) + 2 * 1461) (h7 : 2 * r2 = 2 * (1461 * q3) + 2 * r3) (h8 : 0 ≤ r3) (h9 : r3 < 1461) (h10 : 2 * (365 * e) ≤ 2 * r3) (h11 : 2 * r3 < 2 * (365 * e) + 2 * 365)
    (hc : c ≠ 4) (he : e ≠ 4) : YrP (far + 730119) (n * 400 + c * 100 + d * 4 + e + 1) := by
  obtain ⟨g1, g2, g3⟩ := greg_year (D := far + 730119) (q := n) (r := r) (c := c) (r2 := r2) (d := d) (r3 := r3) (e := e) (Y := n * 400 + c * 100 + d * 4 + e + 1) (by omega) h2 h3 (by omega) h5 h6 (by omega) h8 h9 (by omega) (by omega) (.inr ⟨by omega, rfl⟩)
  exact ⟨g1, g2, g3⟩
theorem greg_in2 {N far q r c r2 d r3 e n q2 q3 : Int} (hN : 4903089 + 2 * far - 1 = 2 * N) (a1 : 2 * (146097 * n) ≤ 2 * N + 1 - 3442851) (a2 : 2 * N + 1 - 3442851 < 2 * (146097 * n) + 2 * 146097)
    (h1 : 2 * N + 1 - 3442851 = 2 * (146097 * q) + 2 * r) (h2 : 0 ≤ r) (h3 : r < 146097) (b1 : 2 * (36524 * c) ≤ 2 * r) (b2 : 2 * r < 2 * (36524 * c) + 2 * 36524) (h4 : 2 * r = 2 * (36524 * q2) + 2 * r2) (h5 : 0 ≤ r2) (h6 : r2 < 36524)
    (c1 : 2 * (1461 * d) ≤ 2 * r2) (c2 : 2 * r2 < 2 * (1461 * d) + 2 * 1461) (h7 : 2 * r2 = 2 * (1461 * q3) + 2 * r3) (h8 : 0 ≤ r3) (h9 : r3 < 1461) (h10 : 2 * (365 * e) ≤ 2 * r3) (h11 : 2 * r3 < 2 * (365 * e) + 2 * 365)
    (hc : c = 4 ∨ e = 4) : YrP (far + 730119) (n * 400 + c * 100 + d * 4 + e) ∧ far + 730119 = jan (n * 400 + c * 100 + d * 4 + e) + 365 := by
  obtain ⟨g1, g2, g3⟩ := greg_year (D := far + 730119) (q := n) (r := r) (c := c) (r2 := r2) (d := d) (r3 := r3) (e := e) (Y := n * 400 + c * 100 + d * 4 + e) (by omega) h2 h3 (by omega) h5 h6 (by omega) h8 h9 (by omega) (by omega) (.inl ⟨hc, rfl⟩)
  refine ⟨⟨g1, g2, g3⟩, ?_⟩
  have k := greg_last (D := far + 730119) (q := n) (r := r) (c := c) (r2 := r2) (d := d) (r3 := r3) (e := e) (Y := n * 400 + c * 100 + d * 4 + e) (by omega) h2 h3 (by omega) h5 h6 (by omega) h8 h9 (by omega) (by omega) hc rfl
  exact k
/-- m is the month of the day yd (from nought) of the year Y -/
structure MonP (yd Y m : Int) : Prop where
  m1 : 1 ≤ m
  m2 : m ≤ 12
  leg : LegG Y m (yd - offG Y m + 1)
theorem greg_mon {far N Y m a : Int} (hN : 4903089 + 2 * far - 1 = 2 * N) (h : YrP (far + 730119) Y) (hm1 : 2 * (367 * m) ≤ (2 * N + 1 - (3442851 + 2 * jan Y) + 2 * a) * 12 + 2 * 373) (hm2 : (2 * N + 1 - (3442851 + 2 * jan Y) + 2 * a) * 12 + 2 * 373 < 2 * (367 * m) + 2 * 367)
    (ha : (leapG Y ∧ (far + 730119 - jan Y < 59 ∧ a = 0 ∨ ¬ far + 730119 - jan Y < 59 ∧ a = 1)) ∨ (¬ leapG Y ∧ (far + 730119 - jan Y < 58 ∧ a = 0 ∨ ¬ far + 730119 - jan Y < 58 ∧ a = 2))) : MonP (far + 730119 - jan Y) Y m := by
  obtain ⟨h1, h2, h3⟩ := h
  obtain ⟨g1, g2, g3⟩ := greg_month (yd := far + 730119 - jan Y) (Y := Y) (m := m) (a := a) (by omega) (by omega) (fun q => h3 (by omega)) ha (by omega) (by omega)
  exact ⟨g1, g2, g3⟩
theorem MonP.bounds {yd Y m : Int} (h : MonP yd Y m) : 0 ≤ yd - offG Y m ∧ yd - offG Y m ≤ 30 := by
  have := h.leg.1
  have := h.leg.2.1
  omega
theorem MonP.first {yd Y m : Int} (_ : MonP yd Y m) : LegG Y m 1 := by
  unfold LegG; omega
theorem LegG.one (Y m : Int) : LegG Y m 1 := by unfold LegG; omega
theorem GrP.of {D Y m d : Int} (h : MonP (D - jan Y) Y m) (e : d = D - jan Y - offG Y m + 1) : GrP D Y m d := by
  subst e
  exact ⟨h.m1, h.m2, h.leg, by unfold gN; omega⟩
theorem jan_bound {D Y : Int} (h : jan Y ≤ D ∧ D ≤ jan Y + 365) (hD : -900000000000000 ≤ D ∧ D ≤ 900000000000000) : -3000000000000 ≤ Y ∧ Y ≤ 3000000000000 := by
  unfold jan at h; omega
theorem jan_size {Y : Int} (h : -3000000000000 ≤ Y ∧ Y ≤ 3000000000000) : -1200000000000000 ≤ jan Y ∧ jan Y ≤ 1200000000000000 := by
  unfold jan; omega
theorem off_size {Y m : Int} (h : 1 ≤ m ∧ m ≤ 12) : -3 ≤ offG Y m ∧ offG Y m ≤ 340 := by
  unfold offG
  by_cases hl : leapG Y
  · rw [if_pos hl]; omega
  · rw [if_neg hl]; omega
theorem jan_off (Y : Int) : offG Y 1 = 0 := by unfold offG; simp
end Mine

namespace Mine
/-- Armenian: n is the day count -/
structure AR (n y m d : Int) : Prop where
  a : 365 * y ≤ n - 1 ∧ n - 1 < 365 * y + 365
  b : 30 * (m - 1) ≤ n - 1 - 365 * y ∧ n - 1 - 365 * y < 30 * (m - 1) + 30
  c : d = n - 365 * y - 30 * (m - 1)
theorem AR.shift {n n' y y' m m' d d' k : Int} (h : AR n y m d) (h' : AR n' y' m' d') (e : n = n' + 365 * k) : y = y' + k ∧ m = m' ∧ d = d' := by
  obtain ⟨⟨h1, h2⟩, ⟨h3, h4⟩, h5⟩ := h
  obtain ⟨⟨g1, g2⟩, ⟨g3, g4⟩, g5⟩ := h'
  have : y = y' + k := by omega
  subst this
  have : m = m' := by omega
  subst this
  refine ⟨rfl, rfl, by omega⟩
theorem AR.valid {n y m d : Int} (h : AR n y m d) (hn : 366 ≤ n) : 1 ≤ m ∧ m ≤ 13 ∧ 1 ≤ y ∧ 1 ≤ d ∧ d ≤ 30 ∧ (m = 13 → d ≤ 5) := by
  obtain ⟨⟨h1, h2⟩, ⟨h3, h4⟩, h5⟩ := h
  omega
/-- Coptic -/
structure CR (n y m d : Int) : Prop where
  a : 1461 * y ≤ 4 * n + 1463 ∧ 4 * n + 1463 < 1461 * y + 1461
  b : 30 * (m - 1) ≤ n - (y - 1) * 365 - y / 4 ∧ n - (y - 1) * 365 - y / 4 < 30 * (m - 1) + 30
  c : d = n - (y - 1) * 365 - y / 4 - 30 * (m - 1) + 1
theorem CR.shift {n n' y y' m m' d d' k : Int} (h : CR n y m d) (h' : CR n' y' m' d') (e : n = n' + 1461 * k) : y = y' + 4 * k ∧ m = m' ∧ d = d' := by
  obtain ⟨⟨h1, h2⟩, ⟨h3, h4⟩, h5⟩ := h
  obtain ⟨⟨g1, g2⟩, ⟨g3, g4⟩, g5⟩ := h'
  have : y = y' + 4 * k := by omega
  subst this
  have e4 : (y' + 4 * k) / 4 = y' / 4 + k := by omega
  rw [e4] at h3 h4 h5
  have : m = m' := by omega
  subst this
  refine ⟨rfl, rfl, by omega⟩
/-- the Long Count -/
structure MR (n b k t u i : Int) : Prop where
  a : n = 144000 * b + 7200 * k + 360 * t + 20 * u + i
  b : 0 ≤ 7200 * k + 360 * t + 20 * u + i ∧ 7200 * k + 360 * t + 20 * u + i < 144000
  c : 0 ≤ 360 * t + 20 * u + i ∧ 360 * t + 20 * u + i < 7200
  d : 0 ≤ 20 * u + i ∧ 20 * u + i < 360
  e : 0 ≤ i ∧ i < 20
theorem MR.shift {n n' b b' k k' t t' u u' i i' q : Int} (h : MR n b k t u i) (h' : MR n' b' k' t' u' i') (e : n = n' + 144000 * q) : b = b' + q ∧ k = k' ∧ t = t' ∧ u = u' ∧ i = i' := by
  obtain ⟨h1, h2, h3, h4, h5⟩ := h
  obtain ⟨g1, g2, g3, g4, g5⟩ := h'
  have : b = b' + q := by omega
  subst this
  have : k = k' := by omega
  subst this
  have : t = t' := by omega
  subst this
  have : u = u' := by omega
  subst this
  refine ⟨rfl, rfl, rfl, rfl, by omega⟩
/-- republican -/
def FR (n y m d : Int) : Prop := ∃ q r y4 j, n + 365 = 1461 * q + r ∧ 0 ≤ r ∧ r < 1461 ∧ (r = 1460 ∧ y4 = 3 ∧ j = 365 ∨ r ≠ 1460 ∧ 365 * y4 ≤ r ∧ r < 365 * y4 + 365 ∧ j = r - 365 * y4) ∧ y = 4 * q + y4 ∧ 30 * (m - 1) ≤ j ∧ j < 30 * (m - 1) + 30 ∧ d = j - 30 * (m - 1) + 1
theorem FR.shift {n n' y y' m m' d d' k : Int} (h : FR n y m d) (h' : FR n' y' m' d') (e : n = n' + 1461 * k) : y = y' + 4 * k ∧ m = m' ∧ d = d' := by
  obtain ⟨q, r, y4, j, h1, h2, h3, h4, h5, h6, h7, h8⟩ := h
  obtain ⟨q', r', y4', j', g1, g2, g3, g4, g5, g6, g7, g8⟩ := h'
  have : q = q' + k := by omega
  subst this
  have : r = r' := by omega
  subst this
  have : y4 = y4' := by omega
  subst this
  have : j = j' := by omega
  subst this
  have : m = m' := by omega
  subst this
  refine ⟨by omega, rfl, by omega⟩
theorem FR.valid {n y m d : Int} (h : FR n y m d) (hn : 60000 ≤ n) : 17 ≤ y ∧ 1 ≤ m ∧ m ≤ 13 ∧ 1 ≤ d ∧ d ≤ 30 ∧ (m = 13 → d ≤ 5 ∨ d = 6 ∧ y % 4 = 3) := by
  obtain ⟨q, r, y4, j, h1, h2, h3, h4, h5, h6, h7, h8⟩ := h
  omega
theorem FR.back {n y m d : Int} (h : FR n y m d) : 1461 * (y / 4) + 365 * (y % 4) - 365 + (m - 1) * 30 + d - 1 = n := by
  obtain ⟨q, r, y4, j, h1, h2, h3, h4, h5, h6, h7, h8⟩ := h
  have hy : 0 ≤ y4 ∧ y4 ≤ 3 := by omega
  have e1 : y / 4 = q := by omega
  have e2 : y % 4 = y4 := by omega
  rw [e1, e2]
  omega
/-- Islamic -/
structure IR (n y m d : Int) : Prop where
  a : 10631 * y ≤ 30 * n + 10646 ∧ 30 * n + 10646 < 10631 * y + 10631
  b : ∃ c, 2 * (n - (y - 1) * 354 - (3 + 11 * y) / 30 - 29) ≤ 59 * c ∧ 59 * c < 2 * (n - (y - 1) * 354 - (3 + 11 * y) / 30 - 29) + 59 ∧ (12 ≤ c + 1 ∧ m = 12 ∨ c + 1 ≤ 12 ∧ m = c + 1)
  c : d = n - (y - 1) * 354 - (3 + 11 * y) / 30 - (59 * (m - 1) + 1) / 2 + 1
theorem IR.shift {n n' y y' m m' d d' k : Int} (h : IR n y m d) (h' : IR n' y' m' d') (e : n = n' + 10631 * k) : y = y' + 30 * k ∧ m = m' ∧ d = d' := by
  obtain ⟨⟨h1, h2⟩, ⟨c, h3, h4, h5⟩, h6⟩ := h
  obtain ⟨⟨g1, g2⟩, ⟨c', g3, g4, g5⟩, g6⟩ := h'
  have : y = y' + 30 * k := by omega
  subst this
  have e4 : (3 + 11 * (y' + 30 * k)) / 30 = (3 + 11 * y') / 30 + 11 * k := by omega
  rw [e4] at h3 h4 h6
  have : c = c' := by omega
  subst this
  have : m = m' := by omega
  subst this
  refine ⟨rfl, rfl, by omega⟩
theorem IR.month {n y m d : Int} (h : IR n y m d) : -100 ≤ m ∧ m ≤ 12 := by
  obtain ⟨⟨h1, h2⟩, ⟨c, h3, h4, h5⟩, h6⟩ := h
  omega
theorem IR.back {n y m d : Int} (h : IR n y m d) : d + (59 * (m - 1) + 1) / 2 + (y - 1) * 354 + (3 + 11 * y) / 30 = n + 1 := by
  have := h.c
  omega
/-- Julian: b is the day number and 1524 -/
def JuR (b y m d : Int) : Prop := ∃ c dd e f, 1461 * c ≤ 4 * b - 489 ∧ 4 * b - 489 < 1461 * c + 1461 ∧ 4 * dd ≤ 1461 * c ∧ 1461 * c < 4 * dd + 4 ∧ 306001 * e ≤ 10000 * (b - dd) ∧ 10000 * (b - dd) < 306001 * e + 306001 ∧
  10000 * f ≤ 306001 * e ∧ 306001 * e < 10000 * f + 10000 ∧ (e < 14 ∧ m = e - 1 ∨ ¬ e < 14 ∧ m = e - 13) ∧ (2 < m ∧ y = c - 4716 ∨ ¬ 2 < m ∧ y = c - 4715) ∧ d = b - dd - f
theorem JuR.of {b y m d c dd e f : Int} (h3 : 4 * dd ≤ 1461 * c) (h4 : 1461 * c < 4 * dd + 4) (h7 : 10000 * f ≤ 306001 * e) (h8 : 306001 * e < 10000 * f + 10000) (h1 : 1461 * c ≤ 4 * b - 489) (h2 : 4 * b - 489 < 1461 * c + 1461)
    (h5 : 306001 * e ≤ 10000 * (b - dd)) (h6 : 10000 * (b - dd) < 306001 * e + 306001) (h9 : e < 14 ∧ m = e - 1 ∨ ¬ e < 14 ∧ m = e - 13) (h10 : 2 < m ∧ y = c - 4716 ∨ ¬ 2 < m ∧ y = c - 4715) (h11 : d = b - dd - f) : JuR b y m d :=
  ⟨c, dd, e, f, h1, h2, h3, h4, h5, h6, h7, h8, h9, h10, h11⟩
def LegJ (y m d : Int) : Prop := 1 ≤ d ∧ d ≤ 31 ∧ (m = 4 ∨ m = 6 ∨ m = 9 ∨ m = 11 → d ≤ 30) ∧ (m = 2 → d ≤ 28 ∨ d = 29 ∧ y % 4 = 0)
def juN (y m d : Int) : Int := (1461 * (y + (if m ≤ 2 then -1 else 0) + 4716)) / 4 + (306001 * (m + (if m ≤ 2 then 12 else 0) + 1)) / 10000 + d
theorem juN_1 {y m d a f : Int} (h1 : 4 * a ≤ 1461 * (y - 1 + 4716)) (h2 : 1461 * (y - 1 + 4716) < 4 * a + 4) (h3 : 10000 * f ≤ 306001 * (m + 12 + 1)) (h4 : 306001 * (m + 12 + 1) < 10000 * f + 10000) (hm : m ≤ 2) : 2 * (a + f + d) - 3049 = 2 * juN y m d - 3049 := by
  unfold juN
  rw [if_pos hm, if_pos hm]
  have e1 : 1461 * (y + -1 + 4716) / 4 = a := by omega
  have e2 : 306001 * (m + 12 + 1) / 10000 = f := by omega
  rw [e1, e2]
theorem juN_2 {y m d a f : Int} (h1 : 4 * a ≤ 1461 * (y + 4716)) (h2 : 1461 * (y + 4716) < 4 * a + 4) (h3 : 10000 * f ≤ 306001 * (m + 1)) (h4 : 306001 * (m + 1) < 10000 * f + 10000) (hm : ¬ m ≤ 2) : 2 * (a + f + d) - 3049 = 2 * juN y m d - 3049 := by
  unfold juN
  rw [if_neg hm, if_neg hm]
  have e1 : 1461 * (y + 0 + 4716) / 4 = a := by omega
  have e2 : 306001 * (m + 0 + 1) / 10000 = f := by omega
  rw [e1, e2]
theorem JuR.range {b c dd : Int} (h1 : 1461 * c ≤ 4 * b - 489) (h2 : 4 * b - 489 < 1461 * c + 1461) (h3 : 4 * dd ≤ 1461 * c) (h4 : 1461 * c < 4 * dd + 4) : 123 ≤ b - dd ∧ b - dd ≤ 488 := by omega
theorem JuR.shift {b b' y y' m m' d d' k : Int} (h : JuR b y m d) (h' : JuR b' y' m' d') (e : b = b' + 1461 * k) : y = y' + 4 * k ∧ m = m' ∧ d = d' := by
  obtain ⟨c, dd, e, f, h1, h2, h3, h4, h5, h6, h7, h8, h9, h10, h11⟩ := h
  obtain ⟨c', dd', e', f', g1, g2, g3, g4, g5, g6, g7, g8, g9, g10, g11⟩ := h'
  have : c = c' + 4 * k := by omega
  subst this
  have : dd = dd' + 1461 * k := by omega
  subst this
  have : e = e' := by omega
  subst this
  have : f = f' := by omega
  subst this
  have : m = m' := by omega
  subst this
  refine ⟨by omega, rfl, by omega⟩
theorem JuR.legal {b y m d : Int} (h : JuR b y m d) : 1 ≤ m ∧ m ≤ 12 ∧ LegJ y m d := by
  obtain ⟨c, dd, e, f, h1, h2, h3, h4, h5, h6, h7, h8, h9, h10, h11⟩ := h
  have hr := JuR.range h1 h2 h3 h4
  have he : 4 ≤ e ∧ e ≤ 15 := by omega
  have hee : e = 4 ∨ e = 5 ∨ e = 6 ∨ e = 7 ∨ e = 8 ∨ e = 9 ∨ e = 10 ∨ e = 11 ∨ e = 12 ∨ e = 13 ∨ e = 14 ∨ e = 15 := by omega
  unfold LegJ
  have hc4 : 1461 * c - 4 * dd = c % 4 := by omega
  have hx : c % 4 ≠ 3 → b - dd ≤ 487 := by omega
  have hy4 : e = 15 → (c % 4 = 3 ↔ y % 4 = 0) := by omega
  clear h3 h4 hc4
  rcases hee with rfl | rfl | rfl | rfl | rfl | rfl | rfl | rfl | rfl | rfl | rfl | rfl <;> omega
theorem JuR.back {b y m d : Int} (h : JuR b y m d) : juN y m d = b := by
  obtain ⟨c, dd, e, f, h1, h2, h3, h4, h5, h6, h7, h8, h9, h10, h11⟩ := h
  have hr := JuR.range h1 h2 h3 h4
  have he : 4 ≤ e ∧ e ≤ 15 := by omega
  have hc : y + (if m ≤ 2 then -1 else 0) + 4716 = c := by
    by_cases q : m ≤ 2
    · rw [if_pos q]; omega
    · rw [if_neg q]; omega
  have hm : m + (if m ≤ 2 then 12 else 0) + 1 = e := by
    by_cases q : m ≤ 2
    · rw [if_pos q]; omega
    · rw [if_neg q]; omega
  unfold juN
  have e1 : 1461 * c / 4 = dd := by omega
  have e2 : 306001 * e / 10000 = f := by omega
  rw [hc, hm, e1, e2]
  omega
/-- Indian -/
def caG (Y : Int) : Int := if leapG Y then 31 else 30
def NR (D y m d : Int) : Prop := ∃ Y z, YrP D Y ∧ (D - jan Y < 80 ∧ y = Y - 79 ∧ z = D - jan Y + caG Y + 255 ∨ ¬ D - jan Y < 80 ∧ y = Y - 78 ∧ z = D - jan Y - 80) ∧
  (z < caG Y ∧ m = 1 ∧ d = z + 1 ∨ ¬ z < caG Y ∧ (z - caG Y < 155 ∧ 31 * (m - 2) ≤ z - caG Y ∧ z - caG Y < 31 * (m - 2) + 31 ∧ d = z - caG Y - 31 * (m - 2) + 1 ∨
    ¬ z - caG Y < 155 ∧ 30 * (m - 7) ≤ z - caG Y - 155 ∧ z - caG Y - 155 < 30 * (m - 7) + 30 ∧ d = z - caG Y - 155 - 30 * (m - 7) + 1))
theorem ca_val (Y : Int) : caG Y = 30 ∨ caG Y = 31 := by unfold caG; split <;> simp
theorem ca_shift (Y k : Int) : caG (Y + 400 * k) = caG Y := by
  unfold caG
  by_cases h : leapG Y
  · rw [if_pos h, if_pos (leap_shift.mpr h)]
  · rw [if_neg h, if_neg (fun q => h (leap_shift.mp q))]
theorem YrP.shift {D Y : Int} (k : Int) (h : YrP D Y) : YrP (D + 146097 * k) (Y + 400 * k) := by
  obtain ⟨h1, h2, h3⟩ := h
  refine ⟨?_, ?_, fun q => leap_shift.mpr (h3 ?_)⟩ <;> rw [jan_shift] at * <;> omega
theorem YrP.uniq {D Y Y' : Int} (h : YrP D Y) (h' : YrP D Y') : Y = Y' := year_uniq ⟨h.lo, h.hi, h.last⟩ ⟨h'.lo, h'.hi, h'.last⟩
theorem NR.shift {D D' y y' m m' d d' k : Int} (h : NR D y m d) (h' : NR D' y' m' d') (e : D = D' + 146097 * k) : y = y' + 400 * k ∧ m = m' ∧ d = d' := by
  obtain ⟨Y, z, h1, h2, h3⟩ := h
  obtain ⟨Y', z', g1, g2, g3⟩ := h'
  have eY : Y = Y' + 400 * k := by
    have := g1.shift k
    rw [← e] at this
    exact h1.uniq this
  subst eY
  rw [jan_shift, ca_shift] at h2
  rw [ca_shift] at h3
  have hc := ca_val Y'
  have ez : z = z' := by omega
  subst ez
  have em : m = m' := by omega
  subst em
  refine ⟨by omega, rfl, by omega⟩
def inN (y m d : Int) : Int := jan (y + 78) + 80 + (if m = 1 then d - 1 else caG (y + 78) + (if m - 2 ≤ 5 then m - 2 else 5) * 31 + (if 8 ≤ m then (m - 7) * 30 else 0) + (d - 1))
theorem YrP.next {D Y : Int} (_ : YrP D Y) : jan Y = jan (Y - 1) + 335 + caG (Y - 1) := by
  have := jan_next (y := Y - 1)
  rw [Int.sub_add_cancel] at this
  rw [← this]
  unfold caG
  split <;> omega
theorem NR.back {D y m d : Int} (h : NR D y m d) : 1 ≤ m ∧ m ≤ 12 ∧ inN y m d = D := by
  obtain ⟨Y, z, h1, h2, h3⟩ := h
  have hc := ca_val Y
  have hlo := h1.lo
  have hhi := h1.hi
  have hlast : D = jan Y + 365 → caG Y = 31 := fun q => by unfold caG; rw [if_pos (h1.last q)]
  have hm : 1 ≤ m ∧ m ≤ 12 := by omega
  refine ⟨hm.1, hm.2, ?_⟩
  unfold inN
  by_cases q : D - jan Y < 80
  · have hy : y + 78 = Y - 1 := by omega
    have hn := h1.next
    have hc' := ca_val (Y - 1)
    rw [hy]
    generalize jan (Y - 1) = j1 at *
    generalize jan Y = j0 at *
    generalize caG (Y - 1) = c1 at *
    generalize caG Y = c0 at *
    omega
  · have hy : y + 78 = Y := by omega
    rw [hy]
    generalize jan Y = j0 at *
    generalize caG Y = c0 at *
    omega
end Mine

namespace Mine
section
variable {prog : Program} {w : World} {A : Around} {E : Value → Shared → Prop} {s : Shared} {Q : Value → Shared → Prop} {h₀ : Heap} {L a b : Addr} {n k : Nat} {news : List (Addr × Obj)}
/-- tuples of ints, as pairs of an int and its token -/
def tups (l : List (Int × Tok)) : List Value := l.map fun p => Value.int p.1 p.2
theorem r_eq_tup (l r : List (Int × Tok)) (hl : l.length = r.length) (N : News h₀ L s.heap news) (m1 : (a, ({ cls := .type "tuple", data := .seq (tups l).toArray n } : Obj)) ∈ news) (m2 : (b, ({ cls := .type "tuple", data := .seq (tups r).toArray k } : Obj)) ∈ news)
    (hu : A.units < cLine) (h : Q (.bool (decide (l.map (·.1) = r.map (·.1)))) s) : wpAny (model prog w) A (compareOp .Eq (.ref a) (.ref b)) Q E s := by
  refine PySem.SeqAt.eq_tupleAt (items := (tups l).toArray) (items2 := (tups r).toArray) (e := fun j => (l.map (·.1)).getD j 0 == (r.map (·.1)).getD j 0) ⟨_, (N _ m1).1, rfl, _, rfl⟩ ⟨_, (N _ m2).1, rfl, _, rfl⟩ hu (fun j h1 h2 => ?_) ?_
  · have h1' : j < l.length := by simpa [tups] using h1
    have h2' : j < r.length := by simpa [tups] using h2
    have e1 : (tups l).toArray[j] = Value.int l[j].1 l[j].2 := by simp [tups]
    have e2 : (tups r).toArray[j] = Value.int r[j].1 r[j].2 := by simp [tups]
    rw [e1, e2]
    have e3 : ((l.map (·.1)).getD j 0 == (r.map (·.1)).getD j 0) = (l[j].1 == r[j].1) := by simp [List.getD, h1', h2']
    rw [e3]
    exact PySem.SeqAt.EqAt.int_int _ _ _ _
  · have e : ((List.range (min (tups l).toArray.size (tups r).toArray.size)).all (fun j => (l.map (·.1)).getD j 0 == (r.map (·.1)).getD j 0) && (tups l).toArray.size == (tups r).toArray.size) = decide (l.map (·.1) = r.map (·.1)) := by
      have s1 : (tups l).toArray.size = l.length := by simp [tups]
      have s2 : (tups r).toArray.size = l.length := by simp [tups, hl]
      rw [s1, s2, Nat.min_self, beq_self_eq_true, Bool.and_true]
      apply Bool.eq_iff_iff.mpr
      rw [List.all_eq_true, decide_eq_true_iff]
      constructor
      · intro q
        apply List.ext_getElem (by simp [hl])
        intro j h1 h2
        have h1' : j < l.length := by simpa using h1
        have := beq_iff_eq.mp (q j (List.mem_range.mpr h1'))
        have h2' : j < r.length := by omega
        simpa [List.getD, h1', h2'] using this
      · intro q j _
        rw [q]; exact beq_self_eq_true _
    rw [e]; exact h
theorem r_ne_tup (l r : List (Int × Tok)) (hl : l.length = r.length) (N : News h₀ L s.heap news) (m1 : (a, ({ cls := .type "tuple", data := .seq (tups l).toArray n } : Obj)) ∈ news) (m2 : (b, ({ cls := .type "tuple", data := .seq (tups r).toArray k } : Obj)) ∈ news)
    (hu : A.units < cLine) (h : Q (.bool (!decide (l.map (·.1) = r.map (·.1)))) s) : wpAny (model prog w) A (compareOp .NotEq (.ref a) (.ref b)) Q E s := by
  have e : ((List.range (min (tups l).toArray.size (tups r).toArray.size)).all (fun j => (l.map (·.1)).getD j 0 == (r.map (·.1)).getD j 0) && (tups l).toArray.size == (tups r).toArray.size) = decide (l.map (·.1) = r.map (·.1)) := by
    have s1 : (tups l).toArray.size = l.length := by simp [tups]
    have s2 : (tups r).toArray.size = l.length := by simp [tups, hl]
    rw [s1, s2, Nat.min_self, beq_self_eq_true, Bool.and_true]
    apply Bool.eq_iff_iff.mpr
    rw [List.all_eq_true, decide_eq_true_iff]
    constructor
    · intro q
      apply List.ext_getElem (by simp [hl])
      intro j h1 h2
      have h1' : j < l.length := by simpa using h1
      have := beq_iff_eq.mp (q j (List.mem_range.mpr h1'))
      have h2' : j < r.length := by omega
      simpa [List.getD, h1', h2'] using this
    · intro q j _
      rw [q]; exact beq_self_eq_true _
  refine PySem.SeqAt.RcNeAt.tuples (items := (tups l).toArray) (items2 := (tups r).toArray) (e := fun j => (l.map (·.1)).getD j 0 == (r.map (·.1)).getD j 0) ⟨_, (N _ m1).1, rfl, _, rfl⟩ ⟨_, (N _ m2).1, rfl, _, rfl⟩ hu (fun j h1 h2 => ?_) prog w E Q ?_
  · have h1' : j < l.length := by simpa [tups] using h1
    have h2' : j < r.length := by simpa [tups] using h2
    have e1 : (tups l).toArray[j] = Value.int l[j].1 l[j].2 := by simp [tups]
    have e2 : (tups r).toArray[j] = Value.int r[j].1 r[j].2 := by simp [tups]
    rw [e1, e2]
    have e3 : ((l.map (·.1)).getD j 0 == (r.map (·.1)).getD j 0) = (l[j].1 == r[j].1) := by simp [List.getD, h1', h2']
    rw [e3]
    exact PySem.SeqAt.EqAt.int_int _ _ _ _
  · rw [e]; exact h
theorem r_eq_t3 {x1 y1 z1 x2 y2 z2 : Int} {t1 t2 t3 u1 u2 u3 : Tok} (N : News h₀ L s.heap news) (m1 : (a, ({ cls := .type "tuple", data := .seq #[.int x1 t1, .int y1 t2, .int z1 t3] n } : Obj)) ∈ news) (m2 : (b, ({ cls := .type "tuple", data := .seq #[.int x2 u1, .int y2 u2, .int z2 u3] k } : Obj)) ∈ news)
    (hu : A.units < cLine) (he : x1 = x2 ∧ y1 = y2 ∧ z1 = z2) (h : Q (.bool true) s) : wpAny (model prog w) A (compareOp .Eq (.ref a) (.ref b)) Q E s := by
  refine r_eq_tup [(x1, t1), (y1, t2), (z1, t3)] [(x2, u1), (y2, u2), (z2, u3)] rfl N m1 m2 hu ?_
  obtain ⟨rfl, rfl, rfl⟩ := he
  simpa using h
theorem r_ne_t2 {x1 y1 x2 y2 : Int} {t1 t2 u1 u2 : Tok} (N : News h₀ L s.heap news) (m1 : (a, ({ cls := .type "tuple", data := .seq #[.int x1 t1, .int y1 t2] n } : Obj)) ∈ news) (m2 : (b, ({ cls := .type "tuple", data := .seq #[.int x2 u1, .int y2 u2] k } : Obj)) ∈ news)
    (hu : A.units < cLine) (he : x1 = x2 ∧ y1 = y2) (h : Q (.bool false) s) : wpAny (model prog w) A (compareOp .NotEq (.ref a) (.ref b)) Q E s := by
  refine r_ne_tup [(x1, t1), (y1, t2)] [(x2, u1), (y2, u2)] rfl N m1 m2 hu ?_
  obtain ⟨rfl, rfl⟩ := he
  simpa using h
theorem r_ne_t5 {x1 y1 z1 v1 w1 x2 y2 z2 v2 w2 : Int} {t1 t2 t3 t4 t5 u1 u2 u3 u4 u5 : Tok} (N : News h₀ L s.heap news) (m1 : (a, ({ cls := .type "tuple", data := .seq #[.int x1 t1, .int y1 t2, .int z1 t3, .int v1 t4, .int w1 t5] n } : Obj)) ∈ news) (m2 : (b, ({ cls := .type "tuple", data := .seq #[.int x2 u1, .int y2 u2, .int z2 u3, .int v2 u4, .int w2 u5] k } : Obj)) ∈ news)
    (hu : A.units < cLine) (he : x1 = x2 ∧ y1 = y2 ∧ z1 = z2 ∧ v1 = v2 ∧ w1 = w2) (h : Q (.bool false) s) : wpAny (model prog w) A (compareOp .NotEq (.ref a) (.ref b)) Q E s := by
  refine r_ne_tup [(x1, t1), (y1, t2), (z1, t3), (v1, t4), (w1, t5)] [(x2, u1), (y2, u2), (z2, u3), (v2, u4), (w2, u5)] rfl N m1 m2 hu ?_
  obtain ⟨rfl, rfl, rfl, rfl, rfl⟩ := he
  simpa using h
end
end Mine

namespace Mine
set_option maxRecDepth 100000 in
set_option maxHeartbeats 8000000 in
open_top hd for PySem.Challenge.rw_ad5039_01
end Mine

namespace Mine

abbrev Led := List (Addr × Obj)
/-- the frame behind a call -/
abbrev Back (h₀ : Heap) (L : Addr) (m : Str → Option Value) (news : Led) (s : Shared) (Q : Value → Shared → Prop) (v : Value) : Prop :=
  ∀ (h' : Heap) (tk' : Nat), Fr h₀ L h' m → News h₀ L h' news → Q v { s with heap := h', toks := tk' }
abbrev Ask (w : World) (f : Addr) (sz : Nat) (vs : List Value) (R : Heap → Addr → (Str → Option Value) → Led → Shared → (Value → Shared → Prop) → Prop) : Prop :=
  ∀ (p : Program) (loose : List Str) (mean : ExcName → Option Value) (mg mb : Str → Option Value) (dp un : Nat) (gd : Option (List Code)) (cn : Str) (cs : Scope) (a : Addr) (ccd : Value) (cl : List (Str × Addr)) (outer : List Env) (A₀ : Around) (base h₀ : Heap) (L : Addr) (m : Str → Option Value) (news : Led) (s : Shared) (Q E : Value → Shared → Prop),
    Below A₀ base outer h₀ → Fr h₀ L s.heap m → (Mine.hd.heap_39 w.params).In h₀ → News h₀ L s.heap news → Top p loose mean mg mb h₀ → cs.kind = .function → dp + sz < recursionLimit → un + 8 * sz < cLine →
    R h₀ L m news s Q → wpAny (model PySem.Challenge.rw_ad5039_01.row.prog w) (ktrTop dp un gd cn cs L a ccd cl outer) (call (.ref f) vs) Q E s
/-- a bool comes back -/
def SayB (w : World) (f : Addr) (sz : Nat) (vs : List Value) (b : Bool) : Prop :=
  Ask w f sz vs fun h₀ L m news s Q => Back h₀ L m news s Q (.bool b)
/-- a float -/
def SayF (w : World) (f : Addr) (sz : Nat) (vs : List Value) (H : Int) : Prop :=
  Ask w f sz vs fun h₀ L m news s Q => ∀ z t, Fx 1 z H → Back h₀ L m news s Q (.float z t)
/-- an int -/
def SayI (w : World) (f : Addr) (sz : Nat) (vs : List Value) (n : Int) : Prop :=
  Ask w f sz vs fun h₀ L m news s Q => ∀ t, Back h₀ L m news s Q (.int n t)
abbrev tupO (l : List Value) (n : Nat) : Obj := { cls := .type "tuple", data := .seq l.toArray n }
/-- a tuple of values of which P holds -/
def SayV (w : World) (f : Addr) (sz : Nat) (vs : List Value) (P : List Value → Prop) : Prop :=
  Ask w f sz vs fun h₀ L m news s Q => ∀ (vals : List Value) (o : Addr) (n : Nat), P vals → (∀ h' tk', Fr h₀ L h' m → News h₀ L h' ((o, tupO vals n) :: news) → Q (.ref o) { s with heap := h', toks := tk' })



section
variable {prog : Program} {w : World} {A : Around} {E : Value → Shared → Prop} {s : Shared} {Q : Value → Shared → Prop} {t u : Tok} {i b : Int}
theorem r_mod_ii (hb : 0 < b) (h : ∀ r, r = i % b → Q (.int r s.toks) { s with toks := s.toks + 1 }) : wpAny (model prog w) A (binaryOp .Mod (.int i t) (.int b u)) Q E s := by
  have h0 : ¬ (b == 0) = true := fun q => by have := beq_iff_eq.mp q; omega
  refine AutoIntOps.mod_1 h0 ?_
  have := h _ rfl
  rw [← Int.fmod_eq_emod_of_nonneg _ (Int.le_of_lt hb)] at this
  exact this
theorem r_mod_iq (hb : 0 < b) (h : ∀ r, 0 ≤ r → r < b → Q (.int r s.toks) { s with toks := s.toks + 1 }) : wpAny (model prog w) A (binaryOp .Mod (.int i t) (.int b u)) Q E s :=
  r_mod_ii hb fun r e => h r (by rw [e]; exact Int.emod_nonneg _ (Int.ne_of_gt hb)) (by rw [e]; exact Int.emod_lt_of_pos _ hb)
theorem r_fdiv_ii (hb : 0 < b ∧ b ≤ 1000000) (h : ∀ r, r = i / b → Q (.int r s.toks) { s with toks := s.toks + 1 }) : wpAny (model prog w) A (binaryOp .FloorDiv (.int i t) (.int b u)) Q E s := by
  have := h _ rfl
  rw [← Int.fdiv_eq_ediv_of_nonneg _ (Int.le_of_lt hb.1)] at this
  exact floordiv_int (by omega) this (Or.inl (PyProof.noPylong_small (by omega)))
end
section
variable {prog : Program} {w : World} {A : Around} {E : Value → Shared → Prop} {s : Shared} {Q : Value → Shared → Prop} {u : Tok} {x : Int} {h₀ : Heap} {L a : Addr} {m : Str → Option Value} {K : Frag} {n : Nat} {l : List Value} {ns : List Int} {oc : Value} {dd : Option Addr} {sl : Array (Option Value)}
theorem r_mul_295 {i : Int} {t : Tok} (hi : -1000000 ≤ i ∧ i ≤ 1000000)
    (h : ∀ z, Fx 1 z (59 * i) → Q (.float z s.toks) { s with toks := s.toks + 1 }) : wpAny (model prog w) A (binaryOp .Mult (.float 0x403d800000000000 t) (.int i u)) Q E s :=
  r_mul_fi lit_c295 (by omega) (by omega) h
theorem r_in_K (F : Fr h₀ L s.heap m) (X₀ : K.In h₀) (hl : K.lookup a = some ⟨.type "tuple", dd, .seq l.toArray n, sl⟩) (hi : IntsAre l ns) (h : Q (.bool (ns.any (· == x))) s) :
    wpAny (model prog w) A (compareOp .In (.int x u) (.ref a)) Q E s := in_tuple_ints (tupK (X₀.keeps F.keep) hl) hi h
theorem any_30 (x : Int) : [4, 6, 9, 11].any (· == x) = decide (x = 4 ∨ x = 6 ∨ x = 9 ∨ x = 11) := by
  apply Bool.eq_iff_iff.mpr
  simp only [List.any_cons, List.any_nil, Bool.or_eq_true, beq_iff_eq, decide_eq_true_eq, Bool.false_eq_true, or_false]
  omega
theorem r_in_30 {t1 t2 t3 t4 : Tok} (F : Fr h₀ L s.heap m) (X₀ : K.In h₀) (hl : K.lookup a = some ⟨.type "tuple", dd, .seq [Value.int 4 t1, .int 6 t2, .int 9 t3, .int 11 t4].toArray n, sl⟩) (h : Q (.bool (decide (x = 4 ∨ x = 6 ∨ x = 9 ∨ x = 11))) s) :
    wpAny (model prog w) A (compareOp .In (.int x u) (.ref a)) Q E s :=
  r_in_K F X₀ hl (.cons _ _ (.cons _ _ (.cons _ _ (.cons _ _ .nil)))) (by rw [any_30]; exact h)
end
section
variable {M : Model} {A : Around} {E : Value → Shared → Prop} {s : Shared} {K : Frag} {h₀ : Heap} {L a : Addr} {m mg mb : Str → Option Value} {cn : Str} {cs : Scope} {ccd : Value} {p : Program} {loose : List Str} {mean : ExcName → Option Value} {x : Str} {pos : Pos} {v : Value} {Q : Value → Shared → Prop}
theorem my_ldG (hl : (cs.names.lookup x == some NameKind.globalImplicit) = true) (F : Fr h₀ L s.heap m) (X : K.In h₀) (T : Top p loose mean mg mb h₀) (e : nsIn K mainGlobals x = some (some v)) (h : Q v s)
    (hk : cs.kind = .function) (hd : (x == ("__debug__" : Str)) = false) : wpAny M A (eval (.Name x pos) (envOf cn cs L a ccd)) Q E s :=
  ld_global_at F (topRead_of T).g (mg_of X (topRead_of T).g e) h hk (kindOf_of_beq hl) hd
theorem my_ldL (hl : (cs.names.lookup x == some NameKind.local) = true) (F : Fr h₀ L s.heap m) (hv : m x = some v) (h : Q v s)
    (hk : cs.kind = .function) (hd : (x == ("__debug__" : Str)) = false) : wpAny M A (eval (.Name x pos) (envOf cn cs L a ccd)) Q E s := ld F hv h hk (kindOf_of_beq hl) hd
theorem if_hit {c : Prop} [Decidable c] {a b : Option Value} {r : Option Value} (hc : c) (h : a = r) : (if c then a else b) = r := by rw [if_pos hc]; exact h
theorem if_miss {c : Prop} [Decidable c] {a b : Option Value} {r : Option Value} (hc : ¬ c) (h : b = r) : (if c then a else b) = r := by rw [if_neg hc]; exact h
end
section
variable {h₀ h' : Heap} {L : Addr} {m : Str → Option Value} {news tl : Led} {s : Shared} {Q : Value → Shared → Prop} {tk' : Nat}
theorem News.drop (N : News h₀ L h' tl) (hs : ∀ p ∈ news, p ∈ tl) : News h₀ L h' news := fun p hp => N p (hs p hp)
theorem News.tail1 {p : Addr × Obj} (N : News h₀ L h' (p :: news)) : News h₀ L h' news := fun x hx => N x (.tail _ hx)
theorem News.tail2 {p q : Addr × Obj} (N : News h₀ L h' (p :: q :: news)) : News h₀ L h' (p :: news) := fun x hx => N x (by
  rcases List.mem_cons.mp hx with rfl | hx
  · exact .head _
  · exact .tail _ (.tail _ hx))
theorem endB {b b' : Bool} (hret : Back h₀ L m news s Q (.bool b)) (e : b' = b) (F : Fr h₀ L h' m) (N : News h₀ L h' news) : Q (.bool b') { s with heap := h', toks := tk' } := by
  subst e; exact hret h' tk' F N
theorem endI {n n' : Int} {t : Tok} (hret : ∀ t, Back h₀ L m news s Q (.int n t)) (e : n' = n) (F : Fr h₀ L h' m) (N : News h₀ L h' news) : Q (.int n' t) { s with heap := h', toks := tk' } := by
  subst e; exact hret _ h' tk' F N
theorem endF {z : UInt64} {H H' : Int} {t : Tok} (hret : ∀ z t, Fx 1 z H → Back h₀ L m news s Q (.float z t)) (hz : Fx 1 z H') (e : H' = H) (F : Fr h₀ L h' m) (N : News h₀ L h' news) : Q (.float z t) { s with heap := h', toks := tk' } := by
  subst e; exact hret _ _ hz h' tk' F N
theorem endV {P : List Value → Prop} {vals : List Value} {o : Addr} {n : Nat} (hret : ∀ (vals : List Value) (o : Addr) (n : Nat), P vals → (∀ h' tk', Fr h₀ L h' m → News h₀ L h' ((o, tupO vals n) :: news) → Q (.ref o) { s with heap := h', toks := tk' }))
    (F : Fr h₀ L h' m) (N : News h₀ L h' ((o, tupO vals n) :: news)) (hp : P vals) : Q (.ref o) { s with heap := h', toks := tk' } := hret vals o n hp h' tk' F N
end
section
variable {w : World} {f : Addr} {sz : Nat} {vs : List Value} {p : Program} {loose : List Str} {mean : ExcName → Option Value} {mg mb : Str → Option Value} {dp un : Nat} {gd : Option (List Code)} {cn : Str} {cs : Scope} {a : Addr} {ccd : Value} {cl : List (Str × Addr)} {outer : List Env} {A₀ : Around} {base h₀ : Heap} {L : Addr} {m : Str → Option Value} {news : Led} {s : Shared} {Q E : Value → Shared → Prop}
theorem useB {b : Bool} (C : SayB w f sz vs b) (B : Below A₀ base outer h₀) (F : Fr h₀ L s.heap m) (X : (Mine.hd.heap_39 w.params).In h₀) (N : News h₀ L s.heap news) (T : Top p loose mean mg mb h₀) (hk : cs.kind = .function) (hd : dp + sz < recursionLimit) (hu : un + 8 * sz < cLine)
    (h : ∀ (h' : Heap) (tk' : Nat), Fr h₀ L h' m → News h₀ L h' news → Q (.bool b) { s with heap := h', toks := tk' }) : wpAny (model PySem.Challenge.rw_ad5039_01.row.prog w) (ktrTop dp un gd cn cs L a ccd cl outer) (call (.ref f) vs) Q E s :=
  C p loose mean mg mb dp un gd cn cs a ccd cl outer A₀ base h₀ L m news s Q E B F X N T hk hd hu h
theorem useF {H : Int} (C : SayF w f sz vs H) (B : Below A₀ base outer h₀) (F : Fr h₀ L s.heap m) (X : (Mine.hd.heap_39 w.params).In h₀) (N : News h₀ L s.heap news) (T : Top p loose mean mg mb h₀) (hk : cs.kind = .function) (hd : dp + sz < recursionLimit) (hu : un + 8 * sz < cLine)
    (h : ∀ (z : UInt64) (t : Tok) (_ : Fx 1 z H) (h' : Heap) (tk' : Nat), Fr h₀ L h' m → News h₀ L h' news → Q (.float z t) { s with heap := h', toks := tk' }) : wpAny (model PySem.Challenge.rw_ad5039_01.row.prog w) (ktrTop dp un gd cn cs L a ccd cl outer) (call (.ref f) vs) Q E s :=
  C p loose mean mg mb dp un gd cn cs a ccd cl outer A₀ base h₀ L m news s Q E B F X N T hk hd hu h
theorem useI {n : Int} (C : SayI w f sz vs n) (B : Below A₀ base outer h₀) (F : Fr h₀ L s.heap m) (X : (Mine.hd.heap_39 w.params).In h₀) (N : News h₀ L s.heap news) (T : Top p loose mean mg mb h₀) (hk : cs.kind = .function) (hd : dp + sz < recursionLimit) (hu : un + 8 * sz < cLine)
    (h : ∀ (t : Tok) (h' : Heap) (tk' : Nat), Fr h₀ L h' m → News h₀ L h' news → Q (.int n t) { s with heap := h', toks := tk' }) : wpAny (model PySem.Challenge.rw_ad5039_01.row.prog w) (ktrTop dp un gd cn cs L a ccd cl outer) (call (.ref f) vs) Q E s :=
  C p loose mean mg mb dp un gd cn cs a ccd cl outer A₀ base h₀ L m news s Q E B F X N T hk hd hu h
theorem useV {P : List Value → Prop} (C : SayV w f sz vs P) (B : Below A₀ base outer h₀) (F : Fr h₀ L s.heap m) (X : (Mine.hd.heap_39 w.params).In h₀) (N : News h₀ L s.heap news) (T : Top p loose mean mg mb h₀) (hk : cs.kind = .function) (hd : dp + sz < recursionLimit) (hu : un + 8 * sz < cLine)
    (h : ∀ (vals : List Value) (_ : P vals) (o : Addr) (n : Nat) (h' : Heap) (tk' : Nat), Fr h₀ L h' m → News h₀ L h' ((o, tupO vals n) :: news) → Q (.ref o) { s with heap := h', toks := tk' }) : wpAny (model PySem.Challenge.rw_ad5039_01.row.prog w) (ktrTop dp un gd cn cs L a ccd cl outer) (call (.ref f) vs) Q E s :=
  C p loose mean mg mb dp un gd cn cs a ccd cl outer A₀ base h₀ L m news s Q E B F X N T hk hd hu fun vals o n hp => h vals hp o n
end

section
variable {w : World} {f : Addr} {sz : Nat} {vs : List Value} {p : Program} {loose : List Str} {mean : ExcName → Option Value} {mg mb : Str → Option Value} {dp un : Nat} {gd : Option (List Code)} {cn : Str} {cs : Scope} {a : Addr} {ccd : Value} {cl : List (Str × Addr)} {outer : List Env} {A₀ : Around} {base h₀ : Heap} {L : Addr} {m : Str → Option Value} {news : Led} {s : Shared} {Q E : Value → Shared → Prop}
theorem useB2 {P : Prop} [Decidable P] (C : SayB w f sz vs (decide P)) (B : Below A₀ base outer h₀) (F : Fr h₀ L s.heap m) (X : (Mine.hd.heap_39 w.params).In h₀) (N : News h₀ L s.heap news) (T : Top p loose mean mg mb h₀) (hk : cs.kind = .function) (hd : dp + sz < recursionLimit) (hu : un + 8 * sz < cLine)
    (h1 : P → ∀ (h' : Heap) (tk' : Nat), Fr h₀ L h' m → News h₀ L h' news → Q (.bool true) { s with heap := h', toks := tk' })
    (h2 : ¬ P → ∀ (h' : Heap) (tk' : Nat), Fr h₀ L h' m → News h₀ L h' news → Q (.bool false) { s with heap := h', toks := tk' }) : wpAny (model PySem.Challenge.rw_ad5039_01.row.prog w) (ktrTop dp un gd cn cs L a ccd cl outer) (call (.ref f) vs) Q E s := by
  by_cases hP : P
  · refine useB C B F X N T hk hd hu ?_
    rw [decide_eq_true hP]; exact h1 hP
  · refine useB C B F X N T hk hd hu ?_
    rw [decide_eq_false hP]; exact h2 hP
/-- an int of which P holds -/
def SayP (w : World) (f : Addr) (sz : Nat) (vs : List Value) (P : Int → Prop) : Prop :=
  Ask w f sz vs fun h₀ L m news s Q => ∀ n t, P n → Back h₀ L m news s Q (.int n t)
theorem useP {P : Int → Prop} (C : SayP w f sz vs P) (B : Below A₀ base outer h₀) (F : Fr h₀ L s.heap m) (X : (Mine.hd.heap_39 w.params).In h₀) (N : News h₀ L s.heap news) (T : Top p loose mean mg mb h₀) (hk : cs.kind = .function) (hd : dp + sz < recursionLimit) (hu : un + 8 * sz < cLine)
    (h : ∀ (n : Int) (_ : P n) (t : Tok) (h' : Heap) (tk' : Nat), Fr h₀ L h' m → News h₀ L h' news → Q (.int n t) { s with heap := h', toks := tk' }) : wpAny (model PySem.Challenge.rw_ad5039_01.row.prog w) (ktrTop dp un gd cn cs L a ccd cl outer) (call (.ref f) vs) Q E s :=
  C p loose mean mg mb dp un gd cn cs a ccd cl outer A₀ base h₀ L m news s Q E B F X N T hk hd hu fun n t hp => h n hp t
end
section
variable {prog : Program} {w : World} {A : Around} {E : Value → Shared → Prop} {s : Shared} {Q : Value → Shared → Prop} {u : Tok} {x : Int} {h₀ : Heap} {L l : Addr} {n : Nat} {news : Led}
def isI (x : Int) (v : Value) : Bool := match v with
  | .int a _ => a == x
  | _ => false
theorem isI_int (x a : Int) (t u : Tok) : PySem.MeetsSeq.EqGives (.int a t) (.int x u) (isI x (.int a t)) := PySem.MeetsSeq.EqGives.int a x t u
theorem isI_str (x : Int) (a : Str) (t u : Tok) : PySem.MeetsSeq.EqGives (.str a t) (.int x u) (isI x (.str a t)) := fun prog w A E s Q h => PySem.SeqAt.EqAt.str_int (A := A) (s := s) a t x u prog w E Q h
theorem r_in_two {c : Int} {wd : Str} {t1 t2 : Tok} (N : News h₀ L s.heap news) (hm : (l, ({ cls := .type "tuple", data := .seq #[.int c t1, .str wd t2] n } : Obj)) ∈ news) (h : Q (.bool (decide (c = x))) s) :
    wpAny (model prog w) A (compareOp .In (.int x u) (.ref l)) Q E s := by
  refine PySem.SeqRoads2.in_tuple (items := #[.int c t1, .str wd t2]) (n := n) (isI x) (fun y hy => ?_) (N _ hm).1 ?_
  · simp only [List.mem_toArray, List.mem_cons, List.not_mem_nil, or_false] at hy
    rcases hy with rfl | rfl
    · exact isI_int _ _ _ _
    · exact isI_str _ _ _ _
  · have e : (#[Value.int c t1, .str wd t2].any (isI x)) = decide (c = x) := by
      apply Bool.eq_iff_iff.mpr
      simp [isI]
    rw [e]; exact h
theorem r_in_three {c1 c2 c3 : Int} {t1 t2 t3 : Tok} (N : News h₀ L s.heap news) (hm : (l, ({ cls := .type "tuple", data := .seq #[.int c1 t1, .int c2 t2, .int c3 t3] n } : Obj)) ∈ news) (h : Q (.bool (decide (c1 = x ∨ c2 = x ∨ c3 = x))) s) :
    wpAny (model prog w) A (compareOp .In (.int x u) (.ref l)) Q E s := by
  refine PySem.SeqRoads2.in_tuple (items := #[.int c1 t1, .int c2 t2, .int c3 t3]) (n := n) (isI x) (fun y hy => ?_) (N _ hm).1 ?_
  · simp only [List.mem_toArray, List.mem_cons, List.not_mem_nil, or_false] at hy
    rcases hy with rfl | rfl | rfl <;> exact isI_int _ _ _ _
  · have e : (#[Value.int c1 t1, .int c2 t2, .int c3 t3].any (isI x)) = decide (c1 = x ∨ c2 = x ∨ c3 = x) := by
      apply Bool.eq_iff_iff.mpr
      simp [isI]
    rw [e]; exact h
end
theorem gen_toks {α : Type} {M : Model} {A : Around} {T : Sem α} {Q : α → Shared → Prop} {E : Value → Shared → Prop} {h : Heap} {g d t o} (H : ∀ tk, wpAny M A T Q E ⟨h, g, d, tk, o⟩) : wpAny M A T Q E ⟨h, g, d, t, o⟩ := H t
section
variable {prog : Program} {w : World} {A : Around} {E : Value → Shared → Prop} {s : Shared} {Q : Value → Shared → Prop} {t : Tok} {i a c : Int}
theorem r_add_iq (h1 : a = c → Q (.int (i + 1) s.toks) { s with toks := s.toks + 1 }) (h2 : ¬ a = c → Q (.int (i + 0) s.toks) { s with toks := s.toks + 1 }) : wpAny (model prog w) A (binaryOp .Add (.int i t) (.bool (a == c))) Q E s := by
  by_cases h : a = c
  · rw [beq_iff_eq.mpr h]; exact r_add_it (h1 h)
  · rw [beq_eq_false_iff_ne.mpr h]; exact r_add_ib (h2 h)
end
theorem FR.of1 {n y m d q r H : Int} (h1 : H = 2 * (1461 * q) + 2 * r) (a : 2 * (30 * m) ≤ 730) (b : 730 < 2 * (30 * m) + 2 * 30) (hH : H = 2 * (n + 365)) (h2 : 0 ≤ r ∧ r < 1461) (h3 : r = 1460) (hy : y = 4 * q + 3) (hd : d = 365 - 30 * m + 1) : FR n y (m + 1) d :=
  ⟨q, r, 3, 365, by omega, h2.1, h2.2, .inl ⟨h3, rfl, rfl⟩, hy, by omega, by omega, by omega⟩
theorem FR.of2 {n y m d q r k H j : Int} (h1 : H = 2 * (1461 * q) + 2 * r) (c1 : 2 * (365 * k) ≤ 2 * r) (c2 : 2 * r < 2 * (365 * k) + 2 * 365) (a : 2 * (30 * m) ≤ 2 * j) (b : 2 * j < 2 * (30 * m) + 2 * 30) (hH : H = 2 * (n + 365)) (h2 : 0 ≤ r ∧ r < 1461) (h3 : r ≠ 1460) (hj : j = r - 365 * k) (hy : y = 4 * q + k) (hd : d = j - 30 * m + 1) : FR n y (m + 1) d :=
  ⟨q, r, k, j, by omega, h2.1, h2.2, .inr ⟨h3, by omega, by omega, hj⟩, hy, by omega, by omega, by omega⟩
theorem fr_end {y n q r : Int} (h1 : 4 * n ≤ y) (h2 : y < 4 * n + 4) (h3 : y = 4 * q + r) (h4 : 0 ≤ r) (h5 : r < 4) : y / 4 = n ∧ y % 4 = r := by omega
theorem isl_end {y m a b : Int} (h1 : 59 * (m - 1) ≤ 2 * a) (h2 : 2 * a < 59 * (m - 1) + 2) (h3 : 30 * b ≤ 3 + 11 * y) (h4 : 3 + 11 * y < 30 * b + 30) : a = (59 * (m - 1) + 1) / 2 ∧ b = (3 + 11 * y) / 30 := by omega
/- ---- what each def says ---- -/
def yOk (y : Int) : Prop := -4000000000000 ≤ y ∧ y ≤ 4000000000000
def farOk (far W : Int) : Prop := (-281474976710656 ≤ far ∧ far ≤ 281474976710656) ∧ -W ≤ 2 * far ∧ 2 * far ≤ W
def is3 (R : Int → Int → Int → Prop) (vals : List Value) : Prop := ∃ y m d t1 t2 t3, vals = [Value.int y t1, Value.int m t2, Value.int d t3] ∧ R y m d
def is2 (R : Int → Int → Prop) (vals : List Value) : Prop := ∃ y d t1 t2, vals = [Value.int y t1, Value.int d t2] ∧ R y d
def is5 (R : Int → Int → Int → Int → Int → Prop) (vals : List Value) : Prop := ∃ b k t u i t1 t2 t3 t4 t5, vals = [Value.int b t1, Value.int k t2, Value.int t t3, Value.int u t4, Value.int i t5] ∧ R b k t u i
def C50 (w : World) : Prop := ∀ (y : Int) (t : Tok), SayB w 50 1 [.int y t] (decide (leapG y))
def C57 (w : World) : Prop := ∀ (y m d : Int) (t1 t2 t3 : Tok), LegG y m d → SayB w 57 2 [.int y t1, .int m t2, .int d t3] true
def C64 (w : World) : Prop := ∀ (y m d : Int) (t1 t2 t3 : Tok), yOk y → (1 ≤ m ∧ m ≤ 12) → LegG y m d → SayF w 64 3 [.int y t1, .int m t2, .int d t3] (3442849 + 2 * (jan y + (offG y m + d)))
theorem C64.first {w : World} (h : C64 w) (y : Int) (t1 t2 t3 : Tok) (hy : yOk y) : SayF w 64 3 [.int y t1, .int 1 t2, .int 1 t3] (3442851 + 2 * jan y) := by
  have := h y 1 1 t1 t2 t3 hy (by decide) (LegG.one _ _)
  rw [jan_off] at this
  have e : 3442849 + 2 * (jan y + (0 + 1)) = 3442851 + 2 * jan y := by omega
  rw [e] at this
  exact this
def C71 (w : World) : Prop := ∀ (x : UInt64) (k : Nat) (far p W : Int) (t : Tok), Mo k x (4903089 + 2 * far) p W → farOk far W → SayV w 71 4 [.float x t] (is3 (GrP (far + 730119)))
def C79 (w : World) : Prop := ∀ (y m d : Int) (t1 t2 t3 : Tok), (1 ≤ m ∧ m ≤ 13 ∧ 1 ≤ y ∧ 1 ≤ d ∧ d ≤ 30 ∧ (m = 13 → d ≤ 5)) → SayB w 79 2 [.int y t1, .int m t2, .int d t3, .none] true
def C94 (w : World) : Prop := ∀ (y m d : Int) (t1 t2 t3 : Tok), yOk y → (1 ≤ m ∧ m ≤ 13 ∧ 1 ≤ y ∧ 1 ≤ d ∧ d ≤ 30 ∧ (m = 13 → d ≤ 5)) → SayF w 94 3 [.int y t1, .int m t2, .int d t3] (3845003 + 2 * (365 * y + (m - 1) * 30 + d))
def C102 (w : World) : Prop := ∀ (x : UInt64) (k : Nat) (far p W : Int) (t : Tok), Mo k x (4903089 + 2 * far) p W → farOk far W → 0 ≤ far → SayV w 102 1 [.float x t] (is3 (AR (529043 + far)))
def C109 (w : World) : Prop := ∀ (y m d : Int) (t1 t2 t3 : Tok), yOk y → (-100 ≤ m ∧ m ≤ 100) → (-1000 ≤ d ∧ d ≤ 1000) → SayF w 109 1 [.int y t1, .int m t2, .int d t3] (2 * (d + (m - 1) * 30 + (y - 1) * 365 + y / 4) + 3650057)
def C116 (w : World) : Prop := ∀ (x : UInt64) (k : Nat) (far p W : Int) (t : Tok), Mo k x (4903089 + 2 * far) p W → farOk far W → SayV w 116 2 [.float x t] (is3 (CR (626515 + far)))
def C132 (w : World) : Prop := ∀ (y m d : Int) (t1 t2 t3 t4 : Tok), yOk y → (17 ≤ y ∧ 1 ≤ m ∧ m ≤ 13 ∧ 1 ≤ d ∧ d ≤ 30 ∧ (m = 13 → d ≤ 5 ∨ d = 6 ∧ y % 4 = 3)) → SayF w 132 3 [.int y t1, .int m t2, .int d t3, .int 4 t4] (4751679 + 2 * (1461 * (y / 4) + 365 * (y % 4) - 365 + (m - 1) * 30 + d - 1))
def C147 (w : World) : Prop := ∀ (x : UInt64) (k : Nat) (far p W : Int) (t t4 : Tok), Mo k x (4903089 + 2 * far) p W → farOk far W → 0 ≤ far → 2 * p < 2 ^ k → SayV w 147 2 [.float x t, .int 4 t4] (is3 (FR (75705 + far)))
def C161 (w : World) : Prop := ∀ (y m d : Int) (t1 t2 t3 : Tok), yOk (y + 78) → (1 ≤ m ∧ m ≤ 12) → (-1000 ≤ d ∧ d ≤ 1000) → SayF w 161 4 [.int y t1, .int m t2, .int d t3] (3442851 + 2 * inN y m d)
def C168 (w : World) : Prop := ∀ (x : UInt64) (k : Nat) (far p W : Int) (t : Tok), Mo k x (4903089 + 2 * far) p W → farOk far W → 2 * p < 2 ^ k → SayV w 168 5 [.float x t] (is3 (NR (far + 730119)))
def C175 (w : World) : Prop := ∀ (y m d : Int) (t1 t2 t3 : Tok), yOk y → (-1000 ≤ m ∧ m ≤ 1000) → (-100000 ≤ d ∧ d ≤ 100000) → SayF w 175 1 [.int y t1, .int m t2, .int d t3] (2 * (d + (59 * (m - 1) + 1) / 2 + (y - 1) * 354 + (3 + 11 * y) / 30) + 3896877)
def C182 (w : World) : Prop := ∀ (x : UInt64) (k : Nat) (far p W : Int) (t : Tok), Mo k x (4903089 + 2 * far) p W → farOk far W → 2 * p < 2 ^ k → SayV w 182 2 [.float x t] (is3 (IR (503105 + far)))
def C190 (w : World) : Prop := ∀ (y : Int) (t : Tok), SayB w 190 1 [.int y t] (decide (y % 4 = 0))
def C204 (w : World) : Prop := ∀ (y m d : Int) (t1 t2 t3 : Tok), LegJ y m d → SayB w 204 3 [.int y t1, .int m t2, .int d t3] true
def C211 (w : World) : Prop := ∀ (x : UInt64) (k : Nat) (far p W : Int) (t : Tok), Mo k x (4903089 + 2 * far) p W → farOk far W → SayV w 211 1 [.float x t] (is3 (JuR (far + 2453069)))
def C218 (w : World) : Prop := ∀ (y m d : Int) (t1 t2 t3 : Tok), (-900000000000 ≤ y ∧ y ≤ 900000000000) → (1 ≤ m ∧ m ≤ 12) → LegJ y m d → SayF w 218 4 [.int y t1, .int m t2, .int d t3] (2 * juN y m d - 3049)
def C225 (w : World) : Prop := ∀ (b k t u i : Int) (t1 t2 t3 t4 t5 : Tok), (-3000000000 ≤ b ∧ b ≤ 3000000000) → (-1000 ≤ k ∧ k ≤ 1000) → (-1000 ≤ t ∧ t ≤ 1000) → (-1000 ≤ u ∧ u ≤ 1000) → (-1000 ≤ i ∧ i ≤ 1000) → SayF w 225 1 [.int b t1, .int k t2, .int t t3, .int u t4, .int i t5] (1168565 + 2 * (144000 * b + 7200 * k + 360 * t + 20 * u + i))
def C232 (w : World) : Prop := ∀ (x : UInt64) (k : Nat) (far p W : Int) (t : Tok), Mo k x (4903089 + 2 * far) p W → farOk far W → 0 ≤ far → SayV w 232 1 [.float x t] (is5 (MR (1867262 + far)))
def C239 (w : World) : Prop := ∀ (y d : Int) (t1 t2 : Tok), yOk y → (-1000 ≤ d ∧ d ≤ 1000) → SayF w 239 4 [.int y t1, .int d t2] (3442849 + 2 * (jan y + d))
def OrP (D y d : Int) : Prop := YrP D y ∧ d = D - jan y + 1
def C246 (w : World) : Prop := ∀ (x : UInt64) (k : Nat) (far p W : Int) (t : Tok), Mo k x (4903089 + 2 * far) p W → farOk far W → SayV w 246 5 [.float x t] (is2 (OrP (far + 730119)))
def C253 (w : World) : Prop := ∀ (n most : Int) (t1 t2 : Tok), 1 ≤ most → SayP w 253 1 [.int n t1, .int most t2] (fun r => -most ≤ r ∧ r ≤ most)
def C267 (w : World) : Prop := ∀ (x y : UInt64) (k : Nat) (far p W : Int) (t1 t2 t3 : Tok), Fx 1 x 4903089 → Pt k y p W → farOk far W → SayB w 267 7 [.float x t1, .int far t2, .float y t3] true
def C274 (w : World) : Prop := ∀ (x y : UInt64) (k : Nat) (far p W : Int) (t1 t2 t3 : Tok), Fx 1 x 4903089 → Pt k y p W → farOk far W → 0 ≤ far → SayB w 274 7 [.float x t1, .int far t2, .float y t3] true
def C281 (w : World) : Prop := ∀ (x y : UInt64) (k : Nat) (far p W : Int) (t1 t2 t3 : Tok), Fx 1 x 4903089 → Pt k y p W → farOk far W → 2 * p < 2 ^ k → SayB w 281 8 [.float x t1, .int far t2, .float y t3] true

theorem YrP.ok {far W Y : Int} (h : YrP (far + 730119) Y) (hf : farOk far W) : yOk Y := by
  have := jan_bound ⟨h.lo, h.hi⟩ (by have := hf.1; omega)
  unfold yOk; omega
theorem GrP.yr {D y m d : Int} (h : GrP D y m d) : YrP D y := ⟨h.year.1, h.year.2.1, h.year.2.2⟩
theorem GrP.ok {far W y m d : Int} (h : GrP (far + 730119) y m d) (hf : farOk far W) : yOk y := h.yr.ok hf
theorem GrP.mm {D y m d : Int} (h : GrP D y m d) : 1 ≤ m ∧ m ≤ 12 := ⟨h.m1, h.m2⟩
theorem MonP.mm {yd Y m : Int} (h : MonP yd Y m) : 1 ≤ m ∧ m ≤ 12 := ⟨h.m1, h.m2⟩
theorem GrP.sum {D y m d : Int} (h : GrP D y m d) : jan y + (offG y m + d) = D + 1 := h.num
theorem Fx.near {x : UInt64} {far : Int} (h : Fx 1 x (4903089 + 2 * far)) (hf : 0 ≤ far ∧ far ≤ 1000000) : Mo 1 x (4903089 + 2 * far) 0 4000000 :=
  h.mo (by decide) (by decide) (by omega)
theorem farOk_near {far : Int} (hf : 0 ≤ far ∧ far ≤ 1000000) : farOk far 4000000 := by unfold farOk; omega
theorem Fx.mid {x : UInt64} {n far W : Int} (h : Fx 1 x (2 * n + 1)) (e : 4903089 + 2 * far = 2 * n + 1) (hf : farOk far W) : Mo 1 x (4903089 + 2 * far) 0 562949953421312 := by
  rw [← e] at h
  exact h.mo (by decide) (by decide) (by have := hf.1; omega)
theorem farOk_mid {far W : Int} (hf : farOk far W) : farOk far 562949953421312 := by
  have := hf.1
  unfold farOk; omega
theorem NR.ofA {D Y y m d ca : Int} (hY : YrP D Y) (hca : caG Y = ca) (h1 : D - jan Y < 80) (hy : y = Y - 79) (h : 30 * (m - 7) ≤ D - jan Y + 100 ∧ D - jan Y + 100 < 30 * (m - 7) + 30) (hd : d = D - jan Y + 100 - 30 * (m - 7) + 1) : NR D y m d := by
  have := hY.lo
  exact ⟨Y, D - jan Y + caG Y + 255, hY, .inl ⟨h1, hy, rfl⟩, .inr ⟨by omega, .inr ⟨by omega, by omega, by omega, by omega⟩⟩⟩
theorem NR.ofB {D Y y m d ca : Int} (hY : YrP D Y) (hca : caG Y = ca) (h1 : ¬ D - jan Y < 80) (hy : y = Y - 78) (B : D - jan Y - 80 < ca ∧ m = 1 ∧ d = D - jan Y - 80 + 1 ∨ ¬ D - jan Y - 80 < ca ∧ (D - jan Y - 80 - ca < 155 ∧ 31 * (m - 2) ≤ D - jan Y - 80 - ca ∧ D - jan Y - 80 - ca < 31 * (m - 2) + 31 ∧ d = D - jan Y - 80 - ca - 31 * (m - 2) + 1 ∨
    ¬ D - jan Y - 80 - ca < 155 ∧ 30 * (m - 7) ≤ D - jan Y - 80 - ca - 155 ∧ D - jan Y - 80 - ca - 155 < 30 * (m - 7) + 30 ∧ d = D - jan Y - 80 - ca - 155 - 30 * (m - 7) + 1)) : NR D y m d := by
  subst hca
  exact ⟨Y, D - jan Y - 80, hY, .inr ⟨h1, hy, rfl⟩, B⟩
theorem NR.ok {far W y m d : Int} (h : NR (far + 730119) y m d) (hf : farOk far W) : yOk (y + 78) := by
  obtain ⟨Y, z, h1, h2, _⟩ := h
  have := jan_bound ⟨h1.lo, h1.hi⟩ (by have := hf.1; omega)
  unfold yOk
  omega
theorem NR.mm {D y m d : Int} (h : NR D y m d) : 1 ≤ m ∧ m ≤ 12 := ⟨h.back.1, h.back.2.1⟩
theorem NR.num {D y m d : Int} (h : NR D y m d) : inN y m d = D := h.back.2.2
theorem NR.day {D y m d : Int} (h : NR D y m d) : -1000 ≤ d ∧ d ≤ 1000 := by
  obtain ⟨Y, z, h1, h2, h3⟩ := h
  have hc := ca_val Y
  have := h1.lo
  have := h1.hi
  omega
theorem JuR.ok {far W y m d : Int} (h : JuR (far + 2453069) y m d) (hf : farOk far W) : -900000000000 ≤ y ∧ y ≤ 900000000000 := by
  obtain ⟨c, dd, e, f, h1, h2, h3, h4, h5, h6, h7, h8, h9, h10, h11⟩ := h
  have := hf.1
  omega
theorem JuR.mm {b y m d : Int} (h : JuR b y m d) : 1 ≤ m ∧ m ≤ 12 := ⟨h.legal.1, h.legal.2.1⟩
theorem OrP.ok {far W y d : Int} (h : OrP (far + 730119) y d) (hf : farOk far W) : yOk y := h.1.ok hf
theorem OrP.day {D y d : Int} (h : OrP D y d) : -1000 ≤ d ∧ d ≤ 1000 := by
  have := h.1.lo
  have := h.1.hi
  have := h.2
  omega
theorem two_zero : (2 : Int) * 0 < 2 ^ 1 := by decide
theorem farOk_abs {far W : Int} (h : farOk far W) : farOk far.natAbs W := by
  obtain ⟨h1, h2⟩ := h
  unfold farOk; omega
theorem ca_off1 {Y : Int} (h : leapG Y) : caG Y = 31 ∧ offG Y 3 = 60 := by unfold caG offG; rw [if_pos h, if_pos h]; decide
theorem ca_off0 {Y : Int} (h : ¬ leapG Y) : caG Y = 30 ∧ offG Y 3 = 59 := by unfold caG offG; rw [if_neg h, if_neg h]; decide
theorem IR.of {n y m d c H : Int} (hc1 : H ≤ 59 * c) (hc2 : 59 * c < H + 59) (a : 10631 * y ≤ 30 * n + 10646 ∧ 30 * n + 10646 < 10631 * y + 10631) (eH : H = 2 * (n - (y - 1) * 354 - (3 + 11 * y) / 30 - 29)) (hm : m = if c + 1 < 12 then c + 1 else 12)
    (hd : d = n - (y - 1) * 354 - (3 + 11 * y) / 30 - (59 * (m - 1) + 1) / 2 + 1) : IR n y m d := by
  subst eH
  refine ⟨a, ⟨c, hc1, hc2, ?_⟩, hd⟩
  rw [hm]; split <;> omega
theorem yOk.jan {y : Int} (h : yOk y) : -1600000000000000 ≤ jan y ∧ jan y ≤ 1600000000000000 := by
  unfold yOk at h; unfold Mine.jan; omega
/- ---- near and far ---- -/
theorem GrP.backH {far y m d : Int} (h : GrP (far + 730119) y m d) : 3442849 + 2 * (jan y + (offG y m + d)) = 4903089 + 2 * far := by
  have := h.sum; omega
theorem OrP.backH {far y d : Int} (h : OrP (far + 730119) y d) : 3442849 + 2 * (jan y + d) = 4903089 + 2 * far := by
  have := h.2; omega
theorem JuR.backH {far y m d : Int} (h : JuR (far + 2453069) y m d) : 2 * juN y m d - 3049 = 4903089 + 2 * far := by
  have := h.back; omega
theorem CR.backH {far y m d : Int} (h : CR (626515 + far) y m d) : 2 * (d + (m - 1) * 30 + (y - 1) * 365 + y / 4) + 3650057 = 4903089 + 2 * far := by
  have := h.c; omega
theorem AR.backH {far y m d : Int} (h : AR (529043 + far) y m d) : 3845003 + 2 * (365 * y + (m - 1) * 30 + d) = 4903089 + 2 * far := by
  have := h.c; omega
theorem MR.backH {far b k t u i : Int} (h : MR (1867262 + far) b k t u i) : 1168565 + 2 * (144000 * b + 7200 * k + 360 * t + 20 * u + i) = 4903089 + 2 * far := by
  have := h.a; omega
theorem IR.backH {far y m d : Int} (h : IR (503105 + far) y m d) : 2 * (d + (59 * (m - 1) + 1) / 2 + (y - 1) * 354 + (3 + 11 * y) / 30) + 3896877 = 4903089 + 2 * far := by
  have := h.back; omega
theorem NR.backH {far y m d : Int} (h : NR (far + 730119) y m d) : 3442851 + 2 * inN y m d = 4903089 + 2 * far := by
  have := h.num; omega
theorem FR.backH {far y m d : Int} (h : FR (75705 + far) y m d) : 4751679 + 2 * (1461 * (y / 4) + 365 * (y % 4) - 365 + (m - 1) * 30 + d - 1) = 4903089 + 2 * far := by
  have := h.back; omega
theorem GrP.same {far f r y m d y' m' d' : Int} (h : GrP (far + 730119) y m d) (h' : GrP (f + 730119) y' m' d') (hf : f = far % 146097) (hr : r = far / 146097) : y = y' + r * 400 ∧ m = m' ∧ d = d' := by
  have g := h'.shift r
  have e : f + 730119 + 146097 * r = far + 730119 := by omega
  rw [e] at g
  have := h.uniq g
  omega
theorem OrP.same {far f r y d y' d' : Int} (h : OrP (far + 730119) y d) (h' : OrP (f + 730119) y' d') (hf : f = far % 146097) (hr : r = far / 146097) : y = y' + r * 400 ∧ d = d' := by
  have g := h'.1.shift r
  have e : f + 730119 + 146097 * r = far + 730119 := by omega
  rw [e] at g
  have q := h.1.uniq g
  have h2 := h.2
  have g2 := h'.2
  rw [q, jan_shift] at h2
  omega
theorem JuR.same {far f r y m d y' m' d' : Int} (h : JuR (far + 2453069) y m d) (h' : JuR (f + 2453069) y' m' d') (hf : f = far % 1461) (hr : r = far / 1461) : y = y' + r * 4 ∧ m = m' ∧ d = d' := by
  have := h.shift h' (k := r) (by omega); omega
theorem CR.same {far f r y m d y' m' d' : Int} (h : CR (626515 + far) y m d) (h' : CR (626515 + f) y' m' d') (hf : f = far % 1461) (hr : r = far / 1461) : y = y' + r * 4 ∧ m = m' ∧ d = d' := by
  have := h.shift h' (k := r) (by omega); omega
theorem AR.same {far f r y m d y' m' d' : Int} (h : AR (529043 + far) y m d) (h' : AR (529043 + f) y' m' d') (hf : f = far % 365) (hr : r = far / 365) : y = y' + r * 1 ∧ m = m' ∧ d = d' := by
  have := h.shift h' (k := r) (by omega); omega
theorem MR.same {far f r b k t u i b' k' t' u' i' : Int} (h : MR (1867262 + far) b k t u i) (h' : MR (1867262 + f) b' k' t' u' i') (hf : f = far % 144000) (hr : r = far / 144000) : b = b' + r ∧ k = k' ∧ t = t' ∧ u = u' ∧ i = i' := by
  have := h.shift h' (q := r) (by omega); omega
theorem IR.same {far f r y m d y' m' d' : Int} (h : IR (503105 + far) y m d) (h' : IR (503105 + f) y' m' d') (hf : f = far % 10631) (hr : r = far / 10631) : y = y' + r * 30 ∧ m = m' ∧ d = d' := by
  have := h.shift h' (k := r) (by omega); omega
theorem NR.same {far f r y m d y' m' d' : Int} (h : NR (far + 730119) y m d) (h' : NR (f + 730119) y' m' d') (hf : f = far % 146097) (hr : r = far / 146097) : y = y' + r * 400 ∧ m = m' ∧ d = d' := by
  have := h.shift h' (k := r) (by omega); omega
theorem FR.same {far f r y m d y' m' d' : Int} (h : FR (75705 + far) y m d) (h' : FR (75705 + f) y' m' d') (hf : f = far % 1461) (hr : r = far / 1461) : y = y' + r * 4 ∧ m = m' ∧ d = d' := by
  have := h.shift h' (k := r) (by omega); omega
theorem AR.ok {far W y m d : Int} (h : AR (529043 + far) y m d) (hf : farOk far W) : yOk y := by
  have := hf.1; have := h.a; unfold yOk; omega
theorem CR.ok {far W y m d : Int} (h : CR (626515 + far) y m d) (hf : farOk far W) : yOk y := by
  have := hf.1; have := h.a; unfold yOk; omega
theorem CR.mm {n y m d : Int} (h : CR n y m d) : -100 ≤ m ∧ m ≤ 100 := by
  have := h.a; have := h.b; omega
theorem CR.day {n y m d : Int} (h : CR n y m d) : -1000 ≤ d ∧ d ≤ 1000 := by
  have := h.b; have := h.c; omega
theorem FR.ok {far W y m d : Int} (h : FR (75705 + far) y m d) (hf : farOk far W) : yOk y := by
  have := hf.1
  obtain ⟨q, r, y4, j, h1, h2, h3, h4, h5, h6, h7, h8⟩ := h
  unfold yOk; omega
theorem IR.ok {far W y m d : Int} (h : IR (503105 + far) y m d) (hf : farOk far W) : yOk y := by
  have := hf.1; have := h.a; unfold yOk; omega
theorem IR.mm {n y m d : Int} (h : IR n y m d) : -1000 ≤ m ∧ m ≤ 1000 := by
  have := h.month; omega
theorem IR.day {n y m d : Int} (h : IR n y m d) : -100000 ≤ d ∧ d ≤ 100000 := by
  have := h.month; have := h.a; have := h.c; omega
theorem MR.b1 {far W b k t u i : Int} (h : MR (1867262 + far) b k t u i) (hf : farOk far W) : -3000000000 ≤ b ∧ b ≤ 3000000000 := by
  have := hf.1; have := h.a; have := h.b; omega
theorem MR.b2 {n b k t u i : Int} (h : MR n b k t u i) : -1000 ≤ k ∧ k ≤ 1000 := by
  have := h.b; have := h.c; omega
theorem MR.b3 {n b k t u i : Int} (h : MR n b k t u i) : -1000 ≤ t ∧ t ≤ 1000 := by
  have := h.c; have := h.d; omega
theorem MR.b4 {n b k t u i : Int} (h : MR n b k t u i) : -1000 ≤ u ∧ u ≤ 1000 := by
  have := h.d; have := h.e; omega
theorem MR.b5 {n b k t u i : Int} (h : MR n b k t u i) : -1000 ≤ i ∧ i ≤ 1000 := by
  have := h.e; omega
section
variable {prog : Program} {w : World} {A : Around} {E : Value → Shared → Prop} {s : Shared} {Q : Value → Shared → Prop} {t u : Tok} {x y : UInt64} {H G : Int}
theorem r_ne_same (hx : Fx 1 x H) (hy : Fx 1 y G) (he : H = G) (h : Q (.bool false) s) : wpAny (model prog w) A (compareOp .NotEq (.float x t) (.float y u)) Q E s := by
  refine r_ne_ff hx hy ?_
  rw [decide_eq_false (fun q => q he)]; exact h
theorem r_eq_same (hx : Fx 1 x H) (hy : Fx 1 y G) (he : H = G) (h : Q (.bool true) s) : wpAny (model prog w) A (compareOp .Eq (.float x t) (.float y u)) Q E s := by
  refine r_eq_ff hx hy ?_
  rw [decide_eq_true he]; exact h
end
theorem r_abs {prog : Program} {w : World} {A : Around} {E : Value → Shared → Prop} {s : Shared} {Q : Value → Shared → Prop} {t : Tok} {a W : Int} (hf : farOk a W) (h : ∀ r u tk, 0 ≤ r → r ≤ 281474976710656 → 2 * r ≤ W → farOk r W → Q (.int r u) { s with toks := tk }) :
    wpAny (model prog w) A (call (.builtin "abs") [.int a t]) Q E s :=
  call_abs_int fun u tk => h _ u tk (by split <;> omega) (by obtain ⟨h1, h2⟩ := hf; split <;> omega) (by obtain ⟨h1, h2⟩ := hf; split <;> omega) (by
    obtain ⟨h1, h2⟩ := hf
    unfold farOk
    split <;> omega)
end Mine

namespace Mine

local macro_rules | `(tactic| walk_at "my fx") => `(tactic| first | with_reducible assumption | exact lit_greg | exact lit_half | exact lit_arm | exact lit_copt | exact lit_fren | exact lit_isl | exact lit_may | exact lit_c1524 | exact lit1_c365 | exact lit1_c1461 | exact lit1_c4 | exact lit1_c30)
local macro_rules | `(tactic| walk_at "my fx0") => `(tactic| first | exact lit_c365 | exact lit_c1461 | exact lit_c4 | exact lit_c30)
local macro_rules | `(tactic| walk_at "my om") => `(tactic| omega)
local macro_rules | `(tactic| walk_at "my room") => `(tactic| first | ((try simp only [depth_under_make, depth_under_kw, depth_in1, depth_deeper, depth_caller, units_in1, units_deeper, Around.mark_units, units_caller]); (try dsimp only [ktrTop]); omega) | decide | ((try simp only [depth_under_make, depth_under_kw, depth_in1, depth_deeper, depth_caller, units_in1, units_deeper, Around.mark_units, units_caller]); decide))
local macro_rules | `(tactic| walk_at "my keep") => `(tactic| first | exact rfl | assumption)
local macro_rules | `(tactic| walk_at "eval Call") => `(tactic| (k_here; k_dflt (refine Call_ ?_)))
local macro_rules | `(tactic| walk_at "exec Raise some none") => `(tactic| (k_here; k_dflt (exfalso; first | omega | (unfold leapG at *; omega))))
local macro_rules | `(tactic| walk_at "my find") => `(tactic| (dsimp only; repeat (first | (with_reducible exact if_hit rfl rfl) | (refine if_miss (by decide +kernel) ?_; try dsimp only) | rfl)))
local macro_rules | `(tactic| walk_at "eval Name") => `(tactic| (k_here; k_dflt (first
  | (with_reducible refine' my_ldL ?l ?F ?v ?_ ?k ?d; (case l => decide +kernel); (case F => k_asm); (case v => walk_at "my find"); (case k => rfl); (case d => decide +kernel))
  | (with_reducible refine' my_ldG ?l ?F ?X ?T ?e ?_ ?k ?d; (case l => decide +kernel); (case F => k_asm); (case X => k_asm); (case T => k_asm); (case e => k_is); (case k => rfl); (case d => decide +kernel)))))
local macro_rules | `(tactic| walk_at "execs cons") => `(tactic| (k_here; (try (with_reducible refine gen_toks ?_; intro tk)); (with_reducible refine wpAny_execs_cons ?_); try dsimp only))
local macro_rules | `(tactic| walk_at "execs nil") => `(tactic| (k_here; (with_reducible refine wpAny_execs_nil ?_); try dsimp only))
local macro_rules | `(tactic| walk_at "LeaveK") => `(tactic| (k_dflt (refine' leaveK_ ?k1 ?k2 ?_; (case k1 => with_reducible assumption); (case k2 => with_reducible assumption); k_whole); intro kF kN; (try dsimp only at kF kN); (try k_sweep); (try dsimp only)))
local macro_rules | `(tactic| walk_at "binaryOp Mod int int") => `(tactic| (k_here; k_dflt (first | (with_reducible refine' r_mod_ii ?k1 ?_; (case k1 => decide); intro r' hr') | (with_reducible refine' r_mod_iq ?k1 ?_; (case k1 => walk_at "my om"); intro r' hr1 hr2))))
local macro_rules | `(tactic| walk_at "binaryOp FloorDiv int int") => `(tactic| (k_here; k_dflt (with_reducible refine' r_fdiv_ii ?k1 ?_; (case k1 => decide); intro r' hr')))
local macro_rules | `(tactic| walk_at "binaryOp Div int int") => `(tactic| (k_here; k_dflt (with_reducible refine' r_div_ii ?k1 ?k2 ?_; (case k1 => decide); (case k2 => walk_at "my om"); intro z' n' hn1 hn2 hz')))
local macro_rules | `(tactic| walk_at "binaryOp Div int int") => `(tactic| (k_here; (with_reducible show wpAny _ _ (binaryOp _ (Value.int (367 * _ - 362) _) _) _ _ _); k_dflt (with_reducible refine' r_div_iib ?k1 ?k2 ?_; (case k1 => decide); (case k2 => walk_at "my om"); intro z' n' hn1 hn2 hz')))
local macro_rules | `(tactic| walk_at "binaryOp Add float int") => `(tactic| (k_here; k_dflt (first | (with_reducible refine' r_add_fi ?k1 ?k2 ?k3 ?_; (case k1 => walk_at "my fx"); (case k2 => walk_at "my om"); (case k3 => walk_at "my om"); intro z' hz') | (with_reducible refine' r_add_fi2 ?k1 ?k4 ?k2 ?k3 ?_; (case k1 => walk_at "my fx"); (case k4 => walk_at "my om"); (case k2 => walk_at "my om"); (case k3 => walk_at "my om"); intro z' hz') | (with_reducible refine' r_add_bi ?k1 ?k2 ?k3 ?_; (case k1 => with_reducible assumption); (case k2 => walk_at "my om"); (case k3 => walk_at "my om"); intro z' hz') | (with_reducible refine' r_add_mi ?k1 ?k2 ?k3 ?_; (case k1 => with_reducible assumption); (case k2 => walk_at "my om"); (case k3 => walk_at "my om"); intro z' hz'))))
local macro_rules | `(tactic| walk_at "binaryOp Add int bool") => `(tactic| (k_here; k_dflt (first | (with_reducible refine r_add_it ?_) | (with_reducible refine r_add_ib ?_) | (with_reducible refine r_add_iq ?_ ?_; all_goals intro hq'))))
local macro_rules | `(tactic| walk_at "binaryOp Sub int bool") => `(tactic| (k_here; k_dflt (first | (with_reducible refine r_sub_it ?_) | (with_reducible refine r_sub_ib ?_))))
local macro_rules | `(tactic| walk_at "binaryOp Add int float") => `(tactic| (k_here; k_dflt (with_reducible refine' r_add_if ?k1 ?k2 ?k3 ?_; (case k1 => walk_at "my fx"); (case k2 => walk_at "my om"); (case k3 => walk_at "my om"); intro z' hz')))
local macro_rules | `(tactic| walk_at "binaryOp Add float float") => `(tactic| (k_here; k_dflt (first | (with_reducible refine' r_add_ff ?k1 ?k2 ?k3 ?_; (case k1 => walk_at "my fx"); (case k2 => walk_at "my fx"); (case k3 => walk_at "my om"); intro z' hz') | (with_reducible refine' r_add_fp ?k1 ?k2 ?k3 ?_; (case k1 => walk_at "my fx"); (case k2 => with_reducible assumption); (case k3 => walk_at "my om"); intro z' hz'))))
local macro_rules | `(tactic| walk_at "inplaceOp Add float int") => `(tactic| (k_here; k_dflt (with_reducible refine' r_iadd_fi ?k1 ?k2 ?k3 ?_; (case k1 => walk_at "my fx"); (case k2 => walk_at "my om"); (case k3 => walk_at "my om"); intro z' hz')))
local macro_rules | `(tactic| walk_at "inplaceOp Add float float") => `(tactic| (k_here; k_dflt (with_reducible refine' r_iadd_mf ?k1 ?k2 ?k3 ?_; (case k1 => with_reducible assumption); (case k2 => walk_at "my fx"); (case k3 => walk_at "my om"); intro z' hz')))
local macro_rules | `(tactic| walk_at "binaryOp Sub float int") => `(tactic| (k_here; k_dflt (first | (with_reducible refine' r_sub_fi ?k1 ?k2 ?k3 ?_; (case k1 => walk_at "my fx"); (case k2 => walk_at "my om"); (case k3 => walk_at "my om"); intro z' hz') | (with_reducible refine' r_sub_mi ?k1 ?k2 ?k3 ?_; (case k1 => with_reducible assumption); (case k2 => walk_at "my om"); (case k3 => walk_at "my om"); intro z' hz'))))
local macro_rules | `(tactic| walk_at "inplaceOp Sub float int") => `(tactic| (k_here; k_dflt (with_reducible refine' r_isub_fi ?k1 ?k2 ?k3 ?_; (case k1 => walk_at "my fx"); (case k2 => walk_at "my om"); (case k3 => walk_at "my om"); intro z' hz')))
local macro_rules | `(tactic| walk_at "binaryOp Sub float float") => `(tactic| (k_here; k_dflt (first | (with_reducible refine' r_sub_ff ?k1 ?k2 ?k3 ?_; (case k1 => walk_at "my fx"); (case k2 => walk_at "my fx"); (case k3 => walk_at "my om"); intro z' hz') | (with_reducible refine' r_sub_mf ?k1 ?k2 ?k3 ?_; (case k1 => with_reducible assumption); (case k2 => walk_at "my fx"); (case k3 => walk_at "my om"); intro z' hz'))))
local macro_rules | `(tactic| walk_at "binaryOp Sub int float") => `(tactic| (k_here; k_dflt (first | (with_reducible refine' r_sub_j ?k1 ?_; (case k1 => walk_at "my om"); intro z' hz') | (with_reducible refine' r_sub_if ?k1 ?k2 ?k3 ?_; (case k1 => walk_at "my fx"); (case k2 => walk_at "my om"); (case k3 => walk_at "my om"); intro z' hz'))))
local macro_rules | `(tactic| walk_at "binaryOp Mult float int") => `(tactic| (k_here; k_dflt (first | (with_reducible refine' r_mul_q ?k1 ?_; (case k1 => walk_at "my om"); intro z' hz') | (with_reducible refine' r_mul_306 ?k1 ?_; (case k1 => walk_at "my om"); intro z' n' hn1 hn2 hz') | (with_reducible refine' r_mul_295 ?k1 ?_; (case k1 => walk_at "my om"); intro z' hz') | (with_reducible refine' r_mul_fi ?k1 ?k2 ?k3 ?_; (case k1 => walk_at "my fx"); (case k2 => walk_at "my om"); (case k3 => walk_at "my om"); intro z' hz'))))
local macro_rules | `(tactic| walk_at "binaryOp Mult int float") => `(tactic| (k_here; k_dflt (with_reducible refine' r_mul_if ?k1 ?k2 ?k3 ?k4 ?_; (case k1 => walk_at "my fx"); (case k2 => walk_at "my om"); (case k3 => walk_at "my om"); (case k4 => walk_at "my om"); intro z' hz')))
local macro_rules | `(tactic| walk_at "binaryOp Mult float float") => `(tactic| (k_here; k_dflt (with_reducible refine' r_mul_ff ?k1 ?k2 ?k3 ?_; (case k1 => walk_at "my fx"); (case k2 => walk_at "my fx0"); (case k3 => walk_at "my om"); intro z' hz')))
local macro_rules | `(tactic| walk_at "binaryOp Div float int") => `(tactic| (k_here; k_dflt (first | (with_reducible refine' r_div_fi ?k1 ?k2 ?k3 ?k4 ?_; (case k1 => walk_at "my fx"); (case k2 => walk_at "my om"); (case k3 => decide); (case k4 => walk_at "my om"); intro z' n' hn1 hn2 hz') | (with_reducible refine' r_div_mi ?k1 ?k2 ?k3 ?_; (case k1 => with_reducible assumption); (case k2 => walk_at "my om"); (case k3 => decide); intro z' n' hn1 hn2 hz'))))
local macro_rules | `(tactic| walk_at "binaryOp Div float float") => `(tactic| (k_here; k_dflt (first | (with_reducible refine' r_div_295 ?k1 ?k2 ?_; (case k1 => walk_at "my fx"); (case k2 => walk_at "my om"); intro z' n' hn1 hn2 hz') | (with_reducible refine' r_div_j ?k1 ?k2 ?_; (case k1 => with_reducible assumption); (case k2 => walk_at "my om"); intro z' n' hn1 hn2 hz') | (with_reducible refine' r_div_ff ?k1 ?k2 ?k3 ?k4 ?k5 ?_; (case k1 => walk_at "my fx"); (case k2 => walk_at "my om"); (case k3 => walk_at "my fx0"); (case k4 => decide); (case k5 => walk_at "my om"); intro z' n' hn1 hn2 hz'))))
local macro_rules | `(tactic| walk_at "binaryOp Div int float") => `(tactic| (k_here; k_dflt (first | (with_reducible refine' r_div_306 ?k1 ?_; (case k1 => walk_at "my om"); intro z' n' hn1 hn2 hz') | (with_reducible refine' r_div_if ?k1 ?k2 ?k3 ?_; (case k1 => walk_at "my fx0"); (case k2 => decide); (case k3 => walk_at "my om"); intro z' n' hn1 hn2 hz'))))
local macro_rules | `(tactic| walk_at "binaryOp Mod float int") => `(tactic| (k_here; k_dflt (first | (with_reducible refine' r_mod_fi ?k1 ?k2 ?k3 ?_; (case k1 => walk_at "my fx"); (case k2 => walk_at "my om"); (case k3 => decide); intro z' q' r' hr1 hr2 hr3 hz') | (with_reducible refine' r_mod_mi ?k1 ?k2 ?k3 ?_; (case k1 => with_reducible assumption); (case k2 => walk_at "my om"); (case k3 => decide); intro z' q' r' hr1 hr2 hr3 hz'))))
local macro_rules | `(tactic| walk_at "binaryOp Mod float float") => `(tactic| (k_here; k_dflt (with_reducible refine' r_mod_ff ?k1 ?k2 ?k3 ?k4 ?_; (case k1 => walk_at "my fx"); (case k2 => walk_at "my om"); (case k3 => walk_at "my fx0"); (case k4 => decide); intro z' q' r' hr1 hr2 hr3 hz')))
local macro_rules | `(tactic| walk_at "binaryOp Mod int float") => `(tactic| (k_here; k_dflt (with_reducible refine' r_mod_if ?k1 ?k2 ?k3 ?_; (case k1 => walk_at "my fx0"); (case k2 => decide); (case k3 => walk_at "my om"); intro z' q' r' hr1 hr2 hr3 hz')))
local macro_rules | `(tactic| walk_at "compareOp Lt float int") => `(tactic| (k_here; k_dflt (first | (with_reducible refine' r_lt_fi ?k1 ?_; (case k1 => walk_at "my fx")) | (with_reducible refine' r_lt_mi ?k1 ?k2 ?_; (case k1 => with_reducible assumption); (case k2 => walk_at "my om")))))
local macro_rules | `(tactic| walk_at "compareOp Lt float float") => `(tactic| (k_here; k_dflt (with_reducible refine' r_lt_mf ?k1 ?k2 ?k3 ?_; (case k1 => with_reducible assumption); (case k2 => walk_at "my fx"); (case k3 => walk_at "my om"))))
local macro_rules | `(tactic| walk_at "compareOp LtE float float") => `(tactic| (k_here; k_dflt (with_reducible refine' r_le_ff ?k1 ?k2 ?_; (case k1 => walk_at "my fx"); (case k2 => walk_at "my fx"))))
local macro_rules | `(tactic| walk_at "compareOp Eq float float") => `(tactic| (k_here; k_dflt (first | (with_reducible refine' r_eq_same ?k1 ?k2 ?k3 ?_; (case k1 => walk_at "my fx"); (case k2 => walk_at "my fx"); (case k3 => walk_at "my same")) | (with_reducible refine' r_eq_ff ?k1 ?k2 ?_; (case k1 => walk_at "my fx"); (case k2 => walk_at "my fx")))))
local macro_rules | `(tactic| walk_at "compareOp NotEq float float") => `(tactic| (k_here; k_dflt (first | (with_reducible refine' r_ne_same ?k1 ?k2 ?k3 ?_; (case k1 => walk_at "my fx"); (case k2 => walk_at "my fx"); (case k3 => walk_at "my same")) | (with_reducible refine' r_ne_ff ?k1 ?k2 ?_; (case k1 => walk_at "my fx"); (case k2 => walk_at "my fx")))))
local macro_rules | `(tactic| walk_at "compareOp Eq int float") => `(tactic| (k_here; k_dflt (with_reducible refine' r_eq_if ?k1 ?_; (case k1 => walk_at "my fx"))))
local macro_rules | `(tactic| walk_at "call builtin:math.floor") => `(tactic| (k_here; (with_reducible show wpAny _ _ (call _ [Value.float _ _]) _ _ _); k_dflt (first | (with_reducible refine' r_floor ?k1 ?k2 ?_; (case k1 => with_reducible assumption); (case k2 => with_unfolding_all rfl)) | (with_reducible refine' r_floor_b ?k1 ?k2 ?_; (case k1 => with_reducible assumption); (case k2 => with_unfolding_all rfl)) | (with_reducible refine' r_floor_i ?k1 ?k2 ?_; (case k1 => with_reducible assumption); (case k2 => with_unfolding_all rfl)) | (with_reducible refine' r_floor_q ?k1 ?k2 ?_; (case k1 => with_reducible assumption); (case k2 => with_unfolding_all rfl); intro n' hn1 hn2) | (with_reducible refine' r_floor_m ?k1 ?k2 ?k3 ?_; (case k1 => with_reducible assumption); (case k2 => walk_at "my om"); (case k3 => with_unfolding_all rfl); intro n' hn1) | (with_reducible refine' r_floor_n ?k1 ?k2 ?k3 ?k4 ?_; (case k1 => with_reducible assumption); (case k2 => walk_at "my om"); (case k3 => walk_at "my om"); (case k4 => with_unfolding_all rfl); intro n' hn1))))
local macro_rules | `(tactic| walk_at "call builtin:math.ceil") => `(tactic| (k_here; k_dflt (first | (with_reducible refine' r_ceil ?k1 ?k2 ?_; (case k1 => with_reducible assumption); (case k2 => with_unfolding_all rfl)) | (with_reducible refine' r_ceil_f ?k1 ?k2 ?_; (case k1 => with_reducible assumption); (case k2 => with_unfolding_all rfl); intro n' hn1 hn2))))
local macro_rules | `(tactic| walk_at "call builtin:math.trunc") => `(tactic| (k_here; k_dflt (first | (with_reducible refine' r_trunc ?k1 ?k2 ?k3 ?_; (case k1 => with_reducible assumption); (case k2 => walk_at "my om"); (case k3 => with_unfolding_all rfl)) | (with_reducible refine' r_trunc_f ?k1 ?k2 ?k3 ?_; (case k1 => with_reducible assumption); (case k2 => walk_at "my om"); (case k3 => with_unfolding_all rfl); intro n' hn1) | (with_reducible refine' r_trunc_m ?k1 ?k2 ?k3 ?k4 ?_; (case k1 => with_reducible assumption); (case k2 => walk_at "my om"); (case k3 => walk_at "my om"); (case k4 => with_unfolding_all rfl); intro n' hn1) | (with_reducible refine' r_trunc_n ?k1 ?k2 ?k3 ?k4 ?k5 ?_; (case k1 => with_reducible assumption); (case k2 => walk_at "my om"); (case k3 => walk_at "my om"); (case k4 => walk_at "my om"); (case k5 => with_unfolding_all rfl); intro n' hn1))))
local macro_rules | `(tactic| walk_at "call type:int") => `(tactic| (k_here; (with_reducible show wpAny _ _ (call _ [Value.float _ _]) _ _ _); k_dflt (first | (with_reducible refine' r_int_f ?k1 ?k2 ?k3 ?_; (case k1 => with_reducible assumption); (case k2 => walk_at "my om"); (case k3 => with_unfolding_all rfl); intro n' hn1) | (with_reducible refine' r_int_m ?k1 ?k2 ?k3 ?k4 ?_; (case k1 => with_reducible assumption); (case k2 => walk_at "my om"); (case k3 => walk_at "my om"); (case k4 => with_unfolding_all rfl); intro n' hn1))))
local macro_rules | `(tactic| walk_at "compareOp In int ref") => `(tactic| (k_here; k_dflt (refine' r_in_30 ?F ?X ?l ?_; (case F => k_asm); (case X => k_asm); (case l => k_is))))
local macro_rules | `(tactic| walk_at "compareOp In int ref") => `(tactic| (k_here; k_dflt (first
  | (refine' r_in_two ?N ?hm ?_; (case N => k_asm); (case hm => k_mem))
  | (refine' r_in_three ?N ?hm ?_; (case N => k_asm); (case hm => k_mem))
  | (refine' r_in_30 ?F ?X ?l ?_; (case F => k_asm); (case X => k_asm); (case l => k_is)))))
local macro_rules | `(tactic| walk_at "my same") => `(tactic| first | exact GrP.backH (by with_reducible assumption) | exact OrP.backH (by with_reducible assumption) | exact JuR.backH (by with_reducible assumption) | exact CR.backH (by with_reducible assumption) | exact AR.backH (by with_reducible assumption) | exact MR.backH (by with_reducible assumption) | exact IR.backH (by with_reducible assumption) | exact NR.backH (by with_reducible assumption) | exact FR.backH (by with_reducible assumption))
local macro_rules | `(tactic| walk_at "my tup") => `(tactic| first | exact GrP.same (by with_reducible assumption) (by with_reducible assumption) (by with_reducible assumption) (by with_reducible assumption) | exact OrP.same (by with_reducible assumption) (by with_reducible assumption) (by with_reducible assumption) (by with_reducible assumption) | exact JuR.same (by with_reducible assumption) (by with_reducible assumption) (by with_reducible assumption) (by with_reducible assumption) | exact CR.same (by with_reducible assumption) (by with_reducible assumption) (by with_reducible assumption) (by with_reducible assumption) | exact AR.same (by with_reducible assumption) (by with_reducible assumption) (by with_reducible assumption) (by with_reducible assumption) | exact MR.same (by with_reducible assumption) (by with_reducible assumption) (by with_reducible assumption) (by with_reducible assumption) | exact IR.same (by with_reducible assumption) (by with_reducible assumption) (by with_reducible assumption) (by with_reducible assumption) | exact NR.same (by with_reducible assumption) (by with_reducible assumption) (by with_reducible assumption) (by with_reducible assumption) | exact FR.same (by with_reducible assumption) (by with_reducible assumption) (by with_reducible assumption) (by with_reducible assumption))
local macro_rules | `(tactic| walk_at "compareOp Eq ref ref") => `(tactic| (k_here; k_dflt (refine' r_eq_t3 ?N ?m1 ?m2 ?hu ?he ?_; (case N => with_reducible assumption); (case m1 => k_mem); (case m2 => k_mem); (case hu => walk_at "my room"); (case he => walk_at "my tup"))))
local macro_rules | `(tactic| walk_at "compareOp NotEq ref ref") => `(tactic| (k_here; k_dflt (first
  | (refine' r_ne_t2 ?N ?m1 ?m2 ?hu ?he ?_; (case N => with_reducible assumption); (case m1 => k_mem); (case m2 => k_mem); (case hu => walk_at "my room"); (case he => walk_at "my tup"))
  | (refine' r_ne_t5 ?N ?m1 ?m2 ?hu ?he ?_; (case N => with_reducible assumption); (case m1 => k_mem); (case m2 => k_mem); (case hu => walk_at "my room"); (case he => walk_at "my tup")))))
local macro_rules | `(tactic| walk_at "my yok") => `(tactic| first | with_reducible assumption | exact AR.ok (by with_reducible assumption) (by first | with_reducible assumption | exact farOk_near (by walk_at "my om") | exact farOk_abs (by with_reducible assumption)) | exact CR.ok (by with_reducible assumption) (by first | with_reducible assumption | exact farOk_near (by walk_at "my om") | exact farOk_abs (by with_reducible assumption)) | exact FR.ok (by with_reducible assumption) (by first | with_reducible assumption | exact farOk_near (by walk_at "my om") | exact farOk_abs (by with_reducible assumption)) | exact IR.ok (by with_reducible assumption) (by first | with_reducible assumption | exact farOk_near (by walk_at "my om") | exact farOk_abs (by with_reducible assumption)) | (unfold yOk; walk_at "my om"))
local macro_rules | `(tactic| walk_at "my mmd") => `(tactic| first | exact CR.mm (by with_reducible assumption) | exact CR.day (by with_reducible assumption) | exact IR.mm (by with_reducible assumption) | exact IR.day (by with_reducible assumption) | walk_at "my om")
local macro_rules | `(tactic| walk_at "my 225") => `(tactic| first | exact MR.b1 (by with_reducible assumption) (by first | with_reducible assumption | exact farOk_near (by walk_at "my om") | exact farOk_abs (by with_reducible assumption)) | exact MR.b2 (by with_reducible assumption) | exact MR.b3 (by with_reducible assumption) | exact MR.b4 (by with_reducible assumption) | exact MR.b5 (by with_reducible assumption) | walk_at "my om")
local macro_rules | `(tactic| walk_at "my 161") => `(tactic| first | exact NR.ok (by with_reducible assumption) (by first | with_reducible assumption | exact farOk_near (by walk_at "my om") | exact farOk_abs (by with_reducible assumption)) | exact NR.mm (by with_reducible assumption) | exact NR.day (by with_reducible assumption))
local macro_rules | `(tactic| walk_at "my 218") => `(tactic| first | exact JuR.ok (by with_reducible assumption) (by first | with_reducible assumption | exact farOk_near (by walk_at "my om") | exact farOk_abs (by with_reducible assumption)) | exact JuR.mm (by with_reducible assumption) | exact (JuR.legal (by with_reducible assumption)).2.2)
local macro_rules | `(tactic| walk_at "my 239") => `(tactic| first | exact OrP.ok (by with_reducible assumption) (by first | with_reducible assumption | exact farOk_near (by walk_at "my om") | exact farOk_abs (by with_reducible assumption)) | exact OrP.day (by with_reducible assumption))
local macro_rules | `(tactic| walk_at "call builtin:abs") => `(tactic| (k_here; k_dflt (with_reducible refine' r_abs ?hf ?_; (case hf => with_reducible assumption); intro r' u' tk' hr0 hr1 hr2 hrf)))
local macro_rules | `(tactic| walk_at "call ref") => `(tactic| (k_here; k_dflt (refine wpAny_call ?_; refine' code_def ?k1 ?k2 ?k3 ?k4 ?k5 ?kA ?kF ?kK ?k6 ?k7 ?k8 ?k9 ?kB ?_ ?c2 ?c3 ?c4 ?c5; (case kA => exact rfl); (case kF => exact rfl); (case kK => first | exact rfl | assumption); (case k1 => k_asm); (case k2 => k_asm); (case k3 => k_asm); (case k4 => k_asm); (case k5 => k_asm); (case k6 => k_is); (case k7 => k_is); (case k8 => walk_at "my room"); (case k9 => first | exact BindsTo.of_eq rfl | exact binds_K (by k_in) rfl (by k_is) rfl rfl rfl); (case c5 => decide); (case kB => exact locs rfl); (case c2 => exact rfl); (case c3 => exact rfl); (case c4 => exact rfl); k_whole; intro g' L' h' FG' F' N' B' X' T'; (try dsimp only); (try k_lift B'); (try k_fold))))
local macro_rules | `(tactic| walk_at "call ref") => `(tactic| (k_here; (with_reducible show wpAny _ _ (call (Value.ref 50) _) _ _ _); k_dflt (refine' useB2 ((?h : C50 _) _ _) ?B ?F ?X ?N ?T ?k ?d ?u ?_ ?_; (case h => with_reducible assumption); (case B => k_asm); (case F => k_asm); (case X => k_asm); (case N => k_asm); (case T => k_asm); (case k => walk_at "my keep"); (case d => walk_at "my room"); (case u => walk_at "my room"); all_goals (first | (intro hP'; exact absurd (by with_reducible assumption) hP') | (intro hP' h' tk' F' N')))))
local macro_rules | `(tactic| walk_at "call ref") => `(tactic| (k_here; (with_reducible show wpAny _ _ (call (Value.ref 57) _) _ _ _); k_dflt (refine' useB ((?h : C57 _) _ _ _ _ _ _ ?hl) ?B ?F ?X ?N ?T ?k ?d ?u ?_; (case h => with_reducible assumption); (case hl => first | with_reducible assumption | exact LegG.one _ _); (case B => k_asm); (case F => k_asm); (case X => k_asm); (case N => k_asm); (case T => k_asm); (case k => walk_at "my keep"); (case d => walk_at "my room"); (case u => walk_at "my room"); intro h' tk' F' N')))
local macro_rules | `(tactic| walk_at "call ref") => `(tactic| (k_here; (with_reducible show wpAny _ _ (call (Value.ref 64) _) _ _ _); k_dflt ((first | (have hM' := greg_mon (by with_reducible assumption) (by with_reducible assumption) (by with_reducible assumption) (by with_reducible assumption) (by first | exact Or.inl ⟨by with_reducible assumption, by omega⟩ | exact Or.inr ⟨by with_reducible assumption, by omega⟩); have hMb := MonP.bounds hM') | skip); refine' useF ((?h : C64 _) _ _ _ _ _ _ ?hy ?hm ?hl) ?B ?F ?X ?N ?T ?k ?d ?u ?_; (case h => with_reducible assumption); (case hy => first | with_reducible assumption | exact GrP.ok (by with_reducible assumption) (by first | with_reducible assumption | exact farOk_near (by walk_at "my om")) | exact YrP.ok (by with_reducible assumption) (by first | with_reducible assumption | exact farOk_near (by walk_at "my om")) | (unfold yOk; walk_at "my om")); (case hm => first | exact GrP.mm (by with_reducible assumption) | exact MonP.mm (by with_reducible assumption) | walk_at "my om"); (case hl => first | with_reducible assumption | exact GrP.leg (by with_reducible assumption) | exact LegG.one _ _ | (unfold LegG; walk_at "my om")); (case B => k_asm); (case F => k_asm); (case X => k_asm); (case N => k_asm); (case T => k_asm); (case k => walk_at "my keep"); (case d => walk_at "my room"); (case u => walk_at "my room"); intro z' t' hz' h' tk' F' N')))
local macro_rules | `(tactic| walk_at "call ref") => `(tactic| (k_here; (with_reducible show wpAny _ _ (call (Value.ref 64) [Value.int _ _, Value.int 1 _, Value.int 1 _]) _ _ _); k_dflt ((first | (have hY' := greg_in1 (by with_reducible assumption) (by with_reducible assumption) (by with_reducible assumption) (by with_reducible assumption) (by with_reducible assumption) (by with_reducible assumption) (by with_reducible assumption) (by with_reducible assumption) (by with_reducible assumption) (by with_reducible assumption) (by with_reducible assumption) (by with_reducible assumption) (by with_reducible assumption) (by with_reducible assumption) (by with_reducible assumption) (by with_reducible assumption) (by with_reducible assumption) (by with_reducible assumption) (by with_reducible assumption) (by with_reducible assumption); have hYl := YrP.lo hY'; have hYh := YrP.hi hY') | (have hY' := greg_in2 (by with_reducible assumption) (by with_reducible assumption) (by with_reducible assumption) (by with_reducible assumption) (by with_reducible assumption) (by with_reducible assumption) (by with_reducible assumption) (by with_reducible assumption) (by with_reducible assumption) (by with_reducible assumption) (by with_reducible assumption) (by with_reducible assumption) (by with_reducible assumption) (by with_reducible assumption) (by with_reducible assumption) (by with_reducible assumption) (by with_reducible assumption) (by with_reducible assumption) (by first | exact Or.inl (by with_reducible assumption) | exact Or.inr (by with_reducible assumption)); obtain ⟨hY', hYe⟩ := hY'; have hYl := YrP.lo hY'; have hYh := YrP.hi hY'; have hYp := YrP.last hY' hYe) | skip); refine' useF (C64.first ?h _ _ _ _ ?hy) ?B ?F ?X ?N ?T ?k ?d ?u ?_; (case h => with_reducible assumption); (case hy => first | with_reducible assumption | exact GrP.ok (by with_reducible assumption) (by first | with_reducible assumption | exact farOk_near (by walk_at "my om")) | exact YrP.ok (by with_reducible assumption) (by first | with_reducible assumption | exact farOk_near (by walk_at "my om")) | (unfold yOk; walk_at "my om")); (case B => k_asm); (case F => k_asm); (case X => k_asm); (case N => k_asm); (case T => k_asm); (case k => walk_at "my keep"); (case d => walk_at "my room"); (case u => walk_at "my room"); intro z' t' hz' h' tk' F' N')))
local macro_rules | `(tactic| walk_at "call ref") => `(tactic| (k_here; (with_reducible show wpAny _ _ (call (Value.ref 71) _) _ _ _); k_dflt (refine' useV ((?h : C71 _) _ _ _ _ _ _ ?hx ?hf) ?B ?F ?X ?N ?T ?k ?d ?u ?_; (case h => with_reducible assumption); (case hx => first | with_reducible assumption | exact Fx.mid (by with_reducible assumption) (by with_reducible assumption) (by with_reducible assumption) | exact Fx.near (by with_reducible assumption) (by walk_at "my om")); (case hf => first | with_reducible assumption | exact farOk_near (by walk_at "my om") | exact farOk_mid (by with_reducible assumption) | exact farOk_abs (by with_reducible assumption)); (case B => k_asm); (case F => k_asm); (case X => k_asm); (case N => k_asm); (case T => k_asm); (case k => walk_at "my keep"); (case d => walk_at "my room"); (case u => walk_at "my room"); intro vs' hp' o' n' h' tk' F' N'; obtain ⟨y', m', d', t1', t2', t3', hv', hG'⟩ := hp'; subst hv'; have hS' := GrP.sum hG'; have hYl' := YrP.lo (GrP.yr hG'); have hYh' := YrP.hi (GrP.yr hG'))))
local macro_rules | `(tactic| walk_at "call ref") => `(tactic| (k_here; (with_reducible show wpAny _ _ (call (Value.ref 79) _) _ _ _); k_dflt (refine' useB ((?h : C79 _) _ _ _ _ _ _ ?hv) ?B ?F ?X ?N ?T ?k ?d ?u ?_; (case h => with_reducible assumption); (case hv => first | with_reducible assumption | walk_at "my om"); (case B => k_asm); (case F => k_asm); (case X => k_asm); (case N => k_asm); (case T => k_asm); (case k => walk_at "my keep"); (case d => walk_at "my room"); (case u => walk_at "my room"); intro h' tk' F' N')))
local macro_rules | `(tactic| walk_at "call ref") => `(tactic| (k_here; (with_reducible show wpAny _ _ (call (Value.ref 94) _) _ _ _); k_dflt (refine' useF ((?h : C94 _) _ _ _ _ _ _ ?hy ?hv) ?B ?F ?X ?N ?T ?k ?d ?u ?_; (case h => with_reducible assumption); (case hy => walk_at "my yok"); (case hv => first | with_reducible assumption | exact AR.valid (by with_reducible assumption) (by walk_at "my om") | walk_at "my om"); (case B => k_asm); (case F => k_asm); (case X => k_asm); (case N => k_asm); (case T => k_asm); (case k => walk_at "my keep"); (case d => walk_at "my room"); (case u => walk_at "my room"); intro z' t' hz' h' tk' F' N')))
local macro_rules | `(tactic| walk_at "call ref") => `(tactic| (k_here; (with_reducible show wpAny _ _ (call (Value.ref 102) _) _ _ _); k_dflt (refine' useV ((?h : C102 _) _ _ _ _ _ _ ?hx ?hf ?h0) ?B ?F ?X ?N ?T ?k ?d ?u ?_; (case h => with_reducible assumption); (case hx => first | with_reducible assumption | exact Fx.mid (by with_reducible assumption) (by with_reducible assumption) (by with_reducible assumption) | exact Fx.near (by with_reducible assumption) (by walk_at "my om")); (case hf => first | with_reducible assumption | exact farOk_near (by walk_at "my om") | exact farOk_mid (by with_reducible assumption) | exact farOk_abs (by with_reducible assumption)); (case h0 => first | with_reducible assumption | walk_at "my om"); (case B => k_asm); (case F => k_asm); (case X => k_asm); (case N => k_asm); (case T => k_asm); (case k => walk_at "my keep"); (case d => walk_at "my room"); (case u => walk_at "my room"); intro vs' hp' o' n' h' tk' F' N'; obtain ⟨y', m', d', t1', t2', t3', hv', hG'⟩ := hp'; subst hv')))
local macro_rules | `(tactic| walk_at "call ref") => `(tactic| (k_here; (with_reducible show wpAny _ _ (call (Value.ref 109) _) _ _ _); k_dflt (refine' useF ((?h : C109 _) _ _ _ _ _ _ ?hy ?hm ?hd) ?B ?F ?X ?N ?T ?k ?d ?u ?_; (case h => with_reducible assumption); (case hy => walk_at "my yok"); (case hm => walk_at "my mmd"); (case hd => walk_at "my mmd"); (case B => k_asm); (case F => k_asm); (case X => k_asm); (case N => k_asm); (case T => k_asm); (case k => walk_at "my keep"); (case d => walk_at "my room"); (case u => walk_at "my room"); intro z' t' hz' h' tk' F' N')))
local macro_rules | `(tactic| walk_at "call ref") => `(tactic| (k_here; (with_reducible show wpAny _ _ (call (Value.ref 116) _) _ _ _); k_dflt (refine' useV ((?h : C116 _) _ _ _ _ _ _ ?hx ?hf) ?B ?F ?X ?N ?T ?k ?d ?u ?_; (case h => with_reducible assumption); (case hx => first | with_reducible assumption | exact Fx.mid (by with_reducible assumption) (by with_reducible assumption) (by with_reducible assumption) | exact Fx.near (by with_reducible assumption) (by walk_at "my om")); (case hf => first | with_reducible assumption | exact farOk_near (by walk_at "my om") | exact farOk_mid (by with_reducible assumption) | exact farOk_abs (by with_reducible assumption)); (case B => k_asm); (case F => k_asm); (case X => k_asm); (case N => k_asm); (case T => k_asm); (case k => walk_at "my keep"); (case d => walk_at "my room"); (case u => walk_at "my room"); intro vs' hp' o' n' h' tk' F' N'; obtain ⟨y', m', d', t1', t2', t3', hv', hG'⟩ := hp'; subst hv')))
local macro_rules | `(tactic| walk_at "call ref") => `(tactic| (k_here; (with_reducible show wpAny _ _ (call (Value.ref 132) _) _ _ _); k_dflt (refine' useF ((?h : C132 _) _ _ _ _ _ _ _ ?hy ?hv) ?B ?F ?X ?N ?T ?k ?d ?u ?_; (case h => with_reducible assumption); (case hy => walk_at "my yok"); (case hv => first | with_reducible assumption | exact FR.valid (by with_reducible assumption) (by walk_at "my om") | walk_at "my om"); (case B => k_asm); (case F => k_asm); (case X => k_asm); (case N => k_asm); (case T => k_asm); (case k => walk_at "my keep"); (case d => walk_at "my room"); (case u => walk_at "my room"); intro z' t' hz' h' tk' F' N')))
local macro_rules | `(tactic| walk_at "call ref") => `(tactic| (k_here; (with_reducible show wpAny _ _ (call (Value.ref 147) _) _ _ _); k_dflt (refine' useV ((?h : C147 _) _ _ _ _ _ _ _ ?hx ?hf ?h0 ?hp) ?B ?F ?X ?N ?T ?k ?d ?u ?_; (case h => with_reducible assumption); (case hx => first | with_reducible assumption | exact Fx.mid (by with_reducible assumption) (by with_reducible assumption) (by with_reducible assumption) | exact Fx.near (by with_reducible assumption) (by walk_at "my om")); (case hf => first | with_reducible assumption | exact farOk_near (by walk_at "my om") | exact farOk_mid (by with_reducible assumption) | exact farOk_abs (by with_reducible assumption)); (case h0 => first | with_reducible assumption | walk_at "my om"); (case hp => first | with_reducible assumption | exact two_zero); (case B => k_asm); (case F => k_asm); (case X => k_asm); (case N => k_asm); (case T => k_asm); (case k => walk_at "my keep"); (case d => walk_at "my room"); (case u => walk_at "my room"); intro vs' hp' o' n' h' tk' F' N'; obtain ⟨y', m', d', t1', t2', t3', hv', hG'⟩ := hp'; subst hv')))
local macro_rules | `(tactic| walk_at "call ref") => `(tactic| (k_here; (with_reducible show wpAny _ _ (call (Value.ref 161) _) _ _ _); k_dflt (refine' useF ((?h : C161 _) _ _ _ _ _ _ ?hy ?hm ?hd) ?B ?F ?X ?N ?T ?k ?d ?u ?_; (case h => with_reducible assumption); (case hy => walk_at "my 161"); (case hm => walk_at "my 161"); (case hd => walk_at "my 161"); (case B => k_asm); (case F => k_asm); (case X => k_asm); (case N => k_asm); (case T => k_asm); (case k => walk_at "my keep"); (case d => walk_at "my room"); (case u => walk_at "my room"); intro z' t' hz' h' tk' F' N')))
local macro_rules | `(tactic| walk_at "call ref") => `(tactic| (k_here; (with_reducible show wpAny _ _ (call (Value.ref 168) _) _ _ _); k_dflt (refine' useV ((?h : C168 _) _ _ _ _ _ _ ?hx ?hf ?hp) ?B ?F ?X ?N ?T ?k ?d ?u ?_; (case h => with_reducible assumption); (case hx => first | with_reducible assumption | exact Fx.mid (by with_reducible assumption) (by with_reducible assumption) (by with_reducible assumption) | exact Fx.near (by with_reducible assumption) (by walk_at "my om")); (case hf => first | with_reducible assumption | exact farOk_near (by walk_at "my om") | exact farOk_mid (by with_reducible assumption) | exact farOk_abs (by with_reducible assumption)); (case hp => first | with_reducible assumption | exact two_zero); (case B => k_asm); (case F => k_asm); (case X => k_asm); (case N => k_asm); (case T => k_asm); (case k => walk_at "my keep"); (case d => walk_at "my room"); (case u => walk_at "my room"); intro vs' hp' o' n' h' tk' F' N'; obtain ⟨y', m', d', t1', t2', t3', hv', hG'⟩ := hp'; subst hv')))
local macro_rules | `(tactic| walk_at "call ref") => `(tactic| (k_here; (with_reducible show wpAny _ _ (call (Value.ref 175) _) _ _ _); k_dflt (refine' useF ((?h : C175 _) _ _ _ _ _ _ ?hy ?hm ?hd) ?B ?F ?X ?N ?T ?k ?d ?u ?_; (case h => with_reducible assumption); (case hy => walk_at "my yok"); (case hm => walk_at "my mmd"); (case hd => walk_at "my mmd"); (case B => k_asm); (case F => k_asm); (case X => k_asm); (case N => k_asm); (case T => k_asm); (case k => walk_at "my keep"); (case d => walk_at "my room"); (case u => walk_at "my room"); intro z' t' hz' h' tk' F' N')))
local macro_rules | `(tactic| walk_at "call ref") => `(tactic| (k_here; (with_reducible show wpAny _ _ (call (Value.ref 182) _) _ _ _); k_dflt (refine' useV ((?h : C182 _) _ _ _ _ _ _ ?hx ?hf ?hp) ?B ?F ?X ?N ?T ?k ?d ?u ?_; (case h => with_reducible assumption); (case hx => first | with_reducible assumption | exact Fx.mid (by with_reducible assumption) (by with_reducible assumption) (by with_reducible assumption) | exact Fx.near (by with_reducible assumption) (by walk_at "my om")); (case hf => first | with_reducible assumption | exact farOk_near (by walk_at "my om") | exact farOk_mid (by with_reducible assumption) | exact farOk_abs (by with_reducible assumption)); (case hp => first | with_reducible assumption | exact two_zero); (case B => k_asm); (case F => k_asm); (case X => k_asm); (case N => k_asm); (case T => k_asm); (case k => walk_at "my keep"); (case d => walk_at "my room"); (case u => walk_at "my room"); intro vs' hp' o' n' h' tk' F' N'; obtain ⟨y', m', d', t1', t2', t3', hv', hG'⟩ := hp'; subst hv')))
local macro_rules | `(tactic| walk_at "call ref") => `(tactic| (k_here; (with_reducible show wpAny _ _ (call (Value.ref 190) _) _ _ _); k_dflt (refine' useB2 ((?h : C190 _) _ _) ?B ?F ?X ?N ?T ?k ?d ?u ?_ ?_; (case h => with_reducible assumption); (case B => k_asm); (case F => k_asm); (case X => k_asm); (case N => k_asm); (case T => k_asm); (case k => walk_at "my keep"); (case d => walk_at "my room"); (case u => walk_at "my room"); all_goals (first | (intro hP'; exact absurd (by with_reducible assumption) hP') | (intro hP' h' tk' F' N')))))
local macro_rules | `(tactic| walk_at "call ref") => `(tactic| (k_here; (with_reducible show wpAny _ _ (call (Value.ref 204) _) _ _ _); k_dflt (refine' useB ((?h : C204 _) _ _ _ _ _ _ ?hl) ?B ?F ?X ?N ?T ?k ?d ?u ?_; (case h => with_reducible assumption); (case hl => first | with_reducible assumption | walk_at "my om"); (case B => k_asm); (case F => k_asm); (case X => k_asm); (case N => k_asm); (case T => k_asm); (case k => walk_at "my keep"); (case d => walk_at "my room"); (case u => walk_at "my room"); intro h' tk' F' N')))
local macro_rules | `(tactic| walk_at "call ref") => `(tactic| (k_here; (with_reducible show wpAny _ _ (call (Value.ref 211) _) _ _ _); k_dflt (refine' useV ((?h : C211 _) _ _ _ _ _ _ ?hx ?hf) ?B ?F ?X ?N ?T ?k ?d ?u ?_; (case h => with_reducible assumption); (case hx => first | with_reducible assumption | exact Fx.mid (by with_reducible assumption) (by with_reducible assumption) (by with_reducible assumption) | exact Fx.near (by with_reducible assumption) (by walk_at "my om")); (case hf => first | with_reducible assumption | exact farOk_near (by walk_at "my om") | exact farOk_mid (by with_reducible assumption) | exact farOk_abs (by with_reducible assumption)); (case B => k_asm); (case F => k_asm); (case X => k_asm); (case N => k_asm); (case T => k_asm); (case k => walk_at "my keep"); (case d => walk_at "my room"); (case u => walk_at "my room"); intro vs' hp' o' n' h' tk' F' N'; obtain ⟨y', m', d', t1', t2', t3', hv', hG'⟩ := hp'; subst hv')))
local macro_rules | `(tactic| walk_at "call ref") => `(tactic| (k_here; (with_reducible show wpAny _ _ (call (Value.ref 218) _) _ _ _); k_dflt (refine' useF ((?h : C218 _) _ _ _ _ _ _ ?hy ?hm ?hl) ?B ?F ?X ?N ?T ?k ?d ?u ?_; (case h => with_reducible assumption); (case hy => walk_at "my 218"); (case hm => walk_at "my 218"); (case hl => walk_at "my 218"); (case B => k_asm); (case F => k_asm); (case X => k_asm); (case N => k_asm); (case T => k_asm); (case k => walk_at "my keep"); (case d => walk_at "my room"); (case u => walk_at "my room"); intro z' t' hz' h' tk' F' N')))
local macro_rules | `(tactic| walk_at "call ref") => `(tactic| (k_here; (with_reducible show wpAny _ _ (call (Value.ref 225) _) _ _ _); k_dflt (refine' useF ((?h : C225 _) _ _ _ _ _ _ _ _ _ _ ?h1 ?h2 ?h3 ?h4 ?h5) ?B ?F ?X ?N ?T ?k ?d ?u ?_; (case h => with_reducible assumption); (case h1 => walk_at "my 225"); (case h2 => walk_at "my 225"); (case h3 => walk_at "my 225"); (case h4 => walk_at "my 225"); (case h5 => walk_at "my 225"); (case B => k_asm); (case F => k_asm); (case X => k_asm); (case N => k_asm); (case T => k_asm); (case k => walk_at "my keep"); (case d => walk_at "my room"); (case u => walk_at "my room"); intro z' t' hz' h' tk' F' N')))
local macro_rules | `(tactic| walk_at "call ref") => `(tactic| (k_here; (with_reducible show wpAny _ _ (call (Value.ref 232) _) _ _ _); k_dflt (refine' useV ((?h : C232 _) _ _ _ _ _ _ ?hx ?hf ?h0) ?B ?F ?X ?N ?T ?k ?d ?u ?_; (case h => with_reducible assumption); (case hx => first | with_reducible assumption | exact Fx.mid (by with_reducible assumption) (by with_reducible assumption) (by with_reducible assumption) | exact Fx.near (by with_reducible assumption) (by walk_at "my om")); (case hf => first | with_reducible assumption | exact farOk_near (by walk_at "my om") | exact farOk_mid (by with_reducible assumption) | exact farOk_abs (by with_reducible assumption)); (case h0 => first | with_reducible assumption | walk_at "my om"); (case B => k_asm); (case F => k_asm); (case X => k_asm); (case N => k_asm); (case T => k_asm); (case k => walk_at "my keep"); (case d => walk_at "my room"); (case u => walk_at "my room"); intro vs' hp' o' n' h' tk' F' N'; obtain ⟨b', k', t', u', i', t1', t2', t3', t4', t5', hv', hG'⟩ := hp'; subst hv')))
local macro_rules | `(tactic| walk_at "call ref") => `(tactic| (k_here; (with_reducible show wpAny _ _ (call (Value.ref 239) _) _ _ _); k_dflt (refine' useF ((?h : C239 _) _ _ _ _ ?hy ?hd) ?B ?F ?X ?N ?T ?k ?d ?u ?_; (case h => with_reducible assumption); (case hy => walk_at "my 239"); (case hd => walk_at "my 239"); (case B => k_asm); (case F => k_asm); (case X => k_asm); (case N => k_asm); (case T => k_asm); (case k => walk_at "my keep"); (case d => walk_at "my room"); (case u => walk_at "my room"); intro z' t' hz' h' tk' F' N')))
local macro_rules | `(tactic| walk_at "call ref") => `(tactic| (k_here; (with_reducible show wpAny _ _ (call (Value.ref 246) _) _ _ _); k_dflt (refine' useV ((?h : C246 _) _ _ _ _ _ _ ?hx ?hf) ?B ?F ?X ?N ?T ?k ?d ?u ?_; (case h => with_reducible assumption); (case hx => first | with_reducible assumption | exact Fx.mid (by with_reducible assumption) (by with_reducible assumption) (by with_reducible assumption) | exact Fx.near (by with_reducible assumption) (by walk_at "my om")); (case hf => first | with_reducible assumption | exact farOk_near (by walk_at "my om") | exact farOk_mid (by with_reducible assumption) | exact farOk_abs (by with_reducible assumption)); (case B => k_asm); (case F => k_asm); (case X => k_asm); (case N => k_asm); (case T => k_asm); (case k => walk_at "my keep"); (case d => walk_at "my room"); (case u => walk_at "my room"); intro vs' hp' o' n' h' tk' F' N'; obtain ⟨y', d', t1', t2', hv', hG'⟩ := hp'; subst hv')))
local macro_rules | `(tactic| walk_at "call ref") => `(tactic| (k_here; (with_reducible show wpAny _ _ (call (Value.ref 253) _) _ _ _); k_dflt (refine' useP ((?h : C253 _) _ _ _ _ ?h1) ?B ?F ?X ?N ?T ?k ?d ?u ?_; (case h => with_reducible assumption); (case h1 => walk_at "my om"); (case B => k_asm); (case F => k_asm); (case X => k_asm); (case N => k_asm); (case T => k_asm); (case k => walk_at "my keep"); (case d => walk_at "my room"); (case u => walk_at "my room"); intro n' hp' t' h' tk' F' N')))
local macro_rules | `(tactic| walk_at "call ref") => `(tactic| (k_here; (with_reducible show wpAny _ _ (call (Value.ref 267) _) _ _ _); k_dflt (refine' useB ((?h : C267 _) _ _ _ _ _ _ _ _ _ ?hx ?hy ?hf) ?B ?F ?X ?N ?T ?k ?d ?u ?_; (case h => with_reducible assumption); (case hx => with_reducible assumption); (case hy => with_reducible assumption); (case hf => with_reducible assumption); (case B => k_asm); (case F => k_asm); (case X => k_asm); (case N => k_asm); (case T => k_asm); (case k => walk_at "my keep"); (case d => walk_at "my room"); (case u => walk_at "my room"); intro h' tk' F' N')))
local macro_rules | `(tactic| walk_at "call ref") => `(tactic| (k_here; (with_reducible show wpAny _ _ (call (Value.ref 274) _) _ _ _); k_dflt (refine' useB ((?h : C274 _) _ _ _ _ _ _ _ _ _ ?hx ?hy ?hf ?h0) ?B ?F ?X ?N ?T ?k ?d ?u ?_; (case h => with_reducible assumption); (case hx => with_reducible assumption); (case hy => with_reducible assumption); (case hf => first | with_reducible assumption | exact farOk_near (by walk_at "my om") | exact farOk_mid (by with_reducible assumption) | exact farOk_abs (by with_reducible assumption)); (case h0 => first | with_reducible assumption | walk_at "my om"); (case B => k_asm); (case F => k_asm); (case X => k_asm); (case N => k_asm); (case T => k_asm); (case k => walk_at "my keep"); (case d => walk_at "my room"); (case u => walk_at "my room"); intro h' tk' F' N')))
local macro_rules | `(tactic| walk_at "call ref") => `(tactic| (k_here; (with_reducible show wpAny _ _ (call (Value.ref 281) _) _ _ _); k_dflt (refine' useB ((?h : C281 _) _ _ _ _ _ _ _ _ _ ?hx ?hy ?hf ?hp) ?B ?F ?X ?N ?T ?k ?d ?u ?_; (case h => with_reducible assumption); (case hx => with_reducible assumption); (case hy => with_reducible assumption); (case hf => with_reducible assumption); (case hp => first | with_reducible assumption); (case B => k_asm); (case F => k_asm); (case X => k_asm); (case N => k_asm); (case T => k_asm); (case k => walk_at "my keep"); (case d => walk_at "my room"); (case u => walk_at "my room"); intro h' tk' F' N')))
theorem ints3 {ws : List Value} {ns : List Int} (h : IntsAre ws (List.take 3 (List.take 3 ns ++ [0, 0, 0]))) : ∃ x y z t1 t2 t3, ws = [Value.int x t1, Value.int y t2, Value.int z t3] := by
  have e : ∃ x y z, List.take 3 (List.take 3 ns ++ [0, 0, 0]) = [x, y, z] := by
    match ns with
    | [] => exact ⟨_, _, _, rfl⟩
    | [a] => exact ⟨_, _, _, rfl⟩
    | [a, b] => exact ⟨_, _, _, rfl⟩
    | a :: b :: c :: r => exact ⟨a, b, c, by simp⟩
  obtain ⟨x, y, z, e⟩ := e
  rw [e] at h
  cases h with
  | cons _ t1 h => cases h with
    | cons _ t2 h => cases h with
      | cons _ t3 h => cases h; exact ⟨x, y, z, t1, t2, t3, rfl⟩
section
open PySem.Float64
variable {prog : Program} {w : World} {A : Around} {E : Value → Shared → Prop} {s : Shared} {Q : Value → Shared → Prop} {t u : Tok} {n a b c : Int}
theorem pw1 (k : Nat) : (1 : Int) ≤ 2 ^ k := by have := pow2_pos k; omega
theorem r_pow2 (hn : 0 ≤ n ∧ n ≤ 1000) (h : ∀ (k : Nat) (P : Int), (k : Int) = n → P = 2 ^ k → 1 ≤ P → Q (.int P s.toks) { s with toks := s.toks + 1 }) :
    wpAny (model prog w) A (binaryOp .Pow (.int 2 t) (.int n u)) Q E s :=
  pow_int_small hn.1 (by omega) (by decide) (h n.toNat _ (by omega) rfl (pw1 _))
theorem pw50 {k : Nat} (hk : k ≤ 50) : (2 : Int) * 2 ^ (50 - k) * 2 ^ k ≤ 2251799813685248 := by
  rw [Int.mul_assoc, ← Int.pow_add, Nat.sub_add_cancel hk]; decide
theorem r_div_pow {k k2 : Nat} (e3 : b = 2 ^ k) (h1 : a < c) (e2 : c = 2 ^ k2) (hk2 : k2 = k) (hk : 1 ≤ k ∧ k ≤ 28) (h0 : 0 ≤ a)
    (h : ∀ z, Pq k z a (2 * 2 ^ (50 - k)) → Q (.float z s.toks) { s with toks := s.toks + 1 }) : wpAny (model prog w) A (binaryOp .Div (.int a t) (.int b u)) Q E s := by
  subst e3 e2 hk2
  have f := frac_pow hk.2 h0 h1
  have hp := pow2_pos k2
  refine AutoIntOps.truediv_2 (by simp only [beq_iff_eq]; omega) f.1.inf (h _ ⟨f, hk.1, hk.2, h0, h1, ?_, pw50 (by omega)⟩)
  have := pow2_pos (50 - k2); omega
theorem farOk_law {r P p W0 : Int} {x : UInt64} {k1 k : Nat} (hq : Pq k x p W0) (h : -P ≤ r ∧ r ≤ P) (e1 : P = 2 ^ k1) (hk : k1 + k = 50) (hk2 : 2 ≤ k) : farOk r (2 * 2 ^ (50 - k)) := by
  have e : 50 - k = k1 := by omega
  rw [e, ← e1]
  have h3 : (2 : Int) ^ k1 ≤ 2 ^ 48 := by
    have : (2 : Nat) ^ k1 ≤ 2 ^ 48 := Nat.pow_le_pow_right (by decide) (by omega)
    have := Int.ofNat_le.mpr this
    rw [Int.natCast_pow, Int.natCast_pow] at this
    exact this
  rw [← e1] at h3
  unfold farOk; omega
theorem r_div_half {k : Nat} {x : UInt64} {p W : Int} (hq : Pq k x p W) (h : ∀ z, Pt (k + 1) z p W → 2 * p < 2 ^ (k + 1) → Q (.float z s.toks) { s with toks := s.toks + 1 }) :
    wpAny (model prog w) A (binaryOp .Div (.float x t) (.int 2 u)) Q E s :=
  AutoFloatOps.truediv_fi_2 (not_inf (by decide)) (not_zero two_fx0 (by decide)) (h _ hq.half (by rw [Int.pow_succ]; have := hq.p1; omega))
end
theorem C64.y2000 {w : World} (h : C64 w) (t0 t1 t2 : Tok) : SayF w 64 3 [.int 2000 t0, .int 1 t1, .int 1 t2] 4903089 :=
  h.first 2000 t0 t1 t2 (by unfold yOk; decide)
theorem gen_st {α : Type} {M : Model} {A : Around} {T : Sem α} {Q : α → Shared → Prop} {E : Value → Shared → Prop} {h : Heap} {g d t o} {s0 : Shared} (eg : g = s0.gens) (ed : d = s0.drawn) (eo : o = s0.os)
    (H : ∀ tk, wpAny M A T Q E ⟨h, s0.gens, s0.drawn, tk, s0.os⟩) : wpAny M A T Q E ⟨h, g, d, t, o⟩ := by
  subst eg ed eo; exact H t
local macro_rules | `(tactic| walk_at "binaryOp Pow int int") => `(tactic| (k_here; k_dflt (with_reducible refine' r_pow2 ?k1 ?_; (case k1 => walk_at "my om"); intro k' P' hk' hP' hp1')))
local macro_rules | `(tactic| walk_at "binaryOp Div int int") => `(tactic| (k_here; k_dflt (with_reducible refine' r_div_pow ?e3 ?h1 ?e2 ?hk2 ?hk ?h0 ?_; (case e3 => with_reducible assumption); (case h1 => with_reducible assumption); (case e2 => with_reducible assumption); (case hk2 => walk_at "my om"); (case hk => walk_at "my om"); (case h0 => with_reducible assumption); intro z' hz'; have hfar9 := farOk_law hz' (by with_reducible assumption) (by with_reducible assumption) (by walk_at "my om") (by walk_at "my om"); have hpt9 := Pq.pt hz')))
local macro_rules | `(tactic| walk_at "binaryOp Div float int") => `(tactic| (k_here; k_dflt (with_reducible refine' r_div_half ?hq ?_; (case hq => with_reducible assumption); intro z' hz' hp9')))
local macro_rules | `(tactic| walk_at "call ref") => `(tactic| (k_here; (with_reducible show wpAny _ _ (call (Value.ref 64) [Value.int 2000 _, Value.int 1 _, Value.int 1 _]) _ _ _); k_dflt (refine' useF (C64.y2000 ?h _ _ _) ?B ?F ?X ?N ?T ?k ?d ?u ?_; (case h => with_reducible assumption); (case B => k_asm); (case F => k_asm); (case X => k_asm); (case N => k_asm); (case T => k_asm); (case k => walk_at "my keep"); (case d => walk_at "my room"); (case u => walk_at "my room"); intro z' t' hz' h' tk' F' N')))
theorem c50 (w : World)  : C50 w := by
  intro y t
  unfold SayB Ask
  k_fill
  intro p loose mean mg mb dp un gd cn cs a ccd cl outer A₀ base h₀ L mm news s Q E B F X N T hk hd hu hret
  refine wpAny_call ?_
  k_dflt (refine' code_def (binds := [(Str.ofString "year", .int y t)]) ?k1 ?k2 ?k3 ?k4 ?k5 ?kA ?kF ?kK ?k6 ?k7 ?k8 ?k9 ?kB ?_ ?c2 ?c3 ?c4 ?c5; (case kA => exact rfl); (case kF => exact rfl); (case kK => assumption); (case k1 => k_asm); (case k2 => k_asm); (case k3 => k_asm); (case k4 => k_asm); (case k5 => k_asm); (case k6 => k_is); (case k7 => k_is); (case k8 => ktr_room); (case k9 => first | exact BindsTo.of_eq rfl | exact binds_K (by k_in) rfl (by k_is) rfl rfl rfl); (case c5 => decide); (case kB => exact locs rfl); (case c2 => exact rfl); (case c3 => exact rfl); (case c4 => exact rfl); k_whole; intro g' L' h' FG' F' N' B' X' T'; (try dsimp only [List.reverse_cons, List.reverse_nil, List.nil_append, List.cons_append]); (try k_lift B'); (try k_fold))
  k_steps
  all_goals (refine' endB hret ?mye ?myF ?myN; (case myF => with_reducible assumption); (case myN => k_asm); (case mye => (apply Bool.eq_iff_iff.mpr; constructor <;> intro hb9 <;> (try have hb9 := of_decide_eq_true hb9) <;> (try refine decide_eq_true ?_) <;> (try unfold leapG at *) <;> (try simp only [beq_iff_eq, bne_iff_ne, ne_eq] at *) <;> omega)))

theorem c57 (w : World) (h50 : C50 w) : C57 w := by
  intro y m d t1 t2 t3 hl
  have hl1 := hl
  unfold LegG at hl
  unfold SayB Ask
  k_fill
  intro p loose mean mg mb dp un gd cn cs a ccd cl outer A₀ base h₀ L mm news s Q E B F X N T hk hd hu hret
  refine wpAny_call ?_
  k_dflt (refine' code_def (binds := [(Str.ofString "year", .int y t1), (Str.ofString "month", .int m t2), (Str.ofString "day", .int d t3)]) ?k1 ?k2 ?k3 ?k4 ?k5 ?kA ?kF ?kK ?k6 ?k7 ?k8 ?k9 ?kB ?_ ?c2 ?c3 ?c4 ?c5; (case kA => exact rfl); (case kF => exact rfl); (case kK => assumption); (case k1 => k_asm); (case k2 => k_asm); (case k3 => k_asm); (case k4 => k_asm); (case k5 => k_asm); (case k6 => k_is); (case k7 => k_is); (case k8 => ktr_room); (case k9 => first | exact BindsTo.of_eq rfl | exact binds_K (by k_in) rfl (by k_is) rfl rfl rfl); (case c5 => decide); (case kB => exact locs rfl); (case c2 => exact rfl); (case c3 => exact rfl); (case c4 => exact rfl); k_whole; intro g' L' h' FG' F' N' B' X' T'; (try dsimp only [List.reverse_cons, List.reverse_nil, List.nil_append, List.cons_append]); (try k_lift B'); (try k_fold))
  k_steps
  all_goals (exact hret _ _ (by with_reducible assumption) (by first | with_reducible assumption | (with_reducible apply News.tail1; first | with_reducible assumption | (with_reducible apply News.tail1; first | with_reducible assumption | (with_reducible apply News.tail1; first | with_reducible assumption | (with_reducible apply News.tail1; first | with_reducible assumption | (with_reducible apply News.tail1; first | with_reducible assumption | (with_reducible apply News.tail1; first | with_reducible assumption | (with_reducible apply News.tail1; first | with_reducible assumption | (with_reducible apply News.tail1; first | with_reducible assumption | (with_reducible apply News.tail1; first | with_reducible assumption | (with_reducible apply News.tail1; first | with_reducible assumption | (with_reducible apply News.tail1; first | with_reducible assumption | (with_reducible apply News.tail1; first | with_reducible assumption | (with_reducible apply News.tail1; first | with_reducible assumption | (with_reducible apply News.tail1; with_reducible assumption))))))))))))))))

theorem c64 (w : World) (h50 : C50 w) (h57 : C57 w) : C64 w := by
  intro y m d t1 t2 t3 hy hm hl
  have hy0 := hy
  have hl1 := hl
  unfold LegG at hl
  unfold yOk at hy
  unfold SayF Ask
  k_fill
  intro p loose mean mg mb dp un gd cn cs a ccd cl outer A₀ base h₀ L mm news s Q E B F X N T hk hd hu hret
  refine wpAny_call ?_
  k_dflt (refine' code_def (binds := [(Str.ofString "year", .int y t1), (Str.ofString "month", .int m t2), (Str.ofString "day", .int d t3)]) ?k1 ?k2 ?k3 ?k4 ?k5 ?kA ?kF ?kK ?k6 ?k7 ?k8 ?k9 ?kB ?_ ?c2 ?c3 ?c4 ?c5; (case kA => exact rfl); (case kF => exact rfl); (case kK => assumption); (case k1 => k_asm); (case k2 => k_asm); (case k3 => k_asm); (case k4 => k_asm); (case k5 => k_asm); (case k6 => k_is); (case k7 => k_is); (case k8 => ktr_room); (case k9 => first | exact BindsTo.of_eq rfl | exact binds_K (by k_in) rfl (by k_is) rfl rfl rfl); (case c5 => decide); (case kB => exact locs rfl); (case c2 => exact rfl); (case c3 => exact rfl); (case c4 => exact rfl); k_whole; intro g' L' h' FG' F' N' B' X' T'; (try dsimp only [List.reverse_cons, List.reverse_nil, List.nil_append, List.cons_append]); (try k_lift B'); (try k_fold))
  k_steps
  all_goals (refine' endF hret ?myz ?mye ?myF ?myN; (case myF => with_reducible assumption); (case myN => first | with_reducible assumption | (with_reducible apply News.tail1; first | with_reducible assumption | (with_reducible apply News.tail1; first | with_reducible assumption | (with_reducible apply News.tail1; first | with_reducible assumption | (with_reducible apply News.tail1; first | with_reducible assumption | (with_reducible apply News.tail1; first | with_reducible assumption | (with_reducible apply News.tail1; first | with_reducible assumption | (with_reducible apply News.tail1; first | with_reducible assumption | (with_reducible apply News.tail1; first | with_reducible assumption | (with_reducible apply News.tail1; first | with_reducible assumption | (with_reducible apply News.tail1; first | with_reducible assumption | (with_reducible apply News.tail1; first | with_reducible assumption | (with_reducible apply News.tail1; first | with_reducible assumption | (with_reducible apply News.tail1; first | with_reducible assumption | (with_reducible apply News.tail1; with_reducible assumption))))))))))))))); (case myz => with_reducible assumption); (case mye => (unfold jan offG; (repeat' split) <;> first | omega | contradiction)))

theorem c71 (w : World) (h50 : C50 w) (h64 : C64 w) : C71 w := by
  intro x k far p W t hx hf
  have hf0 := hf
  unfold farOk at hf
  unfold SayV Ask
  k_fill
  intro p loose mean mg mb dp un gd cn cs a ccd cl outer A₀ base h₀ L mm news s Q E B F X N T hk hd hu hret
  refine wpAny_call ?_
  k_dflt (refine' code_def (binds := [(Str.ofString "jd", .float x t)]) ?k1 ?k2 ?k3 ?k4 ?k5 ?kA ?kF ?kK ?k6 ?k7 ?k8 ?k9 ?kB ?_ ?c2 ?c3 ?c4 ?c5; (case kA => exact rfl); (case kF => exact rfl); (case kK => assumption); (case k1 => k_asm); (case k2 => k_asm); (case k3 => k_asm); (case k4 => k_asm); (case k5 => k_asm); (case k6 => k_is); (case k7 => k_is); (case k8 => ktr_room); (case k9 => first | exact BindsTo.of_eq rfl | exact binds_K (by k_in) rfl (by k_is) rfl rfl rfl); (case c5 => decide); (case kB => exact locs rfl); (case c2 => exact rfl); (case c3 => exact rfl); (case c4 => exact rfl); k_whole; intro g' L' h' FG' F' N' B' X' T'; (try dsimp only [List.reverse_cons, List.reverse_nil, List.nil_append, List.cons_append]); (try k_lift B'); (try k_fold))
  k_steps
  all_goals (refine' endV hret ?myF ?myN ?myP; (case myF => with_reducible assumption); (case myN => first | with_reducible assumption | (with_reducible apply News.tail2; first | with_reducible assumption | (with_reducible apply News.tail2; first | with_reducible assumption | (with_reducible apply News.tail2; first | with_reducible assumption | (with_reducible apply News.tail2; first | with_reducible assumption | (with_reducible apply News.tail2; first | with_reducible assumption | (with_reducible apply News.tail2; first | with_reducible assumption | (with_reducible apply News.tail2; first | with_reducible assumption | (with_reducible apply News.tail2; first | with_reducible assumption | (with_reducible apply News.tail2; first | with_reducible assumption | (with_reducible apply News.tail2; first | with_reducible assumption | (with_reducible apply News.tail2; first | with_reducible assumption | (with_reducible apply News.tail2; first | with_reducible assumption | (with_reducible apply News.tail2; first | with_reducible assumption | (with_reducible apply News.tail2; with_reducible assumption))))))))))))))); (case myP => (refine ⟨_, _, _, _, _, _, rfl, ?_⟩; exact GrP.of (by with_reducible assumption) (by omega))))

theorem c79 (w : World)  : C79 w := by
  intro y m d t1 t2 t3 hv
  unfold SayB Ask
  k_fill
  intro p loose mean mg mb dp un gd cn cs a ccd cl outer A₀ base h₀ L mm news s Q E B F X N T hk hd hu hret
  refine wpAny_call ?_
  k_dflt (refine' code_def (binds := [(Str.ofString "year", .int y t1), (Str.ofString "month", .int m t2), (Str.ofString "day", .int d t3), (Str.ofString "method", .none)]) ?k1 ?k2 ?k3 ?k4 ?k5 ?kA ?kF ?kK ?k6 ?k7 ?k8 ?k9 ?kB ?_ ?c2 ?c3 ?c4 ?c5; (case kA => exact rfl); (case kF => exact rfl); (case kK => assumption); (case k1 => k_asm); (case k2 => k_asm); (case k3 => k_asm); (case k4 => k_asm); (case k5 => k_asm); (case k6 => k_is); (case k7 => k_is); (case k8 => ktr_room); (case k9 => first | exact BindsTo.of_eq rfl | exact binds_K (by k_in) rfl (by k_is) rfl rfl rfl); (case c5 => decide); (case kB => exact locs rfl); (case c2 => exact rfl); (case c3 => exact rfl); (case c4 => exact rfl); k_whole; intro g' L' h' FG' F' N' B' X' T'; (try dsimp only [List.reverse_cons, List.reverse_nil, List.nil_append, List.cons_append]); (try k_lift B'); (try k_fold))
  k_steps
  all_goals (exact hret _ _ (by k_asm) (by first | k_asm | exact News.drop (by with_reducible assumption) (by kcj_all)))

theorem c94 (w : World) (h79 : C79 w) : C94 w := by
  intro y m d t1 t2 t3 hy hv
  unfold yOk at hy
  unfold SayF Ask
  k_fill
  intro p loose mean mg mb dp un gd cn cs a ccd cl outer A₀ base h₀ L mm news s Q E B F X N T hk hd hu hret
  refine wpAny_call ?_
  k_dflt (refine' code_def (binds := [(Str.ofString "year", .int y t1), (Str.ofString "month", .int m t2), (Str.ofString "day", .int d t3), (Str.ofString "method", .none)]) ?k1 ?k2 ?k3 ?k4 ?k5 ?kA ?kF ?kK ?k6 ?k7 ?k8 ?k9 ?kB ?_ ?c2 ?c3 ?c4 ?c5; (case kA => exact rfl); (case kF => exact rfl); (case kK => assumption); (case k1 => k_asm); (case k2 => k_asm); (case k3 => k_asm); (case k4 => k_asm); (case k5 => k_asm); (case k6 => k_is); (case k7 => k_is); (case k8 => ktr_room); (case k9 => first | exact BindsTo.of_eq rfl | exact binds_K (by k_in) rfl (by k_is) rfl rfl rfl); (case c5 => decide); (case kB => exact locs rfl); (case c2 => exact rfl); (case c3 => exact rfl); (case c4 => exact rfl); k_whole; intro g' L' h' FG' F' N' B' X' T'; (try dsimp only [List.reverse_cons, List.reverse_nil, List.nil_append, List.cons_append]); (try k_lift B'); (try k_fold))
  k_steps
  all_goals (refine' endF hret ?myz ?mye ?myF ?myN; (case myF => k_asm); (case myN => first | k_asm | exact News.drop (by with_reducible assumption) (by kcj_all)); (case myz => with_reducible assumption); (case mye => omega))

theorem c102 (w : World)  : C102 w := by
  intro x k far p W t hx hf h0
  have hf0 := hf
  unfold farOk at hf
  unfold SayV Ask
  k_fill
  intro p loose mean mg mb dp un gd cn cs a ccd cl outer A₀ base h₀ L mm news s Q E B F X N T hk hd hu hret
  refine wpAny_call ?_
  k_dflt (refine' code_def (binds := [(Str.ofString "jd", .float x t), (Str.ofString "method", .none)]) ?k1 ?k2 ?k3 ?k4 ?k5 ?kA ?kF ?kK ?k6 ?k7 ?k8 ?k9 ?kB ?_ ?c2 ?c3 ?c4 ?c5; (case kA => exact rfl); (case kF => exact rfl); (case kK => assumption); (case k1 => k_asm); (case k2 => k_asm); (case k3 => k_asm); (case k4 => k_asm); (case k5 => k_asm); (case k6 => k_is); (case k7 => k_is); (case k8 => ktr_room); (case k9 => first | exact BindsTo.of_eq rfl | exact binds_K (by k_in) rfl (by k_is) rfl rfl rfl); (case c5 => decide); (case kB => exact locs rfl); (case c2 => exact rfl); (case c3 => exact rfl); (case c4 => exact rfl); k_whole; intro g' L' h' FG' F' N' B' X' T'; (try dsimp only [List.reverse_cons, List.reverse_nil, List.nil_append, List.cons_append]); (try k_lift B'); (try k_fold))
  k_steps
  all_goals (refine' endV hret ?myF ?myN ?myP; (case myF => k_asm); (case myN => first | k_asm | exact News.drop (by with_reducible assumption) (by kcj_all)); (case myP => (refine ⟨_, _, _, _, _, _, rfl, ?_⟩; exact ⟨by omega, by omega, by omega⟩)))

theorem c109 (w : World)  : C109 w := by
  intro y m d t1 t2 t3 hy hm hd9
  unfold yOk at hy
  unfold SayF Ask
  k_fill
  intro p loose mean mg mb dp un gd cn cs a ccd cl outer A₀ base h₀ L mm news s Q E B F X N T hk hd hu hret
  refine wpAny_call ?_
  k_dflt (refine' code_def (binds := [(Str.ofString "year", .int y t1), (Str.ofString "month", .int m t2), (Str.ofString "day", .int d t3)]) ?k1 ?k2 ?k3 ?k4 ?k5 ?kA ?kF ?kK ?k6 ?k7 ?k8 ?k9 ?kB ?_ ?c2 ?c3 ?c4 ?c5; (case kA => exact rfl); (case kF => exact rfl); (case kK => assumption); (case k1 => k_asm); (case k2 => k_asm); (case k3 => k_asm); (case k4 => k_asm); (case k5 => k_asm); (case k6 => k_is); (case k7 => k_is); (case k8 => ktr_room); (case k9 => first | exact BindsTo.of_eq rfl | exact binds_K (by k_in) rfl (by k_is) rfl rfl rfl); (case c5 => decide); (case kB => exact locs rfl); (case c2 => exact rfl); (case c3 => exact rfl); (case c4 => exact rfl); k_whole; intro g' L' h' FG' F' N' B' X' T'; (try dsimp only [List.reverse_cons, List.reverse_nil, List.nil_append, List.cons_append]); (try k_lift B'); (try k_fold))
  k_steps
  all_goals (refine' endF hret ?myz ?mye ?myF ?myN; (case myF => k_asm); (case myN => first | k_asm | exact News.drop (by with_reducible assumption) (by kcj_all)); (case myz => with_reducible assumption); (case mye => omega))

theorem c116 (w : World) (h109 : C109 w) : C116 w := by
  intro x k far p W t hx hf
  have hf0 := hf
  unfold farOk at hf
  unfold SayV Ask
  k_fill
  intro p loose mean mg mb dp un gd cn cs a ccd cl outer A₀ base h₀ L mm news s Q E B F X N T hk hd hu hret
  refine wpAny_call ?_
  k_dflt (refine' code_def (binds := [(Str.ofString "jdc", .float x t)]) ?k1 ?k2 ?k3 ?k4 ?k5 ?kA ?kF ?kK ?k6 ?k7 ?k8 ?k9 ?kB ?_ ?c2 ?c3 ?c4 ?c5; (case kA => exact rfl); (case kF => exact rfl); (case kK => assumption); (case k1 => k_asm); (case k2 => k_asm); (case k3 => k_asm); (case k4 => k_asm); (case k5 => k_asm); (case k6 => k_is); (case k7 => k_is); (case k8 => ktr_room); (case k9 => first | exact BindsTo.of_eq rfl | exact binds_K (by k_in) rfl (by k_is) rfl rfl rfl); (case c5 => decide); (case kB => exact locs rfl); (case c2 => exact rfl); (case c3 => exact rfl); (case c4 => exact rfl); k_whole; intro g' L' h' FG' F' N' B' X' T'; (try dsimp only [List.reverse_cons, List.reverse_nil, List.nil_append, List.cons_append]); (try k_lift B'); (try k_fold))
  k_steps
  all_goals (refine' endV hret ?myF ?myN ?myP; (case myF => k_asm); (case myN => first | k_asm | exact News.drop (by with_reducible assumption) (by kcj_all)); (case myP => (refine ⟨_, _, _, _, _, _, rfl, ?_⟩; exact ⟨by omega, by omega, by omega⟩)))

theorem c132 (w : World)  : C132 w := by
  intro y m d t1 t2 t3 t4 hy hv
  unfold yOk at hy
  unfold SayF Ask
  k_fill
  intro p loose mean mg mb dp un gd cn cs a ccd cl outer A₀ base h₀ L mm news s Q E B F X N T hk hd hu hret
  refine wpAny_call ?_
  k_dflt (refine' code_def (binds := [(Str.ofString "year", .int y t1), (Str.ofString "month", .int m t2), (Str.ofString "day", .int d t3), (Str.ofString "method", .int 4 t4)]) ?k1 ?k2 ?k3 ?k4 ?k5 ?kA ?kF ?kK ?k6 ?k7 ?k8 ?k9 ?kB ?_ ?c2 ?c3 ?c4 ?c5; (case kA => exact rfl); (case kF => exact rfl); (case kK => assumption); (case k1 => k_asm); (case k2 => k_asm); (case k3 => k_asm); (case k4 => k_asm); (case k5 => k_asm); (case k6 => k_is); (case k7 => k_is); (case k8 => ktr_room); (case k9 => first | exact BindsTo.of_eq rfl | exact binds_K (by k_in) rfl (by k_is) rfl rfl rfl); (case c5 => decide); (case kB => exact locs rfl); (case c2 => exact rfl); (case c3 => exact rfl); (case c4 => exact rfl); k_whole; intro g' L' h' FG' F' N' B' X' T'; (try dsimp only [List.reverse_cons, List.reverse_nil, List.nil_append, List.cons_append]); (try k_lift B'); (try k_fold))
  k_steps
  all_goals (refine' endF hret ?myz ?mye ?myF ?myN; (case myF => with_reducible assumption); (case myN => first | with_reducible assumption | (with_reducible apply News.tail1; first | with_reducible assumption | (with_reducible apply News.tail1; first | with_reducible assumption | (with_reducible apply News.tail1; first | with_reducible assumption | (with_reducible apply News.tail1; first | with_reducible assumption | (with_reducible apply News.tail1; first | with_reducible assumption | (with_reducible apply News.tail1; first | with_reducible assumption | (with_reducible apply News.tail1; first | with_reducible assumption | (with_reducible apply News.tail1; first | with_reducible assumption | (with_reducible apply News.tail1; first | with_reducible assumption | (with_reducible apply News.tail1; first | with_reducible assumption | (with_reducible apply News.tail1; first | with_reducible assumption | (with_reducible apply News.tail1; first | with_reducible assumption | (with_reducible apply News.tail1; first | with_reducible assumption | (with_reducible apply News.tail1; with_reducible assumption))))))))))))))); (case myz => with_reducible assumption); (case mye => (obtain ⟨e1, e2⟩ := fr_end (by with_reducible assumption) (by with_reducible assumption) (by with_reducible assumption) (by with_reducible assumption) (by with_reducible assumption); rw [e1, e2]; omega)))

theorem c147 (w : World)  : C147 w := by
  intro x k far p W t t4 hx hf h0 hp
  have hf0 := hf
  unfold farOk at hf
  unfold SayV Ask
  k_fill
  intro p loose mean mg mb dp un gd cn cs a ccd cl outer A₀ base h₀ L mm news s Q E B F X N T hk hd hu hret
  refine wpAny_call ?_
  k_dflt (refine' code_def (binds := [(Str.ofString "jd", .float x t), (Str.ofString "method", .int 4 t4)]) ?k1 ?k2 ?k3 ?k4 ?k5 ?kA ?kF ?kK ?k6 ?k7 ?k8 ?k9 ?kB ?_ ?c2 ?c3 ?c4 ?c5; (case kA => exact rfl); (case kF => exact rfl); (case kK => assumption); (case k1 => k_asm); (case k2 => k_asm); (case k3 => k_asm); (case k4 => k_asm); (case k5 => k_asm); (case k6 => k_is); (case k7 => k_is); (case k8 => ktr_room); (case k9 => first | exact BindsTo.of_eq rfl | exact binds_K (by k_in) rfl (by k_is) rfl rfl rfl); (case c5 => decide); (case kB => exact locs rfl); (case c2 => exact rfl); (case c3 => exact rfl); (case c4 => exact rfl); k_whole; intro g' L' h' FG' F' N' B' X' T'; (try dsimp only [List.reverse_cons, List.reverse_nil, List.nil_append, List.cons_append]); (try k_lift B'); (try k_fold))
  k_steps
  all_goals (refine' endV hret ?myF ?myN ?myP; (case myF => with_reducible assumption); (case myN => first | with_reducible assumption | (with_reducible apply News.tail2; first | with_reducible assumption | (with_reducible apply News.tail2; first | with_reducible assumption | (with_reducible apply News.tail2; first | with_reducible assumption | (with_reducible apply News.tail2; first | with_reducible assumption | (with_reducible apply News.tail2; first | with_reducible assumption | (with_reducible apply News.tail2; first | with_reducible assumption | (with_reducible apply News.tail2; first | with_reducible assumption | (with_reducible apply News.tail2; first | with_reducible assumption | (with_reducible apply News.tail2; first | with_reducible assumption | (with_reducible apply News.tail2; first | with_reducible assumption | (with_reducible apply News.tail2; first | with_reducible assumption | (with_reducible apply News.tail2; first | with_reducible assumption | (with_reducible apply News.tail2; first | with_reducible assumption | (with_reducible apply News.tail2; with_reducible assumption))))))))))))))); (case myP => (refine ⟨_, _, _, _, _, _, rfl, ?_⟩; first | exact FR.of1 (by with_reducible assumption) (by with_reducible assumption) (by with_reducible assumption) (by omega) (by omega) (by omega) (by omega) (by omega) | exact FR.of2 (by with_reducible assumption) (by with_reducible assumption) (by with_reducible assumption) (by with_reducible assumption) (by with_reducible assumption) (by omega) (by omega) (by omega) (by omega) (by omega) (by omega))))

theorem c161 (w : World) (h50 : C50 w) (h64 : C64 w) : C161 w := by
  intro y m d t1 t2 t3 hy hm hd9
  have hy0 := hy
  have hj := yOk.jan hy
  have ho := off_size (Y := y + 78) (m := 3) (by decide)
  unfold yOk at hy
  unfold SayF Ask
  k_fill
  intro p loose mean mg mb dp un gd cn cs a ccd cl outer A₀ base h₀ L mm news s Q E B F X N T hk hd hu hret
  refine wpAny_call ?_
  k_dflt (refine' code_def (binds := [(Str.ofString "year", .int y t1), (Str.ofString "month", .int m t2), (Str.ofString "day", .int d t3)]) ?k1 ?k2 ?k3 ?k4 ?k5 ?kA ?kF ?kK ?k6 ?k7 ?k8 ?k9 ?kB ?_ ?c2 ?c3 ?c4 ?c5; (case kA => exact rfl); (case kF => exact rfl); (case kK => assumption); (case k1 => k_asm); (case k2 => k_asm); (case k3 => k_asm); (case k4 => k_asm); (case k5 => k_asm); (case k6 => k_is); (case k7 => k_is); (case k8 => ktr_room); (case k9 => first | exact BindsTo.of_eq rfl | exact binds_K (by k_in) rfl (by k_is) rfl rfl rfl); (case c5 => decide); (case kB => exact locs rfl); (case c2 => exact rfl); (case c3 => exact rfl); (case c4 => exact rfl); k_whole; intro g' L' h' FG' F' N' B' X' T'; (try dsimp only [List.reverse_cons, List.reverse_nil, List.nil_append, List.cons_append]); (try k_lift B'); (try k_fold))
  k_steps
  all_goals (refine' endF hret ?myz ?mye ?myF ?myN; (case myF => k_asm); (case myN => first | k_asm | exact News.drop (by with_reducible assumption) (by kcj_all)); (case myz => with_reducible assumption); (case mye => first | (have hq := ca_off1 (Y := y + 78) (by with_reducible assumption); unfold inN; (repeat' split) <;> omega) | (have hq := ca_off0 (Y := y + 78) (by with_reducible assumption); unfold inN; (repeat' split) <;> omega)))

theorem c168 (w : World) (h50 : C50 w) (h64 : C64 w) (h71 : C71 w) : C168 w := by
  intro x k far p W t hx hf hp
  have hf0 := hf
  unfold farOk at hf
  unfold SayV Ask
  k_fill
  intro p loose mean mg mb dp un gd cn cs a ccd cl outer A₀ base h₀ L mm news s Q E B F X N T hk hd hu hret
  refine wpAny_call ?_
  k_dflt (refine' code_def (binds := [(Str.ofString "jd", .float x t)]) ?k1 ?k2 ?k3 ?k4 ?k5 ?kA ?kF ?kK ?k6 ?k7 ?k8 ?k9 ?kB ?_ ?c2 ?c3 ?c4 ?c5; (case kA => exact rfl); (case kF => exact rfl); (case kK => assumption); (case k1 => k_asm); (case k2 => k_asm); (case k3 => k_asm); (case k4 => k_asm); (case k5 => k_asm); (case k6 => k_is); (case k7 => k_is); (case k8 => ktr_room); (case k9 => first | exact BindsTo.of_eq rfl | exact binds_K (by k_in) rfl (by k_is) rfl rfl rfl); (case c5 => decide); (case kB => exact locs rfl); (case c2 => exact rfl); (case c3 => exact rfl); (case c4 => exact rfl); k_whole; intro g' L' h' FG' F' N' B' X' T'; (try dsimp only [List.reverse_cons, List.reverse_nil, List.nil_append, List.cons_append]); (try k_lift B'); (try k_fold))
  k_steps
  all_goals (refine' endV hret ?myF ?myN ?myP; (case myF => with_reducible assumption); (case myN => first | with_reducible assumption | (with_reducible apply News.tail2; first | with_reducible assumption | (with_reducible apply News.tail2; first | with_reducible assumption | (with_reducible apply News.tail2; first | with_reducible assumption | (with_reducible apply News.tail2; first | with_reducible assumption | (with_reducible apply News.tail2; first | with_reducible assumption | (with_reducible apply News.tail2; first | with_reducible assumption | (with_reducible apply News.tail2; first | with_reducible assumption | (with_reducible apply News.tail2; first | with_reducible assumption | (with_reducible apply News.tail2; first | with_reducible assumption | (with_reducible apply News.tail2; first | with_reducible assumption | (with_reducible apply News.tail2; first | with_reducible assumption | (with_reducible apply News.tail2; first | with_reducible assumption | (with_reducible apply News.tail2; first | with_reducible assumption | (with_reducible apply News.tail2; with_reducible assumption))))))))))))))); (case myP => (refine ⟨_, _, _, _, _, _, rfl, ?_⟩; first | exact NR.ofA (GrP.yr (by with_reducible assumption)) (ca_off1 (by with_reducible assumption)).1 (by omega) (by omega) (by omega) (by omega) | exact NR.ofB (GrP.yr (by with_reducible assumption)) (ca_off1 (by with_reducible assumption)).1 (by omega) (by omega) (by omega) | exact NR.ofA (GrP.yr (by with_reducible assumption)) (ca_off0 (by with_reducible assumption)).1 (by omega) (by omega) (by omega) (by omega) | exact NR.ofB (GrP.yr (by with_reducible assumption)) (ca_off0 (by with_reducible assumption)).1 (by omega) (by omega) (by omega))))

theorem c175 (w : World)  : C175 w := by
  intro y m d t1 t2 t3 hy hm hd9
  unfold yOk at hy
  unfold SayF Ask
  k_fill
  intro p loose mean mg mb dp un gd cn cs a ccd cl outer A₀ base h₀ L mm news s Q E B F X N T hk hd hu hret
  refine wpAny_call ?_
  k_dflt (refine' code_def (binds := [(Str.ofString "year", .int y t1), (Str.ofString "month", .int m t2), (Str.ofString "day", .int d t3)]) ?k1 ?k2 ?k3 ?k4 ?k5 ?kA ?kF ?kK ?k6 ?k7 ?k8 ?k9 ?kB ?_ ?c2 ?c3 ?c4 ?c5; (case kA => exact rfl); (case kF => exact rfl); (case kK => assumption); (case k1 => k_asm); (case k2 => k_asm); (case k3 => k_asm); (case k4 => k_asm); (case k5 => k_asm); (case k6 => k_is); (case k7 => k_is); (case k8 => ktr_room); (case k9 => first | exact BindsTo.of_eq rfl | exact binds_K (by k_in) rfl (by k_is) rfl rfl rfl); (case c5 => decide); (case kB => exact locs rfl); (case c2 => exact rfl); (case c3 => exact rfl); (case c4 => exact rfl); k_whole; intro g' L' h' FG' F' N' B' X' T'; (try dsimp only [List.reverse_cons, List.reverse_nil, List.nil_append, List.cons_append]); (try k_lift B'); (try k_fold))
  k_steps
  all_goals (refine' endF hret ?myz ?mye ?myF ?myN; (case myF => k_asm); (case myN => first | k_asm | exact News.drop (by with_reducible assumption) (by kcj_all)); (case myz => with_reducible assumption); (case mye => (have hq := isl_end (by with_reducible assumption) (by with_reducible assumption) (by with_reducible assumption) (by with_reducible assumption)); omega))

theorem c182 (w : World) (h175 : C175 w) : C182 w := by
  intro x k far p W t hx hf hp
  have hf0 := hf
  unfold farOk at hf
  unfold SayV Ask
  k_fill
  intro p loose mean mg mb dp un gd cn cs a ccd cl outer A₀ base h₀ L mm news s Q E B F X N T hk hd hu hret
  refine wpAny_call ?_
  k_dflt (refine' code_def (binds := [(Str.ofString "jd", .float x t)]) ?k1 ?k2 ?k3 ?k4 ?k5 ?kA ?kF ?kK ?k6 ?k7 ?k8 ?k9 ?kB ?_ ?c2 ?c3 ?c4 ?c5; (case kA => exact rfl); (case kF => exact rfl); (case kK => assumption); (case k1 => k_asm); (case k2 => k_asm); (case k3 => k_asm); (case k4 => k_asm); (case k5 => k_asm); (case k6 => k_is); (case k7 => k_is); (case k8 => ktr_room); (case k9 => first | exact BindsTo.of_eq rfl | exact binds_K (by k_in) rfl (by k_is) rfl rfl rfl); (case c5 => decide); (case kB => exact locs rfl); (case c2 => exact rfl); (case c3 => exact rfl); (case c4 => exact rfl); k_whole; intro g' L' h' FG' F' N' B' X' T'; (try dsimp only [List.reverse_cons, List.reverse_nil, List.nil_append, List.cons_append]); (try k_lift B'); (try k_fold))
  k_steps
  all_goals (refine' endV hret ?myF ?myN ?myP; (case myF => k_asm); (case myN => first | k_asm | exact News.drop (by with_reducible assumption) (by kcj_all)); (case myP => (refine ⟨_, _, _, _, _, _, rfl, ?_⟩; exact IR.of (by with_reducible assumption) (by with_reducible assumption) (by omega) (by omega) rfl (by omega))))

theorem c211 (w : World)  : C211 w := by
  intro x k far p W t hx hf
  have hf0 := hf
  unfold farOk at hf
  unfold SayV Ask
  k_fill
  intro p loose mean mg mb dp un gd cn cs a ccd cl outer A₀ base h₀ L mm news s Q E B F X N T hk hd hu hret
  refine wpAny_call ?_
  k_dflt (refine' code_def (binds := [(Str.ofString "jd", .float x t)]) ?k1 ?k2 ?k3 ?k4 ?k5 ?kA ?kF ?kK ?k6 ?k7 ?k8 ?k9 ?kB ?_ ?c2 ?c3 ?c4 ?c5; (case kA => exact rfl); (case kF => exact rfl); (case kK => assumption); (case k1 => k_asm); (case k2 => k_asm); (case k3 => k_asm); (case k4 => k_asm); (case k5 => k_asm); (case k6 => k_is); (case k7 => k_is); (case k8 => ktr_room); (case k9 => first | exact BindsTo.of_eq rfl | exact binds_K (by k_in) rfl (by k_is) rfl rfl rfl); (case c5 => decide); (case kB => exact locs rfl); (case c2 => exact rfl); (case c3 => exact rfl); (case c4 => exact rfl); k_whole; intro g' L' h' FG' F' N' B' X' T'; (try dsimp only [List.reverse_cons, List.reverse_nil, List.nil_append, List.cons_append]); (try k_lift B'); (try k_fold))
  k_steps
  all_goals (refine' endV hret ?myF ?myN ?myP; (case myF => k_asm); (case myN => first | k_asm | exact News.drop (by with_reducible assumption) (by kcj_all)); (case myP => (refine ⟨_, _, _, _, _, _, rfl, ?_⟩; exact JuR.of (by with_reducible assumption) (by with_reducible assumption) (by with_reducible assumption) (by with_reducible assumption) (by omega) (by omega) (by omega) (by omega) (by omega) (by omega) (by omega))))

theorem c190 (w : World)  : C190 w := by
  intro y t
  unfold SayB Ask
  k_fill
  intro p loose mean mg mb dp un gd cn cs a ccd cl outer A₀ base h₀ L mm news s Q E B F X N T hk hd hu hret
  refine wpAny_call ?_
  k_dflt (refine' code_def (binds := [(Str.ofString "year", .int y t)]) ?k1 ?k2 ?k3 ?k4 ?k5 ?kA ?kF ?kK ?k6 ?k7 ?k8 ?k9 ?kB ?_ ?c2 ?c3 ?c4 ?c5; (case kA => exact rfl); (case kF => exact rfl); (case kK => assumption); (case k1 => k_asm); (case k2 => k_asm); (case k3 => k_asm); (case k4 => k_asm); (case k5 => k_asm); (case k6 => k_is); (case k7 => k_is); (case k8 => ktr_room); (case k9 => first | exact BindsTo.of_eq rfl | exact binds_K (by k_in) rfl (by k_is) rfl rfl rfl); (case c5 => decide); (case kB => exact locs rfl); (case c2 => exact rfl); (case c3 => exact rfl); (case c4 => exact rfl); k_whole; intro g' L' h' FG' F' N' B' X' T'; (try dsimp only [List.reverse_cons, List.reverse_nil, List.nil_append, List.cons_append]); (try k_lift B'); (try k_fold))
  k_steps
  all_goals (refine' endB hret ?mye ?myF ?myN; (case myF => k_asm); (case myN => k_asm); (case mye => (apply Bool.eq_iff_iff.mpr; constructor <;> intro hb9 <;> (try have hb9 := of_decide_eq_true hb9) <;> (try refine decide_eq_true ?_) <;> (try unfold leapG at *) <;> (try simp only [beq_iff_eq, bne_iff_ne, ne_eq] at *) <;> omega)))

theorem c204 (w : World) (h190 : C190 w) : C204 w := by
  intro y m d t1 t2 t3 hl
  have hl1 := hl
  unfold LegJ at hl
  unfold SayB Ask
  k_fill
  intro p loose mean mg mb dp un gd cn cs a ccd cl outer A₀ base h₀ L mm news s Q E B F X N T hk hd hu hret
  refine wpAny_call ?_
  k_dflt (refine' code_def (binds := [(Str.ofString "year", .int y t1), (Str.ofString "month", .int m t2), (Str.ofString "day", .int d t3)]) ?k1 ?k2 ?k3 ?k4 ?k5 ?kA ?kF ?kK ?k6 ?k7 ?k8 ?k9 ?kB ?_ ?c2 ?c3 ?c4 ?c5; (case kA => exact rfl); (case kF => exact rfl); (case kK => assumption); (case k1 => k_asm); (case k2 => k_asm); (case k3 => k_asm); (case k4 => k_asm); (case k5 => k_asm); (case k6 => k_is); (case k7 => k_is); (case k8 => ktr_room); (case k9 => first | exact BindsTo.of_eq rfl | exact binds_K (by k_in) rfl (by k_is) rfl rfl rfl); (case c5 => decide); (case kB => exact locs rfl); (case c2 => exact rfl); (case c3 => exact rfl); (case c4 => exact rfl); k_whole; intro g' L' h' FG' F' N' B' X' T'; (try dsimp only [List.reverse_cons, List.reverse_nil, List.nil_append, List.cons_append]); (try k_lift B'); (try k_fold))
  k_steps
  all_goals (exact hret _ _ (by k_asm) (by first | k_asm | exact News.drop (by with_reducible assumption) (by kcj_all)))

theorem c218 (w : World) (h204 : C204 w) : C218 w := by
  intro y m d t1 t2 t3 hy hm hl
  have hl1 := hl
  unfold LegJ at hl
  unfold SayF Ask
  k_fill
  intro p loose mean mg mb dp un gd cn cs a ccd cl outer A₀ base h₀ L mm news s Q E B F X N T hk hd hu hret
  refine wpAny_call ?_
  k_dflt (refine' code_def (binds := [(Str.ofString "year", .int y t1), (Str.ofString "month", .int m t2), (Str.ofString "day", .int d t3)]) ?k1 ?k2 ?k3 ?k4 ?k5 ?kA ?kF ?kK ?k6 ?k7 ?k8 ?k9 ?kB ?_ ?c2 ?c3 ?c4 ?c5; (case kA => exact rfl); (case kF => exact rfl); (case kK => assumption); (case k1 => k_asm); (case k2 => k_asm); (case k3 => k_asm); (case k4 => k_asm); (case k5 => k_asm); (case k6 => k_is); (case k7 => k_is); (case k8 => ktr_room); (case k9 => first | exact BindsTo.of_eq rfl | exact binds_K (by k_in) rfl (by k_is) rfl rfl rfl); (case c5 => decide); (case kB => exact locs rfl); (case c2 => exact rfl); (case c3 => exact rfl); (case c4 => exact rfl); k_whole; intro g' L' h' FG' F' N' B' X' T'; (try dsimp only [List.reverse_cons, List.reverse_nil, List.nil_append, List.cons_append]); (try k_lift B'); (try k_fold))
  k_steps
  all_goals (refine' endF hret ?myz ?mye ?myF ?myN; (case myF => k_asm); (case myN => first | k_asm | exact News.drop (by with_reducible assumption) (by kcj_all)); (case myz => with_reducible assumption); (case mye => first | exact juN_1 (by with_reducible assumption) (by with_reducible assumption) (by with_reducible assumption) (by with_reducible assumption) (by with_reducible assumption) | exact juN_2 (by with_reducible assumption) (by with_reducible assumption) (by with_reducible assumption) (by with_reducible assumption) (by with_reducible assumption)))

theorem c225 (w : World)  : C225 w := by
  intro b k t u i t1 t2 t3 t4 t5 h1 h2 h3 h4 h5
  unfold SayF Ask
  k_fill
  intro p loose mean mg mb dp un gd cn cs a ccd cl outer A₀ base h₀ L mm news s Q E B F X N T hk hd hu hret
  refine wpAny_call ?_
  k_dflt (refine' code_def (binds := [(Str.ofString "baktun", .int b t1), (Str.ofString "katun", .int k t2), (Str.ofString "tun", .int t t3), (Str.ofString "uinal", .int u t4), (Str.ofString "kin", .int i t5)]) ?k1 ?k2 ?k3 ?k4 ?k5 ?kA ?kF ?kK ?k6 ?k7 ?k8 ?k9 ?kB ?_ ?c2 ?c3 ?c4 ?c5; (case kA => exact rfl); (case kF => exact rfl); (case kK => assumption); (case k1 => k_asm); (case k2 => k_asm); (case k3 => k_asm); (case k4 => k_asm); (case k5 => k_asm); (case k6 => k_is); (case k7 => k_is); (case k8 => ktr_room); (case k9 => first | exact BindsTo.of_eq rfl | exact binds_K (by k_in) rfl (by k_is) rfl rfl rfl); (case c5 => decide); (case kB => exact locs rfl); (case c2 => exact rfl); (case c3 => exact rfl); (case c4 => exact rfl); k_whole; intro g' L' h' FG' F' N' B' X' T'; (try dsimp only [List.reverse_cons, List.reverse_nil, List.nil_append, List.cons_append]); (try k_lift B'); (try k_fold))
  k_steps
  all_goals (refine' endF hret ?myz ?mye ?myF ?myN; (case myF => k_asm); (case myN => first | k_asm | exact News.drop (by with_reducible assumption) (by kcj_all)); (case myz => with_reducible assumption); (case mye => omega))

theorem c232 (w : World)  : C232 w := by
  intro x k far p W t hx hf h0
  have hf0 := hf
  unfold farOk at hf
  unfold SayV Ask
  k_fill
  intro p loose mean mg mb dp un gd cn cs a ccd cl outer A₀ base h₀ L mm news s Q E B F X N T hk hd hu hret
  refine wpAny_call ?_
  k_dflt (refine' code_def (binds := [(Str.ofString "jd", .float x t)]) ?k1 ?k2 ?k3 ?k4 ?k5 ?kA ?kF ?kK ?k6 ?k7 ?k8 ?k9 ?kB ?_ ?c2 ?c3 ?c4 ?c5; (case kA => exact rfl); (case kF => exact rfl); (case kK => assumption); (case k1 => k_asm); (case k2 => k_asm); (case k3 => k_asm); (case k4 => k_asm); (case k5 => k_asm); (case k6 => k_is); (case k7 => k_is); (case k8 => ktr_room); (case k9 => first | exact BindsTo.of_eq rfl | exact binds_K (by k_in) rfl (by k_is) rfl rfl rfl); (case c5 => decide); (case kB => exact locs rfl); (case c2 => exact rfl); (case c3 => exact rfl); (case c4 => exact rfl); k_whole; intro g' L' h' FG' F' N' B' X' T'; (try dsimp only [List.reverse_cons, List.reverse_nil, List.nil_append, List.cons_append]); (try k_lift B'); (try k_fold))
  k_steps
  all_goals (refine' endV hret ?myF ?myN ?myP; (case myF => k_asm); (case myN => first | k_asm | exact News.drop (by with_reducible assumption) (by kcj_all)); (case myP => (refine ⟨_, _, _, _, _, _, _, _, _, _, rfl, ?_⟩; exact ⟨by omega, by omega, by omega, by omega, by omega⟩)))

theorem c239 (w : World) (h64 : C64 w) : C239 w := by
  intro y d t1 t2 hy hd9
  have hy0 := hy
  have hj := yOk.jan hy
  unfold SayF Ask
  k_fill
  intro p loose mean mg mb dp un gd cn cs a ccd cl outer A₀ base h₀ L mm news s Q E B F X N T hk hd hu hret
  refine wpAny_call ?_
  k_dflt (refine' code_def (binds := [(Str.ofString "year", .int y t1), (Str.ofString "dayofyear", .int d t2)]) ?k1 ?k2 ?k3 ?k4 ?k5 ?kA ?kF ?kK ?k6 ?k7 ?k8 ?k9 ?kB ?_ ?c2 ?c3 ?c4 ?c5; (case kA => exact rfl); (case kF => exact rfl); (case kK => assumption); (case k1 => k_asm); (case k2 => k_asm); (case k3 => k_asm); (case k4 => k_asm); (case k5 => k_asm); (case k6 => k_is); (case k7 => k_is); (case k8 => ktr_room); (case k9 => first | exact BindsTo.of_eq rfl | exact binds_K (by k_in) rfl (by k_is) rfl rfl rfl); (case c5 => decide); (case kB => exact locs rfl); (case c2 => exact rfl); (case c3 => exact rfl); (case c4 => exact rfl); k_whole; intro g' L' h' FG' F' N' B' X' T'; (try dsimp only [List.reverse_cons, List.reverse_nil, List.nil_append, List.cons_append]); (try k_lift B'); (try k_fold))
  k_steps
  all_goals (refine' endF hret ?myz ?mye ?myF ?myN; (case myF => with_reducible assumption); (case myN => first | with_reducible assumption | (with_reducible apply News.tail1; first | with_reducible assumption | (with_reducible apply News.tail1; first | with_reducible assumption | (with_reducible apply News.tail1; first | with_reducible assumption | (with_reducible apply News.tail1; first | with_reducible assumption | (with_reducible apply News.tail1; first | with_reducible assumption | (with_reducible apply News.tail1; first | with_reducible assumption | (with_reducible apply News.tail1; first | with_reducible assumption | (with_reducible apply News.tail1; first | with_reducible assumption | (with_reducible apply News.tail1; first | with_reducible assumption | (with_reducible apply News.tail1; first | with_reducible assumption | (with_reducible apply News.tail1; first | with_reducible assumption | (with_reducible apply News.tail1; first | with_reducible assumption | (with_reducible apply News.tail1; first | with_reducible assumption | (with_reducible apply News.tail1; with_reducible assumption))))))))))))))); (case myz => with_reducible assumption); (case mye => omega))

theorem c246 (w : World) (h64 : C64 w) (h71 : C71 w) : C246 w := by
  intro x k far p W t hx hf
  have hf0 := hf
  unfold farOk at hf
  unfold SayV Ask
  k_fill
  intro p loose mean mg mb dp un gd cn cs a ccd cl outer A₀ base h₀ L mm news s Q E B F X N T hk hd hu hret
  refine wpAny_call ?_
  k_dflt (refine' code_def (binds := [(Str.ofString "jd", .float x t)]) ?k1 ?k2 ?k3 ?k4 ?k5 ?kA ?kF ?kK ?k6 ?k7 ?k8 ?k9 ?kB ?_ ?c2 ?c3 ?c4 ?c5; (case kA => exact rfl); (case kF => exact rfl); (case kK => assumption); (case k1 => k_asm); (case k2 => k_asm); (case k3 => k_asm); (case k4 => k_asm); (case k5 => k_asm); (case k6 => k_is); (case k7 => k_is); (case k8 => ktr_room); (case k9 => first | exact BindsTo.of_eq rfl | exact binds_K (by k_in) rfl (by k_is) rfl rfl rfl); (case c5 => decide); (case kB => exact locs rfl); (case c2 => exact rfl); (case c3 => exact rfl); (case c4 => exact rfl); k_whole; intro g' L' h' FG' F' N' B' X' T'; (try dsimp only [List.reverse_cons, List.reverse_nil, List.nil_append, List.cons_append]); (try k_lift B'); (try k_fold))
  k_steps
  all_goals (refine' endV hret ?myF ?myN ?myP; (case myF => with_reducible assumption); (case myN => first | with_reducible assumption | (with_reducible apply News.tail2; first | with_reducible assumption | (with_reducible apply News.tail2; first | with_reducible assumption | (with_reducible apply News.tail2; first | with_reducible assumption | (with_reducible apply News.tail2; first | with_reducible assumption | (with_reducible apply News.tail2; first | with_reducible assumption | (with_reducible apply News.tail2; first | with_reducible assumption | (with_reducible apply News.tail2; first | with_reducible assumption | (with_reducible apply News.tail2; first | with_reducible assumption | (with_reducible apply News.tail2; first | with_reducible assumption | (with_reducible apply News.tail2; first | with_reducible assumption | (with_reducible apply News.tail2; first | with_reducible assumption | (with_reducible apply News.tail2; first | with_reducible assumption | (with_reducible apply News.tail2; first | with_reducible assumption | (with_reducible apply News.tail2; with_reducible assumption))))))))))))))); (case myP => (refine ⟨_, _, _, _, rfl, ?_⟩; exact ⟨GrP.yr (by with_reducible assumption), by (have hq := GrP.sum (by with_reducible assumption : GrP (far + 730119) _ _ _)); omega⟩)))

theorem c253 (w : World)  : C253 w := by
  intro n most t1 t2 h1
  unfold SayP Ask
  k_fill
  intro p loose mean mg mb dp un gd cn cs a ccd cl outer A₀ base h₀ L mm news s Q E B F X N T hk hd hu hret
  refine wpAny_call ?_
  k_dflt (refine' code_def (binds := [(Str.ofString "number", .int n t1), (Str.ofString "most", .int most t2)]) ?k1 ?k2 ?k3 ?k4 ?k5 ?kA ?kF ?kK ?k6 ?k7 ?k8 ?k9 ?kB ?_ ?c2 ?c3 ?c4 ?c5; (case kA => exact rfl); (case kF => exact rfl); (case kK => assumption); (case k1 => k_asm); (case k2 => k_asm); (case k3 => k_asm); (case k4 => k_asm); (case k5 => k_asm); (case k6 => k_is); (case k7 => k_is); (case k8 => ktr_room); (case k9 => first | exact BindsTo.of_eq rfl | exact binds_K (by k_in) rfl (by k_is) rfl rfl rfl); (case c5 => decide); (case kB => exact locs rfl); (case c2 => exact rfl); (case c3 => exact rfl); (case c4 => exact rfl); k_whole; intro g' L' h' FG' F' N' B' X' T'; (try dsimp only [List.reverse_cons, List.reverse_nil, List.nil_append, List.cons_append]); (try k_lift B'); (try k_fold))
  k_steps
  all_goals (exact hret _ _ (by (show _ ∧ _; constructor <;> omega)) _ _ (by with_reducible assumption) (by with_reducible assumption))

theorem c267 (w : World) (h64 : C64 w) (h71 : C71 w) (h239 : C239 w) (h246 : C246 w) (h211 : C211 w) (h218 : C218 w) (h109 : C109 w) (h116 : C116 w) : C267 w := by
  intro x y k far p W t1 t2 t3 hx hy hf
  have hf0 := hf
  unfold farOk at hf
  unfold SayB Ask
  k_fill
  intro p loose mean mg mb dp un gd cn cs a ccd cl outer A₀ base h₀ L mm news s Q E B F X N T hk hd hu hret
  refine wpAny_call ?_
  k_dflt (refine' code_def (binds := [(Str.ofString "start", .float x t1), (Str.ofString "far", .int far t2), (Str.ofString "part", .float y t3)]) ?k1 ?k2 ?k3 ?k4 ?k5 ?kA ?kF ?kK ?k6 ?k7 ?k8 ?k9 ?kB ?_ ?c2 ?c3 ?c4 ?c5; (case kA => exact rfl); (case kF => exact rfl); (case kK => assumption); (case k1 => k_asm); (case k2 => k_asm); (case k3 => k_asm); (case k4 => k_asm); (case k5 => k_asm); (case k6 => k_is); (case k7 => k_is); (case k8 => ktr_room); (case k9 => first | exact BindsTo.of_eq rfl | exact binds_K (by k_in) rfl (by k_is) rfl rfl rfl); (case c5 => decide); (case kB => exact locs rfl); (case c2 => exact rfl); (case c3 => exact rfl); (case c4 => exact rfl); k_whole; intro g' L' h' FG' F' N' B' X' T'; (try dsimp only [List.reverse_cons, List.reverse_nil, List.nil_append, List.cons_append]); (try k_lift B'); (try k_fold))
  k_steps
  all_goals (exact hret _ _ (by with_reducible assumption) (by first | with_reducible assumption | (with_reducible apply News.tail1; first | with_reducible assumption | (with_reducible apply News.tail1; first | with_reducible assumption | (with_reducible apply News.tail1; first | with_reducible assumption | (with_reducible apply News.tail1; first | with_reducible assumption | (with_reducible apply News.tail1; first | with_reducible assumption | (with_reducible apply News.tail1; first | with_reducible assumption | (with_reducible apply News.tail1; first | with_reducible assumption | (with_reducible apply News.tail1; first | with_reducible assumption | (with_reducible apply News.tail1; first | with_reducible assumption | (with_reducible apply News.tail1; first | with_reducible assumption | (with_reducible apply News.tail1; first | with_reducible assumption | (with_reducible apply News.tail1; first | with_reducible assumption | (with_reducible apply News.tail1; first | with_reducible assumption | (with_reducible apply News.tail1; first | with_reducible assumption | (with_reducible apply News.tail1; first | with_reducible assumption | (with_reducible apply News.tail1; first | with_reducible assumption | (with_reducible apply News.tail1; first | with_reducible assumption | (with_reducible apply News.tail1; first | with_reducible assumption | (with_reducible apply News.tail1; first | with_reducible assumption | (with_reducible apply News.tail1; first | with_reducible assumption | (with_reducible apply News.tail1; first | with_reducible assumption | (with_reducible apply News.tail1; first | with_reducible assumption | (with_reducible apply News.tail1; first | with_reducible assumption | (with_reducible apply News.tail1; first | with_reducible assumption | (with_reducible apply News.tail1; first | with_reducible assumption | (with_reducible apply News.tail1; first | with_reducible assumption | (with_reducible apply News.tail1; first | with_reducible assumption | (with_reducible apply News.tail1; first | with_reducible assumption | (with_reducible apply News.tail1; first | with_reducible assumption | (with_reducible apply News.tail1; first | with_reducible assumption | (with_reducible apply News.tail1; first | with_reducible assumption | (with_reducible apply News.tail1; first | with_reducible assumption | (with_reducible apply News.tail1; first | with_reducible assumption | (with_reducible apply News.tail1; first | with_reducible assumption | (with_reducible apply News.tail1; first | with_reducible assumption | (with_reducible apply News.tail1; first | with_reducible assumption | (with_reducible apply News.tail1; first | with_reducible assumption | (with_reducible apply News.tail1; first | with_reducible assumption | (with_reducible apply News.tail1; first | with_reducible assumption | (with_reducible apply News.tail1; with_reducible assumption))))))))))))))))))))))))))))))))))))))))))

theorem c274 (w : World) (h94 : C94 w) (h102 : C102 w) (h225 : C225 w) (h232 : C232 w) : C274 w := by
  intro x y k far p W t1 t2 t3 hx hy hf h0
  have hf0 := hf
  unfold farOk at hf
  unfold SayB Ask
  k_fill
  intro p loose mean mg mb dp un gd cn cs a ccd cl outer A₀ base h₀ L mm news s Q E B F X N T hk hd hu hret
  refine wpAny_call ?_
  k_dflt (refine' code_def (binds := [(Str.ofString "start", .float x t1), (Str.ofString "far", .int far t2), (Str.ofString "part", .float y t3)]) ?k1 ?k2 ?k3 ?k4 ?k5 ?kA ?kF ?kK ?k6 ?k7 ?k8 ?k9 ?kB ?_ ?c2 ?c3 ?c4 ?c5; (case kA => exact rfl); (case kF => exact rfl); (case kK => assumption); (case k1 => k_asm); (case k2 => k_asm); (case k3 => k_asm); (case k4 => k_asm); (case k5 => k_asm); (case k6 => k_is); (case k7 => k_is); (case k8 => ktr_room); (case k9 => first | exact BindsTo.of_eq rfl | exact binds_K (by k_in) rfl (by k_is) rfl rfl rfl); (case c5 => decide); (case kB => exact locs rfl); (case c2 => exact rfl); (case c3 => exact rfl); (case c4 => exact rfl); k_whole; intro g' L' h' FG' F' N' B' X' T'; (try dsimp only [List.reverse_cons, List.reverse_nil, List.nil_append, List.cons_append]); (try k_lift B'); (try k_fold))
  k_steps
  all_goals (exact hret _ _ (by with_reducible assumption) (by first | with_reducible assumption | (with_reducible apply News.tail1; first | with_reducible assumption | (with_reducible apply News.tail1; first | with_reducible assumption | (with_reducible apply News.tail1; first | with_reducible assumption | (with_reducible apply News.tail1; first | with_reducible assumption | (with_reducible apply News.tail1; first | with_reducible assumption | (with_reducible apply News.tail1; first | with_reducible assumption | (with_reducible apply News.tail1; first | with_reducible assumption | (with_reducible apply News.tail1; first | with_reducible assumption | (with_reducible apply News.tail1; first | with_reducible assumption | (with_reducible apply News.tail1; first | with_reducible assumption | (with_reducible apply News.tail1; first | with_reducible assumption | (with_reducible apply News.tail1; first | with_reducible assumption | (with_reducible apply News.tail1; first | with_reducible assumption | (with_reducible apply News.tail1; first | with_reducible assumption | (with_reducible apply News.tail1; first | with_reducible assumption | (with_reducible apply News.tail1; first | with_reducible assumption | (with_reducible apply News.tail1; first | with_reducible assumption | (with_reducible apply News.tail1; first | with_reducible assumption | (with_reducible apply News.tail1; first | with_reducible assumption | (with_reducible apply News.tail1; first | with_reducible assumption | (with_reducible apply News.tail1; first | with_reducible assumption | (with_reducible apply News.tail1; first | with_reducible assumption | (with_reducible apply News.tail1; first | with_reducible assumption | (with_reducible apply News.tail1; first | with_reducible assumption | (with_reducible apply News.tail1; first | with_reducible assumption | (with_reducible apply News.tail1; first | with_reducible assumption | (with_reducible apply News.tail1; first | with_reducible assumption | (with_reducible apply News.tail1; first | with_reducible assumption | (with_reducible apply News.tail1; first | with_reducible assumption | (with_reducible apply News.tail1; first | with_reducible assumption | (with_reducible apply News.tail1; first | with_reducible assumption | (with_reducible apply News.tail1; first | with_reducible assumption | (with_reducible apply News.tail1; first | with_reducible assumption | (with_reducible apply News.tail1; first | with_reducible assumption | (with_reducible apply News.tail1; first | with_reducible assumption | (with_reducible apply News.tail1; first | with_reducible assumption | (with_reducible apply News.tail1; first | with_reducible assumption | (with_reducible apply News.tail1; first | with_reducible assumption | (with_reducible apply News.tail1; first | with_reducible assumption | (with_reducible apply News.tail1; with_reducible assumption))))))))))))))))))))))))))))))))))))))))))

theorem c281 (w : World) (h175 : C175 w) (h182 : C182 w) (h161 : C161 w) (h168 : C168 w) (h132 : C132 w) (h147 : C147 w) : C281 w := by
  intro x y k far p W t1 t2 t3 hx hy hf hp
  have hf0 := hf
  unfold farOk at hf
  unfold SayB Ask
  k_fill
  intro p loose mean mg mb dp un gd cn cs a ccd cl outer A₀ base h₀ L mm news s Q E B F X N T hk hd hu hret
  refine wpAny_call ?_
  k_dflt (refine' code_def (binds := [(Str.ofString "start", .float x t1), (Str.ofString "far", .int far t2), (Str.ofString "part", .float y t3)]) ?k1 ?k2 ?k3 ?k4 ?k5 ?kA ?kF ?kK ?k6 ?k7 ?k8 ?k9 ?kB ?_ ?c2 ?c3 ?c4 ?c5; (case kA => exact rfl); (case kF => exact rfl); (case kK => assumption); (case k1 => k_asm); (case k2 => k_asm); (case k3 => k_asm); (case k4 => k_asm); (case k5 => k_asm); (case k6 => k_is); (case k7 => k_is); (case k8 => ktr_room); (case k9 => first | exact BindsTo.of_eq rfl | exact binds_K (by k_in) rfl (by k_is) rfl rfl rfl); (case c5 => decide); (case kB => exact locs rfl); (case c2 => exact rfl); (case c3 => exact rfl); (case c4 => exact rfl); k_whole; intro g' L' h' FG' F' N' B' X' T'; (try dsimp only [List.reverse_cons, List.reverse_nil, List.nil_append, List.cons_append]); (try k_lift B'); (try k_fold))
  k_steps
  all_goals (exact hret _ _ (by with_reducible assumption) (by first | with_reducible assumption | (with_reducible apply News.tail1; first | with_reducible assumption | (with_reducible apply News.tail1; first | with_reducible assumption | (with_reducible apply News.tail1; first | with_reducible assumption | (with_reducible apply News.tail1; first | with_reducible assumption | (with_reducible apply News.tail1; first | with_reducible assumption | (with_reducible apply News.tail1; first | with_reducible assumption | (with_reducible apply News.tail1; first | with_reducible assumption | (with_reducible apply News.tail1; first | with_reducible assumption | (with_reducible apply News.tail1; first | with_reducible assumption | (with_reducible apply News.tail1; first | with_reducible assumption | (with_reducible apply News.tail1; first | with_reducible assumption | (with_reducible apply News.tail1; first | with_reducible assumption | (with_reducible apply News.tail1; first | with_reducible assumption | (with_reducible apply News.tail1; first | with_reducible assumption | (with_reducible apply News.tail1; first | with_reducible assumption | (with_reducible apply News.tail1; first | with_reducible assumption | (with_reducible apply News.tail1; first | with_reducible assumption | (with_reducible apply News.tail1; first | with_reducible assumption | (with_reducible apply News.tail1; first | with_reducible assumption | (with_reducible apply News.tail1; first | with_reducible assumption | (with_reducible apply News.tail1; first | with_reducible assumption | (with_reducible apply News.tail1; first | with_reducible assumption | (with_reducible apply News.tail1; first | with_reducible assumption | (with_reducible apply News.tail1; first | with_reducible assumption | (with_reducible apply News.tail1; first | with_reducible assumption | (with_reducible apply News.tail1; first | with_reducible assumption | (with_reducible apply News.tail1; first | with_reducible assumption | (with_reducible apply News.tail1; first | with_reducible assumption | (with_reducible apply News.tail1; first | with_reducible assumption | (with_reducible apply News.tail1; first | with_reducible assumption | (with_reducible apply News.tail1; first | with_reducible assumption | (with_reducible apply News.tail1; first | with_reducible assumption | (with_reducible apply News.tail1; first | with_reducible assumption | (with_reducible apply News.tail1; first | with_reducible assumption | (with_reducible apply News.tail1; first | with_reducible assumption | (with_reducible apply News.tail1; first | with_reducible assumption | (with_reducible apply News.tail1; first | with_reducible assumption | (with_reducible apply News.tail1; first | with_reducible assumption | (with_reducible apply News.tail1; first | with_reducible assumption | (with_reducible apply News.tail1; with_reducible assumption))))))))))))))))))))))))))))))))))))))))))

theorem lawHolds (hc : ∀ w, C253 w ∧ C64 w ∧ C267 w ∧ C274 w ∧ C281 w) : PySem.Challenge.rw_ad5039_01.Holds := Mine.hd (by
  w_strict (k_go0; (all_goals try k_fold); rename World => w; obtain ⟨h253, h64, h267, h274, h281⟩ := hc w; rename Shared => s1; (all_goals (first | (k_unfold; (try dsimp only)) | walk1 | (dsimp only; walk1) | skip)); (all_goals (first | (k_unfold; (try dsimp only)) | walk1 | (dsimp only; walk1) | skip)); (all_goals (first | (k_unfold; (try dsimp only)) | walk1 | (dsimp only; walk1) | skip)); (all_goals (first | (k_unfold; (try dsimp only)) | walk1 | (dsimp only; walk1) | skip)); (all_goals (first | (k_unfold; (try dsimp only)) | walk1 | (dsimp only; walk1) | skip)); (all_goals (first | (k_unfold; (try dsimp only)) | walk1 | (dsimp only; walk1) | skip)); (all_goals (first | (k_unfold; (try dsimp only)) | walk1 | (dsimp only; walk1) | skip)); (all_goals (first | (k_unfold; (try dsimp only)) | walk1 | (dsimp only; walk1) | skip)); (all_goals (first | (k_unfold; (try dsimp only)) | walk1 | (dsimp only; walk1) | skip)); (all_goals (first | (k_unfold; (try dsimp only)) | walk1 | (dsimp only; walk1) | skip)); (all_goals (first | (k_unfold; (try dsimp only)) | walk1 | (dsimp only; walk1) | skip)); (all_goals (first | (k_unfold; (try dsimp only)) | walk1 | (dsimp only; walk1) | skip)); (refine gen_st (s0 := s1) rfl rfl rfl ?_; intro tk9); (all_goals (first | (k_unfold; (try dsimp only)) | walk1 | (dsimp only; walk1) | skip)); (all_goals (first | (k_unfold; (try dsimp only)) | walk1 | (dsimp only; walk1) | skip)); (all_goals (first | (k_unfold; (try dsimp only)) | walk1 | (dsimp only; walk1) | skip)); (all_goals (first | (k_unfold; (try dsimp only)) | walk1 | (dsimp only; walk1) | skip)); (all_goals (first | (k_unfold; (try dsimp only)) | walk1 | (dsimp only; walk1) | skip)); (all_goals (first | (k_unfold; (try dsimp only)) | walk1 | (dsimp only; walk1) | skip)); (all_goals (first | (k_unfold; (try dsimp only)) | walk1 | (dsimp only; walk1) | skip)); (all_goals (first | (k_unfold; (try dsimp only)) | walk1 | (dsimp only; walk1) | skip)); (all_goals (first | (k_unfold; (try dsimp only)) | walk1 | (dsimp only; walk1) | skip)); (all_goals (first | (k_unfold; (try dsimp only)) | walk1 | (dsimp only; walk1) | skip)); (refine gen_st (s0 := s1) rfl rfl rfl ?_; intro tk9); (all_goals (first | (k_unfold; (try dsimp only)) | walk1 | (dsimp only; walk1) | skip)); (all_goals (first | (k_unfold; (try dsimp only)) | walk1 | (dsimp only; walk1) | skip)); (all_goals (first | (k_unfold; (try dsimp only)) | walk1 | (dsimp only; walk1) | skip)); (all_goals (first | (k_unfold; (try dsimp only)) | walk1 | (dsimp only; walk1) | skip)); (all_goals (first | (k_unfold; (try dsimp only)) | walk1 | (dsimp only; walk1) | skip)); (all_goals (first | (k_unfold; (try dsimp only)) | walk1 | (dsimp only; walk1) | skip)); (all_goals (first | (k_unfold; (try dsimp only)) | walk1 | (dsimp only; walk1) | skip)); (refine gen_st (s0 := s1) rfl rfl rfl ?_; intro tk9; (try dsimp only)); rename IntsAre _ (List.take 3 (_ ++ _)) => hI9; obtain ⟨x9, y9, z9, t9, u9, v9, hw9⟩ := ints3 hI9; subst hw9; (refine gen_st (s0 := s1) rfl rfl rfl ?_; intro tk9; (try dsimp only)); k_steps))
theorem allC (w : World) : C253 w ∧ C64 w ∧ C267 w ∧ C274 w ∧ C281 w := by
  have h50 := c50 w
  have h57 := c57 w h50
  have h64 := c64 w h50 h57
  have h71 := c71 w h50 h64
  have h94 := c94 w (c79 w)
  have h109 := c109 w
  have h175 := c175 w
  have h225 := c225 w
  exact ⟨c253 w, h64, c267 w h64 h71 (c239 w h64) (c246 w h64 h71) (c211 w) (c218 w (c204 w (c190 w))) h109 (c116 w h109),
    c274 w h94 (c102 w) h225 (c232 w), c281 w h175 (c182 w h175) (c161 w h50 h64) (c168 w h50 h64 h71) (c132 w) (c147 w)⟩
end Mine
set_option maxRecDepth 100000 in
set_option maxHeartbeats 8000000 in
theorem PySem.Challenge.cw_ad5039_01_holds : PySem.Challenge.rw_ad5039_01.Holds := by
  exact Mine.lawHolds Mine.allC
