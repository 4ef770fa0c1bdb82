/- What the finite reckoning of YtkjepgahnaieaaaDoorFl says, as laws: the order of two weights' floats; that the difference is small. -/
import Derived.Test.YtkjepgahnaieaaaDoorFl
namespace Go.Proofs.YtkjepgahnaieaaaDoor.PFnAccept
open Go

theorem shl_split (m a b : Nat) : m <<< (a + b) = (m <<< a) * 2 ^ b := by
  rw [Nat.shiftLeft_eq, Nat.shiftLeft_eq, Nat.pow_add, Nat.mul_assoc]
theorem order_units {x y a b : Nat} (hx : unitsF x = some a) (hy : unitsF y = some b) : FloatKind.f64.format.order x y = some (compare a b) := by
  unfold unitsF at hx hy
  split at hx
  · rename_i m i hi
    split at hx
    · rename_i hli
      split at hy
      · rename_i n j hj
        split at hy
        · rename_i hlj
          have ha := Option.some.inj hx
          have hb := Option.some.inj hy
          unfold Ieee.Format.order
          rw [hi, hj]
          simp only [Ieee.Datum.order, Ieee.signed, Bool.false_eq_true, if_false]
          congr 1
          generalize FloatKind.f64.format.leastPlace = L at hli hlj ha hb
          have h1 : (i - L).toNat = (i - min i j).toNat + (min i j - L).toNat := by omega
          have h2 : (j - L).toNat = (j - min i j).toNat + (min i j - L).toNat := by omega
          rw [h1, shl_split] at ha
          rw [h2, shl_split] at hb
          generalize m <<< (i - min i j).toNat = p at ha ⊢
          generalize n <<< (j - min i j).toNat = q at hb ⊢
          have hp : 0 < 2 ^ (min i j - L).toNat := Nat.pow_pos (by decide)
          generalize 2 ^ (min i j - L).toNat = c at ha hb hp
          subst ha
          subst hb
          rcases Nat.lt_trichotomy p q with h | h | h
          · rw [Nat.compare_eq_lt.2 (Nat.mul_lt_mul_of_pos_right h hp)]
            show compareOfLessAndEq (p : Int) (q : Int) = _
            unfold compareOfLessAndEq
            rw [if_pos (by omega)]
          · subst h
            rw [Nat.compare_eq_eq.2 rfl]
            simp
          · rw [Nat.compare_eq_gt.2 (Nat.mul_lt_mul_of_pos_right h hp)]
            show compareOfLessAndEq (p : Int) (q : Int) = _
            unfold compareOfLessAndEq
            rw [if_neg (by omega), if_neg (by omega)]
        · cases hy
      · cases hy
    · cases hx
  · cases hx

theorem up_at {n : Nat} (h : n < 1000) : ∃ a b, unitsF (qF n) = some a ∧ unitsF (qF (n + 1)) = some b ∧ a < b := by
  have hu := List.all_eq_true.1 up_all n (List.mem_range.2 h)
  unfold upF at hu
  split at hu
  · rename_i a b ha hb
    exact ⟨a, b, ha, hb, of_decide_eq_true hu⟩
  · cases hu
/-- The units of a weight's float. -/
def uF (n : Nat) : Nat := (unitsF (qF n)).getD 0
theorem units_F {n : Nat} (h : n ≤ 1000) : unitsF (qF n) = some (uF n) := by
  unfold uF
  cases n with
  | zero => obtain ⟨a, _, ha, _⟩ := up_at (n := 0) (by omega); rw [ha]; rfl
  | succ n => obtain ⟨_, b, _, hb, _⟩ := up_at (n := n) (by omega); rw [hb]; rfl
theorem uF_succ {n : Nat} (h : n < 1000) : uF n < uF (n + 1) := by
  obtain ⟨a, b, ha, hb, hab⟩ := up_at h
  unfold uF
  rw [ha, hb]
  exact hab
theorem uF_lt {a : Nat} : ∀ d : Nat, a + d + 1 ≤ 1000 → uF a < uF (a + d + 1)
  | 0, h => uF_succ (by omega)
  | d + 1, h => Nat.lt_trans (uF_lt d (by omega)) (uF_succ (n := a + d + 1) (by omega))
/-- TWO WEIGHTS' FLOATS STAND AS THEIR NUMBERS DO. -/
theorem order_F {a b : Nat} (ha : a ≤ 1000) (hb : b ≤ 1000) : (FloatKind.f64.format.order (qF a) (qF b) == some .gt) = decide (b < a) := by
  rw [order_units (units_F ha) (units_F hb)]
  rcases Nat.lt_trichotomy a b with h | h | h
  · have h1 : uF a < uF b := by
      have := uF_lt (a := a) (b - a - 1) (by omega)
      rwa [show a + (b - a - 1) + 1 = b by omega] at this
    rw [Nat.compare_eq_lt.2 h1, decide_eq_false (by omega)]
    rfl
  · subst h
    rw [Nat.compare_eq_eq.2 rfl, decide_eq_false (by omega)]
    rfl
  · have h1 : uF b < uF a := by
      have := uF_lt (a := b) (a - b - 1) (by omega)
      rwa [show b + (a - b - 1) + 1 = a by omega] at this
    rw [Nat.compare_eq_gt.2 h1, decide_eq_true h]
    rfl
/-- WHAT THE STATEMENT RECKONS WITH A WEIGHT. -/
theorem near_F {n : Nat} (h : n ≤ 1000) : ∃ p d, floatBits .mul .f64 (qF n) 4652007308841189376 = some p ∧ floatBits .sub .f64 p (floatOfInt .f64 (n : Int)) = some d ∧ (FloatKind.f64.format.order d 4562254508917369340 == some .gt) = false ∧ (FloatKind.f64.format.order d 13785626545772145148 == some .lt) = false := by
  have hc := List.all_eq_true.1 chk_all n (List.mem_range.2 (by omega))
  unfold chkF at hc
  split at hc
  · cases hc
  · rename_i q hq
    have e : qF n = q := by unfold qF; rw [hq]; rfl
    rw [e]
    split at hc
    · cases hc
    · rename_i p hp
      split at hc
      · cases hc
      · rename_i d hd
        rw [Bool.and_eq_true, Bool.not_eq_true', Bool.not_eq_true'] at hc
        exact ⟨p, d, hp, hd, hc.1, hc.2⟩
theorem div_F {n : Nat} (h : n ≤ 1000) : floatBits .quo .f64 (floatOfInt .f64 (n : Int)) 4652007308841189376 = some (qF n) := by
  have hc := List.all_eq_true.1 chk_all n (List.mem_range.2 (by omega))
  unfold chkF at hc
  split at hc
  · cases hc
  · rename_i q hq
    unfold qF
    rw [hq]
    rfl
end Go.Proofs.YtkjepgahnaieaaaDoor.PFnAccept
