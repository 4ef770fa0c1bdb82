/- internal/strconv.readFloat at '0.' and three figures: the mantissa is their number, the exponent -3 (0 for a mantissa of 0), all five bytes are read. -/
import Derived.Test.YtkjepgahnaieaaaDoorTb
import Derived.Outline
import Derived.WalkMore
namespace Go.Proofs.YtkjepgahnaieaaaDoor.PFnAccept
open Go.RowKit Go.Proofs.YtkjepgahnaieaaaDoorW.PrintWords Go.Proofs.YtkjepgahnaieaaaDoorW.PrintLast Go.Proofs.YtkjepgahnaieaaaDoorW.PrintMore

/-- '0.' and three figures. -/
structure Dec (s : ByteArray) (n : Nat) : Prop where
  size : s.size = 5
  b0 : bt s 0 = 48
  b1 : bt s 1 = 46
  d2 : 48 ≤ bt s 2 ∧ bt s 2 ≤ 57
  d3 : 48 ≤ bt s 3 ∧ bt s 3 ≤ 57
  d4 : 48 ≤ bt s 4 ∧ bt s 4 ≤ 57
  val : (bt s 2 - 48) * 100 + (bt s 3 - 48) * 10 + (bt s 4 - 48) = n

/-- The number of the figures ahead of place k. -/
def valD (s : ByteArray) : Nat → Int
  | k + 3 => valD s (k + 2) * 10 + (bt s ((k + 2 : Nat) : Int) - 48)
  | _ => 0
theorem Dec.fig {s : ByteArray} {n : Nat} (h : Dec s n) (k : Nat) (h2 : 2 ≤ k) (h5 : k < 5) : 48 ≤ bt s (k : Int) ∧ bt s (k : Int) ≤ 57 := by
  have : k = 2 ∨ k = 3 ∨ k = 4 := by omega
  rcases this with rfl | rfl | rfl
  · exact h.d2
  · exact h.d3
  · exact h.d4
theorem valD_step (s : ByteArray) (k : Nat) (h2 : 2 ≤ k) : valD s (k + 1) = valD s k * 10 + (bt s (k : Int) - 48) := by
  obtain ⟨j, rfl⟩ : ∃ j, k = j + 2 := ⟨k - 2, by omega⟩
  rfl
theorem Dec.all {s : ByteArray} {n : Nat} (h : Dec s n) : valD s 5 = n := by
  have e : valD s 5 = ((0 * 10 + (bt s 2 - 48)) * 10 + (bt s 3 - 48)) * 10 + (bt s 4 - 48) := rfl
  have := h.val
  omega
theorem Dec.bound {s : ByteArray} {n : Nat} (h : Dec s n) (k : Nat) (h2 : 2 ≤ k) (h5 : k ≤ 5) : 0 ≤ valD s k ∧ valD s k ≤ 999 := by
  have a := h.d2; have b := h.d3; have c := h.d4
  have e3 : valD s 3 = 0 * 10 + (bt s 2 - 48) := rfl
  have e4 : valD s 4 = (0 * 10 + (bt s 2 - 48)) * 10 + (bt s 3 - 48) := rfl
  have e5 : valD s 5 = ((0 * 10 + (bt s 2 - 48)) * 10 + (bt s 3 - 48)) * 10 + (bt s 4 - 48) := rfl
  have e2 : valD s 2 = 0 := rfl
  have : k = 2 ∨ k = 3 ∨ k = 4 ∨ k = 5 := by omega
  rcases this with rfl | rfl | rfl | rfl <;> omega
/-- What the loop keeps behind the point: the figures' number so far, how many of them count, the point's place. -/
structure RIn (s : ByteArray) (k : Nat) (m nd dp : Int) : Prop where
  lo : 2 ≤ k
  hi : k ≤ 5
  mant : m = valD s k
  pos : 0 ≤ nd
  sum : nd - dp = (k : Int) - 2
  neg : dp ≤ 0
  zero : nd = 0 → m = 0
def RS (s : ByteArray) (k : Nat) (m nd dp : Int) (dot dig : Bool) : Prop :=
  (k = 0 ∧ m = 0 ∧ nd = 0 ∧ dp = 0 ∧ dot = false ∧ dig = false) ∨ (k = 1 ∧ m = 0 ∧ nd = 0 ∧ dp = -1 ∧ dot = false ∧ dig = true) ∨ (RIn s k m nd dp ∧ dot = true ∧ dig = true)
theorem RIn.skip {s : ByteArray} {k : Nat} {m nd dp : Int} (h : RIn s k m nd dp) (hk : k < 5) (hx : bt s (k : Int) = 48) (h0 : nd = 0) : RIn s (k + 1) m nd (dp - 1) := by
  obtain ⟨h1, h2, h3, h4, h5, h6, h7⟩ := h
  refine ⟨by omega, by omega, ?_, h4, by omega, by omega, h7⟩
  rw [valD_step s k h1, ← h3, hx, h7 h0]
  omega
theorem RIn.take {s : ByteArray} {k : Nat} {m nd dp : Int} (h : RIn s k m nd dp) (hk : k < 5) : RIn s (k + 1) (m * 10 + (bt s (k : Int) - 48)) (nd + 1) dp := by
  obtain ⟨h1, h2, h3, h4, h5, h6, h7⟩ := h
  refine ⟨by omega, by omega, ?_, by omega, by omega, h6, by omega⟩
  rw [valD_step s k h1, ← h3]

set_option maxHeartbeats 4000000 in
set_option maxRecDepth 100000 in
theorem readFloat_calls (s : ByteArray) (n : Nat) (w : World) (h : Dec s n) :
    Calls Tryd.prog 43 #[.string s] w fun e w' => e = .returned (.tuple #[.int .u64 n, .int .i64 (if n = 0 then 0 else -3), .bool false, .bool false, .bool false, .int .i64 5, .bool true]) ∧ Drawn0 w w' := by
  have hsz0 := h.size
  have hx0 : ∀ h : 0 < s.size, ((s[0]'h).toNat : Int) = 48 := fun h1 => by rw [← h.b0]; simp [bt, h1]
  have hx1 : ∀ h : 1 < s.size, ((s[1]'h).toNat : Int) = 46 := fun h1 => by rw [← h.b1]; simp [bt, h1]
  have l46 : strconv_lower.f 46 = some 46 := by decide +kernel
  have HL := Aside0.mk l46
  have HH := Aside0.mk h
  have hs1 : s.size ≤ 5 := by omega
  have hs2 : 5 ≤ s.size := by omega
  have hne : ¬ s = ByteArray.empty := fun e => by rw [e] at hs2; exact absurd hs2 (by decide)
  have hlt2 : (2 : Int) < (s.size : Int) := by omega
  clear h hsz0 l46
  go_enter Tryd.func43, Tryd.ntmps43
  go_wp2
  go_step3
  go_wp2_with (go_at_call 59; (with_reducible refine (strconv_lower.calls 46 46 _ HL.out).mono ?_); rintro e w2 ⟨rfl, ⟨nd, rfl⟩⟩)
  go_step3
  go_wp2_with fail
  go_loop [2, 5, 7, 9, 13, 14, 15, 16, 17] (fun m tr i us dot dig nd nm dp => ∃ (k : Nat) (m' nd' dp' : Int) (dot' dig' : Bool), i = .int .i64 k ∧ m = .int .u64 m' ∧ tr = .bool false ∧ us = .bool false ∧ dot = .bool dot' ∧ dig = .bool dig' ∧ nd = .int .i64 nd' ∧ nm = .int .i64 nd' ∧ dp = .int .i64 dp' ∧ Aside0 (RS s k m' nd' dp' dot' dig')) (fun _ _ i _ _ _ _ _ _ => 5 - (intOf i).toNat)
  case atStart => exact ⟨0, 0, 0, 0, false, false, rfl, rfl, rfl, rfl, rfl, rfl, rfl, rfl, rfl, ⟨.inl ⟨rfl, rfl, rfl, rfl, rfl, rfl⟩⟩⟩
  case round =>
    obtain ⟨k, m', nd', dp', dot', dig', rfl, rfl, rfl, rfl, rfl, rfl, rfl, rfl, rfl, hR⟩ := hrel
    rcases hR.out with ⟨rfl, rfl, rfl, rfl, rfl, rfl⟩ | ⟨rfl, rfl, rfl, rfl, rfl, rfl⟩ | ⟨hI, rfl, rfl⟩
    · clear hR hx1
      go_wp2_with fail
      go_round
      case rel => exact ⟨1, 0, 0, -1, false, true, by go_num, rfl, rfl, rfl, rfl, rfl, rfl, rfl, rfl, ⟨.inr (.inl ⟨rfl, rfl, rfl, rfl, rfl, rfl⟩)⟩⟩
      case measure => simp [intOf]
    · clear hR hx0
      go_wp2_with fail
      go_round
      case rel => exact ⟨2, 0, 0, 0, true, true, by go_num, rfl, rfl, rfl, rfl, rfl, rfl, rfl, rfl, ⟨.inr (.inr ⟨⟨by omega, by omega, rfl, by omega, by omega, by omega, fun _ => rfl⟩, rfl, rfl⟩)⟩⟩
      case measure => simp [intOf]
    · clear hR hx0 hx1
      have HI := Aside0.mk hI
      have b1 := hI.lo
      have b2 := hI.hi
      have b3 := hI.pos
      have b4 := hI.neg
      have b5 := hI.sum
      have b6 := HH.out.bound k b1 b2
      rw [← hI.mant] at b6
      have b7 : nd' ≤ 3 := by omega
      have b8 : -3 ≤ dp' := by omega
      have b9 := b6.1
      have b10 := b6.2
      clear hI b5 b6
      by_cases hk : k < 5
      · have hf := HH.out.fig k b1 hk
        obtain ⟨x, hx⟩ : ∃ x, x = bt s (k : Int) := ⟨_, rfl⟩
        have hxk : ∀ h : k < s.size, ((s[k]'h).toNat : Int) = x := fun h1 => by rw [hx]; simp only [bt, Int.toNat_natCast, h1]; rfl
        rw [← hx] at hf
        have f1 := hf.1
        have f2 := hf.2
        have HX := Aside0.mk hx
        clear hf hx
        by_cases c1 : x = 48
        · subst c1
          by_cases c2 : nd' = 0
          · subst c2
            have HI' := Aside0.mk (HI.out.skip hk HX.out.symm rfl)
            clear f1 f2 b3 b7
            go_wp2_with fail
            go_round
            case rel => exact ⟨k + 1, _, _, _, true, true, by go_num, rfl, rfl, rfl, rfl, rfl, rfl, rfl, rfl, ⟨.inr (.inr ⟨HI'.out, rfl, rfl⟩)⟩⟩
            case measure => simp [intOf]; omega
          · have c2b : (nd' == 0) = false := beq_eq_false_iff_ne.2 c2
            have HI' := Aside0.mk (HI.out.take hk)
            rw [← HX.out, show m' * 10 + (48 - 48) = m' * 10 by omega] at HI'
            clear c2 f1 f2
            go_wp2_with fail
            go_round
            case rel => exact ⟨k + 1, _, _, _, true, true, by go_num, rfl, rfl, rfl, rfl, rfl, rfl, rfl, rfl, ⟨.inr (.inr ⟨HI'.out, rfl, rfl⟩)⟩⟩
            case measure => simp [intOf]; omega
        · have c1b : (x == 48) = false := beq_eq_false_iff_ne.2 c1
          have HI' := Aside0.mk (HI.out.take hk)
          rw [← HX.out] at HI'
          clear c1
          go_wp2_with fail
          go_round
          case rel => exact ⟨k + 1, _, _, _, true, true, by go_num, rfl, rfl, rfl, rfl, rfl, rfl, rfl, rfl, ⟨.inr (.inr ⟨HI'.out, rfl, rfl⟩)⟩⟩
          case measure => simp [intOf]; omega
      · obtain rfl : k = 5 := by omega
        have hm : m' = (n : Int) := by rw [HI.out.mant, HH.out.all]
        have hd : nd' - dp' = 3 := by have := HI.out.sum; omega
        obtain rfl : dp' = nd' - 3 := by omega
        subst hm
        clear hd b1 b2
        by_cases hn : n = 0
        · subst hn
          have n0 : (((0 : Nat) : Int) != 0) = false := rfl
          go_wp2_with fail
          refine bodyPost_ret (v := .tuple #[.int .u64 0, .int .i64 0, .bool false, .bool false, .bool false, .int .i64 5, .bool true]) (by simp [results, Tryd.results43, go_sem]) rfl ⟨rfl, ⟨nd, rfl⟩⟩
        · have n0 : ((n : Int) != 0) = true := bne_iff_ne.2 (by omega)
          go_wp2_with fail
          refine bodyPost_ret (v := .tuple #[.int .u64 n, .int .i64 (nd' - 3 - nd'), .bool false, .bool false, .bool false, .int .i64 5, .bool true]) (by simp [results, Tryd.results43, go_sem]) rfl ⟨?_, ⟨nd, rfl⟩⟩
          rw [show nd' - 3 - nd' = -3 by omega]
end Go.Proofs.YtkjepgahnaieaaaDoor.PFnAccept
