/- The walk of laws.FnTokens: at every path it returns true and leaves what was there. -/
import Derived.Test.YtkjepgahnaieaaaTd
namespace Go.Proofs.Ytkjepgahnaieaaa.PFnTokens
open Go.RowKit Go.Maps Go.Proofs.YtkjepgahnaieaaaW.PrintWords Go.Proofs.YtkjepgahnaieaaaW.PrintLast Go.Proofs.YtkjepgahnaieaaaW.PrintMore

def Yes (w0 : World) (e : Ending) (w' : World) : Prop := e = .returned (.bool true) ∧ Below w0.heap.size w0 w'

set_option maxHeartbeats 2000000 in
set_option maxRecDepth 100000 in
theorem law_any (s : ByteArray) (w : World) (hs : s.size ≤ 140737488351232) : Calls Try.prog 3 #[.string s] w (Yes w) := by
  by_cases hbig : s.size ≤ 2147483647
  · by_cases c1 : s.toList = []
    · have h1 : (s.toList == []) = true := by rw [c1]; rfl
      clear c1
      go_enter Try.func3, Try.ntmps3
      go_wp2_with (first | (go_at_call 4; (with_reducible refine (Template_any s w hbig).mono ?_); rintro e w1 ⟨v, n, b, rfl, hT, hb1⟩; have HT := Aside0.mk hT; have HB1 := Aside0.mk hb1; clear hT hb1) | (go_at_call 5; (with_reducible refine (works_calls _).mono ?_); rintro e w2 ⟨rfl, hb2⟩; have HB2 := Aside0.mk (below_step HB1.out hb2); clear hb2))
      all_goals (go_ret; exact ⟨rfl, HB2.out⟩)
    have h1 : (s.toList == []) = false := by simpa using c1
    by_cases c2 : s.toList = [47]
    · have h2 : (s.toList == [47]) = true := by rw [c2]; rfl
      clear c1 c2
      go_enter Try.func3, Try.ntmps3
      go_wp2_with (first | (go_at_call 4; (with_reducible refine (Template_any s w hbig).mono ?_); rintro e w1 ⟨v, n, b, rfl, hT, hb1⟩; have HT := Aside0.mk hT; have HB1 := Aside0.mk hb1; clear hT hb1) | (go_at_call 5; (with_reducible refine (works_calls _).mono ?_); rintro e w2 ⟨rfl, hb2⟩; have HB2 := Aside0.mk (below_step HB1.out hb2); clear hb2))
      all_goals (go_ret; exact ⟨rfl, HB2.out⟩)
    have h2 : (s.toList == [47]) = false := by simpa using c2
    have hd : s.toList = s.data.toList := Lib.toList_data s
    have HN := Aside0.mk (And.intro (hd ▸ c1) (hd ▸ c2))
    have hbd : decide ((2147483647 : Int) < (s.size : Int)) = false := decide_eq_false (by omega)
    clear c1 c2 hd
    go_enter Try.func3, Try.ntmps3
    go_wp2_with (first | (go_at_call 4; (with_reducible refine (Template_any s w hbig).mono ?_); rintro e w1 ⟨v, n, b, rfl, hT, hb1⟩; have HT := Aside0.mk hT; have HB1 := Aside0.mk hb1; clear hT hb1) | (go_at_call 5; (with_reducible refine (works_calls _).mono ?_); rintro e w2 ⟨rfl, hb2⟩; have HB2 := Aside0.mk (below_step HB1.out hb2); clear hb2))
    rotate_left
    · go_ret
      exact ⟨rfl, HB2.out⟩
    obtain rfl : b = true := by assumption
    have HG := Aside0.mk (show TG s.data.toList from by rcases HT.out rfl with h | h | h; exact absurd h HN.out.1; exact absurd h HN.out.2; exact h)
    have hsz : s.size ≤ 100 := by rw [Lib.size_eq]; exact HG.out.len
    obtain ⟨kt, hkt⟩ := (tokens_f s.data.toList (by rw [← Lib.size_eq]; omega) HN.out.2).rounds
    obtain ⟨kp, hkp⟩ := (parts_f s.data.toList (by rw [← Lib.size_eq]; omega)).rounds
    rw [mkB_data, same_cut HG.out] at hkt
    rw [mkB_data] at hkp
    have hpl := partsL_len s.data.toList
    rw [← Lib.size_eq] at hpl
    obtain ⟨ps, hps⟩ : ∃ ps, ps = (partsL s.data.toList).map mkB := ⟨_, rfl⟩
    have hplen : ps.length ≤ 101 := by rw [hps, List.length_map]; omega
    rw [← hps] at hkt hkp
    have HKT := Aside0.mk hkt
    have HKP := Aside0.mk hkp
    clear hkt hkp hps hpl HT HN HG
    (with_reducible refine (tokens_calls kt s ps _ HKT.out (by omega)).mono ?_); rintro e w2 ⟨v1, rfl, hR1, hb1⟩
    obtain ⟨A1, c1, rfl, _, hC1⟩ := Kd.R_reads hR1
    have HC1 := Aside0.mk hC1
    have HB2 := Aside0.mk (below_step HB1.out hb1)
    clear hR1 hC1 hb1 HB1
    go_wp2_with (go_at_call 7; (with_reducible refine (spec_Parts.calls kp s ps _ HKP.out).mono ?_); rintro e w3 ⟨v2, rfl, hR2, hb2⟩; obtain ⟨A2, c2, rfl, _, hC2⟩ := Kd.R_reads hR2; have HC2 := Aside0.mk hC2; have HC3 := Aside0.mk (Kd.C_below HC1.out hb2); have HB3 := Aside0.mk (below_step HB2.out hb2); clear hR2 hC2 hb2 HC1 HB2)
    go_loop [41] (fun i => ∃ j : Nat, j ≤ ps.length ∧ i = .int .i64 j) (fun i => ps.length - (intOf i).toNat)
    case atStart => exact ⟨0, Nat.zero_le _, rfl⟩
    case round =>
      obtain ⟨j, hj, rfl⟩ := hrel
      by_cases hlt : j < ps.length
      · obtain ⟨ad1, e1, hcell1⟩ := (Kd.reads_of_C (d := ByteArray.empty) HC3.out).at_ (j : Int) (by omega) (by omega)
        obtain ⟨ad2, e2, hcell2⟩ := (Kd.reads_of_C (d := ByteArray.empty) HC2.out).at_ (j : Int) (by omega) (by omega)
        obtain ⟨p, hp⟩ : ∃ p, p = rdOf ByteArray.empty ps (j : Int) := ⟨_, rfl⟩
        rw [← hp, Int.toNat_natCast] at hcell1 hcell2
        subst e1
        subst e2
        clear hp
        go_wp2_with fail
        go_round
        case rel => exact ⟨j + 1, by omega, by go_num⟩
        case measure => simp [intOf]; omega
      · go_wp2_with (go_at_call 5; (with_reducible refine (works_calls _).mono ?_); rintro e w4 ⟨rfl, hb4⟩; have HB4 := Aside0.mk (below_step HB3.out hb4); clear hb4)
        go_ret
        exact ⟨rfl, HB4.out⟩
  · go_enter Try.func3, Try.ntmps3
    go_wp2_with fail
    go_ret
    exact ⟨rfl, Below.refl _ _⟩
end Go.Proofs.Ytkjepgahnaieaaa.PFnTokens
