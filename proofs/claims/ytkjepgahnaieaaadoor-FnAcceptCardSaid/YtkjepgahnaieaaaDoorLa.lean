/- FnAccept's own walk: what its callees compute, put together. -/
import Derived.Test.YtkjepgahnaieaaaDoorAa
import Derived.Test.YtkjepgahnaieaaaDoorPd
import Derived.Test.YtkjepgahnaieaaaDoorTb
import Derived.BigQuiet
import Derived.WalkLawsBesides
namespace Go.Proofs.YtkjepgahnaieaaaDoor.PFnAccept
open Go.RowKit Go.Proofs.YtkjepgahnaieaaaDoorW.PrintWords Go.Proofs.YtkjepgahnaieaaaDoorW.PrintLast Go.Proofs.YtkjepgahnaieaaaDoorW.PrintMore
attribute [local go_sem] run_store_float
set_option linter.unusedSimpArgs false
set_option linter.unusedVariables false

/-- What is asked of a list that the law speaks of in full. -/
structure Good (l : List S30) : Prop where
  accept : ∃ k s, spec_Accept.f k l = some (mkB s) ∧ s.length ≤ 100000000000 ∧ Segs (splitL 44 s) (l.map toM)
  ordered : ∃ k ol, spec_Ordered.f k l = some ol ∧ sortL (l.map toM) = ol.map toM ∧ ∀ m, m ∈ ol → 0 ≤ m.f1 ∧ m.f1 ≤ 1000
  few : l.length ≤ 20
structure LawF (l : List S30) : Prop where
  fits : ∃ k r, laws_zzFits7.f k l = some r ∧ (r = true → ∃ k r, spec_Weighed.f k l = some r ∧ (r = true → Good l))

/-- What the loop over the wanted list keeps. -/
structure LInv (w0 wr : World) (v u : Value) (ol : List S30) : Prop where
  got : Kd.R k47 33 wr w0.heap.size (fun _ => True) v (ol.map toM)
  want : Kd.R k30 30 wr w0.heap.size (fun _ => True) u ol
  below : Below w0.heap.size w0 wr

set_option maxHeartbeats 8000000 in
set_option maxRecDepth 100000 in
theorem law_calls (A0 : Option Addr) (c0 : Nat) (l : List S30) (w : World) (hG : GL w) (hr0 : Kd.C k30 w A0 l.length l) (hc0 : l.length ≤ c0) (hF : LawF l) :
    Calls Tryd.prog 3 #[.slice A0 l.length c0] w fun e w' => e = .returned (.bool true) ∧ Below w.heap.size w w' := by
  obtain ⟨k1, r1, hf1, hF⟩ := hF.fits
  cases r1 with
  | false =>
    have HH := Aside0.mk (And.intro hr0 (And.intro hc0 hf1))
    clear hr0 hc0 hf1 hF hG
    go_enter Tryd.func3, Tryd.ntmps3
    go_wp2_with (go_at_call 4; (with_reducible refine (laws_zzFits7.calls k1 A0 c0 l false _ HH.out.1 HH.out.2.1 HH.out.2.2).mono ?_); rintro e w1 ⟨rfl, hb1⟩; have HB1 := Aside0.mk hb1; clear hb1)
    go_ret
    exact ⟨rfl, HB1.out⟩
  | true =>
    obtain ⟨k2, r2, hf2, hF⟩ := hF rfl
    cases r2 with
    | false =>
      have HH := Aside0.mk (And.intro hr0 (And.intro hc0 (And.intro hf1 hf2)))
      clear hr0 hc0 hf1 hf2 hF hG
      go_enter Tryd.func3, Tryd.ntmps3
      go_wp2_with (first | (go_at_call 4; (with_reducible refine (laws_zzFits7.calls k1 A0 c0 l true _ HH.out.1 HH.out.2.1 HH.out.2.2.1).mono ?_); rintro e w1 ⟨rfl, hb1⟩; have HB1 := Aside0.mk hb1; clear hb1) | (go_at_call 5; (with_reducible refine (spec_Weighed.calls k2 A0 c0 l false _ (Kd.C_below HH.out.1 HB1.out) HH.out.2.1 HH.out.2.2.2).mono ?_); rintro e w2 ⟨rfl, hb2⟩; have HB2 := Aside0.mk (below_step HB1.out hb2); clear hb2) | (go_at_call 6; (with_reducible refine (works_calls _).mono ?_); rintro e w3 ⟨rfl, hb3⟩; have HB3 := Aside0.mk (below_step HB2.out hb3); clear hb3))
      go_ret
      exact ⟨rfl, HB3.out⟩
    | true =>
      have hg := hF rfl
      obtain ⟨k3, s, hf3, hs, hseg⟩ := hg.accept
      obtain ⟨k4, ol, hf4, hsort, hwt⟩ := hg.ordered
      have hml : (l.map toM).length ≤ 20 := by rw [List.length_map]; exact hg.few
      have hol : ol.length ≤ 20 := by
        have h1 := congrArg List.length hsort
        rw [sortL_len, List.length_map, List.length_map] at h1
        rw [← h1]; exact hg.few
      have HH := Aside0.mk (And.intro hr0 (And.intro hc0 (And.intro hf1 (And.intro hf2 (And.intro hf3 hf4)))))
      have HS := Aside0.mk (And.intro hs (And.intro hseg (And.intro hml hsort)))
      have HW := Aside0.mk hwt
      have HG := Aside0.mk hG
      clear hr0 hc0 hf1 hf2 hf3 hf4 hF hG hs hseg hml hsort hwt hg
      go_enter Tryd.func3, Tryd.ntmps3
      go_wp2_with (first | (go_at_call 4; (with_reducible refine (laws_zzFits7.calls k1 A0 c0 l true _ HH.out.1 HH.out.2.1 HH.out.2.2.1).mono ?_); rintro e w1 ⟨rfl, hb1⟩; have HB1 := Aside0.mk hb1; clear hb1) | (go_at_call 5; (with_reducible refine (spec_Weighed.calls k2 A0 c0 l true _ (Kd.C_below HH.out.1 HB1.out) HH.out.2.1 HH.out.2.2.2.1).mono ?_); rintro e w2 ⟨rfl, hb2⟩; have HB2 := Aside0.mk (below_step HB1.out hb2); clear hb2) | (go_at_call 8; (with_reducible refine (spec_Accept.calls k3 A0 c0 l (mkB s) _ (Kd.C_below HH.out.1 HB2.out) HH.out.2.1 HH.out.2.2.2.2.1).mono ?_); rintro e w3 ⟨rfl, hb3⟩; have HB3 := Aside0.mk (below_step HB2.out hb3); clear hb3) | (go_at_call 7; (with_reducible refine (accepts_calls s (l.map toM) _ (HG.out.below HB3.out) HS.out.1 HS.out.2.1 HS.out.2.2.1).mono ?_); rintro e w4 ⟨v4, rfl, hR4, hb4⟩; have HB4 := Aside0.mk (below_step HB3.out hb4); have HV4 := Aside0.mk (Kd.R_lower hR4 HB3.out.size); clear hb4 hR4; rw [HS.out.2.2.2] at HV4) | (go_at_call 9; (with_reducible refine (spec_Ordered.calls k4 A0 c0 l ol _ (Kd.C_below HH.out.1 HB4.out) HH.out.2.1 HH.out.2.2.2.2.2).mono ?_); rintro e w5 ⟨v5, rfl, hR5, hb5⟩; have HI := Aside0.mk (show LInv w w5 v4 v5 ol from ⟨Kd.R_below HV4.out hb5, Kd.R_lower hR5 HB4.out.size, below_step HB4.out hb5⟩); clear hb5 hR5 HV4; obtain ⟨A4, c4, e4⟩ := Kd.R_slice HI.out.got; subst e4; obtain ⟨A5, c5, e5⟩ := Kd.R_slice HI.out.want; subst e5; rw [List.length_map] at HI; rw [List.length_map]))
      go_loopw [27] (fun i wr => ∃ j : Nat, j ≤ ol.length ∧ i = .int .i64 j ∧ Aside0 (LInv w wr (.slice A4 ol.length c4) (.slice A5 ol.length c5) ol)) (fun i _ => ol.length - (intOf i).toNat)
      case atStart => exact ⟨0, Nat.zero_le _, rfl, HI⟩
      case round =>
        clear HI
        obtain ⟨j, hj, rfl, HI⟩ := hrel
        by_cases hlt : j < ol.length
        · obtain ⟨ad, e1, hw0, hw1⟩ := at_T30 (Kd.R_reads' HI.out.want).2.2 (j : Int) (by omega) (by omega)
          obtain ⟨ad2, e2, hg0, hg1⟩ := at_T47 (Kd.R_reads' HI.out.got).2.2 j (by rw [List.length_map]; exact hlt)
          obtain ⟨m, hm⟩ : ∃ m, m = ol.getD j z30 := ⟨_, rfl⟩
          have hm1 : rd_T30 ol (j : Int) = m := by rw [hm]; rfl
          have hm2 : (ol.map toM).getD j z47 = toM m := by
            rw [hm]
            simp only [List.getD_eq_getElem?_getD, List.getElem?_map, List.getElem?_eq_getElem hlt, Option.map_some, Option.getD_some]
          have hin : m ∈ ol := by
            rw [hm, List.getD_eq_getElem?_getD, List.getElem?_eq_getElem hlt, Option.getD_some]
            exact List.getElem_mem hlt
          obtain ⟨hlo, hhi⟩ := HW.out m hin
          rw [hm1, Int.toNat_natCast] at hw0 hw1
          rw [hm2] at hg0 hg1
          subst e1
          subst e2
          clear hm1 hm2 hin hm
          obtain ⟨f0, f1⟩ := m
          obtain ⟨n, rfl⟩ : ∃ n : Nat, f1 = (n : Int) := ⟨f1.toNat, by simp only at hlo; omega⟩
          simp only [toM, Int.toNat_natCast] at hw0 hw1 hg0 hg1
          obtain ⟨p, d, hmul, hsub, hgt, hls⟩ := near_F (n := n) (by simp only at hhi; omega)
          have hmul' := fun W => run_float_arith (P := Tryd.prog) W .mul 31 .f64 (qF n) 4652007308841189376 p hmul
          have hsub' := fun W => run_float_arith (P := Tryd.prog) W .sub 31 .f64 p (floatOfInt .f64 (n : Int)) d hsub
          clear hmul hsub hlo hhi
          go_wp2_with fail
          obtain ⟨W0, hW0⟩ : ∃ W0, W0 = wr.alloc (.cells #[.string f0, .int .i64 n] 30) := ⟨_, rfl⟩
          rw [← hW0]
          have hb := blk_new wr (.cells #[.string f0, .int .i64 n] 30)
          rw [← hW0] at hb
          have hd0 : W0.cell? ⟨wr.heap.size, 0, none⟩ = some (.string f0) := blk_cell hb 0
          have hd1 : W0.cell? ⟨wr.heap.size, 1, none⟩ = some (.int .i64 n) := blk_cell hb 1
          have hB0 : Below wr.heap.size wr W0 := by rw [hW0]; exact below_alloc (Below.refl _ _) _
          have hg0' := pw_cell_below hB0 hg0
          have hg1' := pw_cell_below hB0 hg1
          have hlt' : (j : Int) < (ol.length : Int) := by omega
          have HI2 := Aside0.mk (show LInv w W0 (.slice (some ad2) ol.length c4) (.slice (some ad) ol.length c5) ol from ⟨Kd.R_below HI.out.got hB0, Kd.R_below HI.out.want hB0, below_step HI.out.below hB0⟩)
          clear hb hB0 hW0 hw0 hw1 hg0 hg1
          go_quiet (fail)
          go_wp2_with fail
          obtain ⟨W1, hW1⟩ : ∃ W1, W1 = W0.drewN nq := ⟨_, rfl⟩
          rw [← hW1]
          have hd0' : W1.cell? ⟨wr.heap.size, 0, none⟩ = some (.string f0) := by rw [hW1]; exact hd0
          have hg0'' : W1.cell? (ad2.add (j * 2)) = some (.string f0) := by rw [hW1]; exact hg0'
          have HI3 := Aside0.mk (show LInv w W1 (.slice (some ad2) ol.length c4) (.slice (some ad) ol.length c5) ol from by rw [hW1]; exact ⟨Kd.R_drewN HI2.out.got nq, Kd.R_drewN HI2.out.want nq, pw_below_drewN HI2.out.below nq⟩)
          clear hd0 hd1 hg0' hg1' hW1 HI2 hmul' hsub'
          go_quiet (fail)
          have HI4 := Aside0.mk (show LInv w (W1.drewN nq) (.slice (some ad2) ol.length c4) (.slice (some ad) ol.length c5) ol from ⟨Kd.R_drewN HI3.out.got nq, Kd.R_drewN HI3.out.want nq, pw_below_drewN HI3.out.below nq⟩)
          go_wp2_with fail
          go_roundw
          case rel => exact ⟨j + 1, by omega, by go_num, HI4⟩
          case measure => simp [intOf]; omega
        · go_wp2_with (go_at_call 6; (with_reducible refine (works_calls _).mono ?_); rintro e w3 ⟨rfl, hb3⟩; have HB3 := Aside0.mk (below_step HI.out.below hb3); clear hb3)
          go_ret
          exact ⟨rfl, HB3.out⟩
end Go.Proofs.YtkjepgahnaieaaaDoor.PFnAccept
