/- impl.Tokens and the law's own 'works': what they hand back. -/
import Derived.Test.YtkjepgahnaieaaaDoorTa
import Derived.Test.YtkjepgahnaieaaaDoorPb
import Derived.WalkSpells
import Derived.Outline
namespace Go.Proofs.YtkjepgahnaieaaaDoor.PFnAccept
open Go.RowKit Go.Proofs.YtkjepgahnaieaaaDoorW.PrintWords Go.Proofs.YtkjepgahnaieaaaDoorW.PrintLast Go.Proofs.YtkjepgahnaieaaaDoorW.PrintMore

set_option maxHeartbeats 1000000 in
set_option maxRecDepth 100000 in
theorem tokens_calls (k : Nat) (a0 : ByteArray) (r : List ByteArray) (w : World) (h : restfulroutes_ZZTokens.f k a0 = some r) (hr : r.length ≤ 1000000000) :
    Calls Tryd.prog 12 #[.string a0] w fun e w' => ∃ v0_ : Value, e = .returned (v0_) ∧ Kd.R Kd.string 9 w' w.heap.size (fun _ => True) v0_ r ∧ Below w.heap.size w w' := by
  have H := Aside0.mk h
  clear h
  go_enter Tryd.func12, Tryd.ntmps12
  go_wp2_with (first | (go_at_call 18; (with_reducible refine (restfulroutes_ZZTokens.calls k a0 r _ H.out).mono ?_); rintro e w1 ⟨v1, rfl, hR1, hb1⟩; obtain ⟨A1, c1, rfl, hc1, hC1⟩ := Kd.R_reads hR1; have HC1 := Aside0.mk hC1; have HB1 := Aside0.mk hb1; clear hC1 hb1 hR1 hc1) | (go_at_call 17; (with_reducible refine (clone_calls A1 r.length c1 r _ HC1.out hr).mono ?_); rintro e w2 ⟨v2, rfl, hR2, hb2⟩; have HR2 := Aside0.mk (Kd.R_lower hR2 HB1.out.size); have HB2 := Aside0.mk (below_step HB1.out hb2); clear hR2 hb2))
  go_ret
  exact ⟨_, rfl, HR2.out, HB2.out⟩

/-- Of two texts that are read: the address, the two cells. -/
theorem two_cells {w : World} {A : Option Addr} {n : Nat} {x y : ByteArray} (h : Kd.C Kd.string w A n [x, y]) : ∃ ad, A = some ad ∧ w.cell? ad = some (.string x) ∧ w.cell? ⟨ad.block, ad.off + 1, none⟩ = some (.string y) := by
  have hn : n = 2 := h.1.symm
  have h2 := Kd.reads_of_C (d := ByteArray.empty) h
  obtain ⟨ad, e, h0⟩ := h2.at_ 0 (by omega) (by omega)
  obtain ⟨ad', e', h1⟩ := h2.at_ 1 (by omega) (by omega)
  rw [e] at e'
  cases e'
  refine ⟨ad, e, ?_, ?_⟩
  · simpa [rdOf, Addr.add_zero'] using h0
  · have : (1 : Int).toNat = 0 + 1 := rfl
    rw [this, Addr.add_succ'] at h1
    simpa [rdOf] using h1

set_option maxHeartbeats 1000000 in
set_option maxRecDepth 100000 in
theorem works_calls (w : World) : Calls Tryd.prog 6 #[] w fun e w' => e = .returned (.bool true) ∧ Below w.heap.size w w' := by
  obtain ⟨k, hk⟩ := (tokens_f [47, 97, 47, 98] (by decide) (by decide)).rounds
  have hs : (splitL 47 (rtrim 47 (List.dropWhile (· == 47) [47, 97, 47, 98]))).map mkB = [⟨#[97]⟩, ⟨#[98]⟩] := by decide +kernel
  rw [hs] at hk
  have hk2 : restfulroutes_ZZTokens.f k (⟨#[47, 97, 47, 98]⟩ : ByteArray) = some [⟨#[97]⟩, ⟨#[98]⟩] := hk
  have H := Aside0.mk hk2
  clear hk hs hk2
  go_enter Tryd.func6, Tryd.ntmps6
  go_wp2_with (first | (go_at_call 12; (with_reducible refine (tokens_calls k (⟨#[47, 97, 47, 98]⟩ : ByteArray) _ _ H.out (by decide)).mono ?_); rintro e w1 ⟨v1, rfl, hR1, hb1⟩; obtain ⟨A1, c1, rfl, hc1, hC1⟩ := Kd.R_reads hR1; have HB1 := Aside0.mk hb1; obtain ⟨ad, rfl, hcell0, hcell1⟩ := two_cells hC1; clear hC1 hb1 hR1 hc1))
  go_ret
  exact ⟨rfl, HB1.out⟩
end Go.Proofs.YtkjepgahnaieaaaDoor.PFnAccept
