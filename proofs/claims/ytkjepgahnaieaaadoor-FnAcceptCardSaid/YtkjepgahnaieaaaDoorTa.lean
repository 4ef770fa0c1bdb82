/- slices.Clone at []string: a slice of the same texts in new memory; what was there stays as it was. -/
import Derived.Test.YtkjepgahnaieaaaDoorFa
import Derived.Lib.SliceRun
namespace Go.Proofs.YtkjepgahnaieaaaDoor.PFnAccept
open Go.RowKit Go.Proofs.YtkjepgahnaieaaaDoorW.PrintWords Go.Proofs.YtkjepgahnaieaaaDoorW.PrintLast Go.Proofs.YtkjepgahnaieaaaDoorW.PrintMore

set_option maxHeartbeats 1000000 in
set_option maxRecDepth 100000 in
theorem clone_calls (A : Option Addr) (n c : Nat) (xs : List ByteArray) (w : World) (hC : Kd.C Kd.string w A n xs) (hn : n ≤ 1000000000) :
    Calls Tryd.prog 17 #[.slice A n c] w fun e w' => ∃ v0_ : Value, e = .returned (v0_) ∧ Kd.R Kd.string 9 w' w.heap.size (fun _ => True) v0_ xs ∧ Below w.heap.size w w' := by
  have q22 : ∀ (w : World) (a : Option Addr) (n c n' c' : Nat), (binOp .eql 36 (.slice a n c) (.slice none n' c')).run Tryd.prog w = .ok (.bool a.isNone) w := fun w a n c n' c' => Lib.run_eql_slice_nil w _ _ a n c n' c' Tryd.underlying36
  have hlen := hC.1
  rcases A with _ | ad
  · have hx : xs = [] := by
      rcases Nat.eq_zero_or_pos n with h0 | h0
      · exact List.length_eq_zero_iff.1 (by omega)
      · obtain ⟨ad, h, _⟩ := hC.2.2 h0
        cases h
    subst hx
    clear hC hlen
    go_enter Tryd.func17, Tryd.ntmps17
    go_wp2
    go_ret
    exact ⟨_, rfl, Kd.R_nil _ _ _ _ _, Below.refl _ _⟩
  · have HC := Aside0.mk hC
    clear hC
    have HL := Aside0.mk hlen
    clear hlen
    have HB := Aside0.mk (Below.refl w.heap.size w)
    go_enter Tryd.func17, Tryd.ntmps17
    go_wp2_with (first | ((with_reducible refine gate_dst (N := 5) rfl ?_); refine Kd.R_lit Kd.string w.heap.size 9 ?hg (N := 5) ?hd (xs := ([] : List ByteArray)) (inner := []) (ok := fun _ => True) (okp := fun _ => True) ?hr ?hp (fun _ hk => hk) trivial HB.out (Nat.le_refl _) (by simp) ?_; (case hd => rfl); (case hg => rfl); (case hr => first | (go_simp; done) | (go_simp; rfl)); (case hp => exact (Reps.none _ _)); intro v1 w1 ho1 hb1 hg1 hn1; have HO1 := Aside0.mk ho1; have HB1 := Aside0.mk hb1; clear ho1 hb1 hg1 hn1) | ((with_reducible refine gate_builtin (b := .append) (xs := #[.tmp 5, .tmp 6]) rfl ?_); at_builtin; refine Kd.R_append_rows Kd.string (w0 := w) w.heap.size rfl (.tmp 5) (.tmp 6) 36 9 (.string ⟨#[]⟩) 16 rfl Tryd.underlying36 info9 rfl (by decide) (by omega) v1 [] xs _ _ _ (fun _ => True) (fun _ => False) rfl rfl ?aO ?aR (fun _ _ h => h) (fun _ h => h.elim) ?aF ?aB ?aS ?aL ?_; (case aR => exact (Kd.C_below HC.out HB1.out)); (case aB => exact HB1.out); (case aF => exact (fun _ _ => trivial)); (case aO => exact HO1.out); (case aS => exact HB1.out.size); (case aL => simp only [List.length_nil]; omega); intro v2 w2 ho2 hb2 hg2 hat2; have HO2 := Aside0.mk ho2; have HB2 := Aside0.mk hb2; clear ho2 hb2 hg2 hat2))
    go_ret
    exact ⟨_, rfl, HO2.out, HB2.out⟩
end Go.Proofs.YtkjepgahnaieaaaDoor.PFnAccept
