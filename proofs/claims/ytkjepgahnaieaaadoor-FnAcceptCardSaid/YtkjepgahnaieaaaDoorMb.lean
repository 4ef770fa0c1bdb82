/- sortedMimes: of a text whose pieces between commas are media types, with or without a weight of three figures, it hands back their list, sorted as insertMime does. -/
import Derived.Test.YtkjepgahnaieaaaDoorMa
import Derived.WalkSpells
namespace Go.Proofs.YtkjepgahnaieaaaDoor.PFnAccept
open Go.RowKit Go.Proofs.YtkjepgahnaieaaaDoorW.PrintWords Go.Proofs.YtkjepgahnaieaaaDoorW.PrintLast Go.Proofs.YtkjepgahnaieaaaDoorW.PrintMore
attribute [local go_sem] run_store_float

def trimL (c : UInt8) (l : List UInt8) : List UInt8 := rtrim c (l.dropWhile (· == c))
/-- What a piece between commas comes to. -/
def SegOk (seg : List UInt8) (m : M47) : Prop :=
  (∃ t, splitL 59 (trimL 32 seg) = [t] ∧ m = ⟨mkB t, 4607182418800017408⟩) ∨
  (∃ t d n, splitL 59 (trimL 32 seg) = [t, 113 :: 61 :: d] ∧ (61 : UInt8) ∉ d ∧ Dec (mkB d) n ∧ n ≤ 999 ∧ m = ⟨mkB t, qF n⟩)
structure Segs (segs : List (List UInt8)) (ms : List M47) : Prop where
  len : segs.length = ms.length
  each : ∀ j, j < ms.length → SegOk (segs.getD j []) (ms.getD j z47)
def sortL (ms : List M47) : List M47 := ms.foldl (fun acc e => insL e acc) []
theorem sortL_snoc (ms : List M47) (j : Nat) (h : j < ms.length) : sortL (ms.take (j + 1)) = insL (ms.getD j z47) (sortL (ms.take j)) := by
  have e : ms.take (j + 1) = ms.take j ++ [ms.getD j z47] := by
    rw [List.take_succ_eq_append_getElem h, List.getD_eq_getElem?_getD, List.getElem?_eq_getElem h, Option.getD_some]
  unfold sortL
  rw [e, List.foldl_append]
  rfl
theorem sortL_len (ms : List M47) : (sortL ms).length = ms.length := by
  have : ∀ (l acc : List M47), (l.foldl (fun acc e => insL e acc) acc).length = acc.length + l.length := by
    intro l
    induction l with
    | nil => intro acc; simp
    | cons x r ih => intro acc; rw [List.foldl_cons, ih, insL_len]; simp; omega
  have := this ms []
  simpa [sortL] using this
theorem one_cell {w : World} {A : Option Addr} {n : Nat} {x : ByteArray} (h : Kd.C Kd.string w A n [x]) : ∃ ad, A = some ad ∧ w.cell? ad = some (.string x) := by
  have hn : n = 1 := h.1.symm
  have h2 := Kd.reads_of_C (d := ByteArray.empty) h
  obtain ⟨ad, e, h0⟩ := h2.at_ 0 (by omega) (by omega)
  exact ⟨ad, e, by simpa [rdOf, Addr.add_zero'] using h0⟩
theorem trimL_le (c : UInt8) (l : List UInt8) : (trimL c l).length ≤ l.length := by
  have h1 := (List.dropWhile_sublist (l := l) (· == c)).length_le
  unfold trimL rtrim
  have := (List.dropWhile_sublist (l := (l.dropWhile (· == c)).reverse) (· == c)).length_le
  simp at this ⊢; omega

/-- What the loop over the pieces keeps. -/
structure SInv (w0 wr : World) (m : Nat) (v u : Value) (xs : List M47) (ps : List ByteArray) : Prop where
  row : Kd.R k47 47 wr w0.heap.size (fun _ => True) v xs
  parts : Kd.R Kd.string 9 wr m (fun k => v.ownBlock ≠ some k) u ps
  below : Below w0.heap.size w0 wr
theorem SInv.step {w0 wr w1 : World} {m : Nat} {v u : Value} {xs : List M47} {ps : List ByteArray} (h : SInv w0 wr m v u xs ps) (hb : Below wr.heap.size wr w1) : SInv w0 w1 m v u xs ps :=
  ⟨Kd.R_below h.row hb, Kd.R_below h.parts hb, below_step h.below hb⟩
theorem SInv.put {w0 wr w1 : World} {m : Nat} {v v1 u : Value} {xs xs1 : List M47} {ps : List ByteArray} (h : SInv w0 wr m v u xs ps) (hr : Kd.R k47 47 w1 w0.heap.size (fun _ => True) v1 xs1) (hb : Below w0.heap.size w0 w1) (hg : wr.grownBy w1 v.ownBlock) (hat : ∀ k, v1.ownBlock = some k → v.ownBlock = some k ∨ wr.heap.size ≤ k) : SInv w0 w1 m v1 u xs1 ps := by
  refine ⟨hr, ?_, hb⟩
  have h1 := Kd.R_bound h.parts
  have h2 := Kd.R_grown h1 hg (fun k hk e => hk.1 e.symm)
  refine Kd.R_mono h2 (fun k hk e => ?_)
  rcases hat k e with h3 | h3
  · exact hk.1 h3
  · have := hk.2.2.1; omega

set_option maxHeartbeats 4000000 in
set_option maxRecDepth 100000 in
theorem sorted_calls (s : List UInt8) (ms : List M47) (w : World) (hG : GL w) (hs : s.length ≤ 100000000000) (hseg : Segs (splitL 44 s) ms) (hms : ms.length ≤ 20) :
    Calls Tryd.prog 19 #[.string (mkB s)] w fun e w' => ∃ v', e = .returned v' ∧ Kd.R k47 47 w' w.heap.size (fun _ => True) v' (sortL ms) ∧ Below w.heap.size w w' := by
  obtain ⟨k1, hk1⟩ := (split_f 44 s (by omega)).rounds
  have hk1' : restfulroutes_split.f k1 (mkB s) (⟨#[44]⟩ : ByteArray) = some ((splitL 44 s).map mkB) := hk1
  obtain ⟨segs, hsegs⟩ : ∃ segs, segs = splitL 44 s := ⟨_, rfl⟩
  have hsl : Aside0 (∀ j, (segs.getD j []).length ≤ 100000000000) := ⟨fun j => by
    rw [hsegs]
    by_cases h : j < (splitL 44 s).length
    · rw [List.getD_eq_getElem?_getD, List.getElem?_eq_getElem h, Option.getD_some]
      exact Nat.le_trans (splitL_mem_len (List.getElem_mem h)) hs
    · rw [List.getD_eq_getElem?_getD, List.getElem?_eq_none (by omega)]; simp⟩
  rw [← hsegs] at hk1' hseg
  have HK1 := Aside0.mk hk1'
  have HSg := Aside0.mk hseg
  have HG := Aside0.mk hG
  have hlen : segs.length ≤ 20 := by have := hseg.len; omega
  have hlen2 : segs.length = ms.length := hseg.len
  have HL := Aside0.mk hlen2
  obtain ⟨ps, hps⟩ : ∃ ps, ps = segs.map mkB := ⟨_, rfl⟩
  rw [← hps] at HK1
  have HPS := Aside0.mk hps
  have hpl : ps.length ≤ 20 := by rw [hps, List.length_map]; exact hlen
  have HPL := Aside0.mk (show ps.length = ms.length by rw [hps, List.length_map]; exact hlen2)
  clear hk1 hk1' hsegs hseg hG hlen2 hps hlen
  go_enter Tryd.func19, Tryd.ntmps19
  go_wp2_with (go_at_call 21; (with_reducible refine (restfulroutes_split.calls k1 (mkB s) (⟨#[44]⟩ : ByteArray) ps _ HK1.out).mono ?_); rintro e w1 ⟨v1, rfl, hR1, hb1⟩; have HI := Aside0.mk (show SInv w w1 w.heap.size (.slice none 0 0) v1 [] ps from ⟨Kd.R_nil _ _ _ _ _, Kd.R_mono hR1 (fun k _ => by simp [Value.ownBlock]), hb1⟩); clear hR1 hb1; obtain ⟨A1, c1, e1⟩ := Kd.R_slice HI.out.parts; subst e1)
  go_loopw [2, 12] (fun v i wr => ∃ j : Nat, j ≤ ps.length ∧ i = .int .i64 j ∧ Aside0 (SInv w wr w.heap.size v (.slice A1 ps.length c1) (sortL (ms.take j)) ps)) (fun _ i _ => ps.length - (intOf i).toNat)
  case atStart => exact ⟨0, Nat.zero_le _, rfl, HI⟩
  case round =>
    clear HI
    obtain ⟨j, hj, rfl, HI⟩ := hrel
    by_cases hlt : j < ps.length
    · obtain ⟨xs, hxs⟩ : ∃ xs, xs = sortL (ms.take j) := ⟨_, rfl⟩
      rw [← hxs] at HI
      have hxl : xs.length ≤ 20 := by rw [hxs, sortL_len, List.length_take]; omega
      have HXS := Aside0.mk hxs
      clear hxs
      obtain ⟨Av, cv, ev⟩ := Kd.R_slice HI.out.row
      subst ev
      obtain ⟨ad, e2, hcell⟩ := (Kd.reads_of_C (d := ByteArray.empty) (Kd.R_reads' HI.out.parts).2.2).at_ (j : Int) (by omega) (by omega)
      obtain ⟨seg, hsg⟩ : ∃ seg, seg = segs.getD j [] := ⟨_, rfl⟩
      have hjs : j < segs.length := by have := HPL.out; have := HL.out; omega
      have hp : rdOf ByteArray.empty ps (j : Int) = mkB seg := by
        rw [HPS.out, hsg]
        simp only [rdOf, Int.toNat_natCast, List.getD_eq_getElem?_getD, List.getElem?_map, List.getElem?_eq_getElem hjs, Option.map_some, Option.getD_some]
      rw [hp, Int.toNat_natCast] at hcell
      subst e2
      have hok := HSg.out.each j (by have := HPL.out; omega)
      rw [← hsg] at hok
      have hsgl : seg.length ≤ 100000000000 := by rw [hsg]; exact hsl.out j
      clear hp hsg hjs
      obtain ⟨u, hu⟩ : ∃ u, u = trimL 32 seg := ⟨_, rfl⟩
      have hul : u.length ≤ 100000000000 := by rw [hu]; exact Nat.le_trans (trimL_le 32 seg) hsgl
      obtain ⟨kt, hkt⟩ := (trim_f 32 seg (by omega)).rounds
      have hkt' : restfulroutes_trim.f kt (mkB seg) (⟨#[32]⟩ : ByteArray) = some (mkB u) := by rw [hu]; exact hkt
      obtain ⟨k5, hk5⟩ := (split_f 59 u (by omega)).rounds
      have hk5' : restfulroutes_split.f k5 (mkB u) (⟨#[59]⟩ : ByteArray) = some ((splitL 59 u).map mkB) := hk5
      have HKt := Aside0.mk hkt'
      unfold SegOk at hok
      rw [← hu] at hok
      clear hkt hkt' hk5 hu
      rcases hok with ⟨t, h1, h2⟩ | ⟨t, d, n, h1, h2, h3, h4, h5⟩
      · rw [h1] at hk5'
        have HK5 := Aside0.mk hk5'
        have HE := Aside0.mk h2
        clear hk5' h1 h2
        go_wp2_with (first | (go_at_call 22; (with_reducible refine (restfulroutes_trim.calls kt (mkB seg) (⟨#[32]⟩ : ByteArray) (mkB u) _ HKt.out).mono ?_); rintro e w2 ⟨rfl, ⟨nd, rfl⟩⟩) | (go_at_call 21; (with_reducible refine (restfulroutes_split.calls k5 (mkB u) (⟨#[59]⟩ : ByteArray) _ _ HK5.out).mono ?_); rintro e w3 ⟨v3, rfl, hR3, hb3⟩; obtain ⟨A3, c3, rfl, _, hC3⟩ := Kd.R_reads hR3; obtain ⟨ad3, rfl, hcell3⟩ := one_cell hC3; have HI3 := Aside0.mk (HI.out.step (below_step (pw_below_drewN (Below.refl _ _) nd) hb3)); clear hR3 hb3 hC3) | (go_at_call 23; (with_reducible refine (insert_calls Av cv xs ⟨mkB t, 4607182418800017408⟩ w _ HI3.out.row HI3.out.below (by omega)).mono ?_); rintro e w4 ⟨v4, rfl, hR4, hb4, hg4, hat4⟩; have HI4 := Aside0.mk (HI3.out.put hR4 hb4 hg4 hat4); clear hR4 hb4 hg4 hat4))
        go_roundw
        case rel => exact ⟨j + 1, by omega, by go_num, ⟨by rw [sortL_snoc ms j (by have := HPL.out; omega), ← HXS.out, HE.out]; exact HI4.out⟩⟩
        case measure => simp [intOf]; omega
      · rw [h1] at hk5'
        have HK5 := Aside0.mk hk5'
        have HE := Aside0.mk h5
        have HD := Aside0.mk h3
        have hdl : d.length ≤ 100 := by have := h3.size; rw [size_mkB] at this; omega
        obtain ⟨k6, hk6⟩ := (split_f 61 (113 :: 61 :: d) (by simp; omega)).rounds
        have hs6 : splitL 61 (113 :: 61 :: d) = [[113], d] := by
          have := splitL_at (c := 61) (a := [113]) (by decide) d
          rw [splitL_none h2] at this
          exact this
        rw [hs6] at hk6
        have hk6' : restfulroutes_split.f k6 (mkB (113 :: 61 :: d)) (⟨#[61]⟩ : ByteArray) = some [⟨#[113]⟩, mkB d] := hk6
        have HK6 := Aside0.mk hk6'
        obtain ⟨k7, hk7⟩ := (trim_f 32 [113] (by decide)).rounds
        have hk7' : restfulroutes_trim.f k7 (⟨#[113]⟩ : ByteArray) (⟨#[32]⟩ : ByteArray) = some (⟨#[113]⟩ : ByteArray) := by
          have e : rtrim 32 (List.dropWhile (· == 32) [113]) = [113] := by decide
          rw [e] at hk7
          exact hk7
        have HK7 := Aside0.mk hk7'
        clear hk5' h1 h2 h3 h5 hs6 hk6 hk6' hk7 hk7' hdl
        go_wp2_with (first | (go_at_call 22; (with_reducible refine (restfulroutes_trim.calls kt (mkB seg) (⟨#[32]⟩ : ByteArray) (mkB u) _ HKt.out).mono ?_); rintro e w2 ⟨rfl, ⟨nd, rfl⟩⟩) | (go_at_call 21; (with_reducible refine (restfulroutes_split.calls k5 (mkB u) (⟨#[59]⟩ : ByteArray) _ _ HK5.out).mono ?_); rintro e w3 ⟨v3, rfl, hR3, hb3⟩; obtain ⟨A3, c3, rfl, _, hC3⟩ := Kd.R_reads hR3; obtain ⟨ad3, rfl, hcell3, hcell3b⟩ := two_cells hC3; have HI3 := Aside0.mk (HI.out.step (below_step (pw_below_drewN (Below.refl _ _) nd) hb3)); clear hR3 hb3 hC3) | (go_at_call 21; (with_reducible refine (restfulroutes_split.calls k6 (mkB (113 :: 61 :: d)) (⟨#[61]⟩ : ByteArray) _ _ HK6.out).mono ?_); rintro e w5 ⟨v5, rfl, hR5, hb5⟩; obtain ⟨A5, c5, rfl, _, hC5⟩ := Kd.R_reads hR5; obtain ⟨ad5, rfl, hcell5, hcell5b⟩ := two_cells hC5; have HI5 := Aside0.mk (HI3.out.step hb5); have hcell3' := pw_cell_below hb5 hcell3; have hcell3b' := pw_cell_below hb5 hcell3b; clear hR5 hb5 hC5 hcell3 hcell3b) | (go_at_call 22; (with_reducible refine (restfulroutes_trim.calls k7 (⟨#[113]⟩ : ByteArray) (⟨#[32]⟩ : ByteArray) _ _ HK7.out).mono ?_); rintro e w6 ⟨rfl, ⟨nd6, rfl⟩⟩) | (go_at_call 24; (with_reducible refine (parseFloat_calls (mkB d) n _ (HG.out.below (below_step HI5.out.below (pw_below_drewN (Below.refl _ _) nd6))) HD.out h4).mono ?_); rintro e w7 ⟨rfl, ⟨nd7, rfl⟩⟩; have HI7 := Aside0.mk (HI5.out.step (pw_below_drewN (Below.refl _ _) (nd6 + nd7)))) | (go_at_call 23; (with_reducible refine (insert_calls Av cv xs ⟨mkB t, qF n⟩ w _ HI7.out.row HI7.out.below (by omega)).mono ?_); rintro e w8 ⟨v8, rfl, hR8, hb8, hg8, hat8⟩; have HI8 := Aside0.mk (HI7.out.put hR8 hb8 hg8 hat8); clear hR8 hb8 hg8 hat8))
        go_roundw
        case rel => exact ⟨j + 1, by omega, by go_num, ⟨by rw [sortL_snoc ms j (by have := HPL.out; omega), ← HXS.out, HE.out]; exact HI8.out⟩⟩
        case measure => simp [intOf]; omega
    · have hje : ms.take j = ms := by rw [List.take_of_length_le]; have := HPL.out; omega
      rw [hje] at HI
      clear hje
      go_wp2_with fail
      go_ret
      exact ⟨_, rfl, HI.out.row, HI.out.below⟩
end Go.Proofs.YtkjepgahnaieaaaDoor.PFnAccept
