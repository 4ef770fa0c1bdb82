/- ZZMimes: the media types and the qualities of the sorted list, in two slices. -/
import Derived.Test.YtkjepgahnaieaaaDoorMb
namespace Go.Proofs.YtkjepgahnaieaaaDoor.PFnAccept
open Go.RowKit Go.Proofs.YtkjepgahnaieaaaDoorW.PrintWords Go.Proofs.YtkjepgahnaieaaaDoorW.PrintLast Go.Proofs.YtkjepgahnaieaaaDoorW.PrintMore
attribute [local go_sem] run_store_float
set_option linter.unusedSimpArgs false
set_option linter.unusedVariables false

theorem info31 : (Tryd.prog.info? 31).map (fun i => (i.zero, i.size, i.bytes)) = some (some (.float .f64 0), 1, 8) := by kernel_rfl
/-- A row stays while a row of another element type is written. -/
theorem R_other {α β : Type} {d : Kd α} {d2 : Kd β} {e e2 : Nat} {w w1 : World} {base base2 : Nat} {ok ok2 : Nat → Prop} {v v2 : Value} {xs : List α} {ys : List β} (h : d.R e w base ok v xs) (h2 : d2.R e2 w base2 ok2 v2 ys) (hne : ∀ q, q ∈ e :: d.E → q ≠ e2) (hg : w.grownBy w1 v2.ownBlock) : d.R e w1 base ok v xs := by
  cases hb : v2.ownBlock with
  | none => rw [hb] at hg; exact Kd.R_grown h hg (fun k _ e => by cases e)
  | some b =>
    obtain ⟨_, hown⟩ := Kd.R_own h2
    obtain ⟨cells, hcells⟩ := own_typed hown b hb
    rw [hb] at hg
    exact Kd.R_mono (Kd.R_grown (Kd.R_types h hcells hne) hg (fun k hk e => hk.2 (Option.some.inj e))) (fun _ hk => hk.1)
/-- A box of one cell, read as a row of one element. -/
theorem box_C {α : Type} {enc : α → Value} {h1 : ∀ x, (enc x).oneCell' = true} {W : World} {b : Nat} {t : TypeId} {x : α} (h : W.heap[b]? = some (.cells #[enc x] t (0, 0))) : Kd.C (Kd.scalar enc h1) W (some ⟨b, 0, none⟩) 1 [x] := by
  refine ⟨rfl, by omega, fun _ => ⟨_, rfl, fun j p hj => ⟨[enc p], rfl, rfl, fun i u hu => ?_⟩⟩⟩
  match j, hj with
  | 0, hj =>
    match i, hu with
    | 0, hu =>
      have e1 : x = p := by simpa using hj
      have e2 : enc p = u := by simpa using hu
      subst e1
      subst e2
      have := blk_cell h 0
      simpa [Addr.add_zero'] using this

/-- What the loop keeps: the two slices so far, the sorted list. -/
structure ZInv (w0 wr : World) (v q u : Value) (L : List M47) (j : Nat) : Prop where
  media : Kd.R Kd.string 9 wr w0.heap.size (fun _ => True) v ((L.take j).map M47.f0)
  quality : Kd.R kF 31 wr w0.heap.size (fun _ => True) q ((L.take j).map M47.f1)
  list : Kd.R k47 47 wr w0.heap.size (fun _ => True) u L
  below : Below w0.heap.size w0 wr
theorem zinv_next {w0 wr : World} {v q u : Value} {L : List M47} {j : Nat} {p : M47} (hj : j < L.length) (hp : p = L.getD j z47) (h1 : Kd.R Kd.string 9 wr w0.heap.size (fun _ => True) v ((L.take j).map M47.f0 ++ [p.f0])) (h2 : Kd.R kF 31 wr w0.heap.size (fun _ => True) q ((L.take j).map M47.f1 ++ [p.f1])) (h3 : Kd.R k47 47 wr w0.heap.size (fun _ => True) u L) (h4 : Below w0.heap.size w0 wr) : ZInv w0 wr v q u L (j + 1) := by
  have e : L.take (j + 1) = L.take j ++ [p] := by
    rw [List.take_succ_eq_append_getElem hj, hp, List.getD_eq_getElem?_getD, List.getElem?_eq_getElem hj, Option.getD_some]
  refine ⟨?_, ?_, h3, h4⟩
  · rw [e, List.map_append]; exact h1
  · rw [e, List.map_append]; exact h2

set_option maxHeartbeats 8000000 in
set_option maxRecDepth 100000 in
theorem mimes_calls (s : List UInt8) (ms : List M47) (w : World) (hG : GL w) (hs : s.length ≤ 100000000000) (hseg : Segs (splitL 44 s) ms) (hms : ms.length ≤ 20) :
    Calls Tryd.prog 14 #[.string (mkB s)] w fun e w' => ∃ v q, e = .returned (.tuple #[v, q]) ∧ Kd.R Kd.string 9 w' w.heap.size (fun _ => True) v ((sortL ms).map M47.f0) ∧ Kd.R kF 31 w' w.heap.size (fun _ => True) q ((sortL ms).map M47.f1) ∧ Below w.heap.size w w' := by
  have HH := Aside0.mk (And.intro hG hseg)
  obtain ⟨L, hL⟩ : ∃ L, L = sortL ms := ⟨_, rfl⟩
  have HL := Aside0.mk hL
  have hLl : L.length ≤ 20 := by rw [hL, sortL_len]; exact hms
  clear hG hseg hL
  go_enter Tryd.func14, Tryd.ntmps14
  go_wp2_with (go_at_call 19; (with_reducible refine (sorted_calls s ms w HH.out.1 hs HH.out.2 hms).mono ?_); rintro e w1 ⟨v1, rfl, hR1, hb1⟩; rw [← HL.out] at hR1; have HI := Aside0.mk (show ZInv w w1 (.slice none 0 0) (.slice none 0 0) v1 L 0 from ⟨Kd.R_nil _ _ _ _ _, Kd.R_nil _ _ _ _ _, hR1, hb1⟩); clear hR1 hb1; obtain ⟨A1, c1, e1⟩ := Kd.R_slice HI.out.list; subst e1)
  go_loopw [2, 3, 9] (fun v q i wr => ∃ j : Nat, j ≤ L.length ∧ i = .int .i64 j ∧ Aside0 (ZInv w wr v q (.slice A1 L.length c1) L j)) (fun _ _ i _ => L.length - (intOf i).toNat)
  case atStart => exact ⟨0, Nat.zero_le _, rfl, HI⟩
  case round =>
    clear HI
    obtain ⟨j, hj, rfl, HI⟩ := hrel
    by_cases hlt : j < L.length
    · obtain ⟨ad, hAd, hc0, hc1⟩ := at_T47 (Kd.R_reads' HI.out.list).2.2 j hlt
      obtain ⟨p, hp⟩ : ∃ p, p = L.getD j z47 := ⟨_, rfl⟩
      rw [← hp] at hc0 hc1
      have HP := Aside0.mk hp
      clear hp
      subst hAd
      go_wp2_with fail
      obtain ⟨W0, hW0⟩ : ∃ W0, W0 = wr.alloc (.cells #[.string p.f0, .float .f64 p.f1] 47) := ⟨_, rfl⟩
      rw [← hW0]
      have HV6 := Aside0.mk (Kd.R_drew (Kd.R_alloc HI.out.media (.cells #[.string p.f0, .float .f64 p.f1] 47)))
      have HQ6 := Aside0.mk (Kd.R_drew (Kd.R_alloc HI.out.quality (.cells #[.string p.f0, .float .f64 p.f1] 47)))
      have HU6 := Aside0.mk (Kd.R_drew (Kd.R_alloc HI.out.list (.cells #[.string p.f0, .float .f64 p.f1] 47)))
      have HB6 := Aside0.mk (below_drew1 (below_alloc HI.out.below (.cells #[.string p.f0, .float .f64 p.f1] 47)))
      have HG6 := Aside0.mk (blk_drew (blk_new wr (.cells #[.string p.f0, .float .f64 p.f1] 47)))
      rw [← hW0] at HV6 HQ6 HU6 HB6 HG6
      clear hW0
      refine start_ (n := 12) (S := fun w' => w'.cell? ⟨wr.heap.size, 0, none⟩ = some (.string p.f0) ∧ w'.cell? ⟨wr.heap.size, 1, none⟩ = some (.float .f64 p.f1)) (ds := []) #[false, false, false, false, false, false, false, false, false, false, false, false] (by kernel_rfl) rfl rfl ⟨blk_cell HG6.out 0, blk_cell HG6.out 1⟩ (fun hHeld => ?_)
      generalize W0.drew = w6 at HV6 HQ6 HU6 HB6 HG6 hHeld ⊢
      refine pure_ (i := 0) (N := some 13) (v := ?_) (a' := ?_) #[true, false, false, false, false, false, false, false, false, false, false, false] rfl rfl (by kernel_rfl) (fun _ _ _ h => h) (Or.inl ⟨by rfl, ?_⟩) ?_ ?_
      rotate_left
      · intro w'
        go_simp
        with_reducible rfl
      rotate_left
      · simp only [Act.put, List.setIfInBounds_toArray, List.set_cons_zero, List.set_cons_succ, i64_w, i32_w]
        rfl
      refine pure_ (i := 1) (N := some 14) (v := ?_) (a' := ?_) #[true, true, false, false, false, false, false, false, false, false, false, false] rfl rfl (by kernel_rfl) (fun _ _ _ h => h) (Or.inl ⟨by rfl, ?_⟩) ?_ ?_
      rotate_left
      · intro w'
        go_simp
        with_reducible rfl
      rotate_left
      · simp only [Act.put, List.setIfInBounds_toArray, List.set_cons_zero, List.set_cons_succ, i64_w, i32_w]
        rfl
      refine pure_ (i := 5) (N := some 18) (v := ?_) (a' := ?_) #[true, true, false, false, false, true, false, false, false, false, false, false] rfl rfl (by kernel_rfl) (fun _ _ _ h => h) (Or.inl ⟨by rfl, ?_⟩) ?_ ?_
      rotate_left
      · intro w'
        go_simp
        with_reducible rfl
      rotate_left
      · simp only [Act.put, List.setIfInBounds_toArray, List.set_cons_zero, List.set_cons_succ, i64_w, i32_w]
        rfl
      refine pure_ (i := 6) (N := some 19) (v := ?_) (a' := ?_) #[true, true, false, false, false, true, true, false, false, false, false, false] rfl rfl (by kernel_rfl) (fun _ _ _ h => h) (Or.inl ⟨by rfl, ?_⟩) ?_ ?_
      rotate_left
      · intro w'
        go_simp
        with_reducible rfl
      rotate_left
      · simp only [Act.put, List.setIfInBounds_toArray, List.set_cons_zero, List.set_cons_succ, i64_w, i32_w]
        rfl
      refine take_ (i := 2) (N := some 15) (v := ?_) (a' := ?_) #[true, true, true, false, false, true, true, false, false, false, false, false] rfl rfl (by kernel_rfl) (fun _ _ _ h => h) (Or.inl ⟨by rfl, ?_⟩) hHeld ?_ ?_
      rotate_left
      · rintro w' ⟨s0, s1⟩
        go_simp
        with_reducible rfl
      rotate_left
      · simp only [Act.put, List.setIfInBounds_toArray, List.set_cons_zero, List.set_cons_succ, i64_w, i32_w]
        rfl
      refine take_ (i := 7) (N := some 20) (v := ?_) (a' := ?_) #[true, true, true, false, false, true, true, true, false, false, false, false] rfl rfl (by kernel_rfl) (fun _ _ _ h => h) (Or.inl ⟨by rfl, ?_⟩) hHeld ?_ ?_
      rotate_left
      · rintro w' ⟨s0, s1⟩
        go_simp
        with_reducible rfl
      rotate_left
      · simp only [Act.put, List.setIfInBounds_toArray, List.set_cons_zero, List.set_cons_succ, i64_w, i32_w]
        rfl
      refine two_ (i := 3) (j := 8) (Ni := some 16) (Nj := some 21) #[true, true, true, true, false, true, true, true, false, false, false, false] #[true, true, true, false, false, true, true, true, true, false, false, false] rfl rfl rfl rfl (by kernel_rfl) (by decide) (by decide) (fun K hK => ?_) (fun K hK => ?_)
      · obtain ⟨g11, hg11⟩ : ∃ g, g = w6.heap.size := ⟨_, rfl⟩
        have hn11 := blk_new w6 (.cells #[.string p.f0] 9)
        obtain ⟨w11, hw11⟩ : ∃ w1, w1 = w6.alloc (.cells #[.string p.f0] 9) := ⟨_, rfl⟩
        refine event_step (by rfl) (w1 := w11) (v := .slice (some ⟨g11, 0, none⟩) 1 1) (by rw [hg11, hw11]; first | (go_simp; done) | (go_simp; rfl)) ?_
        rw [← hw11, ← hg11] at hn11
        have HX11 := Aside0.mk hn11
        have HV11 := Aside0.mk (Kd.R_alloc HV6.out (.cells #[.string p.f0] 9))
        have HQ11 := Aside0.mk (Kd.R_alloc HQ6.out (.cells #[.string p.f0] 9))
        have HU11 := Aside0.mk (Kd.R_alloc HU6.out (.cells #[.string p.f0] 9))
        have HB11 := Aside0.mk (below_alloc HB6.out (.cells #[.string p.f0] 9))
        have HG11 := Aside0.mk (blk_alloc HG6.out (.cells #[.string p.f0] 9))
        rw [← hw11] at HV11 HQ11 HU11 HB11 HG11
        clear hn11 hw11 hg11
        refine hK.out _ _ ⟨blk_cell HG11.out 0, blk_cell HG11.out 1⟩ (fun hHeld => ?_)
        clear hK K
        refine two_ (i := 4) (j := 8) (Ni := some 17) (Nj := some 21) #[true, true, true, true, true, true, true, true, false, false, false, false] #[true, true, true, true, false, true, true, true, true, false, false, false] rfl rfl rfl rfl (by kernel_rfl) (by decide) (by decide) (fun K hK => ?_) (fun K hK => ?_)
        · refine Kd.R_append_rows_step Kd.string (w0 := w) w.heap.size (by rfl) (.tmp 13) (.tmp 16) 36 9 (.string ⟨#[]⟩) 16 rfl Tryd.underlying36 info9 rfl (by decide) (by omega) u2 ((L.take j).map M47.f0) [p.f0] _ 1 1 (fun _ => True) (fun _ => False) rfl rfl HV11.out (box_C HX11.out) (fun _ _ h => h) (fun _ h => h.elim) (fun _ _ => trivial) HB11.out HB11.out.size (by simp; omega) ?_
          intro y12 w12 ho12 hb12 hg12 hat12
          have HV12 := Aside0.mk ho12
          have HB12 := Aside0.mk hb12
          have HQ12 := Aside0.mk (R_other HQ11.out HV11.out (by decide) hg12)
          have HU12 := Aside0.mk (R_other HU11.out HV11.out (by decide) hg12)
          have HG12 := Aside0.mk (blk_grown HG11.out hg12 (Kd.R_ne HV11.out HG11.out (by decide)))
          clear ho12 hb12 hg12 hat12
          refine hK.out _ _ ⟨blk_cell HG12.out 0, blk_cell HG12.out 1⟩ (fun hHeld => ?_)
          clear hK K
          refine one_ (i := 8) (N := some 21) #[true, true, true, true, true, true, true, true, true, false, false, false] rfl rfl (by kernel_rfl) (by decide) (fun K hK => ?_)
          obtain ⟨g13, hg13⟩ : ∃ g, g = w12.heap.size := ⟨_, rfl⟩
          have hn13 := blk_new w12 (.cells #[.float .f64 p.f1] 31)
          obtain ⟨w13, hw13⟩ : ∃ w1, w1 = w12.alloc (.cells #[.float .f64 p.f1] 31) := ⟨_, rfl⟩
          refine event_step (by rfl) (w1 := w13) (v := .slice (some ⟨g13, 0, none⟩) 1 1) (by rw [hg13, hw13]; first | (go_simp; done) | (go_simp; rfl)) ?_
          rw [← hw13, ← hg13] at hn13
          have HX13 := Aside0.mk hn13
          have HV13 := Aside0.mk (Kd.R_alloc HV12.out (.cells #[.float .f64 p.f1] 31))
          have HQ13 := Aside0.mk (Kd.R_alloc HQ12.out (.cells #[.float .f64 p.f1] 31))
          have HU13 := Aside0.mk (Kd.R_alloc HU12.out (.cells #[.float .f64 p.f1] 31))
          have HB13 := Aside0.mk (below_alloc HB12.out (.cells #[.float .f64 p.f1] 31))
          have HG13 := Aside0.mk (blk_alloc HG12.out (.cells #[.float .f64 p.f1] 31))
          rw [← hw13] at HV13 HQ13 HU13 HB13 HG13
          clear hn13 hw13 hg13
          refine hK.out _ _ ⟨blk_cell HG13.out 0, blk_cell HG13.out 1⟩ (fun hHeld => ?_)
          clear hK K
          refine one_ (i := 9) (N := some 22) #[true, true, true, true, true, true, true, true, true, true, false, false] rfl rfl (by kernel_rfl) (by decide) (fun K hK => ?_)
          refine Kd.R_append_rows_step kF (w0 := w) w.heap.size (by rfl) (.tmp 18) (.tmp 21) 38 31 (.float .f64 0) 8 rfl Tryd.underlying38 info31 rfl (by decide) (by omega) u3 ((L.take j).map M47.f1) [p.f1] _ 1 1 (fun _ => True) (fun _ => False) rfl rfl HQ13.out (box_C HX13.out) (fun _ _ h => h) (fun _ h => h.elim) (fun _ _ => trivial) HB13.out HB13.out.size (by simp; omega) ?_
          intro y14 w14 ho14 hb14 hg14 hat14
          have HQ14 := Aside0.mk ho14
          have HB14 := Aside0.mk hb14
          have HV14 := Aside0.mk (R_other HV13.out HQ13.out (by decide) hg14)
          have HU14 := Aside0.mk (R_other HU13.out HQ13.out (by decide) hg14)
          have HG14 := Aside0.mk (blk_grown HG13.out hg14 (Kd.R_ne HQ13.out HG13.out (by decide)))
          clear ho14 hb14 hg14 hat14
          refine hK.out _ _ ⟨blk_cell HG14.out 0, blk_cell HG14.out 1⟩ (fun hHeld => ?_)
          clear hK K
          refine pure_ (i := 10) (N := some 2) (v := ?_) (a' := ?_) #[true, true, true, true, true, true, true, true, true, true, true, false] rfl rfl (by kernel_rfl) (fun _ _ _ h => h) (Or.inl ⟨by rfl, ?_⟩) ?_ ?_
          rotate_left
          · intro w'
            go_simp
            with_reducible rfl
          rotate_left
          · simp only [Act.put, List.setIfInBounds_toArray, List.set_cons_zero, List.set_cons_succ, i64_w, i32_w]
            rfl
          refine pure_ (i := 11) (N := some 3) (v := ?_) (a' := ?_) #[true, true, true, true, true, true, true, true, true, true, true, true] rfl rfl (by kernel_rfl) (fun _ _ _ h => h) (Or.inl ⟨by rfl, ?_⟩) ?_ ?_
          rotate_left
          · intro w'
            go_simp
            with_reducible rfl
          rotate_left
          · simp only [Act.put, List.setIfInBounds_toArray, List.set_cons_zero, List.set_cons_succ, i64_w, i32_w]
            rfl
          refine done_ (by kernel_rfl) ?_
          go_wp2
          go_roundw
          case rel => exact ⟨j + 1, by omega, by go_num, ⟨zinv_next hlt HP.out HV14.out HQ14.out HU14.out HB14.out⟩⟩
          case measure => simp [intOf]; omega
        · obtain ⟨g15, hg15⟩ : ∃ g, g = w11.heap.size := ⟨_, rfl⟩
          have hn15 := blk_new w11 (.cells #[.float .f64 p.f1] 31)
          obtain ⟨w15, hw15⟩ : ∃ w1, w1 = w11.alloc (.cells #[.float .f64 p.f1] 31) := ⟨_, rfl⟩
          refine event_step (by rfl) (w1 := w15) (v := .slice (some ⟨g15, 0, none⟩) 1 1) (by rw [hg15, hw15]; first | (go_simp; done) | (go_simp; rfl)) ?_
          rw [← hw15, ← hg15] at hn15
          have HX15 := Aside0.mk hn15
          have HV15 := Aside0.mk (Kd.R_alloc HV11.out (.cells #[.float .f64 p.f1] 31))
          have HQ15 := Aside0.mk (Kd.R_alloc HQ11.out (.cells #[.float .f64 p.f1] 31))
          have HU15 := Aside0.mk (Kd.R_alloc HU11.out (.cells #[.float .f64 p.f1] 31))
          have HB15 := Aside0.mk (below_alloc HB11.out (.cells #[.float .f64 p.f1] 31))
          have HG15 := Aside0.mk (blk_alloc HG11.out (.cells #[.float .f64 p.f1] 31))
          have HY15 := Aside0.mk (blk_alloc HX11.out (.cells #[.float .f64 p.f1] 31))
          rw [← hw15] at HV15 HQ15 HU15 HB15 HG15 HY15
          clear hn15 hw15 hg15
          refine hK.out _ _ ⟨blk_cell HG15.out 0, blk_cell HG15.out 1⟩ (fun hHeld => ?_)
          clear hK K
          refine one_ (i := 4) (N := some 17) #[true, true, true, true, true, true, true, true, true, false, false, false] rfl rfl (by kernel_rfl) (by decide) (fun K hK => ?_)
          refine Kd.R_append_rows_step Kd.string (w0 := w) w.heap.size (by rfl) (.tmp 13) (.tmp 16) 36 9 (.string ⟨#[]⟩) 16 rfl Tryd.underlying36 info9 rfl (by decide) (by omega) u2 ((L.take j).map M47.f0) [p.f0] _ 1 1 (fun _ => True) (fun _ => False) rfl rfl HV15.out (box_C HY15.out) (fun _ _ h => h) (fun _ h => h.elim) (fun _ _ => trivial) HB15.out HB15.out.size (by simp; omega) ?_
          intro y16 w16 ho16 hb16 hg16 hat16
          have HV16 := Aside0.mk ho16
          have HB16 := Aside0.mk hb16
          have HQ16 := Aside0.mk (R_other HQ15.out HV15.out (by decide) hg16)
          have HU16 := Aside0.mk (R_other HU15.out HV15.out (by decide) hg16)
          have HG16 := Aside0.mk (blk_grown HG15.out hg16 (Kd.R_ne HV15.out HG15.out (by decide)))
          have HY16 := Aside0.mk (blk_grown HX15.out hg16 (Kd.R_ne HV15.out HX15.out (by decide)))
          clear ho16 hb16 hg16 hat16
          refine hK.out _ _ ⟨blk_cell HG16.out 0, blk_cell HG16.out 1⟩ (fun hHeld => ?_)
          clear hK K
          refine one_ (i := 9) (N := some 22) #[true, true, true, true, true, true, true, true, true, true, false, false] rfl rfl (by kernel_rfl) (by decide) (fun K hK => ?_)
          refine Kd.R_append_rows_step kF (w0 := w) w.heap.size (by rfl) (.tmp 18) (.tmp 21) 38 31 (.float .f64 0) 8 rfl Tryd.underlying38 info31 rfl (by decide) (by omega) u3 ((L.take j).map M47.f1) [p.f1] _ 1 1 (fun _ => True) (fun _ => False) rfl rfl HQ16.out (box_C HY16.out) (fun _ _ h => h) (fun _ h => h.elim) (fun _ _ => trivial) HB16.out HB16.out.size (by simp; omega) ?_
          intro y17 w17 ho17 hb17 hg17 hat17
          have HQ17 := Aside0.mk ho17
          have HB17 := Aside0.mk hb17
          have HV17 := Aside0.mk (R_other HV16.out HQ16.out (by decide) hg17)
          have HU17 := Aside0.mk (R_other HU16.out HQ16.out (by decide) hg17)
          have HG17 := Aside0.mk (blk_grown HG16.out hg17 (Kd.R_ne HQ16.out HG16.out (by decide)))
          clear ho17 hb17 hg17 hat17
          refine hK.out _ _ ⟨blk_cell HG17.out 0, blk_cell HG17.out 1⟩ (fun hHeld => ?_)
          clear hK K
          refine pure_ (i := 10) (N := some 2) (v := ?_) (a' := ?_) #[true, true, true, true, true, true, true, true, true, true, true, false] rfl rfl (by kernel_rfl) (fun _ _ _ h => h) (Or.inl ⟨by rfl, ?_⟩) ?_ ?_
          rotate_left
          · intro w'
            go_simp
            with_reducible rfl
          rotate_left
          · simp only [Act.put, List.setIfInBounds_toArray, List.set_cons_zero, List.set_cons_succ, i64_w, i32_w]
            rfl
          refine pure_ (i := 11) (N := some 3) (v := ?_) (a' := ?_) #[true, true, true, true, true, true, true, true, true, true, true, true] rfl rfl (by kernel_rfl) (fun _ _ _ h => h) (Or.inl ⟨by rfl, ?_⟩) ?_ ?_
          rotate_left
          · intro w'
            go_simp
            with_reducible rfl
          rotate_left
          · simp only [Act.put, List.setIfInBounds_toArray, List.set_cons_zero, List.set_cons_succ, i64_w, i32_w]
            rfl
          refine done_ (by kernel_rfl) ?_
          go_wp2
          go_roundw
          case rel => exact ⟨j + 1, by omega, by go_num, ⟨zinv_next hlt HP.out HV17.out HQ17.out HU17.out HB17.out⟩⟩
          case measure => simp [intOf]; omega
      · obtain ⟨g18, hg18⟩ : ∃ g, g = w6.heap.size := ⟨_, rfl⟩
        have hn18 := blk_new w6 (.cells #[.float .f64 p.f1] 31)
        obtain ⟨w18, hw18⟩ : ∃ w1, w1 = w6.alloc (.cells #[.float .f64 p.f1] 31) := ⟨_, rfl⟩
        refine event_step (by rfl) (w1 := w18) (v := .slice (some ⟨g18, 0, none⟩) 1 1) (by rw [hg18, hw18]; first | (go_simp; done) | (go_simp; rfl)) ?_
        rw [← hw18, ← hg18] at hn18
        have HX18 := Aside0.mk hn18
        have HV18 := Aside0.mk (Kd.R_alloc HV6.out (.cells #[.float .f64 p.f1] 31))
        have HQ18 := Aside0.mk (Kd.R_alloc HQ6.out (.cells #[.float .f64 p.f1] 31))
        have HU18 := Aside0.mk (Kd.R_alloc HU6.out (.cells #[.float .f64 p.f1] 31))
        have HB18 := Aside0.mk (below_alloc HB6.out (.cells #[.float .f64 p.f1] 31))
        have HG18 := Aside0.mk (blk_alloc HG6.out (.cells #[.float .f64 p.f1] 31))
        rw [← hw18] at HV18 HQ18 HU18 HB18 HG18
        clear hn18 hw18 hg18
        refine hK.out _ _ ⟨blk_cell HG18.out 0, blk_cell HG18.out 1⟩ (fun hHeld => ?_)
        clear hK K
        refine one_ (i := 3) (N := some 16) #[true, true, true, true, false, true, true, true, true, false, false, false] rfl rfl (by kernel_rfl) (by decide) (fun K hK => ?_)
        obtain ⟨g19, hg19⟩ : ∃ g, g = w18.heap.size := ⟨_, rfl⟩
        have hn19 := blk_new w18 (.cells #[.string p.f0] 9)
        obtain ⟨w19, hw19⟩ : ∃ w1, w1 = w18.alloc (.cells #[.string p.f0] 9) := ⟨_, rfl⟩
        refine event_step (by rfl) (w1 := w19) (v := .slice (some ⟨g19, 0, none⟩) 1 1) (by rw [hg19, hw19]; first | (go_simp; done) | (go_simp; rfl)) ?_
        rw [← hw19, ← hg19] at hn19
        have HX19 := Aside0.mk hn19
        have HV19 := Aside0.mk (Kd.R_alloc HV18.out (.cells #[.string p.f0] 9))
        have HQ19 := Aside0.mk (Kd.R_alloc HQ18.out (.cells #[.string p.f0] 9))
        have HU19 := Aside0.mk (Kd.R_alloc HU18.out (.cells #[.string p.f0] 9))
        have HB19 := Aside0.mk (below_alloc HB18.out (.cells #[.string p.f0] 9))
        have HG19 := Aside0.mk (blk_alloc HG18.out (.cells #[.string p.f0] 9))
        have HY19 := Aside0.mk (blk_alloc HX18.out (.cells #[.string p.f0] 9))
        rw [← hw19] at HV19 HQ19 HU19 HB19 HG19 HY19
        clear hn19 hw19 hg19
        refine hK.out _ _ ⟨blk_cell HG19.out 0, blk_cell HG19.out 1⟩ (fun hHeld => ?_)
        clear hK K
        refine one_ (i := 4) (N := some 17) #[true, true, true, true, true, true, true, true, true, false, false, false] rfl rfl (by kernel_rfl) (by decide) (fun K hK => ?_)
        refine Kd.R_append_rows_step Kd.string (w0 := w) w.heap.size (by rfl) (.tmp 13) (.tmp 16) 36 9 (.string ⟨#[]⟩) 16 rfl Tryd.underlying36 info9 rfl (by decide) (by omega) u2 ((L.take j).map M47.f0) [p.f0] _ 1 1 (fun _ => True) (fun _ => False) rfl rfl HV19.out (box_C HX19.out) (fun _ _ h => h) (fun _ h => h.elim) (fun _ _ => trivial) HB19.out HB19.out.size (by simp; omega) ?_
        intro y20 w20 ho20 hb20 hg20 hat20
        have HV20 := Aside0.mk ho20
        have HB20 := Aside0.mk hb20
        have HQ20 := Aside0.mk (R_other HQ19.out HV19.out (by decide) hg20)
        have HU20 := Aside0.mk (R_other HU19.out HV19.out (by decide) hg20)
        have HG20 := Aside0.mk (blk_grown HG19.out hg20 (Kd.R_ne HV19.out HG19.out (by decide)))
        have HY20 := Aside0.mk (blk_grown HY19.out hg20 (Kd.R_ne HV19.out HY19.out (by decide)))
        clear ho20 hb20 hg20 hat20
        refine hK.out _ _ ⟨blk_cell HG20.out 0, blk_cell HG20.out 1⟩ (fun hHeld => ?_)
        clear hK K
        refine one_ (i := 9) (N := some 22) #[true, true, true, true, true, true, true, true, true, true, false, false] rfl rfl (by kernel_rfl) (by decide) (fun K hK => ?_)
        refine Kd.R_append_rows_step kF (w0 := w) w.heap.size (by rfl) (.tmp 18) (.tmp 21) 38 31 (.float .f64 0) 8 rfl Tryd.underlying38 info31 rfl (by decide) (by omega) u3 ((L.take j).map M47.f1) [p.f1] _ 1 1 (fun _ => True) (fun _ => False) rfl rfl HQ20.out (box_C HY20.out) (fun _ _ h => h) (fun _ h => h.elim) (fun _ _ => trivial) HB20.out HB20.out.size (by simp; omega) ?_
        intro y21 w21 ho21 hb21 hg21 hat21
        have HQ21 := Aside0.mk ho21
        have HB21 := Aside0.mk hb21
        have HV21 := Aside0.mk (R_other HV20.out HQ20.out (by decide) hg21)
        have HU21 := Aside0.mk (R_other HU20.out HQ20.out (by decide) hg21)
        have HG21 := Aside0.mk (blk_grown HG20.out hg21 (Kd.R_ne HQ20.out HG20.out (by decide)))
        clear ho21 hb21 hg21 hat21
        refine hK.out _ _ ⟨blk_cell HG21.out 0, blk_cell HG21.out 1⟩ (fun hHeld => ?_)
        clear hK K
        refine pure_ (i := 10) (N := some 2) (v := ?_) (a' := ?_) #[true, true, true, true, true, true, true, true, true, true, true, false] rfl rfl (by kernel_rfl) (fun _ _ _ h => h) (Or.inl ⟨by rfl, ?_⟩) ?_ ?_
        rotate_left
        · intro w'
          go_simp
          with_reducible rfl
        rotate_left
        · simp only [Act.put, List.setIfInBounds_toArray, List.set_cons_zero, List.set_cons_succ, i64_w, i32_w]
          rfl
        refine pure_ (i := 11) (N := some 3) (v := ?_) (a' := ?_) #[true, true, true, true, true, true, true, true, true, true, true, true] rfl rfl (by kernel_rfl) (fun _ _ _ h => h) (Or.inl ⟨by rfl, ?_⟩) ?_ ?_
        rotate_left
        · intro w'
          go_simp
          with_reducible rfl
        rotate_left
        · simp only [Act.put, List.setIfInBounds_toArray, List.set_cons_zero, List.set_cons_succ, i64_w, i32_w]
          rfl
        refine done_ (by kernel_rfl) ?_
        go_wp2
        go_roundw
        case rel => exact ⟨j + 1, by omega, by go_num, ⟨zinv_next hlt HP.out HV21.out HQ21.out HU21.out HB21.out⟩⟩
        case measure => simp [intOf]; omega
    · have hje : L.take j = L := List.take_of_length_le (by omega)
      have HE := Aside0.mk hje
      clear hje
      go_wp2_with fail
      go_ret2
      have hm := HI.out.media
      have hq := HI.out.quality
      rw [HE.out] at hm hq
      rw [← HL.out]
      exact ⟨u2, u3, rfl, hm, hq, HI.out.below⟩
end Go.Proofs.YtkjepgahnaieaaaDoor.PFnAccept
