/- Accepts: the media of the sorted list, each with its quality; the deferred closure finds no panic. -/
import Derived.Test.YtkjepgahnaieaaaDoorMc
import Derived.Defers
import Derived.Recover
namespace Go.Proofs.YtkjepgahnaieaaaDoor.PFnAccept
open Go.RowKit Go.Proofs.YtkjepgahnaieaaaDoorW.PrintWords Go.Proofs.YtkjepgahnaieaaaDoorW.PrintLast Go.Proofs.YtkjepgahnaieaaaDoorW.PrintMore
attribute [local go_sem] run_store_float
set_option linter.unusedSimpArgs false
set_option linter.unusedVariables false

theorem info33 : (Tryd.prog.info? 33).map (fun i => (i.zero, i.size, i.bytes)) = some (some (.agg #[.string ⟨#[]⟩, .float .f64 0]), 2, 24) := by kernel_rfl
theorem at_kF {w : World} {A : Option Addr} {n : Nat} {xs : List Nat} (h : Kd.C kF w A n xs) (j : Nat) (h1 : j < n) :
    ∃ ad, A = some ad ∧ w.cell? (ad.add j) = some (.float .f64 (xs.getD j 0)) := by
  have h2 := Kd.reads_of_C (d := 0) h
  obtain ⟨ad, e, h0⟩ := h2.at_ (j : Int) (by omega) (by omega)
  exact ⟨ad, e, by simpa [rdOf] using h0⟩
/-- The closure that Accepts defers, where no panic is under way. -/
theorem idle_calls (p : Addr) (w : World) :
    CallsD Tryd.prog 13 #[.pointer (some p)] .returning w fun e u' w' => e = .returned (.tuple #[]) ∧ u' = .returning ∧ w' = w := by
  refine callsD_of_wpS Tryd.func13 rfl fun c₀ cs hu => ?_
  apply wpS_seq
  apply wpS_region
  simp [wpOpsS, go_sem, recoverD, hu, Tryd.ntmps13, Exit.thenS]
  refine wpS_cond (t := false) (by simp [Act.eval, Array.replicate]) ?_
  simp only [Bool.false_eq_true, if_false]
  refine wpS_of_wp (wp_skip ?_)
  cases c₀
  simp_all [bodyPostS, results, Tryd.results13]

/-- A walk that comes to the code's end alone. -/
def OnlyN (Q : Exit → Act → World → Prop) : Exit → Act → World → Prop
  | .normal, a, w => Q .normal a w
  | _, _, _ => False
theorem wp_onlyN {P : Program} {c : Code} {Q : Exit → Act → World → Prop} {a : Act} {w : World} (h : c.wp P (OnlyN Q) a w) : c.wp P Q a w :=
  Code.wp_mono (fun e a w hq => by cases e <;> first | exact hq | exact hq.elim) h
theorem onlyN_intro {Q : Exit → Act → World → Prop} {a : Act} {w : World} (h : Q .normal a w) : OnlyN Q .normal a w := h

/-- What the loop keeps. -/
structure AInv (w0 wr : World) (v u q : Value) (L : List M47) (j : Nat) : Prop where
  media : Kd.R Kd.string 9 wr w0.heap.size (fun _ => True) u (L.map M47.f0)
  quality : Kd.R kF 31 wr w0.heap.size (fun _ => True) q (L.map M47.f1)
  row : Kd.R k47 33 wr w0.heap.size (fun _ => True) v (L.take j)
  cell : wr.heap[w0.heap.size]? = some (.cells #[v] 25 (0, 0))
  below : Below w0.heap.size w0 wr
theorem ainv_next {w0 wr : World} {v u q : Value} {L : List M47} {j : Nat} {p : M47} (hj : j < L.length) (hp : p = L.getD j z47) (h1 : Kd.R Kd.string 9 wr w0.heap.size (fun _ => True) u (L.map M47.f0)) (h2 : Kd.R kF 31 wr w0.heap.size (fun _ => True) q (L.map M47.f1)) (h3 : Kd.R k47 33 wr w0.heap.size (fun _ => True) v (L.take j ++ [p])) (h4 : wr.heap[w0.heap.size]? = some (.cells #[v] 25 (0, 0))) (h5 : Below w0.heap.size w0 wr) : AInv w0 wr v u q L (j + 1) := by
  have e : L.take (j + 1) = L.take j ++ [p] := by
    rw [List.take_succ_eq_append_getElem hj, hp, List.getD_eq_getElem?_getD, List.getElem?_eq_getElem hj, Option.getD_some]
  exact ⟨h1, h2, by rw [e]; exact h3, h4, h5⟩
theorem ainv_start {w w1 : World} {u q : Value} {L : List M47} (h1 : Kd.R Kd.string 9 w1 (w.alloc (.cells #[.slice none 0 0] 25)).heap.size (fun _ => True) u (L.map M47.f0)) (h2 : Kd.R kF 31 w1 (w.alloc (.cells #[.slice none 0 0] 25)).heap.size (fun _ => True) q (L.map M47.f1)) (hb : Below (w.alloc (.cells #[.slice none 0 0] 25)).heap.size (w.alloc (.cells #[.slice none 0 0] 25)) w1) : AInv w w1 (.slice none 0 0) u q L 0 := by
  have hB := below_step (below_alloc (Below.refl w.heap.size w) (.cells #[.slice none 0 0] 25)) hb
  refine ⟨Kd.R_lower h1 (by simp), Kd.R_lower h2 (by simp), Kd.R_nil _ _ _ _ _, ?_, hB⟩
  exact blk_below (blk_new w (.cells #[.slice none 0 0] 25)) hb

set_option maxHeartbeats 8000000 in
set_option maxRecDepth 100000 in
theorem accepts_calls (s : List UInt8) (ms : List M47) (w : World) (hG : GL w) (hs : s.length ≤ 100000000000) (hseg : Segs (splitL 44 s) ms) (hms : ms.length ≤ 20) :
    Calls Tryd.prog 7 #[.string (mkB s)] w fun e w' => ∃ v, e = .returned v ∧ Kd.R k47 33 w' w.heap.size (fun _ => True) v (sortL ms) ∧ Below w.heap.size w w' := by
  have HH := Aside0.mk (And.intro (hG.below (below_alloc (Below.refl w.heap.size w) (.cells #[.slice none 0 0] 25))) hseg)
  obtain ⟨L, hL⟩ : ∃ L, L = sortL ms := ⟨_, rfl⟩
  have HL := Aside0.mk hL
  have hLl : L.length ≤ 20 := by rw [hL, sortL_len]; exact hms
  have hl0 : (L.map M47.f0).length = L.length := List.length_map _
  have hl1 : (L.map M47.f1).length = L.length := List.length_map _
  have HLn := Aside0.mk (And.intro hl0 hl1)
  clear hG hseg hL hl0 hl1
  have hmf : ∀ (fn : Fn) (first cap : Array Value) (w : World), (Instr.makeFunc fn first cap).run Tryd.prog w = .ok (.func fn first cap) w := fun _ _ _ _ => rfl
  go_enter_defers Tryd.func7, Tryd.ntmps7
  go_wp2_with (go_at_call 14; (with_reducible refine (mimes_calls s ms _ HH.out.1 hs HH.out.2 hms).mono ?_); rintro e w1 ⟨u, q, rfl, hR1, hR2, hb1⟩; rw [← HL.out] at hR1 hR2; have HI := Aside0.mk (ainv_start hR1 hR2 hb1); clear hR1 hR2 hb1; obtain ⟨A1, c1, e1⟩ := Kd.R_slice HI.out.media; subst e1; obtain ⟨A2, c2, e2⟩ := Kd.R_slice HI.out.quality; subst e2; rw [HLn.out.1, HLn.out.2] at HI; rw [HLn.out.1, HLn.out.2])
  go_loopw [15] (fun i wr => ∃ j : Nat, j ≤ L.length ∧ i = .int .i64 j ∧ ∃ v, Aside0 (AInv w wr v (.slice A1 L.length c1) (.slice A2 L.length c2) L j)) (fun i _ => L.length - (intOf i).toNat)
  case atStart => exact ⟨0, Nat.zero_le _, rfl, _, HI⟩
  case round =>
    clear HI
    obtain ⟨j, hj, rfl, v, HI⟩ := hrel
    by_cases hlt : j < L.length
    · obtain ⟨p, hp⟩ : ∃ p, p = L.getD j z47 := ⟨_, rfl⟩
      have HP := Aside0.mk hp
      obtain ⟨ad1, e1, hm1⟩ := (Kd.reads_of_C (d := ByteArray.empty) (Kd.R_reads' HI.out.media).2.2).at_ (j : Int) (by omega) (by have := HLn.out.1; omega)
      obtain ⟨ad2, e2, hq1⟩ := at_kF (Kd.R_reads' HI.out.quality).2.2 j (by rw [HLn.out.2]; exact hlt)
      have hm2 : rdOf ByteArray.empty (L.map M47.f0) (j : Int) = p.f0 := by
        rw [hp]
        simp only [rdOf, Int.toNat_natCast, List.getD_eq_getElem?_getD, List.getElem?_map, List.getElem?_eq_getElem hlt, Option.map_some, Option.getD_some]
      have hq2 : (L.map M47.f1).getD j 0 = p.f1 := by
        rw [hp]
        simp only [List.getD_eq_getElem?_getD, List.getElem?_map, List.getElem?_eq_getElem hlt, Option.map_some, Option.getD_some]
      rw [hm2, Int.toNat_natCast] at hm1
      rw [hq2] at hq1
      have HQ1 := Aside0.mk hq1
      subst e1
      subst e2
      clear hm2 hq2 hp hq1
      go_wp2_with fail
      have HV6 := Aside0.mk (Kd.R_drew HI.out.media)
      have HU6 := Aside0.mk (Kd.R_drew HI.out.quality)
      have HX6 := Aside0.mk (Kd.R_drew HI.out.row)
      have HB6 := Aside0.mk (below_drew1 HI.out.below)
      have HC6 := Aside0.mk (blk_drew HI.out.cell)
      have HQ6 : Aside0 (World.cell? wr.drew (ad2.add j) = some (.float .f64 p.f1)) := ⟨HQ1.out⟩
      refine wp_onlyN ?_
      refine start_ (n := 10) (S := fun w' => w'.cell? ⟨w.heap.size, 0, none⟩ = some v ∧ w'.cell? (ad2.add j) = some (.float .f64 p.f1)) (ds := [8, 9]) #[false, false, false, false, false, false, false, false, false, false] (by kernel_rfl) rfl rfl ⟨blk_cell HC6.out 0, HQ6.out⟩ (fun hHeld => ?_)
      generalize wr.drew = w6 at HV6 HU6 HX6 HB6 HC6 HQ6 hHeld ⊢
      refine take_ (i := 0) (N := some 20) (v := ?_) (a' := ?_) #[true, false, false, false, false, false, false, false, false, false] rfl rfl (by kernel_rfl) (fun _ _ _ h => h) (Or.inl ⟨by rfl, ?_⟩) hHeld ?_ ?_
      rotate_left
      · rintro w' ⟨s0, s1⟩
        go_simp
        with_reducible rfl
      rotate_left
      · simp only [Act.put, List.setIfInBounds_toArray, List.set_cons_zero, List.set_cons_succ, i64_w, i32_w]
        rfl
      refine pure_ (i := 1) (N := some 21) (v := ?_) (a' := ?_) #[true, true, false, false, false, false, false, false, false, false] rfl rfl (by kernel_rfl) (fun _ _ _ h => h) (Or.inl ⟨by rfl, ?_⟩) ?_ ?_
      rotate_left
      · intro w'
        go_simp
        with_reducible rfl
      rotate_left
      · simp only [Act.put, List.setIfInBounds_toArray, List.set_cons_zero, List.set_cons_succ, i64_w, i32_w]
        rfl
      refine pure_ (i := 2) (N := some 22) (v := ?_) (a' := ?_) #[true, true, true, false, false, false, false, false, false, false] rfl rfl (by kernel_rfl) (fun _ _ _ h => h) (Or.inl ⟨by rfl, ?_⟩) ?_ ?_
      rotate_left
      · intro w'
        go_simp
        with_reducible rfl
      rotate_left
      · simp only [Act.put, List.setIfInBounds_toArray, List.set_cons_zero, List.set_cons_succ, i64_w, i32_w]
        rfl
      refine pure_ (i := 3) (N := some 23) (v := ?_) (a' := ?_) #[true, true, true, true, false, false, false, false, false, false] rfl rfl (by kernel_rfl) (fun _ _ _ h => h) (Or.inl ⟨by rfl, ?_⟩) ?_ ?_
      rotate_left
      · intro w'
        go_simp
        with_reducible rfl
      rotate_left
      · simp only [Act.put, List.setIfInBounds_toArray, List.set_cons_zero, List.set_cons_succ, i64_w, i32_w]
        rfl
      refine pure_ (i := 4) (N := some 24) (v := ?_) (a' := ?_) #[true, true, true, true, true, false, false, false, false, false] rfl rfl (by kernel_rfl) (fun _ _ _ h => h) (Or.inl ⟨by rfl, ?_⟩) ?_ ?_
      rotate_left
      · intro w'
        go_simp
        with_reducible rfl
      rotate_left
      · simp only [Act.put, List.setIfInBounds_toArray, List.set_cons_zero, List.set_cons_succ, i64_w, i32_w]
        rfl
      refine take_ (i := 5) (N := some 25) (v := ?_) (a' := ?_) #[true, true, true, true, true, true, false, false, false, false] rfl rfl (by kernel_rfl) (fun _ _ _ h => h) (Or.inl ⟨by rfl, ?_⟩) hHeld ?_ ?_
      rotate_left
      · rintro w' ⟨s0, s1⟩
        go_simp
        with_reducible rfl
      rotate_left
      · simp only [Act.put, List.setIfInBounds_toArray, List.set_cons_zero, List.set_cons_succ, i64_w, i32_w]
        rfl
      refine pure_ (i := 6) (N := some 26) (v := ?_) (a' := ?_) #[true, true, true, true, true, true, true, false, false, false] rfl rfl (by kernel_rfl) (fun _ _ _ h => h) (Or.inl ⟨by rfl, ?_⟩) ?_ ?_
      rotate_left
      · intro w'
        go_simp
        with_reducible rfl
      rotate_left
      · simp only [Act.put, List.setIfInBounds_toArray, List.set_cons_zero, List.set_cons_succ, i64_w, i32_w]
        rfl
      refine one_ (i := 7) (N := some 27) #[true, true, true, true, true, true, true, true, false, false] rfl rfl (by kernel_rfl) (by decide) (fun K hK => ?_)
      refine event_step (by rfl) (w1 := w6.alloc (.cells #[.string p.f0, .float .f64 p.f1] 33)) (v := .slice (some ⟨w6.heap.size, 0, none⟩) 1 1) ?_ ?_
      · first | (go_simp; done) | (go_simp; rfl)
      refine hK.out _ _ ⟨blk_cell (blk_alloc HC6.out _) 0, pw_cell_below (below_alloc (Below.refl w6.heap.size w6) _) HQ6.out⟩ (fun hHeld => ?_)
      clear hK K
      refine last_ (i := 8) (N := some 28) #[true, true, true, true, true, true, true, true, true, false] rfl rfl (by kernel_rfl) (by decide) (fun K hK => ?_)
      refine Kd.R_append_step k47 (w0 := w) (W := w6) w.heap.size (by rfl) (.tmp 20) (.tmp 27) 25 33 (.agg #[.string ⟨#[]⟩, .float .f64 0]) 24 rfl Tryd.underlying25 info33 rfl (by decide) (by omega) v (L.take j) p [.string p.f0, .float .f64 p.f1] (fun _ => True) (fun _ => False) rfl rfl (k47_mkM _ _ _ p) (fun _ hk => hk.elim) (fun _ _ => trivial) HX6.out HB6.out HB6.out.size (by rw [List.length_take]; omega) ?_
      intro y8 w8 ho8 hb8 hg8 hat8
      obtain ⟨A8, c8, e8⟩ := Kd.R_slice ho8
      have l8 : (L.take j ++ [p]).length = j + 1 := by rw [List.length_append, List.length_take, List.length_singleton]; omega
      rw [l8] at e8
      subst e8
      clear l8
      have hc8 := blk_grown HC6.out hg8 (Kd.R_ne HX6.out HC6.out (by decide))
      have HC8 := Aside0.mk hc8
      have h80 : w8.cell? ⟨w.heap.size, 0, none⟩ = some v := blk_cell hc8 0
      have h81 := blk_frozen hc8 0
      have HX9 := Aside0.mk (Kd.R_set ho8 hc8 (by decide) 0 (.slice A8 (j + 1) c8))
      have HV9 := Aside0.mk (Kd.R_set (R_other HV6.out HX6.out (by decide) hg8) hc8 (by decide) 0 (.slice A8 (j + 1) c8))
      have HU9 := Aside0.mk (Kd.R_set (R_other HU6.out HX6.out (by decide) hg8) hc8 (by decide) 0 (.slice A8 (j + 1) c8))
      have HB9 := Aside0.mk (hb8.setCell (p := ⟨w.heap.size, 0, none⟩) (Nat.le_refl _) (.slice A8 (j + 1) c8))
      have HC9 := Aside0.mk (blk_put hc8 0 (.slice A8 (j + 1) c8) (cs' := #[.slice A8 (j + 1) c8]) rfl)
      clear ho8 hb8 hg8 hat8 hc8
      refine hK.out _ _ ?_
      clear hK K
      refine last_ (i := 9) (N := none) #[true, true, true, true, true, true, true, true, true, true] rfl rfl (by kernel_rfl) (by decide) (fun K hK => ?_)
      refine skip_ (w1 := w8.setCell ⟨w.heap.size, 0, none⟩ (.slice A8 (j + 1) c8)) (by rfl) rfl ?_ ?_
      · go_simp
      refine hK.out _ _ ?_
      clear hK K
      refine done_ (by kernel_rfl) ?_
      refine onlyN_intro ?_
      go_wp2
      go_roundw
      case rel => exact ⟨j + 1, by omega, by go_num, _, ⟨ainv_next hlt HP.out HV9.out HU9.out HX9.out HC9.out HB9.out⟩⟩
      case measure => simp [intOf]; omega
    · have hje : L.take j = L := List.take_of_length_le (by omega)
      obtain ⟨Av, cv, ev⟩ := Kd.R_slice HI.out.row
      subst ev
      have hrow := HI.out.row
      have hcell := HI.out.cell
      rw [hje] at hrow hcell
      have HX9 := Aside0.mk (Kd.R_set hrow hcell (by decide) 0 (.slice Av L.length cv))
      have HB9 := Aside0.mk (HI.out.below.setCell (p := ⟨w.heap.size, 0, none⟩) (Nat.le_refl _) (.slice Av L.length cv))
      have hc1 : wr.cell? ⟨w.heap.size, 0, none⟩ = some (.slice Av L.length cv) := blk_cell hcell 0
      have hf1 := blk_frozen hcell 0
      have h9 : (wr.setCell ⟨w.heap.size, 0, none⟩ (.slice Av L.length cv)).cell? ⟨w.heap.size, 0, none⟩ = some (.slice Av L.length cv) := blk_cell (blk_put hcell 0 (.slice Av L.length cv) (cs' := #[.slice Av L.length cv]) rfl) 0
      have H9 := Aside0.mk h9
      clear hje hrow hcell h9
      go_wp2_with fail
      refine leaves_cons (f := 13) (args := #[.pointer (some ⟨w.heap.size, 0, none⟩)]) (by simp) (by simp [go_sem]) ?_
      refine (idle_calls ⟨w.heap.size, 0, none⟩ _).mono ?_
      rintro e u' w'' ⟨rfl, rfl, rfl⟩
      have h9 := H9.out
      rw [← HL.out]
      simp [Leaves, settle, results, Tryd.results7, go_sem]
      rw [h9]
      exact ⟨_, rfl, HX9.out, HB9.out⟩
end Go.Proofs.YtkjepgahnaieaaaDoor.PFnAccept
