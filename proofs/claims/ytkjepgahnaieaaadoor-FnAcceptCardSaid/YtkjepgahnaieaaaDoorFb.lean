/- The Go functions below FnAccept that meet no float, spec.Ordered: it comes to what a plain Lean function gives. Turned by wip/adapt.py from what print.sh wrote for this seat (one closer turned). -/
import Derived.Test.YtkjepgahnaieaaaDoorPFnAcceptx0
import Derived.Outline
namespace Go.Proofs.YtkjepgahnaieaaaDoor.PFnAccept
open Go.RowKit Go.Proofs.YtkjepgahnaieaaaDoorW.PrintWords Go.Proofs.YtkjepgahnaieaaaDoorW.PrintLast Go.Proofs.YtkjepgahnaieaaaDoorW.PrintMore
attribute [local go_sem] max2_int min2_int max_two min_two max_three min_three max_four min_four   -- for this text's walks alone
set_option linter.unusedVariables false
set_option linter.unusedSimpArgs false

/-! ### spec_Ordered: function 9 -/
mutual
def spec_Ordered.l0 : Nat → List (S30) → Int → Int → Option ((List (S30)))
  | 0, _, _, _ => none
  | k + 1, x3, x10, x11 => if x11 < x10 then (spec_Ordered.l1 k x3 x11 x10 x11) else (some x3)
def spec_Ordered.l1 : Nat → List (S30) → Int → Int → Int → Option ((List (S30)))
  | 0, _, _, _, _ => none
  | k + 1, x3, x5, x10, x11 => if x5 > 0 then (if 0 ≤ x5 then (if x5 < (x3.length : Int) then (if 0 ≤ (wrap64 (x5 - 1)) then (if (wrap64 (x5 - 1)) < (x3.length : Int) then (if ((rd_T30 x3 x5).f1) > ((rd_T30 x3 (wrap64 (x5 - 1))).f1) then (spec_Ordered.l1 k ((x3.set (x5 : Int).toNat (⟨(rd_T30 x3 (wrap64 (x5 - 1))).f0, (rd_T30 x3 (wrap64 (x5 - 1))).f1⟩ : S30)).set ((wrap64 (x5 - 1)) : Int).toNat (⟨(rd_T30 x3 x5).f0, (rd_T30 x3 x5).f1⟩ : S30)) (wrap64 (x5 - 1)) x10 x11) else (spec_Ordered.l0 k x3 x10 (wrap64 (x11 + 1)))) else (none)) else (none)) else (none)) else (none)) else (spec_Ordered.l0 k x3 x10 (wrap64 (x11 + 1)))
end
def spec_Ordered.f (k : Nat) (l0 : List (S30)) : Option ((List (S30))) := (some (([] : List (S30)) : List (S30))).bind fun y189 => (if y189.length + l0.length < 5864062014805 then ((some (y189 ++ l0 : List (S30))).bind fun y192 => (spec_Ordered.l0 k y192 (y192.length : Int) 0)) else (none))
theorem spec_Ordered.mono_l : ∀ k, (∀ y0 y1 y2, LeO (spec_Ordered.l0 k y0 y1 y2) (spec_Ordered.l0 (k + 1) y0 y1 y2)) ∧ (∀ y0 y1 y2 y3, LeO (spec_Ordered.l1 k y0 y1 y2 y3) (spec_Ordered.l1 (k + 1) y0 y1 y2 y3))
  | 0 => ⟨fun _ _ _ r h => by simp [spec_Ordered.l0] at h, fun _ _ _ _ r h => by simp [spec_Ordered.l1] at h⟩
  | k + 1 => by
    obtain ⟨ih0, ih1⟩ := spec_Ordered.mono_l k
    refine ⟨?_, ?_⟩
    · intro y0 y1 y2
      unfold spec_Ordered.l0
      repeat' first
      | (with_reducible exact ih0 _ _ _)
      | (with_reducible exact ih1 _ _ _ _)
      | (with_reducible exact LeO.refl _)
      | (with_reducible exact LeO.none _)
      | (with_reducible refine LeO.ite ?_ ?_)
      | (with_reducible refine LeO.bind ?_ (fun _ => ?_))
      | exact ih0 _ _ _
      | exact ih1 _ _ _ _
      | exact LeO.none _
      | refine LeO.ite ?_ ?_
      | refine LeO.bind ?_ (fun _ => ?_)
    · intro y0 y1 y2 y3
      unfold spec_Ordered.l1
      repeat' first
      | (with_reducible exact ih0 _ _ _)
      | (with_reducible exact ih1 _ _ _ _)
      | (with_reducible exact LeO.refl _)
      | (with_reducible exact LeO.none _)
      | (with_reducible refine LeO.ite ?_ ?_)
      | (with_reducible refine LeO.bind ?_ (fun _ => ?_))
      | exact ih0 _ _ _
      | exact ih1 _ _ _ _
      | exact LeO.none _
      | refine LeO.ite ?_ ?_
      | refine LeO.bind ?_ (fun _ => ?_)
theorem spec_Ordered.mono : ∀ a0 k, LeO (spec_Ordered.f k a0) (spec_Ordered.f (k + 1) a0) := by
  intro a0 k
  obtain ⟨ih0, ih1⟩ := spec_Ordered.mono_l k
  unfold spec_Ordered.f
  repeat' first
      | (with_reducible exact ih0 _ _ _)
      | (with_reducible exact ih1 _ _ _ _)
      | (with_reducible exact LeO.refl _)
      | (with_reducible exact LeO.none _)
      | (with_reducible refine LeO.ite ?_ ?_)
      | (with_reducible refine LeO.bind ?_ (fun _ => ?_))
      | exact ih0 _ _ _
      | exact ih1 _ _ _ _
      | exact LeO.none _
      | refine LeO.ite ?_ ?_
      | refine LeO.bind ?_ (fun _ => ?_)
def spec_Ordered.T6 : Bool × List (List Nat × List Nat) := (true, [([], []), ([0], [0]), ([1], [1]), ([2], [2]), ([2], [2]), ([3, 4, 2], [2, 3, 4]), ([5, 2], [2, 5]), ([6, 2], [2, 6]), ([2], [2]), ([2], [2]), ([9, 2], [2, 9]), ([8, 10, 2], [2, 8, 10]), ([11, 2], [2, 11]), ([12, 2], [2, 12]), ([7, 13, 2], [2, 7, 13]), ([2, 14], [2, 14])])
def spec_Ordered.B6 : List Nat := [0, 1, 3, 7, 7, 31, 63, 127, 7, 7, 519, 1799, 3847, 7943, 16383, 32767]
theorem spec_Ordered.tab6 : rtab .any (opsOf Tryd.f9 6) = spec_Ordered.T6 := by kernel_rfl
theorem spec_Ordered.bits6 : waitsOk spec_Ordered.T6.2 spec_Ordered.B6 = true := by kernel_rfl
def spec_Ordered.T8 : Bool × List (List Nat × List Nat) := (true, [([], []), ([], []), ([], []), ([], []), ([3], [3]), ([], []), ([], []), ([6], [6]), ([5, 7], [5, 7]), ([8], [8]), ([], []), ([], []), ([10, 11], [10, 11]), ([12], [12]), ([0, 1, 0, 1, 5, 6, 7, 8, 9, 13], [0, 1]), ([14, 9, 0, 1, 5, 6, 7, 8, 9, 13], [9, 14]), ([2, 4, 0, 1, 2, 3, 4, 5, 6, 7, 8, 9, 10, 11, 12, 13, 14, 15], [2, 4]), ([16, 13, 15, 0, 1, 2, 3, 4, 5, 6, 7, 8, 9, 10, 11, 12, 13, 14, 15], [13, 16])])
def spec_Ordered.B8 : List Nat := [0, 0, 0, 0, 8, 0, 0, 64, 224, 480, 0, 0, 3072, 7168, 16355, 32739, 65535, 131071]
theorem spec_Ordered.tab8 : rtab .any (opsOf Tryd.f9 8) = spec_Ordered.T8 := by kernel_rfl
theorem spec_Ordered.bits8 : waitsOk spec_Ordered.T8.2 spec_Ordered.B8 = true := by kernel_rfl
set_option maxHeartbeats 8000000 in
set_option maxRecDepth 100000 in
theorem spec_Ordered.calls (k : Nat) (A0 : Option Addr) (c0 : Nat) (l0 : List (S30)) (r : List (S30)) (w : World) (hr0 : Kd.C k30 w A0 l0.length l0) (hc0 : l0.length ≤ c0) (h : spec_Ordered.f k l0 = some r) :
    Calls Tryd.prog 9 #[.slice A0 l0.length c0] w fun e w' => ∃ v0_ : Value, e = .returned (v0_) ∧ Kd.R k30 30 w' w.heap.size (fun _ => True) v0_ r ∧ Below w.heap.size w w' := by
  have hu30 := Tryd.underlying30
  have HR0 := Aside0.mk hr0
  have HC0 := Aside0.mk hc0
  clear hr0 hc0
  have HB := Aside0.mk (Below.refl w.heap.size w)
  have H : ((some (([] : List (S30)) : List (S30))).bind fun y189 => (if y189.length + l0.length < 5864062014805 then ((some (y189 ++ l0 : List (S30))).bind fun y192 => (spec_Ordered.l0 k y192 (y192.length : Int) 0)) else (none))) = some r := h
  clear h
  obtain ⟨y189, hy189⟩ : ∃ y_ : List (S30), y_ = (([] : List (S30))) := ⟨_, rfl⟩
  replace H : (if y189.length + l0.length < 5864062014805 then ((some (y189 ++ l0 : List (S30))).bind fun y192 => (spec_Ordered.l0 k y192 (y192.length : Int) 0)) else (none)) = some r := by first | (rw [hy189]; with_reducible exact H) | (have H2_ := (Option.bind_some _ _).symm.trans H; rw [hy189]; with_reducible exact H2_) | (have H2_ := (Option.bind_some _ _).symm.trans H; with_reducible exact H2_) | with_reducible exact H | (rw [hy189]; exact H) | exact H
  have Ny189 := Aside0.mk hy189
  clear hy189
  by_cases c2 : y189.length + l0.length < 5864062014805
  · rw [if_pos c2] at H
    have LMc2 := Aside0.mk c2
    clear c2
    obtain ⟨y192, hy192⟩ : ∃ y_ : List (S30), y_ = (y189 ++ l0) := ⟨_, rfl⟩
    replace H : (spec_Ordered.l0 k y192 (y192.length : Int) 0) = some r := by first | (rw [hy192]; with_reducible exact H) | (have H2_ := (Option.bind_some _ _).symm.trans H; rw [hy192]; with_reducible exact H2_) | (have H2_ := (Option.bind_some _ _).symm.trans H; with_reducible exact H2_) | with_reducible exact H | (rw [hy192]; exact H) | exact H
    have Ny192 := Aside0.mk hy192
    clear hy192
    have H' := Aside0.mk H
    clear H
    go_enter Tryd.func9, Tryd.ntmps9
    go_wp2_with (first | ((with_reducible refine gate_dst (N := 6) rfl ?_); refine Kd.R_lit k30 _ 30 ?hg (N := 6) ?hd (xs := ([] : List (S30))) (inner := []) (ok := fun _ => True) (okp := fun _ => True) ?hr ?hp (fun _ hk => hk) trivial (Below.refl _ _) (Nat.le_refl _) (by simp) ?_; (case hd => rfl); (case hg => rfl); (case hr => first | (go_simp; done) | (go_simp; rfl)); (case hp => exact (Reps.none _ _)); intro v190 w3 ho4 hb hg_ hnew_; clear hg_ hnew_; (first | rw [← Ny189.out] at ho4 | (simp only [Int.reduceToNat] at ho4; rw [← Ny189.out] at ho4)); have n0_ := Aside0.mk (Kd.R_lower ho4 (below_size (by repeat (first | (with_reducible first | exact HB.out | apply below_alloc | apply pw_below_drewN | apply below_drew1) | exact HB.out)))); have n1_ := Aside0.mk (below_step (by repeat (first | (with_reducible first | exact HB.out | apply below_alloc | apply pw_below_drewN | apply below_drew1) | exact HB.out)) hb); clear HB; have HO191 := n0_; have HB := n1_; clear n0_ n1_; clear hb ho4) | ((with_reducible refine gate_builtin (b := .append) (xs := #[.tmp 6, .tmp 7]) rfl ?_); at_builtin; refine Kd.R_append_rows k30 (w0 := w) w.heap.size rfl (.tmp 6) (.tmp 7) 22 30 (.agg #[(.string ⟨#[]⟩), (.int .i64 0)]) 24 rfl Tryd.underlying22 info30 rfl (by decide) (by omega) v190 y189 l0 _ _ _ (fun _ => True) (fun _ => False) rfl rfl ?aO ?aR (fun _ _ h => h) (fun _ h => h.elim) ?aF ?aB ?aS ?aL ?_; (case aR => repeat (first | exact (Kd.C_below HR0.out HB.out) | (with_reducible refine Kd.C_alloc ?_ _) | (with_reducible refine Kd.C_drewN ?_ _) | (with_reducible refine Kd.C_drew ?_))); (case aB => exact (by repeat (first | (with_reducible first | exact HB.out | apply below_alloc | apply pw_below_drewN | apply below_drew1) | exact HB.out))); (case aF => exact (fun _ _ => trivial)); (case aO => exact (by (with_reducible repeat (first | apply Kd.R_alloc | apply Kd.R_drewN | apply Kd.R_drew)); exact HO191.out)); (case aS => exact (below_size (by repeat (first | (with_reducible first | exact HB.out | apply below_alloc | apply pw_below_drewN | apply below_drew1) | exact HB.out)))); (case aL => have := LMc2.out; omega); intro v193 w5 ho hb hg hat; rw [← Ny192.out] at ho; have n0_ := Aside0.mk (hb); have n1_ := Aside0.mk (ho); clear HB; clear HO191; have HB := n0_; have HO194 := n1_; clear n0_ n1_; clear ho hb hg hat; obtain ⟨Ao6, co6, eo6⟩ := Kd.R_slice HO194.out; subst eo6))
    go_loopg [11] k (fun kq v11 w' => ∃ (x3_1 : List (S30)) (x11_1 : Int), v11 = .int .i64 x11_1 ∧ Aside0 (spec_Ordered.l0 kq x3_1 (y192.length : Int) x11_1 = some r) ∧ Aside0 (kq ≤ k) ∧ Aside0 (Kd.R k30 30 w' w.heap.size (fun _ => True) (.slice Ao6 y192.length co6) x3_1) ∧ Aside0 (Below w.heap.size w w'))
    case atStart => exact ⟨(y192), (0), (by first | rfl | (simp; done) | (simp [*]; done)), H', ⟨Nat.le_refl _⟩, ⟨by (with_reducible repeat (first | apply Kd.R_alloc | apply Kd.R_drewN | apply Kd.R_drew)); exact HO194.out⟩, ⟨by repeat (first | (with_reducible first | exact HB.out | apply below_alloc | apply pw_below_drewN | apply below_drew1) | exact HB.out)⟩⟩
    case round =>
      clear H'
      try clear c2
      try clear p2
      obtain ⟨x3_1, x11_1, rfl, HA, HK1, HO_3, HB⟩ := hrel
      have hl3_1 := (Kd.R_reads' HO_3.out).1
      rw [hl3_1] at HO_3
      (try simp only [hl3_1])
      cases gk with
      | zero => exact absurd HA.out (by simp [spec_Ordered.l0])
      | succ k1 =>
        have H := HA.out
        clear HA
        simp only [spec_Ordered.l0] at H
        by_cases c7 : x11_1 < (y192.length : Int)
        · rw [if_pos c7] at H
          have c7b0 : decide (x11_1 < (y192.length : Int)) = true := decide_eq_true c7
          have c7b1 := c7b0
          rw [hl3_1] at c7b1
          clear c7
          have H' := Aside0.mk H
          clear H
          go_wp2
          go_loopg [5] k1 (fun kq v5 w' => ∃ (x3_2 : List (S30)) (x5_2 : Int), v5 = .int .i64 x5_2 ∧ Aside0 (spec_Ordered.l1 kq x3_2 x5_2 (y192.length : Int) x11_1 = some r) ∧ Aside0 (kq ≤ k1) ∧ Aside0 (Kd.R k30 30 w' w.heap.size (fun _ => True) (.slice Ao6 x3_1.length co6) x3_2) ∧ Aside0 (Below w.heap.size w w'))
          case atStart => exact ⟨(x3_1), (x11_1), (by first | rfl | (simp; done) | (simp [*]; done)), H', ⟨Nat.le_refl _⟩, ⟨by (try simp only [hl3_1]); (with_reducible repeat (first | apply Kd.R_alloc | apply Kd.R_drewN | apply Kd.R_drew)); exact HO_3.out⟩, ⟨by repeat (first | (with_reducible first | exact HB.out | apply below_alloc | apply pw_below_drewN | apply below_drew1) | exact HB.out)⟩⟩
          case round =>
            clear H'
            try clear c2
            try clear p2
            try clear c7
            try clear c7b0
            try clear p2
            obtain ⟨x3_2, x5_2, rfl, HA, HK2, HO_3, HB⟩ := hrel
            have hl3_2 := (Kd.R_reads' HO_3.out).1
            rw [hl3_2] at HO_3
            (try simp only [hl3_2])
            cases gk with
            | zero => exact absurd HA.out (by simp [spec_Ordered.l1])
            | succ k2 =>
              have H := HA.out
              clear HA
              simp only [spec_Ordered.l1] at H
              by_cases c8 : x5_2 > 0
              · rw [if_pos c8] at H
                have c8b0 : decide (0 < x5_2) = true := decide_eq_true c8
                clear c8
                by_cases c9 : 0 ≤ x5_2
                · rw [if_pos c9] at H
                  have c9b0 : decide (0 ≤ x5_2) = true := decide_eq_true c9
                  clear c9
                  by_cases c10 : x5_2 < (x3_2.length : Int)
                  · rw [if_pos c10] at H
                    have c10b0 : decide (x5_2 < (x3_2.length : Int)) = true := decide_eq_true c10
                    clear c10
                    obtain ⟨ji11, hji11⟩ : ∃ j_ : Int, (wrap64 (x5_2 - 1)) = j_ := ⟨_, rfl⟩
                    replace H : (if 0 ≤ (ji11) then (if (ji11) < (x3_2.length : Int) then (if ((rd_T30 x3_2 x5_2).f1) > ((rd_T30 x3_2 (ji11)).f1) then (spec_Ordered.l1 k2 ((x3_2.set (x5_2 : Int).toNat (⟨(rd_T30 x3_2 (ji11)).f0, (rd_T30 x3_2 (ji11)).f1⟩ : S30)).set ((ji11) : Int).toNat (⟨(rd_T30 x3_2 x5_2).f0, (rd_T30 x3_2 x5_2).f1⟩ : S30)) ji11 (y192.length : Int) x11_1) else (spec_Ordered.l0 k2 x3_2 (y192.length : Int) (wrap64 (x11_1 + 1)))) else (none)) else (none)) = some r := by first | (rw [hji11] at H; exact H) | (simp only [hji11] at H ⊢; exact H)
                    have hji11w : (IntKind.i64.wrap (x5_2 - 1)) = ji11 := (i64_w _).trans hji11
                    by_cases c12 : 0 ≤ (ji11)
                    · rw [if_pos c12] at H
                      have c12b0 : decide (0 ≤ (ji11)) = true := decide_eq_true c12
                      clear c12
                      by_cases c13 : (ji11) < (x3_2.length : Int)
                      · rw [if_pos c13] at H
                        have c13b0 : decide ((ji11) < (x3_2.length : Int)) = true := decide_eq_true c13
                        clear c13
                        by_cases c14 : ((rd_T30 x3_2 x5_2).f1) > ((rd_T30 x3_2 (ji11)).f1)
                        · rw [if_pos c14] at H
                          have c14b0 : decide (((rd_T30 x3_2 (ji11)).f1) < ((rd_T30 x3_2 x5_2).f1)) = true := decide_eq_true c14
                          clear c14
                          obtain ⟨y199, hy199⟩ : ∃ y_ : List (S30), y_ = (x3_2.set (x5_2 : Int).toNat (⟨(rd_T30 x3_2 (ji11)).f0, (rd_T30 x3_2 (ji11)).f1⟩ : S30)) := ⟨_, rfl⟩
                          replace H : (spec_Ordered.l1 k2 (y199.set ((ji11) : Int).toNat (⟨(rd_T30 x3_2 x5_2).f0, (rd_T30 x3_2 x5_2).f1⟩ : S30)) ji11 (y192.length : Int) x11_1) = some r := by first | (rw [hy199]; with_reducible exact H) | (have H2_ := (Option.bind_some _ _).symm.trans H; rw [hy199]; with_reducible exact H2_) | (have H2_ := (Option.bind_some _ _).symm.trans H; with_reducible exact H2_) | with_reducible exact H | (rw [hy199]; exact H) | exact H
                          have Ny199 := Aside0.mk hy199
                          clear hy199
                          obtain ⟨y200, hy200⟩ : ∃ y_ : List (S30), y_ = (y199.set ((ji11) : Int).toNat (⟨(rd_T30 x3_2 x5_2).f0, (rd_T30 x3_2 x5_2).f1⟩ : S30)) := ⟨_, rfl⟩
                          replace H : (spec_Ordered.l1 k2 y200 ji11 (y192.length : Int) x11_1) = some r := by first | (rw [hy200]; with_reducible exact H) | (have H2_ := (Option.bind_some _ _).symm.trans H; rw [hy200]; with_reducible exact H2_) | (have H2_ := (Option.bind_some _ _).symm.trans H; with_reducible exact H2_) | with_reducible exact H | (rw [hy200]; exact H) | exact H
                          have Ny200 := Aside0.mk hy200
                          clear hy200
                          have H' := Aside0.mk H
                          clear H
                          try go_wp2
                          have n0_ := Aside0.mk (Kd.R_drew HO_3.out)
                          have n1_ := Aside0.mk (below_drew1 HB.out)
                          clear HO_3
                          clear HB
                          have HO_3 := n0_
                          have HB := n1_
                          clear n0_ n1_
                          have p195 : 0 ≤ (x5_2 : Int) := of_decide_eq_true (by first | (with_reducible assumption) | assumption)
                          have q195 : x5_2 < (x3_2.length : Int) := of_decide_eq_true (by first | (with_reducible assumption) | assumption)
                          obtain ⟨ad195, e195, hx195_0, hx195_1⟩ := at_T30 (Kd.R_reads' HO_3.out).2.2 x5_2 p195 q195
                          cases e195
                          replace p195 := eq_true p195
                          replace q195 := eq_true q195
                          have p196 : 0 ≤ ((ji11) : Int) := of_decide_eq_true (by first | (with_reducible assumption) | assumption)
                          have q196 : (ji11) < (x3_2.length : Int) := of_decide_eq_true (by first | (with_reducible assumption) | assumption)
                          obtain ⟨ad196, e196, hx196_0, hx196_1⟩ := at_T30 (Kd.R_reads' HO_3.out).2.2 (ji11) p196 q196
                          obtain rfl : ad195 = ad196 := (by injection e196)
                          replace p196 := eq_true p196
                          replace q196 := eq_true q196
                          refine start_ (n := 16) (S := fun w' => w'.cell? (ad195.add ((x5_2).toNat * 2)) = some (.string ((rd_T30 x3_2 x5_2).f0)) ∧ w'.cell? ⟨(ad195.add ((x5_2).toNat * 2)).block, (ad195.add ((x5_2).toNat * 2)).off + 1, none⟩ = some (.int .i64 ((rd_T30 x3_2 x5_2).f1)) ∧ w'.cell? (ad195.add (((ji11)).toNat * 2)) = some (.string ((rd_T30 x3_2 (ji11)).f0)) ∧ w'.cell? ⟨(ad195.add (((ji11)).toNat * 2)).block, (ad195.add (((ji11)).toNat * 2)).off + 1, none⟩ = some (.int .i64 ((rd_T30 x3_2 (ji11)).f1))) (ds := []) #[false, false, false, false, false, false, false, false, false, false, false, false, false, false, false, false] (by kernel_rfl) rfl rfl ⟨hx195_0, hx195_1, hx196_0, hx196_1⟩ (fun hHeld => ?_); refine with_tabW spec_Ordered.tab6 spec_Ordered.bits6 (fun HT_ HW_ => ?_)
                          generalize wr.drew = w17 at HO_3 HB hx195_0 hx195_1 hx196_0 hx196_1 hHeld ⊢
                          refine pure_ (i := 0) (N := some 15) (v := ?_) (a' := ?_) #[true, false, false, false, false, false, false, false, false, false, false, false, false, false, false, false] rfl rfl (any_of HT_.out (by kernel_rfl)) (fun _ _ _ h => h) (Or.inl ⟨by rfl, ?_⟩) ?_ ?_
                          rotate_left
                          · intro w'
                            go_simp
                            with_reducible rfl
                          rotate_left
                          · simp only [Act.put, List.setIfInBounds_toArray, List.set_cons_zero, List.set_cons_succ, i64_w, i32_w]
                            rfl
                          refine pure_ (i := 1) (N := some 16) (v := ?_) (a' := ?_) #[true, true, false, false, false, false, false, false, false, false, false, false, false, false, false, false] rfl rfl (any_of HT_.out (by kernel_rfl)) (fun _ _ _ h => h) (Or.inl ⟨by rfl, ?_⟩) ?_ ?_
                          rotate_left
                          · intro w'
                            go_simp
                            with_reducible rfl
                          rotate_left
                          · simp only [Act.put, List.setIfInBounds_toArray, List.set_cons_zero, List.set_cons_succ, i64_w, i32_w]
                            rfl
                          refine pure_ (i := 2) (N := some 17) (v := ?_) (a' := ?_) #[true, true, true, false, false, false, false, false, false, false, false, false, false, false, false, false] rfl rfl (any_of HT_.out (by kernel_rfl)) (fun _ _ _ h => h) (Or.inl ⟨by rfl, ?_⟩) ?_ ?_
                          rotate_left
                          · intro w'
                            go_simp
                            with_reducible rfl
                          rotate_left
                          · simp only [Act.put, List.setIfInBounds_toArray, List.set_cons_zero, List.set_cons_succ, i64_w, i32_w]
                            rfl
                          refine pure_ (i := 3) (N := some 18) (v := ?_) (a' := ?_) #[true, true, true, true, false, false, false, false, false, false, false, false, false, false, false, false] rfl rfl (any_of HT_.out (by kernel_rfl)) (fun _ _ _ h => h) (Or.inl ⟨by rfl, ?_⟩) ?_ ?_
                          rotate_left
                          · intro w'
                            go_simp
                            with_reducible rfl
                          rotate_left
                          · simp only [Act.put, List.setIfInBounds_toArray, List.set_cons_zero, List.set_cons_succ, i64_w, i32_w]
                            rfl
                          refine pure_ (i := 4) (N := some 19) (v := ?_) (a' := ?_) #[true, true, true, true, true, false, false, false, false, false, false, false, false, false, false, false] rfl rfl (any_of HT_.out (by kernel_rfl)) (fun _ _ _ h => h) (Or.inl ⟨by rfl, ?_⟩) ?_ ?_
                          rotate_left
                          · intro w'
                            go_simp
                            with_reducible rfl
                          rotate_left
                          · simp only [Act.put, List.setIfInBounds_toArray, List.set_cons_zero, List.set_cons_succ, i64_w, i32_w]
                            rfl
                          refine pure_ (i := 5) (N := some 20) (v := ?_) (a' := ?_) #[true, true, true, true, true, true, false, false, false, false, false, false, false, false, false, false] rfl rfl (any_of HT_.out (by kernel_rfl)) (fun _ _ _ h => h) (Or.inl ⟨by rfl, ?_⟩) ?_ ?_
                          rotate_left
                          · intro w'
                            go_simp
                            with_reducible rfl
                          rotate_left
                          · simp only [Act.put, List.setIfInBounds_toArray, List.set_cons_zero, List.set_cons_succ, i64_w, i32_w]
                            rfl
                          refine pure_ (i := 6) (N := some 21) (v := ?_) (a' := ?_) #[true, true, true, true, true, true, true, false, false, false, false, false, false, false, false, false] rfl rfl (any_of HT_.out (by kernel_rfl)) (fun _ _ _ h => h) (Or.inl ⟨by rfl, ?_⟩) ?_ ?_
                          rotate_left
                          · intro w'
                            go_simp
                            with_reducible rfl
                          rotate_left
                          · simp only [Act.put, List.setIfInBounds_toArray, List.set_cons_zero, List.set_cons_succ, i64_w, i32_w]
                            rfl
                          refine pure_ (i := 8) (N := some 23) (v := ?_) (a' := ?_) #[true, true, true, true, true, true, true, false, true, false, false, false, false, false, false, false] rfl rfl (any_of HT_.out (by kernel_rfl)) (fun _ _ _ h => h) (Or.inl ⟨by rfl, ?_⟩) ?_ ?_
                          rotate_left
                          · intro w'
                            go_simp
                            with_reducible rfl
                          rotate_left
                          · simp only [Act.put, List.setIfInBounds_toArray, List.set_cons_zero, List.set_cons_succ, i64_w, i32_w]
                            rfl
                          refine pure_ (i := 9) (N := some 24) (v := ?_) (a' := ?_) #[true, true, true, true, true, true, true, false, true, true, false, false, false, false, false, false] rfl rfl (any_of HT_.out (by kernel_rfl)) (fun _ _ _ h => h) (Or.inl ⟨by rfl, ?_⟩) ?_ ?_
                          rotate_left
                          · intro w'
                            go_simp
                            with_reducible rfl
                          rotate_left
                          · simp only [Act.put, List.setIfInBounds_toArray, List.set_cons_zero, List.set_cons_succ, i64_w, i32_w]
                            rfl
                          refine pure_ (i := 10) (N := some 25) (v := ?_) (a' := ?_) #[true, true, true, true, true, true, true, false, true, true, true, false, false, false, false, false] rfl rfl (any_of HT_.out (by kernel_rfl)) (fun _ _ _ h => h) (Or.inl ⟨by rfl, ?_⟩) ?_ ?_
                          rotate_left
                          · intro w'
                            go_simp
                            with_reducible rfl
                          rotate_left
                          · simp only [Act.put, List.setIfInBounds_toArray, List.set_cons_zero, List.set_cons_succ, i64_w, i32_w]
                            rfl
                          refine pure_ (i := 11) (N := some 26) (v := ?_) (a' := ?_) #[true, true, true, true, true, true, true, false, true, true, true, true, false, false, false, false] rfl rfl (any_of HT_.out (by kernel_rfl)) (fun _ _ _ h => h) (Or.inl ⟨by rfl, ?_⟩) ?_ ?_
                          rotate_left
                          · intro w'
                            go_simp
                            with_reducible rfl
                          rotate_left
                          · simp only [Act.put, List.setIfInBounds_toArray, List.set_cons_zero, List.set_cons_succ, i64_w, i32_w]
                            rfl
                          refine pure_ (i := 12) (N := some 27) (v := ?_) (a' := ?_) #[true, true, true, true, true, true, true, false, true, true, true, true, true, false, false, false] rfl rfl (any_of HT_.out (by kernel_rfl)) (fun _ _ _ h => h) (Or.inl ⟨by rfl, ?_⟩) ?_ ?_
                          rotate_left
                          · intro w'
                            go_simp
                            with_reducible rfl
                          rotate_left
                          · simp only [Act.put, List.setIfInBounds_toArray, List.set_cons_zero, List.set_cons_succ, i64_w, i32_w]
                            rfl
                          refine take_ (i := 7) (N := some 22) (v := ?_) (a' := ?_) #[true, true, true, true, true, true, true, true, true, true, true, true, true, false, false, false] rfl rfl (take_ofW HT_.out HW_.out (by kernel_rfl)) (fun _ _ _ h => h) (Or.inl ⟨by rfl, ?_⟩) hHeld ?_ ?_
                          rotate_left
                          · rintro w' ⟨s0, s1, s2, s3⟩
                            go_simp
                            with_reducible rfl
                          rotate_left
                          · simp only [Act.put, List.setIfInBounds_toArray, List.set_cons_zero, List.set_cons_succ, i64_w, i32_w]
                            rfl
                          refine take_ (i := 13) (N := some 28) (v := ?_) (a' := ?_) #[true, true, true, true, true, true, true, true, true, true, true, true, true, true, false, false] rfl rfl (take_ofW HT_.out HW_.out (by kernel_rfl)) (fun _ _ _ h => h) (Or.inl ⟨by rfl, ?_⟩) hHeld ?_ ?_
                          rotate_left
                          · rintro w' ⟨s0, s1, s2, s3⟩
                            go_simp
                            with_reducible rfl
                          rotate_left
                          · simp only [Act.put, List.setIfInBounds_toArray, List.set_cons_zero, List.set_cons_succ, i64_w, i32_w]
                            rfl
                          refine pure_ (i := 14) (N := some 29) (v := ?_) (a' := ?_) #[true, true, true, true, true, true, true, true, true, true, true, true, true, true, true, false] rfl rfl (any_of HT_.out (by kernel_rfl)) (fun _ _ _ h => h) (Or.inl ⟨by rfl, ?_⟩) ?_ ?_
                          rotate_left
                          · intro w'
                            go_simp
                            with_reducible rfl
                          rotate_left
                          · simp only [Act.put, List.setIfInBounds_toArray, List.set_cons_zero, List.set_cons_succ, i64_w, i32_w]
                            rfl
                          refine pure_ (i := 15) (N := some 30) (v := ?_) (a' := ?_) #[true, true, true, true, true, true, true, true, true, true, true, true, true, true, true, true] rfl rfl (any_of HT_.out (by kernel_rfl)) (fun _ _ _ h => h) (Or.inl ⟨by rfl, ?_⟩) ?_ ?_
                          rotate_left
                          · intro w'
                            go_simp
                            with_reducible rfl
                          rotate_left
                          · simp only [Act.put, List.setIfInBounds_toArray, List.set_cons_zero, List.set_cons_succ, i64_w, i32_w]
                            rfl
                          refine done_ (done_of HT_.out (by kernel_rfl)) ?_
                          try go_wp2
                          have n0_ := Aside0.mk (Kd.R_drew HO_3.out)
                          have n1_ := Aside0.mk (below_drew1 HB.out)
                          clear HO_3
                          clear HB
                          have HO_3 := n0_
                          have HB := n1_
                          clear n0_ n1_
                          have p197 : 0 ≤ ((ji11) : Int) := of_decide_eq_true (by first | (with_reducible assumption) | assumption)
                          have q197 : (ji11) < (x3_2.length : Int) := of_decide_eq_true (by first | (with_reducible assumption) | assumption)
                          obtain ⟨ad197, e197, hx197_0, hx197_1⟩ := at_T30 (Kd.R_reads' HO_3.out).2.2 (ji11) p197 q197
                          obtain rfl : ad195 = ad197 := (by injection e197)
                          replace p197 := eq_true p197
                          replace q197 := eq_true q197
                          have p198 : 0 ≤ (x5_2 : Int) := of_decide_eq_true (by first | (with_reducible assumption) | assumption)
                          have q198 : x5_2 < (x3_2.length : Int) := of_decide_eq_true (by first | (with_reducible assumption) | assumption)
                          obtain ⟨ad198, e198, hx198_0, hx198_1⟩ := at_T30 (Kd.R_reads' HO_3.out).2.2 x5_2 p198 q198
                          obtain rfl : ad195 = ad198 := (by injection e198)
                          replace p198 := eq_true p198
                          replace q198 := eq_true q198
                          have p15 : 0 ≤ (x5_2 : Int) := of_decide_eq_true (by first | (with_reducible assumption) | assumption)
                          have q15 : (x5_2 : Int) < ((x3_2.length : Int) : Int) := of_decide_eq_true (by first | (with_reducible assumption) | assumption)
                          obtain ⟨go15, co15, eo15, gb15, gl15, cl15, HG15⟩ := Kd.R_form HO_3.out (by omega)
                          (first | cases eo15 | (injection eo15 with ea_ en_ ec_; (first | subst ea_ | (injection ea_ with ea_; subst ea_)); subst ec_; clear en_))
                          have GB15 := Aside0.mk gb15
                          have GG15 := Aside0.mk HG15
                          clear gb15 gl15 HG15
                          (first | simp only [add_plain] at hx195_0 | skip)
                          (first | simp only [add_plain] at hx195_1 | skip)
                          (first | simp only [add_plain] at hx196_0 | skip)
                          (first | simp only [add_plain] at hx196_1 | skip)
                          (first | simp only [add_plain] at hx197_0 | skip)
                          (first | simp only [add_plain] at hx197_1 | skip)
                          (first | simp only [add_plain] at hx198_0 | skip)
                          (first | simp only [add_plain] at hx198_1 | skip)
                          obtain ⟨ce15, hcl15, hM15, hcc15, hfr15⟩ := Kd.R_elem HO_3.out z30 (x5_2 : Int) p15 q15
                          obtain rfl := k30_openM hM15
                          have hx15_0 : World.cell? _ ⟨go15, (x5_2 : Int).toNat * 2, none⟩ = some (.string ((rd_T30 x3_2 x5_2).f0)) := hcc15 0 _ rfl
                          have hx15_1 : World.cell? _ ⟨go15, (x5_2 : Int).toNat * 2 + 1, none⟩ = some (.int .i64 ((rd_T30 x3_2 x5_2).f1)) := hcc15 1 _ rfl
                          have hf15_0 : World.frozen? _ ⟨go15, (x5_2 : Int).toNat * 2, none⟩ = false := hfr15 0
                          have hf15_1 : World.frozen? _ ⟨go15, (x5_2 : Int).toNat * 2 + 1, none⟩ = false := hfr15 1
                          clear hcl15 hcc15 hfr15 hM15
                          replace p15 := eq_true p15
                          replace q15 := eq_true q15
                          obtain ⟨ce19, hcl19, hM19, hcc19, hfr19⟩ := Kd.R_elem HO_3.out z30 (x5_2 : Int) (of_decide_eq_true (by first | (with_reducible assumption) | assumption)) (by have h_ : (x5_2 : Int) < ((x3_2.length : Int) : Int) := of_decide_eq_true (by first | (with_reducible assumption) | assumption); first | exact h_ | (have e_ := (Kd.R_reads' HO_3.out).1; omega) | simpa using h_)
                          obtain rfl := k30_openM hM19
                          have HP19 := (Kd.R_seg HO_3.out (x5_2 : Int) (of_decide_eq_true (by first | (with_reducible assumption) | assumption)) (by have h_ : (x5_2 : Int) < ((x3_2.length : Int) : Int) := of_decide_eq_true (by first | (with_reducible assumption) | assumption); first | exact h_ | (have e_ := (Kd.R_reads' HO_3.out).1; omega) | simpa using h_) (seg := [.string ((rd_T30 x3_2 (ji11)).f0), .int .i64 ((rd_T30 x3_2 (ji11)).f1)]) (j := 0) hcl19 hcc19 (show 2 ≤ 2 from by decide) (x' := (⟨(rd_T30 x3_2 (ji11)).f0, (rd_T30 x3_2 (ji11)).f1⟩ : S30)) (k30_mkM _ _ _ (⟨(rd_T30 x3_2 (ji11)).f0, (rd_T30 x3_2 (ji11)).f1⟩ : S30) ) (fun _ hk => hk)).1
                          rw [← Ny199.out] at HP19
                          have HQ19 := Aside0.mk HP19
                          clear hcl19 hcc19 hfr19 hM19 HP19
                          have p16 : 0 ≤ ((ji11) : Int) := of_decide_eq_true (by first | (with_reducible assumption) | assumption)
                          have q16 : ((ji11) : Int) < ((x3_2.length : Int) : Int) := of_decide_eq_true (by first | (with_reducible assumption) | assumption)
                          obtain ⟨ce16, hcl16, hM16, hcc16, hfr16⟩ := Kd.R_elem HQ19.out z30 ((ji11) : Int) p16 q16
                          obtain rfl := k30_openM hM16
                          have hx16_0 : World.cell? _ ⟨go15, ((ji11) : Int).toNat * 2, none⟩ = some (.string ((rd_T30 y199 (ji11)).f0)) := hcc16 0 _ rfl
                          have hx16_1 : World.cell? _ ⟨go15, ((ji11) : Int).toNat * 2 + 1, none⟩ = some (.int .i64 ((rd_T30 y199 (ji11)).f1)) := hcc16 1 _ rfl
                          have hf16_0 : World.frozen? _ ⟨go15, ((ji11) : Int).toNat * 2, none⟩ = false := hfr16 0
                          have hf16_1 : World.frozen? _ ⟨go15, ((ji11) : Int).toNat * 2 + 1, none⟩ = false := hfr16 1
                          clear hcl16 hcc16 hfr16 hM16
                          replace p16 := eq_true p16
                          replace q16 := eq_true q16
                          obtain ⟨ce20, hcl20, hM20, hcc20, hfr20⟩ := Kd.R_elem HQ19.out z30 ((ji11) : Int) (of_decide_eq_true (by first | (with_reducible assumption) | assumption)) (by have h_ : ((ji11) : Int) < ((x3_2.length : Int) : Int) := of_decide_eq_true (by first | (with_reducible assumption) | assumption); first | exact h_ | (have e_ := (Kd.R_reads' HO_3.out).1; omega) | simpa using h_)
                          obtain rfl := k30_openM hM20
                          have HP20 := (Kd.R_seg HQ19.out ((ji11) : Int) (of_decide_eq_true (by first | (with_reducible assumption) | assumption)) (by have h_ : ((ji11) : Int) < ((x3_2.length : Int) : Int) := of_decide_eq_true (by first | (with_reducible assumption) | assumption); first | exact h_ | (have e_ := (Kd.R_reads' HO_3.out).1; omega) | simpa using h_) (seg := [.string ((rd_T30 x3_2 x5_2).f0), .int .i64 ((rd_T30 x3_2 x5_2).f1)]) (j := 0) hcl20 hcc20 (show 2 ≤ 2 from by decide) (x' := (⟨(rd_T30 x3_2 x5_2).f0, (rd_T30 x3_2 x5_2).f1⟩ : S30)) (k30_mkM _ _ _ (⟨(rd_T30 x3_2 x5_2).f0, (rd_T30 x3_2 x5_2).f1⟩ : S30) ) (fun _ hk => hk)).1
                          rw [← Ny200.out] at HP20
                          have HQ20 := Aside0.mk HP20
                          clear hcl20 hcc20 hfr20 hM20 HP20
                          refine start_ (n := 18) (S := fun w' => w'.cell? ⟨go15, (((ji11)).toNat * 2), none⟩ = some (.string ((rd_T30 x3_2 (ji11)).f0)) ∧ w'.cell? ⟨go15, (((ji11)).toNat * 2) + 1, none⟩ = some (.int .i64 ((rd_T30 x3_2 (ji11)).f1)) ∧ w'.cell? ⟨go15, ((x5_2).toNat * 2), none⟩ = some (.string ((rd_T30 x3_2 x5_2).f0)) ∧ w'.cell? ⟨go15, ((x5_2).toNat * 2) + 1, none⟩ = some (.int .i64 ((rd_T30 x3_2 x5_2).f1))) (ds := [15, 17]) #[false, false, false, false, false, false, false, false, false, false, false, false, false, false, false, false, false, false] (by kernel_rfl) rfl rfl ⟨hx197_0, hx197_1, hx198_0, hx198_1⟩ (fun hHeld => ?_); refine with_tabW spec_Ordered.tab8 spec_Ordered.bits8 (fun HT_ HW_ => ?_)
                          generalize w17.drew = w18 at HO_3 HB GG15 HQ19 HQ20 hf15_0 hf15_1 hf16_0 hf16_1 hx15_0 hx15_1 hx16_0 hx16_1 hx195_0 hx195_1 hx196_0 hx196_1 hx197_0 hx197_1 hx198_0 hx198_1 hHeld ⊢
                          refine pure_ (i := 0) (N := some 33) (v := ?_) (a' := ?_) #[true, false, false, false, false, false, false, false, false, false, false, false, false, false, false, false, false, false] rfl rfl (any_of HT_.out (by kernel_rfl)) (fun _ _ _ h => h) (Or.inl ⟨by rfl, ?_⟩) ?_ ?_
                          rotate_left
                          · intro w'
                            go_simp
                            with_reducible rfl
                          rotate_left
                          · simp only [Act.put, List.setIfInBounds_toArray, List.set_cons_zero, List.set_cons_succ, i64_w, i32_w]
                            rfl
                          refine pure_ (i := 1) (N := some 34) (v := ?_) (a' := ?_) #[true, true, false, false, false, false, false, false, false, false, false, false, false, false, false, false, false, false] rfl rfl (any_of HT_.out (by kernel_rfl)) (fun _ _ _ h => h) (Or.inl ⟨by rfl, ?_⟩) ?_ ?_
                          rotate_left
                          · intro w'
                            go_simp
                            with_reducible rfl
                          rotate_left
                          · simp only [Act.put, List.setIfInBounds_toArray, List.set_cons_zero, List.set_cons_succ, i64_w, i32_w]
                            rfl
                          refine pure_ (i := 2) (N := some 35) (v := ?_) (a' := ?_) #[true, true, true, false, false, false, false, false, false, false, false, false, false, false, false, false, false, false] rfl rfl (any_of HT_.out (by kernel_rfl)) (fun _ _ _ h => h) (Or.inl ⟨by rfl, ?_⟩) ?_ ?_
                          rotate_left
                          · intro w'
                            go_simp
                            with_reducible rfl
                          rotate_left
                          · simp only [Act.put, List.setIfInBounds_toArray, List.set_cons_zero, List.set_cons_succ, i64_w, i32_w]
                            rfl
                          refine pure_ (i := 3) (N := some 36) (v := ?_) (a' := ?_) #[true, true, true, true, false, false, false, false, false, false, false, false, false, false, false, false, false, false] rfl rfl (any_of HT_.out (by kernel_rfl)) (fun _ _ _ h => h) (Or.inl ⟨by rfl, ?_⟩) ?_ ?_
                          rotate_left
                          · intro w'
                            go_simp
                            with_reducible rfl
                          rotate_left
                          · simp only [Act.put, List.setIfInBounds_toArray, List.set_cons_zero, List.set_cons_succ, i64_w, i32_w]
                            rfl
                          refine pure_ (i := 4) (N := some 37) (v := ?_) (a' := ?_) #[true, true, true, true, true, false, false, false, false, false, false, false, false, false, false, false, false, false] rfl rfl (any_of HT_.out (by kernel_rfl)) (fun _ _ _ h => h) (Or.inl ⟨by rfl, ?_⟩) ?_ ?_
                          rotate_left
                          · intro w'
                            go_simp
                            with_reducible rfl
                          rotate_left
                          · simp only [Act.put, List.setIfInBounds_toArray, List.set_cons_zero, List.set_cons_succ, i64_w, i32_w]
                            rfl
                          refine pure_ (i := 5) (N := some 38) (v := ?_) (a' := ?_) #[true, true, true, true, true, true, false, false, false, false, false, false, false, false, false, false, false, false] rfl rfl (any_of HT_.out (by kernel_rfl)) (fun _ _ _ h => h) (Or.inl ⟨by rfl, ?_⟩) ?_ ?_
                          rotate_left
                          · intro w'
                            go_simp
                            with_reducible rfl
                          rotate_left
                          · simp only [Act.put, List.setIfInBounds_toArray, List.set_cons_zero, List.set_cons_succ, i64_w, i32_w]
                            rfl
                          refine pure_ (i := 6) (N := some 39) (v := ?_) (a' := ?_) #[true, true, true, true, true, true, true, false, false, false, false, false, false, false, false, false, false, false] rfl rfl (any_of HT_.out (by kernel_rfl)) (fun _ _ _ h => h) (Or.inl ⟨by rfl, ?_⟩) ?_ ?_
                          rotate_left
                          · intro w'
                            go_simp
                            with_reducible rfl
                          rotate_left
                          · simp only [Act.put, List.setIfInBounds_toArray, List.set_cons_zero, List.set_cons_succ, i64_w, i32_w]
                            rfl
                          refine pure_ (i := 7) (N := some 40) (v := ?_) (a' := ?_) #[true, true, true, true, true, true, true, true, false, false, false, false, false, false, false, false, false, false] rfl rfl (any_of HT_.out (by kernel_rfl)) (fun _ _ _ h => h) (Or.inl ⟨by rfl, ?_⟩) ?_ ?_
                          rotate_left
                          · intro w'
                            go_simp
                            with_reducible rfl
                          rotate_left
                          · simp only [Act.put, List.setIfInBounds_toArray, List.set_cons_zero, List.set_cons_succ, i64_w, i32_w]
                            rfl
                          refine pure_ (i := 8) (N := some 41) (v := ?_) (a' := ?_) #[true, true, true, true, true, true, true, true, true, false, false, false, false, false, false, false, false, false] rfl rfl (any_of HT_.out (by kernel_rfl)) (fun _ _ _ h => h) (Or.inl ⟨by rfl, ?_⟩) ?_ ?_
                          rotate_left
                          · intro w'
                            go_simp
                            with_reducible rfl
                          rotate_left
                          · simp only [Act.put, List.setIfInBounds_toArray, List.set_cons_zero, List.set_cons_succ, i64_w, i32_w]
                            rfl
                          refine pure_ (i := 10) (N := some 43) (v := ?_) (a' := ?_) #[true, true, true, true, true, true, true, true, true, false, true, false, false, false, false, false, false, false] rfl rfl (any_of HT_.out (by kernel_rfl)) (fun _ _ _ h => h) (Or.inl ⟨by rfl, ?_⟩) ?_ ?_
                          rotate_left
                          · intro w'
                            go_simp
                            with_reducible rfl
                          rotate_left
                          · simp only [Act.put, List.setIfInBounds_toArray, List.set_cons_zero, List.set_cons_succ, i64_w, i32_w]
                            rfl
                          refine pure_ (i := 11) (N := some 44) (v := ?_) (a' := ?_) #[true, true, true, true, true, true, true, true, true, false, true, true, false, false, false, false, false, false] rfl rfl (any_of HT_.out (by kernel_rfl)) (fun _ _ _ h => h) (Or.inl ⟨by rfl, ?_⟩) ?_ ?_
                          rotate_left
                          · intro w'
                            go_simp
                            with_reducible rfl
                          rotate_left
                          · simp only [Act.put, List.setIfInBounds_toArray, List.set_cons_zero, List.set_cons_succ, i64_w, i32_w]
                            rfl
                          refine pure_ (i := 12) (N := some 45) (v := ?_) (a' := ?_) #[true, true, true, true, true, true, true, true, true, false, true, true, true, false, false, false, false, false] rfl rfl (any_of HT_.out (by kernel_rfl)) (fun _ _ _ h => h) (Or.inl ⟨by rfl, ?_⟩) ?_ ?_
                          rotate_left
                          · intro w'
                            go_simp
                            with_reducible rfl
                          rotate_left
                          · simp only [Act.put, List.setIfInBounds_toArray, List.set_cons_zero, List.set_cons_succ, i64_w, i32_w]
                            rfl
                          refine take_ (i := 9) (N := some 42) (v := ?_) (a' := ?_) #[true, true, true, true, true, true, true, true, true, true, true, true, true, false, false, false, false, false] rfl rfl (take_ofW HT_.out HW_.out (by kernel_rfl)) (fun _ _ _ h => h) (Or.inl ⟨by rfl, ?_⟩) hHeld ?_ ?_
                          rotate_left
                          · rintro w' ⟨s0, s1, s2, s3⟩
                            go_simp
                            with_reducible rfl
                          rotate_left
                          · simp only [Act.put, List.setIfInBounds_toArray, List.set_cons_zero, List.set_cons_succ, i64_w, i32_w]
                            rfl
                          refine take_ (i := 13) (N := some 46) (v := ?_) (a' := ?_) #[true, true, true, true, true, true, true, true, true, true, true, true, true, true, false, false, false, false] rfl rfl (take_ofW HT_.out HW_.out (by kernel_rfl)) (fun _ _ _ h => h) (Or.inl ⟨by rfl, ?_⟩) hHeld ?_ ?_
                          rotate_left
                          · rintro w' ⟨s0, s1, s2, s3⟩
                            go_simp
                            with_reducible rfl
                          rotate_left
                          · simp only [Act.put, List.setIfInBounds_toArray, List.set_cons_zero, List.set_cons_succ, i64_w, i32_w]
                            rfl
                          refine pure_ (i := 14) (N := some 47) (v := ?_) (a' := ?_) #[true, true, true, true, true, true, true, true, true, true, true, true, true, true, true, false, false, false] rfl rfl (any_of HT_.out (by kernel_rfl)) (fun _ _ _ h => h) (Or.inl ⟨by rfl, ?_⟩) ?_ ?_
                          rotate_left
                          · intro w'
                            go_simp
                            with_reducible rfl
                          rotate_left
                          · simp only [Act.put, List.setIfInBounds_toArray, List.set_cons_zero, List.set_cons_succ, i64_w, i32_w]
                            rfl
                          refine last_ (i := 15) (N := none) #[true, true, true, true, true, true, true, true, true, true, true, true, true, true, true, true, false, false] rfl rfl (one_of HT_.out (by kernel_rfl)) (by decide) (fun K hK => ?_)
                          refine skip_ (w1 := ?_) (by rfl) rfl ?_ ?_
                          rotate_left
                          · go_simp
                            rfl
                          refine hK.out _ _ ?_
                          clear hK K
                          refine pure_ (i := 16) (N := some 48) (v := ?_) (a' := ?_) #[true, true, true, true, true, true, true, true, true, true, true, true, true, true, true, true, true, false] rfl rfl (any_of HT_.out (by kernel_rfl)) (fun _ _ _ h => h) (Or.inl ⟨by rfl, ?_⟩) ?_ ?_
                          rotate_left
                          · intro w'
                            go_simp
                            with_reducible rfl
                          rotate_left
                          · simp only [Act.put, List.setIfInBounds_toArray, List.set_cons_zero, List.set_cons_succ, i64_w, i32_w]
                            rfl
                          have ne_ : ¬ (x5_2.toNat * 2 = (ji11 : Int).toNat * 2) := by
                            have a_ : 0 < x5_2 := of_decide_eq_true (by assumption)
                            have b_ := (Kd.R_reads' HO_3.out).2.2.2.1
                            have c_ : x5_2 < (x3_2.length : Int) := of_decide_eq_true (by assumption)
                            have d_ : wrap64 (x5_2 - 1) = ji11 := hji11
                            unfold wrap64 at d_
                            omega
                          have k1_ : (w18.setCell ⟨go15, x5_2.toNat * 2, none⟩ (.string ((rd_T30 x3_2 (ji11)).f0))).cell? ⟨go15, (ji11 : Int).toNat * 2, none⟩ = some (.string ((rd_T30 x3_2 (ji11)).f0)) := by
                            rw [World.cell?_setCell_other _ _ _ _ (fun e_ => ne_ (by have := congrArg Addr.off e_; exact this))]; exact hx197_0
                          have k2_ : (w18.setCell ⟨go15, x5_2.toNat * 2 + 1, none⟩ (.int .i64 ((rd_T30 x3_2 (ji11)).f1))).cell? ⟨go15, (ji11 : Int).toNat * 2 + 1, none⟩ = some (.int .i64 ((rd_T30 x3_2 (ji11)).f1)) := by
                            rw [World.cell?_setCell_other _ _ _ _ (fun e_ => ne_ (by have := congrArg Addr.off e_; simp only at this; omega))]; exact hx197_1
                          obtain ⟨_, _, _, _, hfrj_⟩ := Kd.R_elem HO_3.out z30 ((ji11) : Int) (of_decide_eq_true (by assumption)) (of_decide_eq_true (by assumption))
                          have k3_ : World.frozen? w18 ⟨go15, (ji11 : Int).toNat * 2, none⟩ = false := hfrj_ 0
                          have k4_ : World.frozen? w18 ⟨go15, (ji11 : Int).toNat * 2 + 1, none⟩ = false := hfrj_ 1
                          clear hfrj_
                          refine last_ (i := 17) (N := none) #[true, true, true, true, true, true, true, true, true, true, true, true, true, true, true, true, true, true] rfl rfl (one_of HT_.out (by kernel_rfl)) (by decide) (fun K hK => ?_)
                          refine skip_ (w1 := ?_) (by rfl) rfl ?_ ?_
                          rotate_left
                          · go_simp
                            rfl
                          refine hK.out _ _ ?_
                          clear hK K
                          refine done_ (done_of HT_.out (by kernel_rfl)) ?_
                          try go_wp2
                          (try simp only [← hl3_2])
                          go_roundg k2
                          case measure => have := HK1.out; have := HK2.out; omega
                          case rel => exact ⟨(y200), (ji11), (by first | rfl | (simp; done) | (simp only [← hji11] <;> (first | rfl | simp)) | (simp [*]; done)), H', ⟨by have := HK1.out; have := HK2.out; omega⟩, ⟨by (try simp only [hl3_1]); (try simp only [hl3_2]); (with_reducible repeat (first | apply Kd.R_alloc | apply Kd.R_drewN | apply Kd.R_drew)); exact HQ20.out⟩, ⟨by repeat (first | (with_reducible first | exact HB.out | apply below_alloc | apply pw_below_drewN | apply below_drew1 | refine below_set ?_ GB15.out | refine below_set ?_ GB15.out | refine below_set ?_ GB15.out | refine below_set ?_ GB15.out) | exact HB.out)⟩⟩
                        · rw [if_neg c14] at H
                          have c14b0 : decide (((rd_T30 x3_2 (ji11)).f1) < ((rd_T30 x3_2 x5_2).f1)) = false := decide_eq_false c14
                          clear c14
                          have H' := Aside0.mk H
                          clear H
                          try go_wp2
                          have n0_ := Aside0.mk (Kd.R_drew HO_3.out)
                          have n1_ := Aside0.mk (below_drew1 HB.out)
                          clear HO_3
                          clear HB
                          have HO_3 := n0_
                          have HB := n1_
                          clear n0_ n1_
                          have p195 : 0 ≤ (x5_2 : Int) := of_decide_eq_true (by first | (with_reducible assumption) | assumption)
                          have q195 : x5_2 < (x3_2.length : Int) := of_decide_eq_true (by first | (with_reducible assumption) | assumption)
                          obtain ⟨ad195, e195, hx195_0, hx195_1⟩ := at_T30 (Kd.R_reads' HO_3.out).2.2 x5_2 p195 q195
                          cases e195
                          replace p195 := eq_true p195
                          replace q195 := eq_true q195
                          have p196 : 0 ≤ ((ji11) : Int) := of_decide_eq_true (by first | (with_reducible assumption) | assumption)
                          have q196 : (ji11) < (x3_2.length : Int) := of_decide_eq_true (by first | (with_reducible assumption) | assumption)
                          obtain ⟨ad196, e196, hx196_0, hx196_1⟩ := at_T30 (Kd.R_reads' HO_3.out).2.2 (ji11) p196 q196
                          obtain rfl : ad195 = ad196 := (by injection e196)
                          replace p196 := eq_true p196
                          replace q196 := eq_true q196
                          refine start_ (n := 16) (S := fun w' => w'.cell? (ad195.add ((x5_2).toNat * 2)) = some (.string ((rd_T30 x3_2 x5_2).f0)) ∧ w'.cell? ⟨(ad195.add ((x5_2).toNat * 2)).block, (ad195.add ((x5_2).toNat * 2)).off + 1, none⟩ = some (.int .i64 ((rd_T30 x3_2 x5_2).f1)) ∧ w'.cell? (ad195.add (((ji11)).toNat * 2)) = some (.string ((rd_T30 x3_2 (ji11)).f0)) ∧ w'.cell? ⟨(ad195.add (((ji11)).toNat * 2)).block, (ad195.add (((ji11)).toNat * 2)).off + 1, none⟩ = some (.int .i64 ((rd_T30 x3_2 (ji11)).f1))) (ds := []) #[false, false, false, false, false, false, false, false, false, false, false, false, false, false, false, false] (by kernel_rfl) rfl rfl ⟨hx195_0, hx195_1, hx196_0, hx196_1⟩ (fun hHeld => ?_); refine with_tabW spec_Ordered.tab6 spec_Ordered.bits6 (fun HT_ HW_ => ?_)
                          generalize wr.drew = w21 at HO_3 HB hx195_0 hx195_1 hx196_0 hx196_1 hHeld ⊢
                          refine pure_ (i := 0) (N := some 15) (v := ?_) (a' := ?_) #[true, false, false, false, false, false, false, false, false, false, false, false, false, false, false, false] rfl rfl (any_of HT_.out (by kernel_rfl)) (fun _ _ _ h => h) (Or.inl ⟨by rfl, ?_⟩) ?_ ?_
                          rotate_left
                          · intro w'
                            go_simp
                            with_reducible rfl
                          rotate_left
                          · simp only [Act.put, List.setIfInBounds_toArray, List.set_cons_zero, List.set_cons_succ, i64_w, i32_w]
                            rfl
                          refine pure_ (i := 1) (N := some 16) (v := ?_) (a' := ?_) #[true, true, false, false, false, false, false, false, false, false, false, false, false, false, false, false] rfl rfl (any_of HT_.out (by kernel_rfl)) (fun _ _ _ h => h) (Or.inl ⟨by rfl, ?_⟩) ?_ ?_
                          rotate_left
                          · intro w'
                            go_simp
                            with_reducible rfl
                          rotate_left
                          · simp only [Act.put, List.setIfInBounds_toArray, List.set_cons_zero, List.set_cons_succ, i64_w, i32_w]
                            rfl
                          refine pure_ (i := 2) (N := some 17) (v := ?_) (a' := ?_) #[true, true, true, false, false, false, false, false, false, false, false, false, false, false, false, false] rfl rfl (any_of HT_.out (by kernel_rfl)) (fun _ _ _ h => h) (Or.inl ⟨by rfl, ?_⟩) ?_ ?_
                          rotate_left
                          · intro w'
                            go_simp
                            with_reducible rfl
                          rotate_left
                          · simp only [Act.put, List.setIfInBounds_toArray, List.set_cons_zero, List.set_cons_succ, i64_w, i32_w]
                            rfl
                          refine pure_ (i := 3) (N := some 18) (v := ?_) (a' := ?_) #[true, true, true, true, false, false, false, false, false, false, false, false, false, false, false, false] rfl rfl (any_of HT_.out (by kernel_rfl)) (fun _ _ _ h => h) (Or.inl ⟨by rfl, ?_⟩) ?_ ?_
                          rotate_left
                          · intro w'
                            go_simp
                            with_reducible rfl
                          rotate_left
                          · simp only [Act.put, List.setIfInBounds_toArray, List.set_cons_zero, List.set_cons_succ, i64_w, i32_w]
                            rfl
                          refine pure_ (i := 4) (N := some 19) (v := ?_) (a' := ?_) #[true, true, true, true, true, false, false, false, false, false, false, false, false, false, false, false] rfl rfl (any_of HT_.out (by kernel_rfl)) (fun _ _ _ h => h) (Or.inl ⟨by rfl, ?_⟩) ?_ ?_
                          rotate_left
                          · intro w'
                            go_simp
                            with_reducible rfl
                          rotate_left
                          · simp only [Act.put, List.setIfInBounds_toArray, List.set_cons_zero, List.set_cons_succ, i64_w, i32_w]
                            rfl
                          refine pure_ (i := 5) (N := some 20) (v := ?_) (a' := ?_) #[true, true, true, true, true, true, false, false, false, false, false, false, false, false, false, false] rfl rfl (any_of HT_.out (by kernel_rfl)) (fun _ _ _ h => h) (Or.inl ⟨by rfl, ?_⟩) ?_ ?_
                          rotate_left
                          · intro w'
                            go_simp
                            with_reducible rfl
                          rotate_left
                          · simp only [Act.put, List.setIfInBounds_toArray, List.set_cons_zero, List.set_cons_succ, i64_w, i32_w]
                            rfl
                          refine pure_ (i := 6) (N := some 21) (v := ?_) (a' := ?_) #[true, true, true, true, true, true, true, false, false, false, false, false, false, false, false, false] rfl rfl (any_of HT_.out (by kernel_rfl)) (fun _ _ _ h => h) (Or.inl ⟨by rfl, ?_⟩) ?_ ?_
                          rotate_left
                          · intro w'
                            go_simp
                            with_reducible rfl
                          rotate_left
                          · simp only [Act.put, List.setIfInBounds_toArray, List.set_cons_zero, List.set_cons_succ, i64_w, i32_w]
                            rfl
                          refine pure_ (i := 8) (N := some 23) (v := ?_) (a' := ?_) #[true, true, true, true, true, true, true, false, true, false, false, false, false, false, false, false] rfl rfl (any_of HT_.out (by kernel_rfl)) (fun _ _ _ h => h) (Or.inl ⟨by rfl, ?_⟩) ?_ ?_
                          rotate_left
                          · intro w'
                            go_simp
                            with_reducible rfl
                          rotate_left
                          · simp only [Act.put, List.setIfInBounds_toArray, List.set_cons_zero, List.set_cons_succ, i64_w, i32_w]
                            rfl
                          refine pure_ (i := 9) (N := some 24) (v := ?_) (a' := ?_) #[true, true, true, true, true, true, true, false, true, true, false, false, false, false, false, false] rfl rfl (any_of HT_.out (by kernel_rfl)) (fun _ _ _ h => h) (Or.inl ⟨by rfl, ?_⟩) ?_ ?_
                          rotate_left
                          · intro w'
                            go_simp
                            with_reducible rfl
                          rotate_left
                          · simp only [Act.put, List.setIfInBounds_toArray, List.set_cons_zero, List.set_cons_succ, i64_w, i32_w]
                            rfl
                          refine pure_ (i := 10) (N := some 25) (v := ?_) (a' := ?_) #[true, true, true, true, true, true, true, false, true, true, true, false, false, false, false, false] rfl rfl (any_of HT_.out (by kernel_rfl)) (fun _ _ _ h => h) (Or.inl ⟨by rfl, ?_⟩) ?_ ?_
                          rotate_left
                          · intro w'
                            go_simp
                            with_reducible rfl
                          rotate_left
                          · simp only [Act.put, List.setIfInBounds_toArray, List.set_cons_zero, List.set_cons_succ, i64_w, i32_w]
                            rfl
                          refine pure_ (i := 11) (N := some 26) (v := ?_) (a' := ?_) #[true, true, true, true, true, true, true, false, true, true, true, true, false, false, false, false] rfl rfl (any_of HT_.out (by kernel_rfl)) (fun _ _ _ h => h) (Or.inl ⟨by rfl, ?_⟩) ?_ ?_
                          rotate_left
                          · intro w'
                            go_simp
                            with_reducible rfl
                          rotate_left
                          · simp only [Act.put, List.setIfInBounds_toArray, List.set_cons_zero, List.set_cons_succ, i64_w, i32_w]
                            rfl
                          refine pure_ (i := 12) (N := some 27) (v := ?_) (a' := ?_) #[true, true, true, true, true, true, true, false, true, true, true, true, true, false, false, false] rfl rfl (any_of HT_.out (by kernel_rfl)) (fun _ _ _ h => h) (Or.inl ⟨by rfl, ?_⟩) ?_ ?_
                          rotate_left
                          · intro w'
                            go_simp
                            with_reducible rfl
                          rotate_left
                          · simp only [Act.put, List.setIfInBounds_toArray, List.set_cons_zero, List.set_cons_succ, i64_w, i32_w]
                            rfl
                          refine take_ (i := 7) (N := some 22) (v := ?_) (a' := ?_) #[true, true, true, true, true, true, true, true, true, true, true, true, true, false, false, false] rfl rfl (take_ofW HT_.out HW_.out (by kernel_rfl)) (fun _ _ _ h => h) (Or.inl ⟨by rfl, ?_⟩) hHeld ?_ ?_
                          rotate_left
                          · rintro w' ⟨s0, s1, s2, s3⟩
                            go_simp
                            with_reducible rfl
                          rotate_left
                          · simp only [Act.put, List.setIfInBounds_toArray, List.set_cons_zero, List.set_cons_succ, i64_w, i32_w]
                            rfl
                          refine take_ (i := 13) (N := some 28) (v := ?_) (a' := ?_) #[true, true, true, true, true, true, true, true, true, true, true, true, true, true, false, false] rfl rfl (take_ofW HT_.out HW_.out (by kernel_rfl)) (fun _ _ _ h => h) (Or.inl ⟨by rfl, ?_⟩) hHeld ?_ ?_
                          rotate_left
                          · rintro w' ⟨s0, s1, s2, s3⟩
                            go_simp
                            with_reducible rfl
                          rotate_left
                          · simp only [Act.put, List.setIfInBounds_toArray, List.set_cons_zero, List.set_cons_succ, i64_w, i32_w]
                            rfl
                          refine pure_ (i := 14) (N := some 29) (v := ?_) (a' := ?_) #[true, true, true, true, true, true, true, true, true, true, true, true, true, true, true, false] rfl rfl (any_of HT_.out (by kernel_rfl)) (fun _ _ _ h => h) (Or.inl ⟨by rfl, ?_⟩) ?_ ?_
                          rotate_left
                          · intro w'
                            go_simp
                            with_reducible rfl
                          rotate_left
                          · simp only [Act.put, List.setIfInBounds_toArray, List.set_cons_zero, List.set_cons_succ, i64_w, i32_w]
                            rfl
                          refine pure_ (i := 15) (N := some 30) (v := ?_) (a' := ?_) #[true, true, true, true, true, true, true, true, true, true, true, true, true, true, true, true] rfl rfl (any_of HT_.out (by kernel_rfl)) (fun _ _ _ h => h) (Or.inl ⟨by rfl, ?_⟩) ?_ ?_
                          rotate_left
                          · intro w'
                            go_simp
                            with_reducible rfl
                          rotate_left
                          · simp only [Act.put, List.setIfInBounds_toArray, List.set_cons_zero, List.set_cons_succ, i64_w, i32_w]
                            rfl
                          refine done_ (done_of HT_.out (by kernel_rfl)) ?_
                          try go_wp2
                          (try simp only [← hl3_1, ← hl3_2])
                          go_roundg k2
                          case measure => have := HK1.out; have := HK2.out; omega
                          case rel => exact ⟨(x3_2), (wrap64 (x11_1 + 1)), (by first | rfl | (simp; done) | (simp [*]; done)), H', ⟨by have := HK1.out; have := HK2.out; omega⟩, ⟨by (try simp only [hl3_1]); (try simp only [hl3_2]); (with_reducible repeat (first | apply Kd.R_alloc | apply Kd.R_drewN | apply Kd.R_drew)); exact HO_3.out⟩, ⟨by repeat (first | (with_reducible first | exact HB.out | apply below_alloc | apply pw_below_drewN | apply below_drew1) | exact HB.out)⟩⟩
                      · rw [if_neg c13] at H
                        exact absurd H (by simp)
                    · rw [if_neg c12] at H
                      exact absurd H (by simp)
                  · rw [if_neg c10] at H
                    exact absurd H (by simp)
                · rw [if_neg c9] at H
                  exact absurd H (by simp)
              · rw [if_neg c8] at H
                have c8b0 : decide (0 < x5_2) = false := decide_eq_false c8
                clear c8
                have H' := Aside0.mk H
                clear H
                try go_wp2
                have n0_ := Aside0.mk (Kd.R_drew HO_3.out)
                have n1_ := Aside0.mk (below_drew1 HB.out)
                clear HO_3
                clear HB
                have HO_3 := n0_
                have HB := n1_
                clear n0_ n1_
                refine start_ (n := 16) (S := fun w' => True) (ds := []) #[false, false, false, false, false, false, false, false, false, false, false, false, false, false, false, false] (by kernel_rfl) rfl rfl trivial (fun hHeld => ?_); refine with_tabW spec_Ordered.tab6 spec_Ordered.bits6 (fun HT_ HW_ => ?_)
                generalize wr.drew = w22 at HO_3 HB hHeld ⊢
                refine pure_ (i := 0) (N := some 15) (v := ?_) (a' := ?_) #[true, false, false, false, false, false, false, false, false, false, false, false, false, false, false, false] rfl rfl (any_of HT_.out (by kernel_rfl)) (fun _ _ _ h => h) (Or.inl ⟨by rfl, ?_⟩) ?_ ?_
                rotate_left
                · intro w'
                  go_simp
                  with_reducible rfl
                rotate_left
                · simp only [Act.put, List.setIfInBounds_toArray, List.set_cons_zero, List.set_cons_succ, i64_w, i32_w]
                  rfl
                refine pure_ (i := 1) (N := some 16) (v := ?_) (a' := ?_) #[true, true, false, false, false, false, false, false, false, false, false, false, false, false, false, false] rfl rfl (any_of HT_.out (by kernel_rfl)) (fun _ _ _ h => h) (Or.inl ⟨by rfl, ?_⟩) ?_ ?_
                rotate_left
                · intro w'
                  go_simp
                  with_reducible rfl
                rotate_left
                · simp only [Act.put, List.setIfInBounds_toArray, List.set_cons_zero, List.set_cons_succ, i64_w, i32_w]
                  rfl
                refine pure_ (i := 2) (N := some 17) (v := ?_) (a' := ?_) #[true, true, true, false, false, false, false, false, false, false, false, false, false, false, false, false] rfl rfl (any_of HT_.out (by kernel_rfl)) (fun _ _ _ h => h) (Or.inl ⟨by rfl, ?_⟩) ?_ ?_
                rotate_left
                · intro w'
                  go_simp
                  with_reducible rfl
                rotate_left
                · simp only [Act.put, List.setIfInBounds_toArray, List.set_cons_zero, List.set_cons_succ, i64_w, i32_w]
                  rfl
                refine pure_ (i := 3) (N := some 18) (v := undef) (a' := ?_) #[true, true, true, true, false, false, false, false, false, false, false, false, false, false, false, false] rfl rfl (any_of HT_.out (by kernel_rfl)) (fun _ _ _ h => h) (Or.inr ⟨by rfl, rfl⟩) ?_ ?_
                rotate_left
                · simp only [Act.put, List.setIfInBounds_toArray, List.set_cons_zero, List.set_cons_succ, i64_w, i32_w]
                  rfl
                refine pure_ (i := 4) (N := some 19) (v := undef) (a' := ?_) #[true, true, true, true, true, false, false, false, false, false, false, false, false, false, false, false] rfl rfl (any_of HT_.out (by kernel_rfl)) (fun _ _ _ h => h) (Or.inr ⟨by rfl, rfl⟩) ?_ ?_
                rotate_left
                · simp only [Act.put, List.setIfInBounds_toArray, List.set_cons_zero, List.set_cons_succ, i64_w, i32_w]
                  rfl
                refine pure_ (i := 5) (N := some 20) (v := undef) (a' := ?_) #[true, true, true, true, true, true, false, false, false, false, false, false, false, false, false, false] rfl rfl (any_of HT_.out (by kernel_rfl)) (fun _ _ _ h => h) (Or.inr ⟨by rfl, rfl⟩) ?_ ?_
                rotate_left
                · simp only [Act.put, List.setIfInBounds_toArray, List.set_cons_zero, List.set_cons_succ, i64_w, i32_w]
                  rfl
                refine pure_ (i := 6) (N := some 21) (v := undef) (a' := ?_) #[true, true, true, true, true, true, true, false, false, false, false, false, false, false, false, false] rfl rfl (any_of HT_.out (by kernel_rfl)) (fun _ _ _ h => h) (Or.inr ⟨by rfl, rfl⟩) ?_ ?_
                rotate_left
                · simp only [Act.put, List.setIfInBounds_toArray, List.set_cons_zero, List.set_cons_succ, i64_w, i32_w]
                  rfl
                refine pure_ (i := 7) (N := some 22) (v := undef) (a' := ?_) #[true, true, true, true, true, true, true, true, false, false, false, false, false, false, false, false] rfl rfl (any_of HT_.out (by kernel_rfl)) (fun _ _ _ h => h) (Or.inr ⟨by rfl, rfl⟩) ?_ ?_
                rotate_left
                · simp only [Act.put, List.setIfInBounds_toArray, List.set_cons_zero, List.set_cons_succ, i64_w, i32_w]
                  rfl
                refine pure_ (i := 8) (N := some 23) (v := undef) (a' := ?_) #[true, true, true, true, true, true, true, true, true, false, false, false, false, false, false, false] rfl rfl (any_of HT_.out (by kernel_rfl)) (fun _ _ _ h => h) (Or.inr ⟨by rfl, rfl⟩) ?_ ?_
                rotate_left
                · simp only [Act.put, List.setIfInBounds_toArray, List.set_cons_zero, List.set_cons_succ, i64_w, i32_w]
                  rfl
                refine pure_ (i := 9) (N := some 24) (v := undef) (a' := ?_) #[true, true, true, true, true, true, true, true, true, true, false, false, false, false, false, false] rfl rfl (any_of HT_.out (by kernel_rfl)) (fun _ _ _ h => h) (Or.inr ⟨by rfl, rfl⟩) ?_ ?_
                rotate_left
                · simp only [Act.put, List.setIfInBounds_toArray, List.set_cons_zero, List.set_cons_succ, i64_w, i32_w]
                  rfl
                refine pure_ (i := 10) (N := some 25) (v := undef) (a' := ?_) #[true, true, true, true, true, true, true, true, true, true, true, false, false, false, false, false] rfl rfl (any_of HT_.out (by kernel_rfl)) (fun _ _ _ h => h) (Or.inr ⟨by rfl, rfl⟩) ?_ ?_
                rotate_left
                · simp only [Act.put, List.setIfInBounds_toArray, List.set_cons_zero, List.set_cons_succ, i64_w, i32_w]
                  rfl
                refine pure_ (i := 11) (N := some 26) (v := undef) (a' := ?_) #[true, true, true, true, true, true, true, true, true, true, true, true, false, false, false, false] rfl rfl (any_of HT_.out (by kernel_rfl)) (fun _ _ _ h => h) (Or.inr ⟨by rfl, rfl⟩) ?_ ?_
                rotate_left
                · simp only [Act.put, List.setIfInBounds_toArray, List.set_cons_zero, List.set_cons_succ, i64_w, i32_w]
                  rfl
                refine pure_ (i := 12) (N := some 27) (v := undef) (a' := ?_) #[true, true, true, true, true, true, true, true, true, true, true, true, true, false, false, false] rfl rfl (any_of HT_.out (by kernel_rfl)) (fun _ _ _ h => h) (Or.inr ⟨by rfl, rfl⟩) ?_ ?_
                rotate_left
                · simp only [Act.put, List.setIfInBounds_toArray, List.set_cons_zero, List.set_cons_succ, i64_w, i32_w]
                  rfl
                refine pure_ (i := 13) (N := some 28) (v := undef) (a' := ?_) #[true, true, true, true, true, true, true, true, true, true, true, true, true, true, false, false] rfl rfl (any_of HT_.out (by kernel_rfl)) (fun _ _ _ h => h) (Or.inr ⟨by rfl, rfl⟩) ?_ ?_
                rotate_left
                · simp only [Act.put, List.setIfInBounds_toArray, List.set_cons_zero, List.set_cons_succ, i64_w, i32_w]
                  rfl
                refine pure_ (i := 14) (N := some 29) (v := undef) (a' := ?_) #[true, true, true, true, true, true, true, true, true, true, true, true, true, true, true, false] rfl rfl (any_of HT_.out (by kernel_rfl)) (fun _ _ _ h => h) (Or.inr ⟨by rfl, rfl⟩) ?_ ?_
                rotate_left
                · simp only [Act.put, List.setIfInBounds_toArray, List.set_cons_zero, List.set_cons_succ, i64_w, i32_w]
                  rfl
                refine pure_ (i := 15) (N := some 30) (v := ?_) (a' := ?_) #[true, true, true, true, true, true, true, true, true, true, true, true, true, true, true, true] rfl rfl (any_of HT_.out (by kernel_rfl)) (fun _ _ _ h => h) (Or.inl ⟨by rfl, ?_⟩) ?_ ?_
                rotate_left
                · intro w'
                  go_simp
                  with_reducible rfl
                rotate_left
                · simp only [Act.put, List.setIfInBounds_toArray, List.set_cons_zero, List.set_cons_succ, i64_w, i32_w]
                  rfl
                refine done_ (done_of HT_.out (by kernel_rfl)) ?_
                try go_wp2
                (try simp only [← hl3_1, ← hl3_2])
                go_roundg k2
                case measure => have := HK1.out; have := HK2.out; omega
                case rel => exact ⟨(x3_2), (wrap64 (x11_1 + 1)), (by first | rfl | (simp; done) | (simp [*]; done)), H', ⟨by have := HK1.out; have := HK2.out; omega⟩, ⟨by (try simp only [hl3_1]); (try simp only [hl3_2]); (with_reducible repeat (first | apply Kd.R_alloc | apply Kd.R_drewN | apply Kd.R_drew)); exact HO_3.out⟩, ⟨by repeat (first | (with_reducible first | exact HB.out | apply below_alloc | apply pw_below_drewN | apply below_drew1) | exact HB.out)⟩⟩
        · rw [if_neg c7] at H
          have c7b0 : decide (x11_1 < (y192.length : Int)) = false := decide_eq_false c7
          have c7b1 := c7b0
          rw [hl3_1] at c7b1
          clear c7
          obtain rfl := Option.some.inj H
          go_wp2
          go_ret
          exact ⟨_, by first | rfl | (simp [errW_none, errW_some] <;> rfl) | (simp [*, errW_none, errW_some] <;> rfl), by (with_reducible repeat (first | apply Kd.R_alloc | apply Kd.R_drewN | apply Kd.R_drew)); exact HO_3.out, by repeat (first | (with_reducible first | exact HB.out | apply below_alloc | apply pw_below_drewN | apply below_drew1) | exact HB.out)⟩
  · rw [if_neg c2] at H
    exact absurd H (by simp)

-- NOT PRINTED: function 3 (laws_FnAccept)

end Go.Proofs.YtkjepgahnaieaaaDoor.PFnAccept
