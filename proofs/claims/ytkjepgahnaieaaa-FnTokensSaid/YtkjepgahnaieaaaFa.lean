/- The Go functions below FnTokens that need no map: each comes to what a plain Lean function gives. Turned by wip/adapt.py from what print.sh wrote for this seat (one closer turned). -/
import Derived.Test.YtkjepgahnaieaaaPFnTokensx0
namespace Go.Proofs.Ytkjepgahnaieaaa.PFnTokens
open Go.RowKit Go.Proofs.YtkjepgahnaieaaaW.PrintWords Go.Proofs.YtkjepgahnaieaaaW.PrintLast Go.Proofs.YtkjepgahnaieaaaW.PrintMore
attribute [local go_sem] max2_int min2_int max_two min_two max_three min_three max_four min_four   -- for this text's walks alone
set_option linter.unusedVariables false
set_option linter.unusedSimpArgs false

/-! ### spec_Parts: function 7 -/
mutual
def spec_Parts.l0 : Nat → ByteArray → List ByteArray → Int → Int → Option (List ByteArray)
  | 0, _, _, _, _ => none
  | k + 1, x0, x3, x4, x5 => if x5 ≤ (x0.size : Int) then (if x5 < (x0.size : Int) then (if 0 ≤ x5 then (spec_Parts.j1 k x0 x3 x4 x5 ((bt x0 x5) != 47)) else (none)) else (spec_Parts.j1 k x0 x3 x4 x5 false)) else (some x3)
def spec_Parts.j1 : Nat → ByteArray → List ByteArray → Int → Int → Bool → Option (List ByteArray)
  | 0, _, _, _, _, _ => none
  | k + 1, x0, x3, x4, x5, x21 => if x21 = true then (spec_Parts.l0 k x0 x3 x4 (wrap64 (x5 + 1))) else (if x5 > x4 then (if 0 ≤ x4 then (if x4 ≤ x5 then (if x5 ≤ (x0.size : Int) then (if x3.length < 8796093022208 then (spec_Parts.l0 k x0 (x3 ++ [x0.extract (x4 : Int).toNat (x5 : Int).toNat]) (wrap64 (x5 + 1)) (wrap64 (x5 + 1))) else (none)) else (none)) else (none)) else (none)) else (spec_Parts.l0 k x0 x3 (wrap64 (x5 + 1)) (wrap64 (x5 + 1))))
end
def spec_Parts.f (k : Nat) (a0 : ByteArray) : Option (List ByteArray) := spec_Parts.l0 k a0 ([] : List ByteArray) 0 0
theorem spec_Parts.mono_l : ∀ k, (∀ y0 y1 y2 y3, LeO (spec_Parts.l0 k y0 y1 y2 y3) (spec_Parts.l0 (k + 1) y0 y1 y2 y3)) ∧ (∀ y0 y1 y2 y3 y4, LeO (spec_Parts.j1 k y0 y1 y2 y3 y4) (spec_Parts.j1 (k + 1) y0 y1 y2 y3 y4))
  | 0 => ⟨fun _ _ _ _ r h => by simp [spec_Parts.l0] at h, fun _ _ _ _ _ r h => by simp [spec_Parts.j1] at h⟩
  | k + 1 => by
    obtain ⟨ih0, ih1⟩ := spec_Parts.mono_l k
    refine ⟨?_, ?_⟩
    · intro y0 y1 y2 y3
      unfold spec_Parts.l0
      repeat' first
      | (with_reducible exact ih0 _ _ _ _)
      | (with_reducible exact ih1 _ _ _ _ _)
      | (with_reducible exact LeO.refl _)
      | (with_reducible exact LeO.none _)
      | (with_reducible refine LeO.ite ?_ ?_)
      | (with_reducible refine LeO.bind ?_ (fun _ => ?_))
      | exact ih0 _ _ _ _
      | exact ih1 _ _ _ _ _
      | exact LeO.none _
      | refine LeO.ite ?_ ?_
      | refine LeO.bind ?_ (fun _ => ?_)
    · intro y0 y1 y2 y3 y4
      unfold spec_Parts.j1
      repeat' first
      | (with_reducible exact ih0 _ _ _ _)
      | (with_reducible exact ih1 _ _ _ _ _)
      | (with_reducible exact LeO.refl _)
      | (with_reducible exact LeO.none _)
      | (with_reducible refine LeO.ite ?_ ?_)
      | (with_reducible refine LeO.bind ?_ (fun _ => ?_))
      | exact ih0 _ _ _ _
      | exact ih1 _ _ _ _ _
      | exact LeO.none _
      | refine LeO.ite ?_ ?_
      | refine LeO.bind ?_ (fun _ => ?_)
theorem spec_Parts.mono : ∀ a0 k, LeO (spec_Parts.f k a0) (spec_Parts.f (k + 1) a0) := by
  intro a0 k
  obtain ⟨ih0, ih1⟩ := spec_Parts.mono_l k
  unfold spec_Parts.f
  repeat' first
      | (with_reducible exact ih0 _ _ _ _)
      | (with_reducible exact ih1 _ _ _ _ _)
      | (with_reducible exact LeO.refl _)
      | (with_reducible exact LeO.none _)
      | (with_reducible refine LeO.ite ?_ ?_)
      | (with_reducible refine LeO.bind ?_ (fun _ => ?_))
      | exact ih0 _ _ _ _
      | exact ih1 _ _ _ _ _
      | exact LeO.none _
      | refine LeO.ite ?_ ?_
      | refine LeO.bind ?_ (fun _ => ?_)
set_option maxHeartbeats 8000000 in
set_option maxRecDepth 100000 in
theorem spec_Parts.calls (k : Nat) (a0 : ByteArray) (r : List ByteArray) (w : World) (h : spec_Parts.f k a0 = some r) :
    Calls Try.prog 7 #[.string a0] w fun e w' => ∃ v0_ : Value, e = .returned (v0_) ∧ Kd.R Kd.string 9 w' w.heap.size (fun _ => True) v0_ r ∧ Below w.heap.size w w' := by
  have HB := Aside0.mk (Below.refl w.heap.size w)
  have H : (spec_Parts.l0 k a0 ([] : List ByteArray) 0 0) = some r := h
  clear h
  have H' := Aside0.mk H
  clear H
  go_enter Try.func7, Try.ntmps7
  go_wp2
  go_loopg [3, 4, 5] k (fun kq v3 v4 v5 w' => ∃ (x3_1 : List ByteArray) (x4_1 : Int) (x5_1 : Int), v4 = .int .i64 x4_1 ∧ v5 = .int .i64 x5_1 ∧ Aside0 (spec_Parts.l0 kq a0 x3_1 x4_1 x5_1 = some r) ∧ Aside0 (kq ≤ k) ∧ Aside0 (Kd.R Kd.string 9 w' w.heap.size (fun _ => True) v3 x3_1) ∧ Aside0 (Below w.heap.size w w'))
  case atStart => exact ⟨(([] : List ByteArray)), (0), (0), (by first | rfl | (simp; done) | (simp [*]; done)), (by first | rfl | (simp; done) | (simp [*]; done)), H', ⟨Nat.le_refl _⟩, ⟨by first | exact Kd.R_nil _ _ _ _ _ | exact Kd.N_nil _ _ _ _ _ | exact Kd.V_nil _ _ _ _ _ | exact Kd.Q_nil _ _ _ _ _ | exact Kd.S_nil _ _ _ _ _⟩, ⟨by repeat (first | (with_reducible first | exact HB.out | apply below_alloc | apply pw_below_drewN | apply below_drew1) | exact HB.out)⟩⟩
  case round =>
    clear H'
    obtain ⟨x3_1, x4_1, x5_1, rfl, rfl, HA, HK1, HO_3, HB⟩ := hrel
    cases gk with
    | zero => exact absurd HA.out (by simp [spec_Parts.l0])
    | succ k1 =>
      have H := HA.out
      clear HA
      simp only [spec_Parts.l0] at H
      by_cases c2 : x5_1 ≤ (a0.size : Int)
      · rw [if_pos c2] at H
        have c2b0 : decide (x5_1 ≤ (a0.size : Int)) = true := decide_eq_true c2
        clear c2
        have HC3 := Aside0.mk H
        clear H
        go_upto_region 6 with (fail)
        go_cut [21] (fun v21 wc => ∃ (kq : Nat) (x21_2 : Bool), v21 = .bool x21_2 ∧ Aside0 (spec_Parts.j1 kq a0 x3_1 x4_1 x5_1 x21_2 = some r) ∧ Aside0 (kq ≤ k1) ∧ Aside0 (Kd.R Kd.string 9 wc w.heap.size (fun _ => True) u3 x3_1) ∧ Aside0 (Below w.heap.size w wc))
        case first =>
          have H := HC3.out
          clear HC3
          by_cases c4 : x5_1 < (a0.size : Int)
          · rw [if_pos c4] at H
            have c4b0 : decide (x5_1 < (a0.size : Int)) = true := decide_eq_true c4
            clear c4
            (first | rw [c4b0] | (simp only [i64_w, i32_w]; rw [c4b0]) | skip)
            by_cases c5 : 0 ≤ x5_1
            · rw [if_pos c5] at H
              have c5b0 : decide (0 ≤ x5_1) = true := decide_eq_true c5
              clear c5
              have H' := Aside0.mk H
              clear H
              have p6 : 0 ≤ (x5_1 : Int) := of_decide_eq_true (by first | (with_reducible assumption) | assumption)
              have q6 : x5_1 < (a0.size : Int) := of_decide_eq_true (by first | (with_reducible assumption) | assumption)
              have hx6 := bt_at a0 x5_1
              replace p6 := eq_true p6
              replace q6 := eq_true q6
              go_wp2
              go_meet
              case rel => exact ⟨_, (((bt a0 x5_1) != 47)), (by first | rfl | (simp; done) | (simp [*]; done)), H', ⟨by have := HK1.out; first | omega | exact Nat.le_refl _⟩, ⟨by (with_reducible repeat (first | apply Kd.R_alloc | apply Kd.R_drewN | apply Kd.R_drew)); exact HO_3.out⟩, ⟨by repeat (first | (with_reducible first | exact HB.out | apply below_alloc | apply pw_below_drewN | apply below_drew1) | exact HB.out)⟩⟩
            · rw [if_neg c5] at H
              exact absurd H (by simp)
          · rw [if_neg c4] at H
            have c4b0 : decide (x5_1 < (a0.size : Int)) = false := decide_eq_false c4
            clear c4
            (first | rw [c4b0] | (simp only [i64_w, i32_w]; rw [c4b0]) | skip)
            have H' := Aside0.mk H
            clear H
            go_wp2
            go_meet
            case rel => exact ⟨_, (false), (by first | rfl | (simp; done) | (simp [*]; done)), H', ⟨by have := HK1.out; first | omega | exact Nat.le_refl _⟩, ⟨by (with_reducible repeat (first | apply Kd.R_alloc | apply Kd.R_drewN | apply Kd.R_drew)); exact HO_3.out⟩, ⟨by repeat (first | (with_reducible first | exact HB.out | apply below_alloc | apply pw_below_drewN | apply below_drew1) | exact HB.out)⟩⟩
        case rest =>
          clear HC3
          try clear c2
          try clear c2b0
          try clear p2
          try clear c4
          try clear c4b0
          try clear c5
          try clear c5b0
          try clear p6
          try clear q6
          try clear hx6
          try clear p6
          try clear q6
          obtain ⟨kq, x21_2, rfl, HA, HJ2, HO_3, HB⟩ := hcut
          cases kq with
          | zero => exact absurd HA.out (by simp [spec_Parts.j1])
          | succ kj2 =>
            have H := HA.out
            clear HA
            simp only [spec_Parts.j1] at H
            by_cases c7 : x21_2 = true
            · subst c7
              have H1 : (spec_Parts.l0 kj2 a0 x3_1 x4_1 (wrap64 (x5_1 + 1))) = some r := by rw [if_pos rfl] at H; exact H
              clear H
              have H := H1
              clear H1
              have H' := Aside0.mk H
              clear H
              go_wp2
              go_roundg kj2
              case measure => have := HK1.out; have := HJ2.out; omega
              case rel => exact ⟨(x3_1), (x4_1), (wrap64 (x5_1 + 1)), (by first | rfl | (simp; done) | (simp [*]; done)), (by first | rfl | (simp; done) | (simp [*]; done)), H', ⟨by have := HK1.out; have := HJ2.out; omega⟩, ⟨by (with_reducible repeat (first | apply Kd.R_alloc | apply Kd.R_drewN | apply Kd.R_drew)); exact HO_3.out⟩, ⟨by repeat (first | (with_reducible first | exact HB.out | apply below_alloc | apply pw_below_drewN | apply below_drew1) | exact HB.out)⟩⟩
            · replace c7 := Bool.eq_false_iff.mpr c7
              subst c7
              have H1 : (if x5_1 > x4_1 then (if 0 ≤ x4_1 then (if x4_1 ≤ x5_1 then (if x5_1 ≤ (a0.size : Int) then (if x3_1.length < 8796093022208 then (spec_Parts.l0 kj2 a0 (x3_1 ++ [a0.extract (x4_1 : Int).toNat (x5_1 : Int).toNat]) (wrap64 (x5_1 + 1)) (wrap64 (x5_1 + 1))) else (none)) else (none)) else (none)) else (none)) else (spec_Parts.l0 kj2 a0 x3_1 (wrap64 (x5_1 + 1)) (wrap64 (x5_1 + 1)))) = some r := by rw [if_neg (show ¬ (false = true) by decide)] at H; exact H
              clear H
              have H := H1
              clear H1
              by_cases c8 : x5_1 > x4_1
              · rw [if_pos c8] at H
                have c8b0 : decide (x4_1 < x5_1) = true := decide_eq_true c8
                clear c8
                by_cases c9 : 0 ≤ x4_1
                · rw [if_pos c9] at H
                  have c9b0 := eq_true c9
                  have c9b1 : decide (0 ≤ x4_1) = true := decide_eq_true c9
                  clear c9
                  by_cases c10 : x4_1 ≤ x5_1
                  · rw [if_pos c10] at H
                    have c10b0 := eq_true c10
                    have c10b1 : decide (x4_1 ≤ x5_1) = true := decide_eq_true c10
                    clear c10
                    by_cases c11 : x5_1 ≤ (a0.size : Int)
                    · rw [if_pos c11] at H
                      have c11b0 := eq_true c11
                      have c11b1 : decide (x5_1 ≤ (a0.size : Int)) = true := decide_eq_true c11
                      clear c11
                      by_cases c12 : x3_1.length < 8796093022208
                      · rw [if_pos c12] at H
                        have LMc12 := Aside0.mk c12
                        clear c12
                        obtain ⟨y101, hy101⟩ : ∃ y_ : List ByteArray, y_ = (x3_1 ++ [a0.extract (x4_1 : Int).toNat (x5_1 : Int).toNat]) := ⟨_, rfl⟩
                        replace H : (spec_Parts.l0 kj2 a0 y101 (wrap64 (x5_1 + 1)) (wrap64 (x5_1 + 1))) = some r := by first | (rw [hy101]; with_reducible exact H) | (have H2_ := (Option.bind_some _ _).symm.trans H; rw [hy101]; with_reducible exact H2_) | (have H2_ := (Option.bind_some _ _).symm.trans H; with_reducible exact H2_) | with_reducible exact H | (rw [hy101]; exact H) | exact H
                        have Ny101 := Aside0.mk hy101
                        clear hy101
                        have H' := Aside0.mk H
                        clear H
                        go_wp2_with (first | ((with_reducible refine gate_builtin (b := .append) (xs := #[.tmp 25, .tmp 30]) rfl ?_); at_builtin; refine Kd.R_append Kd.string (w0 := w) w.heap.size rfl (.tmp 25) (.tmp 30) 22 9 (.string ⟨#[]⟩) 16 rfl Try.underlying22 info9 rfl (by decide) (by omega) u3 x3_1 (a0.extract (x4_1 : Int).toNat (x5_1 : Int).toNat) [.string (a0.extract (x4_1 : Int).toNat (x5_1 : Int).toNat)] (fun _ => True) (fun _ => False) rfl rfl ?aP (fun _ hk => hk.elim) ?aF ?aO ?aB ?aS ?aL ?_; (case aP => exact rfl); (case aB => exact (by repeat (first | (with_reducible first | exact HB.out | apply below_alloc | apply pw_below_drewN | apply below_drew1) | exact HB.out))); (case aF => exact (fun _ _ => trivial)); (case aO => exact (by (with_reducible repeat (first | apply Kd.R_alloc | apply Kd.R_drewN | apply Kd.R_drew)); exact HO_3.out)); (case aS => exact (below_size (by repeat (first | (with_reducible first | exact HB.out | apply below_alloc | apply pw_below_drewN | apply below_drew1) | exact HB.out)))); (case aL => have := LMc12.out; omega); intro v102 w13 ho hb hg hat; rw [← Ny101.out] at ho; have n0_ := Aside0.mk (hb); have n1_ := Aside0.mk (ho); clear HB; clear HO_3; have HB := n0_; have HO103 := n1_; clear n0_ n1_; clear ho hb hg hat))
                        go_roundg kj2
                        case measure => have := HK1.out; have := HJ2.out; omega
                        case rel => exact ⟨(y101), (wrap64 (x5_1 + 1)), (wrap64 (x5_1 + 1)), (by first | rfl | (simp; done) | (simp [*]; done)), (by first | rfl | (simp; done) | (simp [*]; done)), H', ⟨by have := HK1.out; have := HJ2.out; omega⟩, ⟨by (with_reducible repeat (first | apply Kd.R_alloc | apply Kd.R_drewN | apply Kd.R_drew)); exact HO103.out⟩, ⟨by repeat (first | (with_reducible first | exact HB.out | apply below_alloc | apply pw_below_drewN | apply below_drew1) | exact HB.out)⟩⟩
                      · rw [if_neg c12] at H
                        exact absurd H (by simp)
                    · rw [if_neg c11] at H
                      exact absurd H (by simp)
                  · rw [if_neg c10] at H
                    exact absurd H (by simp)
                · rw [if_neg c9] at H
                  exact absurd H (by simp)
              · rw [if_neg c8] at H
                have c8b0 : decide (x4_1 < x5_1) = false := decide_eq_false c8
                clear c8
                have H' := Aside0.mk H
                clear H
                go_wp2
                go_roundg kj2
                case measure => have := HK1.out; have := HJ2.out; omega
                case rel => exact ⟨(x3_1), (wrap64 (x5_1 + 1)), (wrap64 (x5_1 + 1)), (by first | rfl | (simp; done) | (simp [*]; done)), (by first | rfl | (simp; done) | (simp [*]; done)), H', ⟨by have := HK1.out; have := HJ2.out; omega⟩, ⟨by (with_reducible repeat (first | apply Kd.R_alloc | apply Kd.R_drewN | apply Kd.R_drew)); exact HO_3.out⟩, ⟨by repeat (first | (with_reducible first | exact HB.out | apply below_alloc | apply pw_below_drewN | apply below_drew1) | exact HB.out)⟩⟩
      · rw [if_neg c2] at H
        have c2b0 : decide (x5_1 ≤ (a0.size : Int)) = false := decide_eq_false c2
        clear c2
        obtain rfl := Option.some.inj H
        go_wp2
        go_ret
        exact ⟨_, by first | rfl | (simp [errW_none, errW_some] <;> rfl) | (simp [*, errW_none, errW_some] <;> rfl), by (with_reducible repeat (first | apply Kd.R_alloc | apply Kd.R_drewN | apply Kd.R_drew)); exact HO_3.out, by repeat (first | (with_reducible first | exact HB.out | apply below_alloc | apply pw_below_drewN | apply below_drew1) | exact HB.out)⟩

/-! ### spec_word: function 12 -/
def spec_word.l0 : Nat → ByteArray → Int → Int → Option (Bool)
  | 0, _, _, _ => none
  | k + 1, x0, x6, x7 => if x7 < x6 then (if 0 ≤ x7 then (if x7 < (x0.size : Int) then (if (bt x0 x7) ≥ 97 then (if (bt x0 x7) ≤ 122 then (spec_word.l0 k x0 x6 (wrap64 (x7 + 1))) else (if (bt x0 x7) ≥ 65 then (if (bt x0 x7) ≤ 90 then (spec_word.l0 k x0 x6 (wrap64 (x7 + 1))) else (if (bt x0 x7) ≥ 48 then (if (bt x0 x7) ≤ 57 then (spec_word.l0 k x0 x6 (wrap64 (x7 + 1))) else (if ((bt x0 x7) = 45) then (spec_word.l0 k x0 x6 (wrap64 (x7 + 1))) else (some false))) else (if ((bt x0 x7) = 45) then (spec_word.l0 k x0 x6 (wrap64 (x7 + 1))) else (some false)))) else (if (bt x0 x7) ≥ 48 then (if (bt x0 x7) ≤ 57 then (spec_word.l0 k x0 x6 (wrap64 (x7 + 1))) else (if ((bt x0 x7) = 45) then (spec_word.l0 k x0 x6 (wrap64 (x7 + 1))) else (some false))) else (if ((bt x0 x7) = 45) then (spec_word.l0 k x0 x6 (wrap64 (x7 + 1))) else (some false))))) else (if (bt x0 x7) ≥ 65 then (if (bt x0 x7) ≤ 90 then (spec_word.l0 k x0 x6 (wrap64 (x7 + 1))) else (if (bt x0 x7) ≥ 48 then (if (bt x0 x7) ≤ 57 then (spec_word.l0 k x0 x6 (wrap64 (x7 + 1))) else (if ((bt x0 x7) = 45) then (spec_word.l0 k x0 x6 (wrap64 (x7 + 1))) else (some false))) else (if ((bt x0 x7) = 45) then (spec_word.l0 k x0 x6 (wrap64 (x7 + 1))) else (some false)))) else (if (bt x0 x7) ≥ 48 then (if (bt x0 x7) ≤ 57 then (spec_word.l0 k x0 x6 (wrap64 (x7 + 1))) else (if ((bt x0 x7) = 45) then (spec_word.l0 k x0 x6 (wrap64 (x7 + 1))) else (some false))) else (if ((bt x0 x7) = 45) then (spec_word.l0 k x0 x6 (wrap64 (x7 + 1))) else (some false))))) else (none)) else (none)) else (some (x0.toList != ([] : List UInt8)))
def spec_word.f (k : Nat) (a0 : ByteArray) : Option (Bool) := spec_word.l0 k a0 (a0.size : Int) 0
theorem spec_word.mono_l : ∀ k, (∀ y0 y1 y2, LeO (spec_word.l0 k y0 y1 y2) (spec_word.l0 (k + 1) y0 y1 y2))
  | 0 => fun _ _ _ r h => by simp [spec_word.l0] at h
  | k + 1 => by
    have ih0 := spec_word.mono_l k
    · intro y0 y1 y2
      unfold spec_word.l0
      repeat' first
      | (with_reducible exact ih0 _ _ _)
      | (with_reducible exact LeO.refl _)
      | (with_reducible exact LeO.none _)
      | (with_reducible refine LeO.ite ?_ ?_)
      | (with_reducible refine LeO.bind ?_ (fun _ => ?_))
      | exact ih0 _ _ _
      | exact LeO.none _
      | refine LeO.ite ?_ ?_
      | refine LeO.bind ?_ (fun _ => ?_)
theorem spec_word.mono : ∀ a0 k, LeO (spec_word.f k a0) (spec_word.f (k + 1) a0) := by
  intro a0 k
  have ih0 := spec_word.mono_l k
  unfold spec_word.f
  repeat' first
      | (with_reducible exact ih0 _ _ _)
      | (with_reducible exact LeO.refl _)
      | (with_reducible exact LeO.none _)
      | (with_reducible refine LeO.ite ?_ ?_)
      | (with_reducible refine LeO.bind ?_ (fun _ => ?_))
      | exact ih0 _ _ _
      | exact LeO.none _
      | refine LeO.ite ?_ ?_
      | refine LeO.bind ?_ (fun _ => ?_)
set_option maxHeartbeats 8000000 in
set_option maxRecDepth 100000 in
theorem spec_word.calls (k : Nat) (a0 : ByteArray) (r : Bool) (w : World) (h : spec_word.f k a0 = some r) :
    Calls Try.prog 12 #[.string a0] w fun e w' => e = .returned (.bool r) ∧ Drawn0 w w' := by
  have H : (spec_word.l0 k a0 (a0.size : Int) 0) = some r := h
  clear h
  have H' := Aside0.mk H
  clear H
  go_enter Try.func12, Try.ntmps12
  go_wp2
  go_loopg [7] k (fun kq v7 w' => ∃ (x7_1 : Int), v7 = .int .i64 x7_1 ∧ Aside0 (spec_word.l0 kq a0 (a0.size : Int) x7_1 = some r) ∧ Aside0 (kq ≤ k) ∧ Drawn0 w w')
  case atStart => exact ⟨(0), (by first | rfl | (simp; done) | (simp [*]; done)), H', ⟨Nat.le_refl _⟩, by repeat (first | exact Drawn0.refl _ | apply Drawn0.step)⟩
  case round =>
    clear H'
    try clear c1
    obtain ⟨x7_1, rfl, HA, HK1, ⟨m1, rfl⟩⟩ := hrel
    cases gk with
    | zero => exact absurd HA.out (by simp [spec_word.l0])
    | succ k1 =>
      have H := HA.out
      clear HA
      simp only [spec_word.l0] at H
      by_cases c2 : x7_1 < (a0.size : Int)
      · rw [if_pos c2] at H
        have c2b0 : decide (x7_1 < (a0.size : Int)) = true := decide_eq_true c2
        clear c2
        by_cases c3 : 0 ≤ x7_1
        · rw [if_pos c3] at H
          have c3b0 : decide (0 ≤ x7_1) = true := decide_eq_true c3
          clear c3
          by_cases c4 : x7_1 < (a0.size : Int)
          · rw [if_pos c4] at H
            have c4b0 : decide (x7_1 < (a0.size : Int)) = true := decide_eq_true c4
            clear c4
            by_cases c6 : (bt a0 x7_1) ≥ 97
            · rw [if_pos c6] at H
              have c6b0 : decide (97 ≤ (bt a0 x7_1)) = true := decide_eq_true c6
              clear c6
              by_cases c7 : (bt a0 x7_1) ≤ 122
              · rw [if_pos c7] at H
                have c7b0 : decide ((bt a0 x7_1) ≤ 122) = true := decide_eq_true c7
                clear c7
                have H' := Aside0.mk H
                clear H
                have p5 : 0 ≤ (x7_1 : Int) := of_decide_eq_true (by first | (with_reducible assumption) | assumption)
                have q5 : x7_1 < (a0.size : Int) := of_decide_eq_true (by first | (with_reducible assumption) | assumption)
                have hx5 := bt_at a0 x7_1
                replace p5 := eq_true p5
                replace q5 := eq_true q5
                go_wp2
                go_roundg k1
                case measure => have := HK1.out; omega
                case rel => exact ⟨(wrap64 (x7_1 + 1)), (by first | rfl | (simp; done) | (simp [*]; done)), H', ⟨by have := HK1.out; omega⟩, by repeat (first | exact Drawn0.refl _ | apply Drawn0.step)⟩
              · rw [if_neg c7] at H
                have c7b0 : decide ((bt a0 x7_1) ≤ 122) = false := decide_eq_false c7
                clear c7
                by_cases c8 : (bt a0 x7_1) ≥ 65
                · rw [if_pos c8] at H
                  have c8b0 : decide (65 ≤ (bt a0 x7_1)) = true := decide_eq_true c8
                  clear c8
                  by_cases c9 : (bt a0 x7_1) ≤ 90
                  · rw [if_pos c9] at H
                    have c9b0 : decide ((bt a0 x7_1) ≤ 90) = true := decide_eq_true c9
                    clear c9
                    have H' := Aside0.mk H
                    clear H
                    have p5 : 0 ≤ (x7_1 : Int) := of_decide_eq_true (by first | (with_reducible assumption) | assumption)
                    have q5 : x7_1 < (a0.size : Int) := of_decide_eq_true (by first | (with_reducible assumption) | assumption)
                    have hx5 := bt_at a0 x7_1
                    replace p5 := eq_true p5
                    replace q5 := eq_true q5
                    go_wp2
                    go_roundg k1
                    case measure => have := HK1.out; omega
                    case rel => exact ⟨(wrap64 (x7_1 + 1)), (by first | rfl | (simp; done) | (simp [*]; done)), H', ⟨by have := HK1.out; omega⟩, by repeat (first | exact Drawn0.refl _ | apply Drawn0.step)⟩
                  · rw [if_neg c9] at H
                    have c9b0 : decide ((bt a0 x7_1) ≤ 90) = false := decide_eq_false c9
                    clear c9
                    by_cases c10 : (bt a0 x7_1) ≥ 48
                    · rw [if_pos c10] at H
                      have c10b0 : decide (48 ≤ (bt a0 x7_1)) = true := decide_eq_true c10
                      clear c10
                      by_cases c11 : (bt a0 x7_1) ≤ 57
                      · rw [if_pos c11] at H
                        have c11b0 : decide ((bt a0 x7_1) ≤ 57) = true := decide_eq_true c11
                        clear c11
                        have H' := Aside0.mk H
                        clear H
                        have p5 : 0 ≤ (x7_1 : Int) := of_decide_eq_true (by first | (with_reducible assumption) | assumption)
                        have q5 : x7_1 < (a0.size : Int) := of_decide_eq_true (by first | (with_reducible assumption) | assumption)
                        have hx5 := bt_at a0 x7_1
                        replace p5 := eq_true p5
                        replace q5 := eq_true q5
                        go_wp2
                        go_roundg k1
                        case measure => have := HK1.out; omega
                        case rel => exact ⟨(wrap64 (x7_1 + 1)), (by first | rfl | (simp; done) | (simp [*]; done)), H', ⟨by have := HK1.out; omega⟩, by repeat (first | exact Drawn0.refl _ | apply Drawn0.step)⟩
                      · rw [if_neg c11] at H
                        have c11b0 : decide ((bt a0 x7_1) ≤ 57) = false := decide_eq_false c11
                        clear c11
                        by_cases c12 : ((bt a0 x7_1) = 45)
                        · rw [if_pos c12] at H
                          have c12b0 : ((bt a0 x7_1) == 45) = true := beq_iff_eq.mpr c12
                          have c12b1 : ((bt a0 x7_1) != 45) = false := bne_eq_false_iff_eq.mpr c12
                          clear c12
                          have H' := Aside0.mk H
                          clear H
                          have p5 : 0 ≤ (x7_1 : Int) := of_decide_eq_true (by first | (with_reducible assumption) | assumption)
                          have q5 : x7_1 < (a0.size : Int) := of_decide_eq_true (by first | (with_reducible assumption) | assumption)
                          have hx5 := bt_at a0 x7_1
                          replace p5 := eq_true p5
                          replace q5 := eq_true q5
                          go_wp2
                          go_roundg k1
                          case measure => have := HK1.out; omega
                          case rel => exact ⟨(wrap64 (x7_1 + 1)), (by first | rfl | (simp; done) | (simp [*]; done)), H', ⟨by have := HK1.out; omega⟩, by repeat (first | exact Drawn0.refl _ | apply Drawn0.step)⟩
                        · rw [if_neg c12] at H
                          have c12b0 : ((bt a0 x7_1) == 45) = false := beq_eq_false_iff_ne.mpr c12
                          have c12b1 : ((bt a0 x7_1) != 45) = true := bne_iff_ne.mpr c12
                          obtain rfl := Option.some.inj H
                          have p5 : 0 ≤ (x7_1 : Int) := of_decide_eq_true (by first | (with_reducible assumption) | assumption)
                          have q5 : x7_1 < (a0.size : Int) := of_decide_eq_true (by first | (with_reducible assumption) | assumption)
                          have hx5 := bt_at a0 x7_1
                          replace p5 := eq_true p5
                          replace q5 := eq_true q5
                          go_wp2
                          go_ret
                          exact ⟨by first | rfl | (simp; done) | (simp [*]; done) | (cases a0.toList <;> rfl), by repeat (first | exact Drawn0.refl _ | apply Drawn0.step)⟩
                    · rw [if_neg c10] at H
                      have c10b0 : decide (48 ≤ (bt a0 x7_1)) = false := decide_eq_false c10
                      clear c10
                      by_cases c13 : ((bt a0 x7_1) = 45)
                      · rw [if_pos c13] at H
                        have c13b0 : ((bt a0 x7_1) == 45) = true := beq_iff_eq.mpr c13
                        have c13b1 : ((bt a0 x7_1) != 45) = false := bne_eq_false_iff_eq.mpr c13
                        clear c13
                        have H' := Aside0.mk H
                        clear H
                        have p5 : 0 ≤ (x7_1 : Int) := of_decide_eq_true (by first | (with_reducible assumption) | assumption)
                        have q5 : x7_1 < (a0.size : Int) := of_decide_eq_true (by first | (with_reducible assumption) | assumption)
                        have hx5 := bt_at a0 x7_1
                        replace p5 := eq_true p5
                        replace q5 := eq_true q5
                        go_wp2
                        go_roundg k1
                        case measure => have := HK1.out; omega
                        case rel => exact ⟨(wrap64 (x7_1 + 1)), (by first | rfl | (simp; done) | (simp [*]; done)), H', ⟨by have := HK1.out; omega⟩, by repeat (first | exact Drawn0.refl _ | apply Drawn0.step)⟩
                      · rw [if_neg c13] at H
                        have c13b0 : ((bt a0 x7_1) == 45) = false := beq_eq_false_iff_ne.mpr c13
                        have c13b1 : ((bt a0 x7_1) != 45) = true := bne_iff_ne.mpr c13
                        obtain rfl := Option.some.inj H
                        have p5 : 0 ≤ (x7_1 : Int) := of_decide_eq_true (by first | (with_reducible assumption) | assumption)
                        have q5 : x7_1 < (a0.size : Int) := of_decide_eq_true (by first | (with_reducible assumption) | assumption)
                        have hx5 := bt_at a0 x7_1
                        replace p5 := eq_true p5
                        replace q5 := eq_true q5
                        go_wp2
                        go_ret
                        exact ⟨by first | rfl | (simp; done) | (simp [*]; done) | (cases a0.toList <;> rfl), by repeat (first | exact Drawn0.refl _ | apply Drawn0.step)⟩
                · rw [if_neg c8] at H
                  have c8b0 : decide (65 ≤ (bt a0 x7_1)) = false := decide_eq_false c8
                  clear c8
                  by_cases c14 : (bt a0 x7_1) ≥ 48
                  · rw [if_pos c14] at H
                    have c14b0 : decide (48 ≤ (bt a0 x7_1)) = true := decide_eq_true c14
                    clear c14
                    by_cases c15 : (bt a0 x7_1) ≤ 57
                    · rw [if_pos c15] at H
                      have c15b0 : decide ((bt a0 x7_1) ≤ 57) = true := decide_eq_true c15
                      clear c15
                      have H' := Aside0.mk H
                      clear H
                      have p5 : 0 ≤ (x7_1 : Int) := of_decide_eq_true (by first | (with_reducible assumption) | assumption)
                      have q5 : x7_1 < (a0.size : Int) := of_decide_eq_true (by first | (with_reducible assumption) | assumption)
                      have hx5 := bt_at a0 x7_1
                      replace p5 := eq_true p5
                      replace q5 := eq_true q5
                      go_wp2
                      go_roundg k1
                      case measure => have := HK1.out; omega
                      case rel => exact ⟨(wrap64 (x7_1 + 1)), (by first | rfl | (simp; done) | (simp [*]; done)), H', ⟨by have := HK1.out; omega⟩, by repeat (first | exact Drawn0.refl _ | apply Drawn0.step)⟩
                    · rw [if_neg c15] at H
                      have c15b0 : decide ((bt a0 x7_1) ≤ 57) = false := decide_eq_false c15
                      clear c15
                      by_cases c16 : ((bt a0 x7_1) = 45)
                      · rw [if_pos c16] at H
                        have c16b0 : ((bt a0 x7_1) == 45) = true := beq_iff_eq.mpr c16
                        have c16b1 : ((bt a0 x7_1) != 45) = false := bne_eq_false_iff_eq.mpr c16
                        clear c16
                        have H' := Aside0.mk H
                        clear H
                        have p5 : 0 ≤ (x7_1 : Int) := of_decide_eq_true (by first | (with_reducible assumption) | assumption)
                        have q5 : x7_1 < (a0.size : Int) := of_decide_eq_true (by first | (with_reducible assumption) | assumption)
                        have hx5 := bt_at a0 x7_1
                        replace p5 := eq_true p5
                        replace q5 := eq_true q5
                        go_wp2
                        go_roundg k1
                        case measure => have := HK1.out; omega
                        case rel => exact ⟨(wrap64 (x7_1 + 1)), (by first | rfl | (simp; done) | (simp [*]; done)), H', ⟨by have := HK1.out; omega⟩, by repeat (first | exact Drawn0.refl _ | apply Drawn0.step)⟩
                      · rw [if_neg c16] at H
                        have c16b0 : ((bt a0 x7_1) == 45) = false := beq_eq_false_iff_ne.mpr c16
                        have c16b1 : ((bt a0 x7_1) != 45) = true := bne_iff_ne.mpr c16
                        obtain rfl := Option.some.inj H
                        have p5 : 0 ≤ (x7_1 : Int) := of_decide_eq_true (by first | (with_reducible assumption) | assumption)
                        have q5 : x7_1 < (a0.size : Int) := of_decide_eq_true (by first | (with_reducible assumption) | assumption)
                        have hx5 := bt_at a0 x7_1
                        replace p5 := eq_true p5
                        replace q5 := eq_true q5
                        go_wp2
                        go_ret
                        exact ⟨by first | rfl | (simp; done) | (simp [*]; done) | (cases a0.toList <;> rfl), by repeat (first | exact Drawn0.refl _ | apply Drawn0.step)⟩
                  · rw [if_neg c14] at H
                    have c14b0 : decide (48 ≤ (bt a0 x7_1)) = false := decide_eq_false c14
                    clear c14
                    by_cases c17 : ((bt a0 x7_1) = 45)
                    · rw [if_pos c17] at H
                      have c17b0 : ((bt a0 x7_1) == 45) = true := beq_iff_eq.mpr c17
                      have c17b1 : ((bt a0 x7_1) != 45) = false := bne_eq_false_iff_eq.mpr c17
                      clear c17
                      have H' := Aside0.mk H
                      clear H
                      have p5 : 0 ≤ (x7_1 : Int) := of_decide_eq_true (by first | (with_reducible assumption) | assumption)
                      have q5 : x7_1 < (a0.size : Int) := of_decide_eq_true (by first | (with_reducible assumption) | assumption)
                      have hx5 := bt_at a0 x7_1
                      replace p5 := eq_true p5
                      replace q5 := eq_true q5
                      go_wp2
                      go_roundg k1
                      case measure => have := HK1.out; omega
                      case rel => exact ⟨(wrap64 (x7_1 + 1)), (by first | rfl | (simp; done) | (simp [*]; done)), H', ⟨by have := HK1.out; omega⟩, by repeat (first | exact Drawn0.refl _ | apply Drawn0.step)⟩
                    · rw [if_neg c17] at H
                      have c17b0 : ((bt a0 x7_1) == 45) = false := beq_eq_false_iff_ne.mpr c17
                      have c17b1 : ((bt a0 x7_1) != 45) = true := bne_iff_ne.mpr c17
                      obtain rfl := Option.some.inj H
                      have p5 : 0 ≤ (x7_1 : Int) := of_decide_eq_true (by first | (with_reducible assumption) | assumption)
                      have q5 : x7_1 < (a0.size : Int) := of_decide_eq_true (by first | (with_reducible assumption) | assumption)
                      have hx5 := bt_at a0 x7_1
                      replace p5 := eq_true p5
                      replace q5 := eq_true q5
                      go_wp2
                      go_ret
                      exact ⟨by first | rfl | (simp; done) | (simp [*]; done) | (cases a0.toList <;> rfl), by repeat (first | exact Drawn0.refl _ | apply Drawn0.step)⟩
            · rw [if_neg c6] at H
              have c6b0 : decide (97 ≤ (bt a0 x7_1)) = false := decide_eq_false c6
              clear c6
              by_cases c18 : (bt a0 x7_1) ≥ 65
              · rw [if_pos c18] at H
                have c18b0 : decide (65 ≤ (bt a0 x7_1)) = true := decide_eq_true c18
                clear c18
                by_cases c19 : (bt a0 x7_1) ≤ 90
                · rw [if_pos c19] at H
                  have c19b0 : decide ((bt a0 x7_1) ≤ 90) = true := decide_eq_true c19
                  clear c19
                  have H' := Aside0.mk H
                  clear H
                  have p5 : 0 ≤ (x7_1 : Int) := of_decide_eq_true (by first | (with_reducible assumption) | assumption)
                  have q5 : x7_1 < (a0.size : Int) := of_decide_eq_true (by first | (with_reducible assumption) | assumption)
                  have hx5 := bt_at a0 x7_1
                  replace p5 := eq_true p5
                  replace q5 := eq_true q5
                  go_wp2
                  go_roundg k1
                  case measure => have := HK1.out; omega
                  case rel => exact ⟨(wrap64 (x7_1 + 1)), (by first | rfl | (simp; done) | (simp [*]; done)), H', ⟨by have := HK1.out; omega⟩, by repeat (first | exact Drawn0.refl _ | apply Drawn0.step)⟩
                · rw [if_neg c19] at H
                  have c19b0 : decide ((bt a0 x7_1) ≤ 90) = false := decide_eq_false c19
                  clear c19
                  by_cases c20 : (bt a0 x7_1) ≥ 48
                  · rw [if_pos c20] at H
                    have c20b0 : decide (48 ≤ (bt a0 x7_1)) = true := decide_eq_true c20
                    clear c20
                    by_cases c21 : (bt a0 x7_1) ≤ 57
                    · rw [if_pos c21] at H
                      have c21b0 : decide ((bt a0 x7_1) ≤ 57) = true := decide_eq_true c21
                      clear c21
                      have H' := Aside0.mk H
                      clear H
                      have p5 : 0 ≤ (x7_1 : Int) := of_decide_eq_true (by first | (with_reducible assumption) | assumption)
                      have q5 : x7_1 < (a0.size : Int) := of_decide_eq_true (by first | (with_reducible assumption) | assumption)
                      have hx5 := bt_at a0 x7_1
                      replace p5 := eq_true p5
                      replace q5 := eq_true q5
                      go_wp2
                      go_roundg k1
                      case measure => have := HK1.out; omega
                      case rel => exact ⟨(wrap64 (x7_1 + 1)), (by first | rfl | (simp; done) | (simp [*]; done)), H', ⟨by have := HK1.out; omega⟩, by repeat (first | exact Drawn0.refl _ | apply Drawn0.step)⟩
                    · rw [if_neg c21] at H
                      have c21b0 : decide ((bt a0 x7_1) ≤ 57) = false := decide_eq_false c21
                      clear c21
                      by_cases c22 : ((bt a0 x7_1) = 45)
                      · rw [if_pos c22] at H
                        have c22b0 : ((bt a0 x7_1) == 45) = true := beq_iff_eq.mpr c22
                        have c22b1 : ((bt a0 x7_1) != 45) = false := bne_eq_false_iff_eq.mpr c22
                        clear c22
                        have H' := Aside0.mk H
                        clear H
                        have p5 : 0 ≤ (x7_1 : Int) := of_decide_eq_true (by first | (with_reducible assumption) | assumption)
                        have q5 : x7_1 < (a0.size : Int) := of_decide_eq_true (by first | (with_reducible assumption) | assumption)
                        have hx5 := bt_at a0 x7_1
                        replace p5 := eq_true p5
                        replace q5 := eq_true q5
                        go_wp2
                        go_roundg k1
                        case measure => have := HK1.out; omega
                        case rel => exact ⟨(wrap64 (x7_1 + 1)), (by first | rfl | (simp; done) | (simp [*]; done)), H', ⟨by have := HK1.out; omega⟩, by repeat (first | exact Drawn0.refl _ | apply Drawn0.step)⟩
                      · rw [if_neg c22] at H
                        have c22b0 : ((bt a0 x7_1) == 45) = false := beq_eq_false_iff_ne.mpr c22
                        have c22b1 : ((bt a0 x7_1) != 45) = true := bne_iff_ne.mpr c22
                        obtain rfl := Option.some.inj H
                        have p5 : 0 ≤ (x7_1 : Int) := of_decide_eq_true (by first | (with_reducible assumption) | assumption)
                        have q5 : x7_1 < (a0.size : Int) := of_decide_eq_true (by first | (with_reducible assumption) | assumption)
                        have hx5 := bt_at a0 x7_1
                        replace p5 := eq_true p5
                        replace q5 := eq_true q5
                        go_wp2
                        go_ret
                        exact ⟨by first | rfl | (simp; done) | (simp [*]; done) | (cases a0.toList <;> rfl), by repeat (first | exact Drawn0.refl _ | apply Drawn0.step)⟩
                  · rw [if_neg c20] at H
                    have c20b0 : decide (48 ≤ (bt a0 x7_1)) = false := decide_eq_false c20
                    clear c20
                    by_cases c23 : ((bt a0 x7_1) = 45)
                    · rw [if_pos c23] at H
                      have c23b0 : ((bt a0 x7_1) == 45) = true := beq_iff_eq.mpr c23
                      have c23b1 : ((bt a0 x7_1) != 45) = false := bne_eq_false_iff_eq.mpr c23
                      clear c23
                      have H' := Aside0.mk H
                      clear H
                      have p5 : 0 ≤ (x7_1 : Int) := of_decide_eq_true (by first | (with_reducible assumption) | assumption)
                      have q5 : x7_1 < (a0.size : Int) := of_decide_eq_true (by first | (with_reducible assumption) | assumption)
                      have hx5 := bt_at a0 x7_1
                      replace p5 := eq_true p5
                      replace q5 := eq_true q5
                      go_wp2
                      go_roundg k1
                      case measure => have := HK1.out; omega
                      case rel => exact ⟨(wrap64 (x7_1 + 1)), (by first | rfl | (simp; done) | (simp [*]; done)), H', ⟨by have := HK1.out; omega⟩, by repeat (first | exact Drawn0.refl _ | apply Drawn0.step)⟩
                    · rw [if_neg c23] at H
                      have c23b0 : ((bt a0 x7_1) == 45) = false := beq_eq_false_iff_ne.mpr c23
                      have c23b1 : ((bt a0 x7_1) != 45) = true := bne_iff_ne.mpr c23
                      obtain rfl := Option.some.inj H
                      have p5 : 0 ≤ (x7_1 : Int) := of_decide_eq_true (by first | (with_reducible assumption) | assumption)
                      have q5 : x7_1 < (a0.size : Int) := of_decide_eq_true (by first | (with_reducible assumption) | assumption)
                      have hx5 := bt_at a0 x7_1
                      replace p5 := eq_true p5
                      replace q5 := eq_true q5
                      go_wp2
                      go_ret
                      exact ⟨by first | rfl | (simp; done) | (simp [*]; done) | (cases a0.toList <;> rfl), by repeat (first | exact Drawn0.refl _ | apply Drawn0.step)⟩
              · rw [if_neg c18] at H
                have c18b0 : decide (65 ≤ (bt a0 x7_1)) = false := decide_eq_false c18
                clear c18
                by_cases c24 : (bt a0 x7_1) ≥ 48
                · rw [if_pos c24] at H
                  have c24b0 : decide (48 ≤ (bt a0 x7_1)) = true := decide_eq_true c24
                  clear c24
                  by_cases c25 : (bt a0 x7_1) ≤ 57
                  · rw [if_pos c25] at H
                    have c25b0 : decide ((bt a0 x7_1) ≤ 57) = true := decide_eq_true c25
                    clear c25
                    have H' := Aside0.mk H
                    clear H
                    have p5 : 0 ≤ (x7_1 : Int) := of_decide_eq_true (by first | (with_reducible assumption) | assumption)
                    have q5 : x7_1 < (a0.size : Int) := of_decide_eq_true (by first | (with_reducible assumption) | assumption)
                    have hx5 := bt_at a0 x7_1
                    replace p5 := eq_true p5
                    replace q5 := eq_true q5
                    go_wp2
                    go_roundg k1
                    case measure => have := HK1.out; omega
                    case rel => exact ⟨(wrap64 (x7_1 + 1)), (by first | rfl | (simp; done) | (simp [*]; done)), H', ⟨by have := HK1.out; omega⟩, by repeat (first | exact Drawn0.refl _ | apply Drawn0.step)⟩
                  · rw [if_neg c25] at H
                    have c25b0 : decide ((bt a0 x7_1) ≤ 57) = false := decide_eq_false c25
                    clear c25
                    by_cases c26 : ((bt a0 x7_1) = 45)
                    · rw [if_pos c26] at H
                      have c26b0 : ((bt a0 x7_1) == 45) = true := beq_iff_eq.mpr c26
                      have c26b1 : ((bt a0 x7_1) != 45) = false := bne_eq_false_iff_eq.mpr c26
                      clear c26
                      have H' := Aside0.mk H
                      clear H
                      have p5 : 0 ≤ (x7_1 : Int) := of_decide_eq_true (by first | (with_reducible assumption) | assumption)
                      have q5 : x7_1 < (a0.size : Int) := of_decide_eq_true (by first | (with_reducible assumption) | assumption)
                      have hx5 := bt_at a0 x7_1
                      replace p5 := eq_true p5
                      replace q5 := eq_true q5
                      go_wp2
                      go_roundg k1
                      case measure => have := HK1.out; omega
                      case rel => exact ⟨(wrap64 (x7_1 + 1)), (by first | rfl | (simp; done) | (simp [*]; done)), H', ⟨by have := HK1.out; omega⟩, by repeat (first | exact Drawn0.refl _ | apply Drawn0.step)⟩
                    · rw [if_neg c26] at H
                      have c26b0 : ((bt a0 x7_1) == 45) = false := beq_eq_false_iff_ne.mpr c26
                      have c26b1 : ((bt a0 x7_1) != 45) = true := bne_iff_ne.mpr c26
                      obtain rfl := Option.some.inj H
                      have p5 : 0 ≤ (x7_1 : Int) := of_decide_eq_true (by first | (with_reducible assumption) | assumption)
                      have q5 : x7_1 < (a0.size : Int) := of_decide_eq_true (by first | (with_reducible assumption) | assumption)
                      have hx5 := bt_at a0 x7_1
                      replace p5 := eq_true p5
                      replace q5 := eq_true q5
                      go_wp2
                      go_ret
                      exact ⟨by first | rfl | (simp; done) | (simp [*]; done) | (cases a0.toList <;> rfl), by repeat (first | exact Drawn0.refl _ | apply Drawn0.step)⟩
                · rw [if_neg c24] at H
                  have c24b0 : decide (48 ≤ (bt a0 x7_1)) = false := decide_eq_false c24
                  clear c24
                  by_cases c27 : ((bt a0 x7_1) = 45)
                  · rw [if_pos c27] at H
                    have c27b0 : ((bt a0 x7_1) == 45) = true := beq_iff_eq.mpr c27
                    have c27b1 : ((bt a0 x7_1) != 45) = false := bne_eq_false_iff_eq.mpr c27
                    clear c27
                    have H' := Aside0.mk H
                    clear H
                    have p5 : 0 ≤ (x7_1 : Int) := of_decide_eq_true (by first | (with_reducible assumption) | assumption)
                    have q5 : x7_1 < (a0.size : Int) := of_decide_eq_true (by first | (with_reducible assumption) | assumption)
                    have hx5 := bt_at a0 x7_1
                    replace p5 := eq_true p5
                    replace q5 := eq_true q5
                    go_wp2
                    go_roundg k1
                    case measure => have := HK1.out; omega
                    case rel => exact ⟨(wrap64 (x7_1 + 1)), (by first | rfl | (simp; done) | (simp [*]; done)), H', ⟨by have := HK1.out; omega⟩, by repeat (first | exact Drawn0.refl _ | apply Drawn0.step)⟩
                  · rw [if_neg c27] at H
                    have c27b0 : ((bt a0 x7_1) == 45) = false := beq_eq_false_iff_ne.mpr c27
                    have c27b1 : ((bt a0 x7_1) != 45) = true := bne_iff_ne.mpr c27
                    obtain rfl := Option.some.inj H
                    have p5 : 0 ≤ (x7_1 : Int) := of_decide_eq_true (by first | (with_reducible assumption) | assumption)
                    have q5 : x7_1 < (a0.size : Int) := of_decide_eq_true (by first | (with_reducible assumption) | assumption)
                    have hx5 := bt_at a0 x7_1
                    replace p5 := eq_true p5
                    replace q5 := eq_true q5
                    go_wp2
                    go_ret
                    exact ⟨by first | rfl | (simp; done) | (simp [*]; done) | (cases a0.toList <;> rfl), by repeat (first | exact Drawn0.refl _ | apply Drawn0.step)⟩
          · rw [if_neg c4] at H
            exact absurd H (by simp)
        · rw [if_neg c3] at H
          exact absurd H (by simp)
      · rw [if_neg c2] at H
        have c2b0 : decide (x7_1 < (a0.size : Int)) = false := decide_eq_false c2
        clear c2
        obtain rfl := Option.some.inj H
        go_wp2
        go_ret
        exact ⟨by first | rfl | (simp; done) | (simp [*]; done) | (cases a0.toList <;> rfl), by repeat (first | exact Drawn0.refl _ | apply Drawn0.step)⟩

/-! ### spec_variable: function 9 -/
def spec_variable.f (k : Nat) (a0 : ByteArray) : Option (ByteArray) := if (a0.size : Int) > 2 then (if 0 < (a0.size : Int) then (if (bt a0 0) = 123 then (if 0 ≤ (wrap64 ((a0.size : Int) - 1)) then (if (wrap64 ((a0.size : Int) - 1)) < (a0.size : Int) then (if (bt a0 (wrap64 ((a0.size : Int) - 1))) = 125 then (if 1 ≤ (wrap64 ((a0.size : Int) - 1)) then (if (wrap64 ((a0.size : Int) - 1)) ≤ (a0.size : Int) then ((spec_word.f k (a0.extract 1 ((wrap64 ((a0.size : Int) - 1)) : Int).toNat)).bind fun t104 => (if t104 = true then (some (a0.extract 1 ((wrap64 ((a0.size : Int) - 1)) : Int).toNat)) else (some (⟨#[]⟩ : ByteArray)))) else (none)) else (none)) else (some (⟨#[]⟩ : ByteArray))) else (none)) else (none)) else (some (⟨#[]⟩ : ByteArray))) else (none)) else (some (⟨#[]⟩ : ByteArray))
theorem spec_variable.mono : ∀ a0 k, LeO (spec_variable.f k a0) (spec_variable.f (k + 1) a0) := by
  intro a0 k
  unfold spec_variable.f
  repeat' first
      | (with_reducible exact spec_word.mono _ _)
      | (with_reducible exact LeO.refl _)
      | (with_reducible exact LeO.none _)
      | (with_reducible refine LeO.ite ?_ ?_)
      | (with_reducible refine LeO.bind ?_ (fun _ => ?_))
      | exact spec_word.mono _ _
      | exact LeO.none _
      | refine LeO.ite ?_ ?_
      | refine LeO.bind ?_ (fun _ => ?_)
set_option maxHeartbeats 8000000 in
set_option maxRecDepth 100000 in
theorem spec_variable.calls (k : Nat) (a0 : ByteArray) (r : ByteArray) (w : World) (h : spec_variable.f k a0 = some r) :
    Calls Try.prog 9 #[.string a0] w fun e w' => e = .returned (.string r) ∧ Drawn0 w w' := by
  have H : (if (a0.size : Int) > 2 then (if 0 < (a0.size : Int) then (if (bt a0 0) = 123 then (if 0 ≤ (wrap64 ((a0.size : Int) - 1)) then (if (wrap64 ((a0.size : Int) - 1)) < (a0.size : Int) then (if (bt a0 (wrap64 ((a0.size : Int) - 1))) = 125 then (if 1 ≤ (wrap64 ((a0.size : Int) - 1)) then (if (wrap64 ((a0.size : Int) - 1)) ≤ (a0.size : Int) then ((spec_word.f k (a0.extract 1 ((wrap64 ((a0.size : Int) - 1)) : Int).toNat)).bind fun t104 => (if t104 = true then (some (a0.extract 1 ((wrap64 ((a0.size : Int) - 1)) : Int).toNat)) else (some (⟨#[]⟩ : ByteArray)))) else (none)) else (none)) else (some (⟨#[]⟩ : ByteArray))) else (none)) else (none)) else (some (⟨#[]⟩ : ByteArray))) else (none)) else (some (⟨#[]⟩ : ByteArray))) = some r := h
  clear h
  by_cases c2 : (a0.size : Int) > 2
  · rw [if_pos c2] at H
    have c2b0 : decide (2 < (a0.size : Int)) = true := decide_eq_true c2
    have c2b1 : decide (2 < a0.size) = true := decide_eq_true (by omega)
    clear c2
    by_cases c3 : 0 < (a0.size : Int)
    · rw [if_pos c3] at H
      have c3b0 : decide (0 < (a0.size : Int)) = true := decide_eq_true c3
      have c3b1 : decide (0 < a0.size) = true := decide_eq_true (by omega)
      clear c3
      by_cases c5 : (bt a0 0) = 123
      · rw [if_pos c5] at H
        have c5b0 : ((bt a0 0) == 123) = true := beq_iff_eq.mpr c5
        have c5b1 : ((bt a0 0) != 123) = false := bne_eq_false_iff_eq.mpr c5
        clear c5
        obtain ⟨ji6, hji6⟩ : ∃ j_ : Int, (wrap64 ((a0.size : Int) - 1)) = j_ := ⟨_, rfl⟩
        replace H : (if 0 ≤ (ji6) then (if (ji6) < (a0.size : Int) then (if (bt a0 (ji6)) = 125 then (if 1 ≤ (ji6) then (if (ji6) ≤ (a0.size : Int) then ((spec_word.f k (a0.extract 1 ((ji6) : Int).toNat)).bind fun t104 => (if t104 = true then (some (a0.extract 1 ((ji6) : Int).toNat)) else (some (⟨#[]⟩ : ByteArray)))) else (none)) else (none)) else (some (⟨#[]⟩ : ByteArray))) else (none)) else (none)) = some r := by first | (rw [hji6] at H; exact H) | (simp only [hji6] at H ⊢; exact H)
        have hji6w : (IntKind.i64.wrap ((a0.size : Int) - 1)) = ji6 := (i64_w _).trans hji6
        by_cases c7 : 0 ≤ (ji6)
        · rw [if_pos c7] at H
          have c7b0 : decide (0 ≤ (ji6)) = true := decide_eq_true c7
          clear c7
          by_cases c8 : (ji6) < (a0.size : Int)
          · rw [if_pos c8] at H
            have c8b0 : decide ((ji6) < (a0.size : Int)) = true := decide_eq_true c8
            clear c8
            by_cases c10 : (bt a0 (ji6)) = 125
            · rw [if_pos c10] at H
              have c10b0 : ((bt a0 (ji6)) == 125) = true := beq_iff_eq.mpr c10
              have c10b1 : ((bt a0 (ji6)) != 125) = false := bne_eq_false_iff_eq.mpr c10
              clear c10
              by_cases c11 : 1 ≤ (ji6)
              · rw [if_pos c11] at H
                have c11b0 := eq_true c11
                have c11b1 : decide (1 ≤ (ji6)) = true := decide_eq_true c11
                clear c11
                by_cases c12 : (ji6) ≤ (a0.size : Int)
                · rw [if_pos c12] at H
                  have c12b0 := eq_true c12
                  have c12b1 : decide ((ji6) ≤ (a0.size : Int)) = true := decide_eq_true c12
                  clear c12
                  replace H := Option.bind_eq_some_iff.mp H
                  obtain ⟨t104, A130, H⟩ := H
                  replace H : (if t104 = true then (some (a0.extract 1 ((ji6) : Int).toNat)) else (some (⟨#[]⟩ : ByteArray))) = some r := H
                  have A13 := Aside0.mk A130
                  clear A130
                  by_cases c14 : t104 = true
                  · subst c14
                    have H1 : (some (a0.extract 1 ((ji6) : Int).toNat)) = some r := by rw [if_pos rfl] at H; exact H
                    clear H
                    have H := H1
                    clear H1
                    have c15b0 := eq_true (of_decide_eq_true (by first | (with_reducible assumption) | assumption) : 1 ≤ (ji6))
                    have c16b0 := eq_true (of_decide_eq_true (by first | (with_reducible assumption) | assumption) : (ji6) ≤ (a0.size : Int))
                    obtain rfl := Option.some.inj H
                    have p4 : 0 ≤ (0 : Int) := (by omega)
                    have q4 : 0 < a0.size := (by have : (0 : Int) < (a0.size : Int) := of_decide_eq_true (by first | (with_reducible assumption) | assumption); omega)
                    have hx4 : ∀ h : 0 < a0.size, ((a0[0]'h).toNat : Int) = bt a0 0 := bt_at a0 0
                    clear p4
                    have qi4 : (0 < (a0.size : Int)) = True := eq_true (of_decide_eq_true (by first | (with_reducible assumption) | assumption))
                    replace q4 := eq_true q4
                    have p9 : 0 ≤ ((ji6) : Int) := of_decide_eq_true (by first | (with_reducible assumption) | assumption)
                    have q9 : (ji6) < (a0.size : Int) := of_decide_eq_true (by first | (with_reducible assumption) | assumption)
                    have hx9 := bt_at a0 (ji6)
                    replace p9 := eq_true p9
                    replace q9 := eq_true q9
                    go_enter Try.func9, Try.ntmps9
                    go_wp2_with (first | (go_at_call 12; (with_reducible refine (spec_word.calls k (a0.extract 1 ((ji6) : Int).toNat) true _ A13.out).mono ?_); rintro e w' ⟨rfl, ⟨nd, rfl⟩⟩))
                    go_ret
                    exact ⟨by first | rfl | (simp; done) | (simp only [← hji6] <;> (first | rfl | simp)) | (simp [*]; done), by repeat (first | exact Drawn0.refl _ | apply Drawn0.step)⟩
                  · replace c14 := Bool.eq_false_iff.mpr c14
                    subst c14
                    have H1 : (some (⟨#[]⟩ : ByteArray)) = some r := by rw [if_neg (show ¬ (false = true) by decide)] at H; exact H
                    clear H
                    have H := H1
                    clear H1
                    obtain rfl := Option.some.inj H
                    have p4 : 0 ≤ (0 : Int) := (by omega)
                    have q4 : 0 < a0.size := (by have : (0 : Int) < (a0.size : Int) := of_decide_eq_true (by first | (with_reducible assumption) | assumption); omega)
                    have hx4 : ∀ h : 0 < a0.size, ((a0[0]'h).toNat : Int) = bt a0 0 := bt_at a0 0
                    clear p4
                    have qi4 : (0 < (a0.size : Int)) = True := eq_true (of_decide_eq_true (by first | (with_reducible assumption) | assumption))
                    replace q4 := eq_true q4
                    have p9 : 0 ≤ ((ji6) : Int) := of_decide_eq_true (by first | (with_reducible assumption) | assumption)
                    have q9 : (ji6) < (a0.size : Int) := of_decide_eq_true (by first | (with_reducible assumption) | assumption)
                    have hx9 := bt_at a0 (ji6)
                    replace p9 := eq_true p9
                    replace q9 := eq_true q9
                    go_enter Try.func9, Try.ntmps9
                    go_wp2_with (first | (go_at_call 12; (with_reducible refine (spec_word.calls k (a0.extract 1 ((ji6) : Int).toNat) false _ A13.out).mono ?_); rintro e w' ⟨rfl, ⟨nd, rfl⟩⟩))
                    go_ret
                    exact ⟨by first | rfl | (simp; done) | (simp only [← hji6] <;> (first | rfl | simp)) | (simp [*]; done), by repeat (first | exact Drawn0.refl _ | apply Drawn0.step)⟩
                · rw [if_neg c12] at H
                  exact absurd H (by simp)
              · rw [if_neg c11] at H
                exact absurd H (by simp)
            · rw [if_neg c10] at H
              have c10b0 : ((bt a0 (ji6)) == 125) = false := beq_eq_false_iff_ne.mpr c10
              have c10b1 : ((bt a0 (ji6)) != 125) = true := bne_iff_ne.mpr c10
              obtain rfl := Option.some.inj H
              have p4 : 0 ≤ (0 : Int) := (by omega)
              have q4 : 0 < a0.size := (by have : (0 : Int) < (a0.size : Int) := of_decide_eq_true (by first | (with_reducible assumption) | assumption); omega)
              have hx4 : ∀ h : 0 < a0.size, ((a0[0]'h).toNat : Int) = bt a0 0 := bt_at a0 0
              clear p4
              have qi4 : (0 < (a0.size : Int)) = True := eq_true (of_decide_eq_true (by first | (with_reducible assumption) | assumption))
              replace q4 := eq_true q4
              have p9 : 0 ≤ ((ji6) : Int) := of_decide_eq_true (by first | (with_reducible assumption) | assumption)
              have q9 : (ji6) < (a0.size : Int) := of_decide_eq_true (by first | (with_reducible assumption) | assumption)
              have hx9 := bt_at a0 (ji6)
              replace p9 := eq_true p9
              replace q9 := eq_true q9
              go_enter Try.func9, Try.ntmps9
              go_wp2
              go_ret
              exact ⟨by first | rfl | (simp; done) | (simp only [← hji6] <;> (first | rfl | simp)) | (simp [*]; done), by repeat (first | exact Drawn0.refl _ | apply Drawn0.step)⟩
          · rw [if_neg c8] at H
            exact absurd H (by simp)
        · rw [if_neg c7] at H
          exact absurd H (by simp)
      · rw [if_neg c5] at H
        have c5b0 : ((bt a0 0) == 123) = false := beq_eq_false_iff_ne.mpr c5
        have c5b1 : ((bt a0 0) != 123) = true := bne_iff_ne.mpr c5
        obtain rfl := Option.some.inj H
        have p4 : 0 ≤ (0 : Int) := (by omega)
        have q4 : 0 < a0.size := (by have : (0 : Int) < (a0.size : Int) := of_decide_eq_true (by first | (with_reducible assumption) | assumption); omega)
        have hx4 : ∀ h : 0 < a0.size, ((a0[0]'h).toNat : Int) = bt a0 0 := bt_at a0 0
        clear p4
        have qi4 : (0 < (a0.size : Int)) = True := eq_true (of_decide_eq_true (by first | (with_reducible assumption) | assumption))
        replace q4 := eq_true q4
        go_enter Try.func9, Try.ntmps9
        go_wp2
        go_ret
        exact ⟨by first | rfl | (simp; done) | (simp [*]; done) | (cases a0.toList <;> rfl), by repeat (first | exact Drawn0.refl _ | apply Drawn0.step)⟩
    · rw [if_neg c3] at H
      exact absurd H (by simp)
  · rw [if_neg c2] at H
    have c2b0 : decide (2 < (a0.size : Int)) = false := decide_eq_false c2
    have c2b1 : decide (2 < a0.size) = false := decide_eq_false (by omega)
    clear c2
    obtain rfl := Option.some.inj H
    go_enter Try.func9, Try.ntmps9
    go_wp2
    go_ret
    exact ⟨by first | rfl | (simp; done) | (simp [*]; done) | (cases a0.toList <;> rfl), by repeat (first | exact Drawn0.refl _ | apply Drawn0.step)⟩

-- NOT PRINTED: function 8 (spec_template)

-- NOT PRINTED: function 4 (spec_Template)

-- NOT PRINTED: function 10 (slices_Clone_string_string)

/-! ### restfulroutes_index: function 20 -/
def restfulroutes_index.l0 : Nat → ByteArray → ByteArray → Int → Option (Int)
  | 0, _, _, _ => none
  | k + 1, x0, x1, x5 => if (wrap64 (x5 + (x1.size : Int))) ≤ (x0.size : Int) then (if 0 ≤ x5 then (if x5 ≤ (wrap64 (x5 + (x1.size : Int))) then (if (x0.extract (x5 : Int).toNat ((wrap64 (x5 + (x1.size : Int))) : Int).toNat).toList = x1.toList then (some x5) else (restfulroutes_index.l0 k x0 x1 (wrap64 (x5 + 1)))) else (none)) else (none)) else (some (-1))
def restfulroutes_index.f (k : Nat) (a0 : ByteArray) (a1 : ByteArray) : Option (Int) := restfulroutes_index.l0 k a0 a1 0
theorem restfulroutes_index.mono_l : ∀ k, (∀ y0 y1 y2, LeO (restfulroutes_index.l0 k y0 y1 y2) (restfulroutes_index.l0 (k + 1) y0 y1 y2))
  | 0 => fun _ _ _ r h => by simp [restfulroutes_index.l0] at h
  | k + 1 => by
    have ih0 := restfulroutes_index.mono_l k
    · intro y0 y1 y2
      unfold restfulroutes_index.l0
      repeat' first
      | (with_reducible exact ih0 _ _ _)
      | (with_reducible exact LeO.refl _)
      | (with_reducible exact LeO.none _)
      | (with_reducible refine LeO.ite ?_ ?_)
      | (with_reducible refine LeO.bind ?_ (fun _ => ?_))
      | exact ih0 _ _ _
      | exact LeO.none _
      | refine LeO.ite ?_ ?_
      | refine LeO.bind ?_ (fun _ => ?_)
theorem restfulroutes_index.mono : ∀ a0 a1 k, LeO (restfulroutes_index.f k a0 a1) (restfulroutes_index.f (k + 1) a0 a1) := by
  intro a0 a1 k
  have ih0 := restfulroutes_index.mono_l k
  unfold restfulroutes_index.f
  repeat' first
      | (with_reducible exact ih0 _ _ _)
      | (with_reducible exact LeO.refl _)
      | (with_reducible exact LeO.none _)
      | (with_reducible refine LeO.ite ?_ ?_)
      | (with_reducible refine LeO.bind ?_ (fun _ => ?_))
      | exact ih0 _ _ _
      | exact LeO.none _
      | refine LeO.ite ?_ ?_
      | refine LeO.bind ?_ (fun _ => ?_)
set_option maxHeartbeats 8000000 in
set_option maxRecDepth 100000 in
theorem restfulroutes_index.calls (k : Nat) (a0 : ByteArray) (a1 : ByteArray) (r : Int) (w : World) (h : restfulroutes_index.f k a0 a1 = some r) :
    Calls Try.prog 20 #[.string a0, .string a1] w fun e w' => e = .returned (.int .i64 r) ∧ Drawn0 w w' := by
  have H : (restfulroutes_index.l0 k a0 a1 0) = some r := h
  clear h
  have H' := Aside0.mk H
  clear H
  go_enter Try.func20, Try.ntmps20
  go_wp2
  go_loopg [5] k (fun kq v5 w' => ∃ (x5_1 : Int), v5 = .int .i64 x5_1 ∧ Aside0 (restfulroutes_index.l0 kq a0 a1 x5_1 = some r) ∧ Aside0 (kq ≤ k) ∧ Drawn0 w w')
  case atStart => exact ⟨(0), (by first | rfl | (simp; done) | (simp [*]; done)), H', ⟨Nat.le_refl _⟩, by repeat (first | exact Drawn0.refl _ | apply Drawn0.step)⟩
  case round =>
    clear H'
    try clear c2
    try clear p2
    obtain ⟨x5_1, rfl, HA, HK1, ⟨m1, rfl⟩⟩ := hrel
    cases gk with
    | zero => exact absurd HA.out (by simp [restfulroutes_index.l0])
    | succ k1 =>
      have H := HA.out
      clear HA
      simp only [restfulroutes_index.l0] at H
      by_cases c3 : (wrap64 (x5_1 + (a1.size : Int))) ≤ (a0.size : Int)
      · rw [if_pos c3] at H
        have c3b0 : decide ((wrap64 (x5_1 + (a1.size : Int))) ≤ (a0.size : Int)) = true := decide_eq_true c3
        clear c3
        by_cases c4 : 0 ≤ x5_1
        · rw [if_pos c4] at H
          have c4b0 := eq_true c4
          have c4b1 : decide (0 ≤ x5_1) = true := decide_eq_true c4
          clear c4
          by_cases c5 : x5_1 ≤ (wrap64 (x5_1 + (a1.size : Int)))
          · rw [if_pos c5] at H
            have c5b0 := eq_true c5
            have c5b1 : decide (x5_1 ≤ (wrap64 (x5_1 + (a1.size : Int)))) = true := decide_eq_true c5
            have c6b0 := eq_true (of_decide_eq_true (by first | (with_reducible assumption) | assumption) : (wrap64 (x5_1 + (a1.size : Int))) ≤ (a0.size : Int))
            by_cases c7 : (a0.extract (x5_1 : Int).toNat ((wrap64 (x5_1 + (a1.size : Int))) : Int).toNat).toList = a1.toList
            · rw [if_pos c7] at H
              have c7b0 : ((a0.extract (x5_1 : Int).toNat ((wrap64 (x5_1 + (a1.size : Int))) : Int).toNat).toList == a1.toList) = true := beq_iff_eq.mpr c7
              have c7b1 : ((a0.extract (x5_1 : Int).toNat ((wrap64 (x5_1 + (a1.size : Int))) : Int).toNat).toList != a1.toList) = false := bne_eq_false_iff_eq.mpr c7
              clear c7
              obtain rfl := Option.some.inj H
              go_wp2
              go_ret
              exact ⟨by first | rfl | (simp; done) | (simp [*]; done) | (cases a0.toList <;> rfl), by repeat (first | exact Drawn0.refl _ | apply Drawn0.step)⟩
            · rw [if_neg c7] at H
              have c7b0 : ((a0.extract (x5_1 : Int).toNat ((wrap64 (x5_1 + (a1.size : Int))) : Int).toNat).toList == a1.toList) = false := beq_eq_false_iff_ne.mpr c7
              have c7b1 : ((a0.extract (x5_1 : Int).toNat ((wrap64 (x5_1 + (a1.size : Int))) : Int).toNat).toList != a1.toList) = true := bne_iff_ne.mpr c7
              have H' := Aside0.mk H
              clear H
              go_wp2
              go_roundg k1
              case measure => have := HK1.out; omega
              case rel => exact ⟨(wrap64 (x5_1 + 1)), (by first | rfl | (simp; done) | (simp [*]; done)), H', ⟨by have := HK1.out; omega⟩, by repeat (first | exact Drawn0.refl _ | apply Drawn0.step)⟩
          · rw [if_neg c5] at H
            exact absurd H (by simp)
        · rw [if_neg c4] at H
          exact absurd H (by simp)
      · rw [if_neg c3] at H
        have c3b0 : decide ((wrap64 (x5_1 + (a1.size : Int))) ≤ (a0.size : Int)) = false := decide_eq_false c3
        clear c3
        obtain rfl := Option.some.inj H
        go_wp2
        go_ret
        exact ⟨by first | rfl | (simp; done) | (simp [*]; done) | (cases a0.toList <;> rfl), by repeat (first | exact Drawn0.refl _ | apply Drawn0.step)⟩

/-! ### restfulroutes_splitN: function 17 -/
mutual
def restfulroutes_splitN.l0 : Nat → ByteArray → ByteArray → Int → List ByteArray → Option (List ByteArray)
  | 0, _, _, _, _ => none
  | k + 1, x0, x1, x2, x7 => if x2 < 0 then (restfulroutes_splitN.j1 k x0 x1 x2 x7 true) else (restfulroutes_splitN.j1 k x0 x1 x2 x7 (decide ((x7.length : Int) < (wrap64 (x2 - 1)))))
def restfulroutes_splitN.j1 : Nat → ByteArray → ByteArray → Int → List ByteArray → Bool → Option (List ByteArray)
  | 0, _, _, _, _, _ => none
  | k + 1, x0, x1, x2, x7, x17 => if x17 = true then ((restfulroutes_index.f k x0 x1).bind fun t105 => (if t105 < 0 then (if x7.length < 8796093022208 then (some (x7 ++ [x0])) else (none)) else (if 0 ≤ t105 then (if t105 ≤ (x0.size : Int) then (if x7.length < 8796093022208 then (if 0 ≤ (wrap64 (t105 + (x1.size : Int))) then (if (wrap64 (t105 + (x1.size : Int))) ≤ (x0.size : Int) then (restfulroutes_splitN.l0 k (x0.extract ((wrap64 (t105 + (x1.size : Int))) : Int).toNat x0.size) x1 x2 (x7 ++ [x0.extract 0 (t105 : Int).toNat])) else (none)) else (none)) else (none)) else (none)) else (none)))) else (if x7.length < 8796093022208 then (some (x7 ++ [x0])) else (none))
end
def restfulroutes_splitN.f (k : Nat) (a0 : ByteArray) (a1 : ByteArray) (a2 : Int) : Option (List ByteArray) := restfulroutes_splitN.l0 k a0 a1 a2 ([] : List ByteArray)
theorem restfulroutes_splitN.mono_l : ∀ k, (∀ y0 y1 y2 y3, LeO (restfulroutes_splitN.l0 k y0 y1 y2 y3) (restfulroutes_splitN.l0 (k + 1) y0 y1 y2 y3)) ∧ (∀ y0 y1 y2 y3 y4, LeO (restfulroutes_splitN.j1 k y0 y1 y2 y3 y4) (restfulroutes_splitN.j1 (k + 1) y0 y1 y2 y3 y4))
  | 0 => ⟨fun _ _ _ _ r h => by simp [restfulroutes_splitN.l0] at h, fun _ _ _ _ _ r h => by simp [restfulroutes_splitN.j1] at h⟩
  | k + 1 => by
    obtain ⟨ih0, ih1⟩ := restfulroutes_splitN.mono_l k
    refine ⟨?_, ?_⟩
    · intro y0 y1 y2 y3
      unfold restfulroutes_splitN.l0
      repeat' first
      | (with_reducible exact ih0 _ _ _ _)
      | (with_reducible exact ih1 _ _ _ _ _)
      | (with_reducible exact restfulroutes_index.mono _ _ _)
      | (with_reducible exact LeO.refl _)
      | (with_reducible exact LeO.none _)
      | (with_reducible refine LeO.ite ?_ ?_)
      | (with_reducible refine LeO.bind ?_ (fun _ => ?_))
      | exact ih0 _ _ _ _
      | exact ih1 _ _ _ _ _
      | exact restfulroutes_index.mono _ _ _
      | exact LeO.none _
      | refine LeO.ite ?_ ?_
      | refine LeO.bind ?_ (fun _ => ?_)
    · intro y0 y1 y2 y3 y4
      unfold restfulroutes_splitN.j1
      repeat' first
      | (with_reducible exact ih0 _ _ _ _)
      | (with_reducible exact ih1 _ _ _ _ _)
      | (with_reducible exact restfulroutes_index.mono _ _ _)
      | (with_reducible exact LeO.refl _)
      | (with_reducible exact LeO.none _)
      | (with_reducible refine LeO.ite ?_ ?_)
      | (with_reducible refine LeO.bind ?_ (fun _ => ?_))
      | exact ih0 _ _ _ _
      | exact ih1 _ _ _ _ _
      | exact restfulroutes_index.mono _ _ _
      | exact LeO.none _
      | refine LeO.ite ?_ ?_
      | refine LeO.bind ?_ (fun _ => ?_)
theorem restfulroutes_splitN.mono : ∀ a0 a1 a2 k, LeO (restfulroutes_splitN.f k a0 a1 a2) (restfulroutes_splitN.f (k + 1) a0 a1 a2) := by
  intro a0 a1 a2 k
  obtain ⟨ih0, ih1⟩ := restfulroutes_splitN.mono_l k
  unfold restfulroutes_splitN.f
  repeat' first
      | (with_reducible exact ih0 _ _ _ _)
      | (with_reducible exact ih1 _ _ _ _ _)
      | (with_reducible exact restfulroutes_index.mono _ _ _)
      | (with_reducible exact LeO.refl _)
      | (with_reducible exact LeO.none _)
      | (with_reducible refine LeO.ite ?_ ?_)
      | (with_reducible refine LeO.bind ?_ (fun _ => ?_))
      | exact ih0 _ _ _ _
      | exact ih1 _ _ _ _ _
      | exact restfulroutes_index.mono _ _ _
      | exact LeO.none _
      | refine LeO.ite ?_ ?_
      | refine LeO.bind ?_ (fun _ => ?_)
set_option maxHeartbeats 8000000 in
set_option maxRecDepth 100000 in
theorem restfulroutes_splitN.calls (k : Nat) (a0 : ByteArray) (a1 : ByteArray) (a2 : Int) (r : List ByteArray) (w : World) (h : restfulroutes_splitN.f k a0 a1 a2 = some r) :
    Calls Try.prog 17 #[.string a0, .string a1, .int .i64 a2] w fun e w' => ∃ v0_ : Value, e = .returned (v0_) ∧ Kd.R Kd.string 9 w' w.heap.size (fun _ => True) v0_ r ∧ Below w.heap.size w w' := by
  have HB := Aside0.mk (Below.refl w.heap.size w)
  have H : (restfulroutes_splitN.l0 k a0 a1 a2 ([] : List ByteArray)) = some r := h
  clear h
  have H' := Aside0.mk H
  clear H
  go_enter Try.func17, Try.ntmps17
  go_wp2
  go_loopg [0, 7] k (fun kq v0 v7 w' => ∃ (x0_1 : ByteArray) (x7_1 : List ByteArray), v0 = .string x0_1 ∧ Aside0 (restfulroutes_splitN.l0 kq x0_1 a1 a2 x7_1 = some r) ∧ Aside0 (kq ≤ k) ∧ Aside0 (Kd.R Kd.string 9 w' w.heap.size (fun _ => True) v7 x7_1) ∧ Aside0 (Below w.heap.size w w'))
  case atStart => exact ⟨(a0), (([] : List ByteArray)), (by first | rfl | (simp; done) | (simp [*]; done)), H', ⟨Nat.le_refl _⟩, ⟨by first | exact Kd.R_nil _ _ _ _ _ | exact Kd.N_nil _ _ _ _ _ | exact Kd.V_nil _ _ _ _ _ | exact Kd.Q_nil _ _ _ _ _ | exact Kd.S_nil _ _ _ _ _⟩, ⟨by repeat (first | (with_reducible first | exact HB.out | apply below_alloc | apply pw_below_drewN | apply below_drew1) | exact HB.out)⟩⟩
  case round =>
    clear H'
    try clear c1
    try clear p2
    obtain ⟨x0_1, x7_1, rfl, HA, HK1, HO_7, HB⟩ := hrel
    cases gk with
    | zero => exact absurd HA.out (by simp [restfulroutes_splitN.l0])
    | succ k1 =>
      have H := HA.out
      clear HA
      simp only [restfulroutes_splitN.l0] at H
      have HC4 := Aside0.mk H
      clear H
      go_upto_region 2 with (fail)
      go_cut [17] (fun v17 wc => ∃ (kq : Nat) (x17_3 : Bool), v17 = .bool x17_3 ∧ Aside0 (restfulroutes_splitN.j1 kq x0_1 a1 a2 x7_1 x17_3 = some r) ∧ Aside0 (kq ≤ k1) ∧ Aside0 (Kd.R Kd.string 9 wc w.heap.size (fun _ => True) u7 x7_1) ∧ Aside0 (Below w.heap.size w wc))
      case first =>
        have H := HC4.out
        clear HC4
        by_cases c5 : a2 < 0
        · rw [if_pos c5] at H
          have c5b0 : decide (a2 < 0) = true := decide_eq_true c5
          clear c5
          (first | rw [c5b0] | (simp only [i64_w, i32_w]; rw [c5b0]) | skip)
          have H' := Aside0.mk H
          clear H
          go_wp2
          go_meet
          case rel => exact ⟨_, (true), (by first | rfl | (simp; done) | (simp [*]; done)), H', ⟨by have := HK1.out; first | omega | exact Nat.le_refl _⟩, ⟨by (with_reducible repeat (first | apply Kd.R_alloc | apply Kd.R_drewN | apply Kd.R_drew)); exact HO_7.out⟩, ⟨by repeat (first | (with_reducible first | exact HB.out | apply below_alloc | apply pw_below_drewN | apply below_drew1) | exact HB.out)⟩⟩
        · rw [if_neg c5] at H
          have c5b0 : decide (a2 < 0) = false := decide_eq_false c5
          clear c5
          (first | rw [c5b0] | (simp only [i64_w, i32_w]; rw [c5b0]) | skip)
          have H' := Aside0.mk H
          clear H
          obtain ⟨Ao6, co6, eo6⟩ := Kd.R_slice HO_7.out
          subst eo6
          go_wp2
          go_meet
          case rel => exact ⟨_, (decide ((x7_1.length : Int) < (wrap64 (a2 - 1)))), (by first | rfl | (simp; done) | (simp [*]; done)), H', ⟨by have := HK1.out; first | omega | exact Nat.le_refl _⟩, ⟨by (with_reducible repeat (first | apply Kd.R_alloc | apply Kd.R_drewN | apply Kd.R_drew)); exact HO_7.out⟩, ⟨by repeat (first | (with_reducible first | exact HB.out | apply below_alloc | apply pw_below_drewN | apply below_drew1) | exact HB.out)⟩⟩
      case rest =>
        clear HC4
        try clear c1
        try clear p2
        try clear c5
        try clear c5b0
        try clear p6
        try clear p2
        obtain ⟨kq, x17_3, rfl, HA, HJ3, HO_7, HB⟩ := hcut
        cases kq with
        | zero => exact absurd HA.out (by simp [restfulroutes_splitN.j1])
        | succ kj3 =>
          have H := HA.out
          clear HA
          simp only [restfulroutes_splitN.j1] at H
          by_cases c7 : x17_3 = true
          · subst c7
            have H1 : ((restfulroutes_index.f kj3 x0_1 a1).bind fun t105 => (if t105 < 0 then (if x7_1.length < 8796093022208 then (some (x7_1 ++ [x0_1])) else (none)) else (if 0 ≤ t105 then (if t105 ≤ (x0_1.size : Int) then (if x7_1.length < 8796093022208 then (if 0 ≤ (wrap64 (t105 + (a1.size : Int))) then (if (wrap64 (t105 + (a1.size : Int))) ≤ (x0_1.size : Int) then (restfulroutes_splitN.l0 kj3 (x0_1.extract ((wrap64 (t105 + (a1.size : Int))) : Int).toNat x0_1.size) a1 a2 (x7_1 ++ [x0_1.extract 0 (t105 : Int).toNat])) else (none)) else (none)) else (none)) else (none)) else (none)))) = some r := by rw [if_pos rfl] at H; exact H
            clear H
            have H := H1
            clear H1
            replace H := Option.bind_eq_some_iff.mp H
            obtain ⟨t105, A80, H⟩ := H
            replace H : (if t105 < 0 then (if x7_1.length < 8796093022208 then (some (x7_1 ++ [x0_1])) else (none)) else (if 0 ≤ t105 then (if t105 ≤ (x0_1.size : Int) then (if x7_1.length < 8796093022208 then (if 0 ≤ (wrap64 (t105 + (a1.size : Int))) then (if (wrap64 (t105 + (a1.size : Int))) ≤ (x0_1.size : Int) then (restfulroutes_splitN.l0 kj3 (x0_1.extract ((wrap64 (t105 + (a1.size : Int))) : Int).toNat x0_1.size) a1 a2 (x7_1 ++ [x0_1.extract 0 (t105 : Int).toNat])) else (none)) else (none)) else (none)) else (none)) else (none))) = some r := H
            have A8 := Aside0.mk A80
            clear A80
            by_cases c9 : t105 < 0
            · rw [if_pos c9] at H
              have c9b0 : decide (t105 < 0) = true := decide_eq_true c9
              clear c9
              by_cases c10 : x7_1.length < 8796093022208
              · rw [if_pos c10] at H
                have LMc10 := Aside0.mk c10
                clear c10
                obtain ⟨y106, hy106⟩ : ∃ y_ : List ByteArray, y_ = (x7_1 ++ [x0_1]) := ⟨_, rfl⟩
                replace H : (some y106) = some r := by first | (rw [hy106]; with_reducible exact H) | (have H2_ := (Option.bind_some _ _).symm.trans H; rw [hy106]; with_reducible exact H2_) | (have H2_ := (Option.bind_some _ _).symm.trans H; with_reducible exact H2_) | with_reducible exact H | (rw [hy106]; exact H) | exact H
                have Ny106 := Aside0.mk hy106
                clear hy106
                obtain rfl := Option.some.inj H
                go_wp2_with (first | ((with_reducible refine gate_callee (f := 20) rfl ?_); refine goesL_ (some 20) rfl rfl Try.func20 (by kernel_rfl) rfl #[.string x0_1, .string a1] rfl (by (try simp only [List.map_toArray, List.map_cons, List.map_nil]); first | done | rfl | (simp only [List.length_drop, List.length_take]; rfl)) ?_; (with_reducible refine (restfulroutes_index.calls kj3 x0_1 a1 t105 _ A8.out).mono ?_); rintro e w' ⟨rfl, ⟨nd, rfl⟩⟩; refine ⟨_, rfl, ?_⟩) | ((with_reducible refine gate_builtin (b := .append) (xs := #[.tmp 35, .tmp 37]) rfl ?_); (try (refine gate_guard (by rfl) ?_; dsimp only)); at_builtin; refine Kd.R_append Kd.string (w0 := w) w.heap.size rfl (.tmp 35) (.tmp 37) 22 9 (.string ⟨#[]⟩) 16 rfl Try.underlying22 info9 rfl (by decide) (by omega) u7 x7_1 x0_1 [.string x0_1] (fun _ => True) (fun _ => False) rfl rfl ?aP (fun _ hk => hk.elim) ?aF ?aO ?aB ?aS ?aL ?_; (case aP => exact rfl); (case aB => exact (by repeat (first | (with_reducible first | exact HB.out | apply below_alloc | apply pw_below_drewN | apply below_drew1) | exact HB.out))); (case aF => exact (fun _ _ => trivial)); (case aO => exact (by (with_reducible repeat (first | apply Kd.R_alloc | apply Kd.R_drewN | apply Kd.R_drew)); exact HO_7.out)); (case aS => exact (below_size (by repeat (first | (with_reducible first | exact HB.out | apply below_alloc | apply pw_below_drewN | apply below_drew1) | exact HB.out)))); (case aL => have := LMc10.out; omega); intro v107 w11 ho hb hg hat; rw [← Ny106.out] at ho; have n0_ := Aside0.mk (hb); have n1_ := Aside0.mk (ho); clear HB; clear HO_7; have HB := n0_; have HO108 := n1_; clear n0_ n1_; clear ho hb hg hat))
                go_ret
                exact ⟨_, by first | rfl | (simp [errW_none, errW_some] <;> rfl) | (simp [*, errW_none, errW_some] <;> rfl), by (with_reducible repeat (first | apply Kd.R_alloc | apply Kd.R_drewN | apply Kd.R_drew)); exact HO108.out, by repeat (first | (with_reducible first | exact HB.out | apply below_alloc | apply pw_below_drewN | apply below_drew1) | exact HB.out)⟩
              · rw [if_neg c10] at H
                exact absurd H (by simp)
            · rw [if_neg c9] at H
              have c9b0 : decide (t105 < 0) = false := decide_eq_false c9
              clear c9
              by_cases c12 : 0 ≤ t105
              · rw [if_pos c12] at H
                have c12b0 := eq_true c12
                have c12b1 : decide (0 ≤ t105) = true := decide_eq_true c12
                clear c12
                by_cases c13 : t105 ≤ (x0_1.size : Int)
                · rw [if_pos c13] at H
                  have c13b0 := eq_true c13
                  have c13b1 : decide (t105 ≤ (x0_1.size : Int)) = true := decide_eq_true c13
                  clear c13
                  by_cases c14 : x7_1.length < 8796093022208
                  · rw [if_pos c14] at H
                    have LMc14 := Aside0.mk c14
                    clear c14
                    obtain ⟨y109, hy109⟩ : ∃ y_ : List ByteArray, y_ = (x7_1 ++ [x0_1.extract 0 (t105 : Int).toNat]) := ⟨_, rfl⟩
                    replace H : (if 0 ≤ (wrap64 (t105 + (a1.size : Int))) then (if (wrap64 (t105 + (a1.size : Int))) ≤ (x0_1.size : Int) then (restfulroutes_splitN.l0 kj3 (x0_1.extract ((wrap64 (t105 + (a1.size : Int))) : Int).toNat x0_1.size) a1 a2 y109) else (none)) else (none)) = some r := by first | (rw [hy109]; with_reducible exact H) | (have H2_ := (Option.bind_some _ _).symm.trans H; rw [hy109]; with_reducible exact H2_) | (have H2_ := (Option.bind_some _ _).symm.trans H; with_reducible exact H2_) | with_reducible exact H | (rw [hy109]; exact H) | exact H
                    have Ny109 := Aside0.mk hy109
                    clear hy109
                    obtain ⟨ji15, hji15⟩ : ∃ j_ : Int, (wrap64 (t105 + (a1.size : Int))) = j_ := ⟨_, rfl⟩
                    replace H : (if 0 ≤ (ji15) then (if (ji15) ≤ (x0_1.size : Int) then (restfulroutes_splitN.l0 kj3 (x0_1.extract ((ji15) : Int).toNat x0_1.size) a1 a2 y109) else (none)) else (none)) = some r := by first | (rw [hji15] at H; exact H) | (simp only [hji15] at H ⊢; exact H)
                    (try rw [hji15] at A8)
                    have hji15w : (IntKind.i64.wrap (t105 + (a1.size : Int))) = ji15 := (i64_w _).trans hji15
                    by_cases c16 : 0 ≤ (ji15)
                    · rw [if_pos c16] at H
                      have c16b0 := eq_true c16
                      have c16b1 : decide (0 ≤ (ji15)) = true := decide_eq_true c16
                      clear c16
                      by_cases c17 : (ji15) ≤ (x0_1.size : Int)
                      · rw [if_pos c17] at H
                        have c17b0 := eq_true c17
                        have c17b1 : decide ((ji15) ≤ (x0_1.size : Int)) = true := decide_eq_true c17
                        clear c17
                        have H' := Aside0.mk H
                        clear H
                        go_wp2_with (first | ((with_reducible refine gate_callee (f := 20) rfl ?_); refine goesL_ (some 20) rfl rfl Try.func20 (by kernel_rfl) rfl #[.string x0_1, .string a1] rfl (by (try simp only [List.map_toArray, List.map_cons, List.map_nil]); first | done | rfl | (simp only [List.length_drop, List.length_take]; rfl)) ?_; (with_reducible refine (restfulroutes_index.calls kj3 x0_1 a1 t105 _ A8.out).mono ?_); rintro e w' ⟨rfl, ⟨nd, rfl⟩⟩; refine ⟨_, rfl, ?_⟩) | ((with_reducible refine gate_builtin (b := .append) (xs := #[.tmp 23, .tmp 27]) rfl ?_); (try (refine gate_guard (by rfl) ?_; dsimp only)); at_builtin; refine Kd.R_append Kd.string (w0 := w) w.heap.size rfl (.tmp 23) (.tmp 27) 22 9 (.string ⟨#[]⟩) 16 rfl Try.underlying22 info9 rfl (by decide) (by omega) u7 x7_1 (x0_1.extract 0 (t105 : Int).toNat) [.string (x0_1.extract 0 (t105 : Int).toNat)] (fun _ => True) (fun _ => False) rfl rfl ?aP (fun _ hk => hk.elim) ?aF ?aO ?aB ?aS ?aL ?_; (case aP => exact rfl); (case aB => exact (by repeat (first | (with_reducible first | exact HB.out | apply below_alloc | apply pw_below_drewN | apply below_drew1) | exact HB.out))); (case aF => exact (fun _ _ => trivial)); (case aO => exact (by (with_reducible repeat (first | apply Kd.R_alloc | apply Kd.R_drewN | apply Kd.R_drew)); exact HO_7.out)); (case aS => exact (below_size (by repeat (first | (with_reducible first | exact HB.out | apply below_alloc | apply pw_below_drewN | apply below_drew1) | exact HB.out)))); (case aL => have := LMc14.out; omega); intro v110 w18 ho hb hg hat; rw [← Ny109.out] at ho; have n0_ := Aside0.mk (hb); have n1_ := Aside0.mk (ho); clear HB; clear HO_7; have HB := n0_; have HO111 := n1_; clear n0_ n1_; clear ho hb hg hat))
                        go_roundg kj3
                        case measure => have := HK1.out; have := HJ3.out; omega
                        case rel => exact ⟨(x0_1.extract ((ji15) : Int).toNat x0_1.size), (y109), (by first | rfl | (simp; done) | (simp only [← hji15] <;> (first | rfl | simp)) | (simp [*]; done)), H', ⟨by have := HK1.out; have := HJ3.out; omega⟩, ⟨by (with_reducible repeat (first | apply Kd.R_alloc | apply Kd.R_drewN | apply Kd.R_drew)); exact HO111.out⟩, ⟨by repeat (first | (with_reducible first | exact HB.out | apply below_alloc | apply pw_below_drewN | apply below_drew1) | exact HB.out)⟩⟩
                      · rw [if_neg c17] at H
                        exact absurd H (by simp)
                    · rw [if_neg c16] at H
                      exact absurd H (by simp)
                  · rw [if_neg c14] at H
                    exact absurd H (by simp)
                · rw [if_neg c13] at H
                  exact absurd H (by simp)
              · rw [if_neg c12] at H
                exact absurd H (by simp)
          · replace c7 := Bool.eq_false_iff.mpr c7
            subst c7
            have H1 : (if x7_1.length < 8796093022208 then (some (x7_1 ++ [x0_1])) else (none)) = some r := by rw [if_neg (show ¬ (false = true) by decide)] at H; exact H
            clear H
            have H := H1
            clear H1
            by_cases c19 : x7_1.length < 8796093022208
            · rw [if_pos c19] at H
              have LMc19 := Aside0.mk c19
              clear c19
              obtain ⟨y112, hy112⟩ : ∃ y_ : List ByteArray, y_ = (x7_1 ++ [x0_1]) := ⟨_, rfl⟩
              replace H : (some y112) = some r := by first | (rw [hy112]; with_reducible exact H) | (have H2_ := (Option.bind_some _ _).symm.trans H; rw [hy112]; with_reducible exact H2_) | (have H2_ := (Option.bind_some _ _).symm.trans H; with_reducible exact H2_) | with_reducible exact H | (rw [hy112]; exact H) | exact H
              have Ny112 := Aside0.mk hy112
              clear hy112
              obtain rfl := Option.some.inj H
              go_wp2_with (first | ((with_reducible refine gate_builtin (b := .append) (xs := #[.tmp 35, .tmp 37]) rfl ?_); (try (refine gate_guard (by rfl) ?_; dsimp only)); at_builtin; refine Kd.R_append Kd.string (w0 := w) w.heap.size rfl (.tmp 35) (.tmp 37) 22 9 (.string ⟨#[]⟩) 16 rfl Try.underlying22 info9 rfl (by decide) (by omega) u7 x7_1 x0_1 [.string x0_1] (fun _ => True) (fun _ => False) rfl rfl ?aP (fun _ hk => hk.elim) ?aF ?aO ?aB ?aS ?aL ?_; (case aP => exact rfl); (case aB => exact (by repeat (first | (with_reducible first | exact HB.out | apply below_alloc | apply pw_below_drewN | apply below_drew1) | exact HB.out))); (case aF => exact (fun _ _ => trivial)); (case aO => exact (by (with_reducible repeat (first | apply Kd.R_alloc | apply Kd.R_drewN | apply Kd.R_drew)); exact HO_7.out)); (case aS => exact (below_size (by repeat (first | (with_reducible first | exact HB.out | apply below_alloc | apply pw_below_drewN | apply below_drew1) | exact HB.out)))); (case aL => have := LMc19.out; omega); intro v113 w20 ho hb hg hat; rw [← Ny112.out] at ho; have n0_ := Aside0.mk (hb); have n1_ := Aside0.mk (ho); clear HB; clear HO_7; have HB := n0_; have HO114 := n1_; clear n0_ n1_; clear ho hb hg hat))
              go_ret
              exact ⟨_, by first | rfl | (simp [errW_none, errW_some] <;> rfl) | (simp [*, errW_none, errW_some] <;> rfl), by (with_reducible repeat (first | apply Kd.R_alloc | apply Kd.R_drewN | apply Kd.R_drew)); exact HO114.out, by repeat (first | (with_reducible first | exact HB.out | apply below_alloc | apply pw_below_drewN | apply below_drew1) | exact HB.out)⟩
            · rw [if_neg c19] at H
              exact absurd H (by simp)

/-! ### restfulroutes_split: function 14 -/
def restfulroutes_split.f (k : Nat) (a0 : ByteArray) (a1 : ByteArray) : Option (List ByteArray) := (restfulroutes_splitN.f k a0 a1 (-1)).bind fun t115 => (some t115)
theorem restfulroutes_split.mono : ∀ a0 a1 k, LeO (restfulroutes_split.f k a0 a1) (restfulroutes_split.f (k + 1) a0 a1) := by
  intro a0 a1 k
  unfold restfulroutes_split.f
  repeat' first
      | (with_reducible exact restfulroutes_splitN.mono _ _ _ _)
      | (with_reducible exact LeO.refl _)
      | (with_reducible exact LeO.none _)
      | (with_reducible refine LeO.ite ?_ ?_)
      | (with_reducible refine LeO.bind ?_ (fun _ => ?_))
      | exact restfulroutes_splitN.mono _ _ _ _
      | exact LeO.none _
      | refine LeO.ite ?_ ?_
      | refine LeO.bind ?_ (fun _ => ?_)
set_option maxHeartbeats 8000000 in
set_option maxRecDepth 100000 in
theorem restfulroutes_split.calls (k : Nat) (a0 : ByteArray) (a1 : ByteArray) (r : List ByteArray) (w : World) (h : restfulroutes_split.f k a0 a1 = some r) :
    Calls Try.prog 14 #[.string a0, .string a1] w fun e w' => ∃ v0_ : Value, e = .returned (v0_) ∧ Kd.R Kd.string 9 w' w.heap.size (fun _ => True) v0_ r ∧ Below w.heap.size w w' := by
  have HB := Aside0.mk (Below.refl w.heap.size w)
  have H : ((restfulroutes_splitN.f k a0 a1 (-1)).bind fun t115 => (some t115)) = some r := h
  clear h
  replace H := Option.bind_eq_some_iff.mp H
  obtain ⟨t115, A30, H⟩ := H
  replace H : (some t115) = some r := H
  have A3 := Aside0.mk A30
  clear A30
  obtain rfl := Option.some.inj H
  go_enter Try.func14, Try.ntmps14
  go_wp2_with (first | ((with_reducible refine gate_callee (f := 17) rfl ?_); refine goesL_ (some 7) rfl rfl Try.func17 (by kernel_rfl) rfl #[.string a0, .string a1, .int .i64 (-1)] rfl (by (try simp only [List.map_toArray, List.map_cons, List.map_nil]); first | done | rfl | (simp only [List.length_drop, List.length_take]; rfl)) ?_; (with_reducible refine (restfulroutes_splitN.calls k a0 a1 (-1) t115 _ A3.out).mono ?_); rintro e w4 ⟨v116, rfl, ho0, hb⟩; refine ⟨_, rfl, ?_⟩; have n0_ := Aside0.mk (Kd.R_lower ho0 (below_size (by repeat (first | (with_reducible first | exact HB.out | apply below_alloc | apply pw_below_drewN | apply below_drew1) | exact HB.out)))); have n1_ := Aside0.mk (below_step (by repeat (first | (with_reducible first | exact HB.out | apply below_alloc | apply pw_below_drewN | apply below_drew1) | exact HB.out)) hb); clear HB; have HO117 := n0_; have HB := n1_; clear n0_ n1_; (try clear hb); (try clear hb2); (try clear hk); (try clear hi); (try clear ho0)))
  go_ret
  exact ⟨_, by first | rfl | (simp [errW_none, errW_some] <;> rfl) | (simp [*, errW_none, errW_some] <;> rfl), by (with_reducible repeat (first | apply Kd.R_alloc | apply Kd.R_drewN | apply Kd.R_drew)); exact HO117.out, by repeat (first | (with_reducible first | exact HB.out | apply below_alloc | apply pw_below_drewN | apply below_drew1) | exact HB.out)⟩

/-! ### restfulroutes_contains: function 19 -/
def restfulroutes_contains.f (k : Nat) (a0 : ByteArray) (a1 : ByteArray) : Option (Bool) := (restfulroutes_index.f k a0 a1).bind fun t118 => (some (decide (t118 ≥ 0)))
theorem restfulroutes_contains.mono : ∀ a0 a1 k, LeO (restfulroutes_contains.f k a0 a1) (restfulroutes_contains.f (k + 1) a0 a1) := by
  intro a0 a1 k
  unfold restfulroutes_contains.f
  repeat' first
      | (with_reducible exact restfulroutes_index.mono _ _ _)
      | (with_reducible exact LeO.refl _)
      | (with_reducible exact LeO.none _)
      | (with_reducible refine LeO.ite ?_ ?_)
      | (with_reducible refine LeO.bind ?_ (fun _ => ?_))
      | exact restfulroutes_index.mono _ _ _
      | exact LeO.none _
      | refine LeO.ite ?_ ?_
      | refine LeO.bind ?_ (fun _ => ?_)
set_option maxHeartbeats 8000000 in
set_option maxRecDepth 100000 in
theorem restfulroutes_contains.calls (k : Nat) (a0 : ByteArray) (a1 : ByteArray) (r : Bool) (w : World) (h : restfulroutes_contains.f k a0 a1 = some r) :
    Calls Try.prog 19 #[.string a0, .string a1] w fun e w' => e = .returned (.bool r) ∧ Drawn0 w w' := by
  have H : ((restfulroutes_index.f k a0 a1).bind fun t118 => (some (decide (t118 ≥ 0)))) = some r := h
  clear h
  replace H := Option.bind_eq_some_iff.mp H
  obtain ⟨t118, A30, H⟩ := H
  replace H : (some (decide (t118 ≥ 0))) = some r := H
  have A3 := Aside0.mk A30
  clear A30
  obtain rfl := Option.some.inj H
  go_enter Try.func19, Try.ntmps19
  go_wp2_with (first | ((with_reducible refine gate_callee (f := 20) rfl ?_); refine goesL_ (some 7) rfl rfl Try.func20 (by kernel_rfl) rfl #[.string a0, .string a1] rfl (by (try simp only [List.map_toArray, List.map_cons, List.map_nil]); first | done | rfl | (simp only [List.length_drop, List.length_take]; rfl)) ?_; (with_reducible refine (restfulroutes_index.calls k a0 a1 t118 _ A3.out).mono ?_); rintro e w' ⟨rfl, ⟨nd, rfl⟩⟩; refine ⟨_, rfl, ?_⟩))
  go_ret
  exact ⟨by first | rfl | (simp; done) | (simp [*]; done) | (cases a0.toList <;> rfl), by repeat (first | exact Drawn0.refl _ | apply Drawn0.step)⟩

/-! ### restfulroutes_trimLeft: function 16 -/
def restfulroutes_trimLeft.l0 : Nat → ByteArray → ByteArray → Option (ByteArray)
  | 0, _, _ => none
  | k + 1, x0, x1 => if (x0.size : Int) > 0 then (if 0 ≤ 1 then (if 1 ≤ (x0.size : Int) then ((restfulroutes_contains.f k x1 (x0.extract 0 1)).bind fun t119 => (if t119 = true then (restfulroutes_trimLeft.l0 k (x0.extract 1 x0.size) x1) else (some x0))) else (none)) else (none)) else (some x0)
def restfulroutes_trimLeft.f (k : Nat) (a0 : ByteArray) (a1 : ByteArray) : Option (ByteArray) := restfulroutes_trimLeft.l0 k a0 a1
theorem restfulroutes_trimLeft.mono_l : ∀ k, (∀ y0 y1, LeO (restfulroutes_trimLeft.l0 k y0 y1) (restfulroutes_trimLeft.l0 (k + 1) y0 y1))
  | 0 => fun _ _ r h => by simp [restfulroutes_trimLeft.l0] at h
  | k + 1 => by
    have ih0 := restfulroutes_trimLeft.mono_l k
    · intro y0 y1
      unfold restfulroutes_trimLeft.l0
      repeat' first
      | (with_reducible exact ih0 _ _)
      | (with_reducible exact restfulroutes_contains.mono _ _ _)
      | (with_reducible exact LeO.refl _)
      | (with_reducible exact LeO.none _)
      | (with_reducible refine LeO.ite ?_ ?_)
      | (with_reducible refine LeO.bind ?_ (fun _ => ?_))
      | exact ih0 _ _
      | exact restfulroutes_contains.mono _ _ _
      | exact LeO.none _
      | refine LeO.ite ?_ ?_
      | refine LeO.bind ?_ (fun _ => ?_)
theorem restfulroutes_trimLeft.mono : ∀ a0 a1 k, LeO (restfulroutes_trimLeft.f k a0 a1) (restfulroutes_trimLeft.f (k + 1) a0 a1) := by
  intro a0 a1 k
  have ih0 := restfulroutes_trimLeft.mono_l k
  unfold restfulroutes_trimLeft.f
  repeat' first
      | (with_reducible exact ih0 _ _)
      | (with_reducible exact restfulroutes_contains.mono _ _ _)
      | (with_reducible exact LeO.refl _)
      | (with_reducible exact LeO.none _)
      | (with_reducible refine LeO.ite ?_ ?_)
      | (with_reducible refine LeO.bind ?_ (fun _ => ?_))
      | exact ih0 _ _
      | exact restfulroutes_contains.mono _ _ _
      | exact LeO.none _
      | refine LeO.ite ?_ ?_
      | refine LeO.bind ?_ (fun _ => ?_)
set_option maxHeartbeats 8000000 in
set_option maxRecDepth 100000 in
theorem restfulroutes_trimLeft.calls (k : Nat) (a0 : ByteArray) (a1 : ByteArray) (r : ByteArray) (w : World) (h : restfulroutes_trimLeft.f k a0 a1 = some r) :
    Calls Try.prog 16 #[.string a0, .string a1] w fun e w' => e = .returned (.string r) ∧ Drawn0 w w' := by
  have H : (restfulroutes_trimLeft.l0 k a0 a1) = some r := h
  clear h
  have H' := Aside0.mk H
  clear H
  go_enter Try.func16, Try.ntmps16
  go_wp2
  go_loopg [0] k (fun kq v0 w' => ∃ (x0_1 : ByteArray), v0 = .string x0_1 ∧ Aside0 (restfulroutes_trimLeft.l0 kq x0_1 a1 = some r) ∧ Aside0 (kq ≤ k) ∧ Drawn0 w w')
  case atStart => exact ⟨(a0), (by first | rfl | (simp; done) | (simp [*]; done)), H', ⟨Nat.le_refl _⟩, by repeat (first | exact Drawn0.refl _ | apply Drawn0.step)⟩
  case round =>
    clear H'
    try clear c1
    try clear p2
    obtain ⟨x0_1, rfl, HA, HK1, ⟨m1, rfl⟩⟩ := hrel
    cases gk with
    | zero => exact absurd HA.out (by simp [restfulroutes_trimLeft.l0])
    | succ k1 =>
      have H := HA.out
      clear HA
      simp only [restfulroutes_trimLeft.l0] at H
      by_cases c3 : (x0_1.size : Int) > 0
      · rw [if_pos c3] at H
        have c3b0 : decide (0 < (x0_1.size : Int)) = true := decide_eq_true c3
        have c3b1 : decide (0 < x0_1.size) = true := decide_eq_true (by omega)
        clear c3
        by_cases c4 : 0 ≤ 1
        · rw [if_pos c4] at H
          have c4b0 := eq_true c4
          have c4b1 : decide (0 ≤ 1) = true := decide_eq_true c4
          clear c4
          by_cases c5 : 1 ≤ (x0_1.size : Int)
          · rw [if_pos c5] at H
            have c5b0 := eq_true c5
            have c5b1 : decide (1 ≤ (x0_1.size : Int)) = true := decide_eq_true c5
            clear c5
            replace H := Option.bind_eq_some_iff.mp H
            obtain ⟨t119, A60, H⟩ := H
            replace H : (if t119 = true then (restfulroutes_trimLeft.l0 k1 (x0_1.extract 1 x0_1.size) a1) else (some x0_1)) = some r := H
            have A6 := Aside0.mk A60
            clear A60
            by_cases c7 : t119 = true
            · subst c7
              have H1 : (restfulroutes_trimLeft.l0 k1 (x0_1.extract 1 x0_1.size) a1) = some r := by rw [if_pos rfl] at H; exact H
              clear H
              have H := H1
              clear H1
              have c8b0 := eq_true (of_decide_eq_true (by first | (with_reducible assumption) | assumption) : 1 ≤ (x0_1.size : Int))
              have H' := Aside0.mk H
              clear H
              go_wp2_with (first | (go_at_call 19; (with_reducible refine (restfulroutes_contains.calls k1 a1 (x0_1.extract 0 1) true _ A6.out).mono ?_); rintro e w' ⟨rfl, ⟨nd, rfl⟩⟩))
              go_roundg k1
              case measure => have := HK1.out; omega
              case rel => exact ⟨(x0_1.extract 1 x0_1.size), (by first | rfl | (simp; done) | (simp [*]; done)), H', ⟨by have := HK1.out; omega⟩, by repeat (first | exact Drawn0.refl _ | apply Drawn0.step)⟩
            · replace c7 := Bool.eq_false_iff.mpr c7
              subst c7
              have H1 : (some x0_1) = some r := by rw [if_neg (show ¬ (false = true) by decide)] at H; exact H
              clear H
              have H := H1
              clear H1
              obtain rfl := Option.some.inj H
              go_wp2_with (first | (go_at_call 19; (with_reducible refine (restfulroutes_contains.calls k1 a1 (x0_1.extract 0 1) false _ A6.out).mono ?_); rintro e w' ⟨rfl, ⟨nd, rfl⟩⟩))
              go_ret
              exact ⟨by first | rfl | (simp; done) | (simp [*]; done) | (cases a0.toList <;> rfl), by repeat (first | exact Drawn0.refl _ | apply Drawn0.step)⟩
          · rw [if_neg c5] at H
            exact absurd H (by simp)
        · rw [if_neg c4] at H
          exact absurd H (by simp)
      · rw [if_neg c3] at H
        have c3b0 : decide (0 < (x0_1.size : Int)) = false := decide_eq_false c3
        have c3b1 : decide (0 < x0_1.size) = false := decide_eq_false (by omega)
        clear c3
        obtain rfl := Option.some.inj H
        go_wp2
        go_ret
        exact ⟨by first | rfl | (simp; done) | (simp [*]; done) | (cases a0.toList <;> rfl), by repeat (first | exact Drawn0.refl _ | apply Drawn0.step)⟩

/-! ### restfulroutes_trimRight: function 18 -/
def restfulroutes_trimRight.l0 : Nat → ByteArray → ByteArray → Option (ByteArray)
  | 0, _, _ => none
  | k + 1, x0, x1 => if (x0.size : Int) > 0 then (if 0 ≤ (wrap64 ((x0.size : Int) - 1)) then (if (wrap64 ((x0.size : Int) - 1)) ≤ (x0.size : Int) then ((restfulroutes_contains.f k x1 (x0.extract ((wrap64 ((x0.size : Int) - 1)) : Int).toNat x0.size)).bind fun t120 => (if t120 = true then (restfulroutes_trimRight.l0 k (x0.extract 0 ((wrap64 ((x0.size : Int) - 1)) : Int).toNat) x1) else (some x0))) else (none)) else (none)) else (some x0)
def restfulroutes_trimRight.f (k : Nat) (a0 : ByteArray) (a1 : ByteArray) : Option (ByteArray) := restfulroutes_trimRight.l0 k a0 a1
theorem restfulroutes_trimRight.mono_l : ∀ k, (∀ y0 y1, LeO (restfulroutes_trimRight.l0 k y0 y1) (restfulroutes_trimRight.l0 (k + 1) y0 y1))
  | 0 => fun _ _ r h => by simp [restfulroutes_trimRight.l0] at h
  | k + 1 => by
    have ih0 := restfulroutes_trimRight.mono_l k
    · intro y0 y1
      unfold restfulroutes_trimRight.l0
      repeat' first
      | (with_reducible exact ih0 _ _)
      | (with_reducible exact restfulroutes_contains.mono _ _ _)
      | (with_reducible exact LeO.refl _)
      | (with_reducible exact LeO.none _)
      | (with_reducible refine LeO.ite ?_ ?_)
      | (with_reducible refine LeO.bind ?_ (fun _ => ?_))
      | exact ih0 _ _
      | exact restfulroutes_contains.mono _ _ _
      | exact LeO.none _
      | refine LeO.ite ?_ ?_
      | refine LeO.bind ?_ (fun _ => ?_)
theorem restfulroutes_trimRight.mono : ∀ a0 a1 k, LeO (restfulroutes_trimRight.f k a0 a1) (restfulroutes_trimRight.f (k + 1) a0 a1) := by
  intro a0 a1 k
  have ih0 := restfulroutes_trimRight.mono_l k
  unfold restfulroutes_trimRight.f
  repeat' first
      | (with_reducible exact ih0 _ _)
      | (with_reducible exact restfulroutes_contains.mono _ _ _)
      | (with_reducible exact LeO.refl _)
      | (with_reducible exact LeO.none _)
      | (with_reducible refine LeO.ite ?_ ?_)
      | (with_reducible refine LeO.bind ?_ (fun _ => ?_))
      | exact ih0 _ _
      | exact restfulroutes_contains.mono _ _ _
      | exact LeO.none _
      | refine LeO.ite ?_ ?_
      | refine LeO.bind ?_ (fun _ => ?_)
set_option maxHeartbeats 8000000 in
set_option maxRecDepth 100000 in
theorem restfulroutes_trimRight.calls (k : Nat) (a0 : ByteArray) (a1 : ByteArray) (r : ByteArray) (w : World) (h : restfulroutes_trimRight.f k a0 a1 = some r) :
    Calls Try.prog 18 #[.string a0, .string a1] w fun e w' => e = .returned (.string r) ∧ Drawn0 w w' := by
  have H : (restfulroutes_trimRight.l0 k a0 a1) = some r := h
  clear h
  have H' := Aside0.mk H
  clear H
  go_enter Try.func18, Try.ntmps18
  go_wp2
  go_loopg [0] k (fun kq v0 w' => ∃ (x0_1 : ByteArray), v0 = .string x0_1 ∧ Aside0 (restfulroutes_trimRight.l0 kq x0_1 a1 = some r) ∧ Aside0 (kq ≤ k) ∧ Drawn0 w w')
  case atStart => exact ⟨(a0), (by first | rfl | (simp; done) | (simp [*]; done)), H', ⟨Nat.le_refl _⟩, by repeat (first | exact Drawn0.refl _ | apply Drawn0.step)⟩
  case round =>
    clear H'
    try clear c1
    try clear p2
    obtain ⟨x0_1, rfl, HA, HK1, ⟨m1, rfl⟩⟩ := hrel
    cases gk with
    | zero => exact absurd HA.out (by simp [restfulroutes_trimRight.l0])
    | succ k1 =>
      have H := HA.out
      clear HA
      simp only [restfulroutes_trimRight.l0] at H
      by_cases c3 : (x0_1.size : Int) > 0
      · rw [if_pos c3] at H
        have c3b0 : decide (0 < (x0_1.size : Int)) = true := decide_eq_true c3
        have c3b1 : decide (0 < x0_1.size) = true := decide_eq_true (by omega)
        clear c3
        obtain ⟨ji4, hji4⟩ : ∃ j_ : Int, (wrap64 ((x0_1.size : Int) - 1)) = j_ := ⟨_, rfl⟩
        replace H : (if 0 ≤ (ji4) then (if (ji4) ≤ (x0_1.size : Int) then ((restfulroutes_contains.f k1 a1 (x0_1.extract ((ji4) : Int).toNat x0_1.size)).bind fun t120 => (if t120 = true then (restfulroutes_trimRight.l0 k1 (x0_1.extract 0 ((ji4) : Int).toNat) a1) else (some x0_1))) else (none)) else (none)) = some r := by first | (rw [hji4] at H; exact H) | (simp only [hji4] at H ⊢; exact H)
        have hji4w : (IntKind.i64.wrap ((x0_1.size : Int) - 1)) = ji4 := (i64_w _).trans hji4
        by_cases c5 : 0 ≤ (ji4)
        · rw [if_pos c5] at H
          have c5b0 := eq_true c5
          have c5b1 : decide (0 ≤ (ji4)) = true := decide_eq_true c5
          clear c5
          by_cases c6 : (ji4) ≤ (x0_1.size : Int)
          · rw [if_pos c6] at H
            have c6b0 := eq_true c6
            have c6b1 : decide ((ji4) ≤ (x0_1.size : Int)) = true := decide_eq_true c6
            clear c6
            replace H := Option.bind_eq_some_iff.mp H
            obtain ⟨t120, A70, H⟩ := H
            replace H : (if t120 = true then (restfulroutes_trimRight.l0 k1 (x0_1.extract 0 ((ji4) : Int).toNat) a1) else (some x0_1)) = some r := H
            have A7 := Aside0.mk A70
            clear A70
            by_cases c8 : t120 = true
            · subst c8
              have H1 : (restfulroutes_trimRight.l0 k1 (x0_1.extract 0 ((ji4) : Int).toNat) a1) = some r := by rw [if_pos rfl] at H; exact H
              clear H
              have H := H1
              clear H1
              have c9b0 := eq_true (of_decide_eq_true (by first | (with_reducible assumption) | assumption) : 0 ≤ (ji4))
              have c10b0 := eq_true (of_decide_eq_true (by first | (with_reducible assumption) | assumption) : (ji4) ≤ (x0_1.size : Int))
              have H' := Aside0.mk H
              clear H
              go_wp2_with (first | (go_at_call 19; (with_reducible refine (restfulroutes_contains.calls k1 a1 (x0_1.extract ((ji4) : Int).toNat x0_1.size) true _ A7.out).mono ?_); rintro e w' ⟨rfl, ⟨nd, rfl⟩⟩))
              go_roundg k1
              case measure => have := HK1.out; omega
              case rel => exact ⟨(x0_1.extract 0 ((ji4) : Int).toNat), (by first | rfl | (simp; done) | (simp only [← hji4] <;> (first | rfl | simp)) | (simp [*]; done)), H', ⟨by have := HK1.out; omega⟩, by repeat (first | exact Drawn0.refl _ | apply Drawn0.step)⟩
            · replace c8 := Bool.eq_false_iff.mpr c8
              subst c8
              have H1 : (some x0_1) = some r := by rw [if_neg (show ¬ (false = true) by decide)] at H; exact H
              clear H
              have H := H1
              clear H1
              obtain rfl := Option.some.inj H
              go_wp2_with (first | (go_at_call 19; (with_reducible refine (restfulroutes_contains.calls k1 a1 (x0_1.extract ((ji4) : Int).toNat x0_1.size) false _ A7.out).mono ?_); rintro e w' ⟨rfl, ⟨nd, rfl⟩⟩))
              go_ret
              exact ⟨by first | rfl | (simp; done) | (simp only [← hji4] <;> (first | rfl | simp)) | (simp [*]; done), by repeat (first | exact Drawn0.refl _ | apply Drawn0.step)⟩
          · rw [if_neg c6] at H
            exact absurd H (by simp)
        · rw [if_neg c5] at H
          exact absurd H (by simp)
      · rw [if_neg c3] at H
        have c3b0 : decide (0 < (x0_1.size : Int)) = false := decide_eq_false c3
        have c3b1 : decide (0 < x0_1.size) = false := decide_eq_false (by omega)
        clear c3
        obtain rfl := Option.some.inj H
        go_wp2
        go_ret
        exact ⟨by first | rfl | (simp; done) | (simp [*]; done) | (cases a0.toList <;> rfl), by repeat (first | exact Drawn0.refl _ | apply Drawn0.step)⟩

/-! ### restfulroutes_trim: function 15 -/
def restfulroutes_trim.f (k : Nat) (a0 : ByteArray) (a1 : ByteArray) : Option (ByteArray) := (restfulroutes_trimLeft.f k a0 a1).bind fun t121 => ((restfulroutes_trimRight.f k t121 a1).bind fun t122 => (some t122))
theorem restfulroutes_trim.mono : ∀ a0 a1 k, LeO (restfulroutes_trim.f k a0 a1) (restfulroutes_trim.f (k + 1) a0 a1) := by
  intro a0 a1 k
  unfold restfulroutes_trim.f
  repeat' first
      | (with_reducible exact restfulroutes_trimLeft.mono _ _ _)
      | (with_reducible exact restfulroutes_trimRight.mono _ _ _)
      | (with_reducible exact LeO.refl _)
      | (with_reducible exact LeO.none _)
      | (with_reducible refine LeO.ite ?_ ?_)
      | (with_reducible refine LeO.bind ?_ (fun _ => ?_))
      | exact restfulroutes_trimLeft.mono _ _ _
      | exact restfulroutes_trimRight.mono _ _ _
      | exact LeO.none _
      | refine LeO.ite ?_ ?_
      | refine LeO.bind ?_ (fun _ => ?_)
set_option maxHeartbeats 8000000 in
set_option maxRecDepth 100000 in
theorem restfulroutes_trim.calls (k : Nat) (a0 : ByteArray) (a1 : ByteArray) (r : ByteArray) (w : World) (h : restfulroutes_trim.f k a0 a1 = some r) :
    Calls Try.prog 15 #[.string a0, .string a1] w fun e w' => e = .returned (.string r) ∧ Drawn0 w w' := by
  have H : ((restfulroutes_trimLeft.f k a0 a1).bind fun t121 => ((restfulroutes_trimRight.f k t121 a1).bind fun t122 => (some t122))) = some r := h
  clear h
  replace H := Option.bind_eq_some_iff.mp H
  obtain ⟨t121, A30, H⟩ := H
  replace H : ((restfulroutes_trimRight.f k t121 a1).bind fun t122 => (some t122)) = some r := H
  have A3 := Aside0.mk A30
  clear A30
  replace H := Option.bind_eq_some_iff.mp H
  obtain ⟨t122, A40, H⟩ := H
  replace H : (some t122) = some r := H
  have A4 := Aside0.mk A40
  clear A40
  obtain rfl := Option.some.inj H
  go_enter Try.func15, Try.ntmps15
  go_wp2_with (first | ((with_reducible refine gate_callee (f := 16) rfl ?_); refine goesL_ (some 7) rfl rfl Try.func16 (by kernel_rfl) rfl #[.string a0, .string a1] rfl (by (try simp only [List.map_toArray, List.map_cons, List.map_nil]); first | done | rfl | (simp only [List.length_drop, List.length_take]; rfl)) ?_; (with_reducible refine (restfulroutes_trimLeft.calls k a0 a1 t121 _ A3.out).mono ?_); rintro e w' ⟨rfl, ⟨nd, rfl⟩⟩; refine ⟨_, rfl, ?_⟩) | ((with_reducible refine gate_callee (f := 18) rfl ?_); refine goesL_ (some 9) rfl rfl Try.func18 (by kernel_rfl) rfl #[.string t121, .string a1] rfl (by (try simp only [List.map_toArray, List.map_cons, List.map_nil]); first | done | rfl | (simp only [List.length_drop, List.length_take]; rfl)) ?_; (with_reducible refine (restfulroutes_trimRight.calls k t121 a1 t122 _ A4.out).mono ?_); rintro e w' ⟨rfl, ⟨nd, rfl⟩⟩; refine ⟨_, rfl, ?_⟩))
  go_ret
  exact ⟨by first | rfl | (simp; done) | (simp [*]; done) | (cases a0.toList <;> rfl), by repeat (first | exact Drawn0.refl _ | apply Drawn0.step)⟩

/-! ### restfulroutes_tokenizePath: function 13 -/
def restfulroutes_tokenizePath.f (k : Nat) (a0 : ByteArray) : Option (List ByteArray) := if ([47] : List UInt8) = a0.toList then (some ([] : List ByteArray)) else ((restfulroutes_trim.f k a0 (⟨#[47]⟩ : ByteArray)).bind fun t123 => ((restfulroutes_split.f k t123 (⟨#[47]⟩ : ByteArray)).bind fun t124 => (some t124)))
theorem restfulroutes_tokenizePath.mono : ∀ a0 k, LeO (restfulroutes_tokenizePath.f k a0) (restfulroutes_tokenizePath.f (k + 1) a0) := by
  intro a0 k
  unfold restfulroutes_tokenizePath.f
  repeat' first
      | (with_reducible exact restfulroutes_split.mono _ _ _)
      | (with_reducible exact restfulroutes_trim.mono _ _ _)
      | (with_reducible exact LeO.refl _)
      | (with_reducible exact LeO.none _)
      | (with_reducible refine LeO.ite ?_ ?_)
      | (with_reducible refine LeO.bind ?_ (fun _ => ?_))
      | exact restfulroutes_split.mono _ _ _
      | exact restfulroutes_trim.mono _ _ _
      | exact LeO.none _
      | refine LeO.ite ?_ ?_
      | refine LeO.bind ?_ (fun _ => ?_)
set_option maxHeartbeats 8000000 in
set_option maxRecDepth 100000 in
theorem restfulroutes_tokenizePath.calls (k : Nat) (a0 : ByteArray) (r : List ByteArray) (w : World) (h : restfulroutes_tokenizePath.f k a0 = some r) :
    Calls Try.prog 13 #[.string a0] w fun e w' => ∃ v0_ : Value, e = .returned (v0_) ∧ Kd.R Kd.string 9 w' w.heap.size (fun _ => True) v0_ r ∧ Below w.heap.size w w' := by
  have HB := Aside0.mk (Below.refl w.heap.size w)
  have H : (if ([47] : List UInt8) = a0.toList then (some ([] : List ByteArray)) else ((restfulroutes_trim.f k a0 (⟨#[47]⟩ : ByteArray)).bind fun t123 => ((restfulroutes_split.f k t123 (⟨#[47]⟩ : ByteArray)).bind fun t124 => (some t124)))) = some r := h
  clear h
  by_cases c2 : ([47] : List UInt8) = a0.toList
  · rw [if_pos c2] at H
    have c2b0 : (([47] : List UInt8) == a0.toList) = true := beq_iff_eq.mpr c2
    have c2b1 : (([47] : List UInt8) != a0.toList) = false := bne_eq_false_iff_eq.mpr c2
    clear c2
    obtain rfl := Option.some.inj H
    go_enter Try.func13, Try.ntmps13
    go_wp2
    go_ret
    exact ⟨_, by first | rfl | (simp [errW_none, errW_some] <;> rfl) | (simp [*, errW_none, errW_some] <;> rfl), by first | exact Kd.R_nil _ _ _ _ _ | exact Kd.N_nil _ _ _ _ _ | exact Kd.V_nil _ _ _ _ _ | exact Kd.Q_nil _ _ _ _ _ | exact Kd.S_nil _ _ _ _ _, by repeat (first | (with_reducible first | exact HB.out | apply below_alloc | apply pw_below_drewN | apply below_drew1) | exact HB.out)⟩
  · rw [if_neg c2] at H
    have c2b0 : (([47] : List UInt8) == a0.toList) = false := beq_eq_false_iff_ne.mpr c2
    have c2b1 : (([47] : List UInt8) != a0.toList) = true := bne_iff_ne.mpr c2
    replace H := Option.bind_eq_some_iff.mp H
    obtain ⟨t123, A30, H⟩ := H
    replace H : ((restfulroutes_split.f k t123 (⟨#[47]⟩ : ByteArray)).bind fun t124 => (some t124)) = some r := H
    have A3 := Aside0.mk A30
    clear A30
    replace H := Option.bind_eq_some_iff.mp H
    obtain ⟨t124, A40, H⟩ := H
    replace H : (some t124) = some r := H
    have A4 := Aside0.mk A40
    clear A40
    obtain rfl := Option.some.inj H
    go_enter Try.func13, Try.ntmps13
    go_wp2_with (first | ((with_reducible refine gate_callee (f := 15) rfl ?_); refine goesL_ (some 6) rfl rfl Try.func15 (by kernel_rfl) rfl #[.string a0, .string (⟨#[47]⟩ : ByteArray)] rfl (by (try simp only [List.map_toArray, List.map_cons, List.map_nil]); first | done | rfl | (simp only [List.length_drop, List.length_take]; rfl)) ?_; (with_reducible refine (restfulroutes_trim.calls k a0 (⟨#[47]⟩ : ByteArray) t123 _ A3.out).mono ?_); rintro e w' ⟨rfl, ⟨nd, rfl⟩⟩; refine ⟨_, rfl, ?_⟩) | ((with_reducible refine gate_callee (f := 14) rfl ?_); refine goesL_ (some 7) rfl rfl Try.func14 (by kernel_rfl) rfl #[.string t123, .string (⟨#[47]⟩ : ByteArray)] rfl (by (try simp only [List.map_toArray, List.map_cons, List.map_nil]); first | done | rfl | (simp only [List.length_drop, List.length_take]; rfl)) ?_; (with_reducible refine (restfulroutes_split.calls k t123 (⟨#[47]⟩ : ByteArray) t124 _ A4.out).mono ?_); rintro e w5 ⟨v125, rfl, ho0, hb⟩; refine ⟨_, rfl, ?_⟩; have n0_ := Aside0.mk (Kd.R_lower ho0 (below_size (by repeat (first | (with_reducible first | exact HB.out | apply below_alloc | apply pw_below_drewN | apply below_drew1) | exact HB.out)))); have n1_ := Aside0.mk (below_step (by repeat (first | (with_reducible first | exact HB.out | apply below_alloc | apply pw_below_drewN | apply below_drew1) | exact HB.out)) hb); clear HB; have HO126 := n0_; have HB := n1_; clear n0_ n1_; (try clear hb); (try clear hb2); (try clear hk); (try clear hi); (try clear ho0)))
    go_ret
    exact ⟨_, by first | rfl | (simp [errW_none, errW_some] <;> rfl) | (simp [*, errW_none, errW_some] <;> rfl), by (with_reducible repeat (first | apply Kd.R_alloc | apply Kd.R_drewN | apply Kd.R_drew)); exact HO126.out, by repeat (first | (with_reducible first | exact HB.out | apply below_alloc | apply pw_below_drewN | apply below_drew1) | exact HB.out)⟩

/-! ### restfulroutes_ZZTokens: function 11 -/
def restfulroutes_ZZTokens.f (k : Nat) (a0 : ByteArray) : Option (List ByteArray) := (restfulroutes_tokenizePath.f k a0).bind fun t127 => (some t127)
theorem restfulroutes_ZZTokens.mono : ∀ a0 k, LeO (restfulroutes_ZZTokens.f k a0) (restfulroutes_ZZTokens.f (k + 1) a0) := by
  intro a0 k
  unfold restfulroutes_ZZTokens.f
  repeat' first
      | (with_reducible exact restfulroutes_tokenizePath.mono _ _)
      | (with_reducible exact LeO.refl _)
      | (with_reducible exact LeO.none _)
      | (with_reducible refine LeO.ite ?_ ?_)
      | (with_reducible refine LeO.bind ?_ (fun _ => ?_))
      | exact restfulroutes_tokenizePath.mono _ _
      | exact LeO.none _
      | refine LeO.ite ?_ ?_
      | refine LeO.bind ?_ (fun _ => ?_)
set_option maxHeartbeats 8000000 in
set_option maxRecDepth 100000 in
theorem restfulroutes_ZZTokens.calls (k : Nat) (a0 : ByteArray) (r : List ByteArray) (w : World) (h : restfulroutes_ZZTokens.f k a0 = some r) :
    Calls Try.prog 11 #[.string a0] w fun e w' => ∃ v0_ : Value, e = .returned (v0_) ∧ Kd.R Kd.string 9 w' w.heap.size (fun _ => True) v0_ r ∧ Below w.heap.size w w' := by
  have HB := Aside0.mk (Below.refl w.heap.size w)
  have H : ((restfulroutes_tokenizePath.f k a0).bind fun t127 => (some t127)) = some r := h
  clear h
  replace H := Option.bind_eq_some_iff.mp H
  obtain ⟨t127, A20, H⟩ := H
  replace H : (some t127) = some r := H
  have A2 := Aside0.mk A20
  clear A20
  obtain rfl := Option.some.inj H
  go_enter Try.func11, Try.ntmps11
  go_wp2_with (first | ((with_reducible refine gate_callee (f := 13) rfl ?_); refine goesL_ (some 4) rfl rfl Try.func13 (by kernel_rfl) rfl #[.string a0] rfl (by (try simp only [List.map_toArray, List.map_cons, List.map_nil]); first | done | rfl | (simp only [List.length_drop, List.length_take]; rfl)) ?_; (with_reducible refine (restfulroutes_tokenizePath.calls k a0 t127 _ A2.out).mono ?_); rintro e w3 ⟨v128, rfl, ho0, hb⟩; refine ⟨_, rfl, ?_⟩; have n0_ := Aside0.mk (Kd.R_lower ho0 (below_size (by repeat (first | (with_reducible first | exact HB.out | apply below_alloc | apply pw_below_drewN | apply below_drew1) | exact HB.out)))); have n1_ := Aside0.mk (below_step (by repeat (first | (with_reducible first | exact HB.out | apply below_alloc | apply pw_below_drewN | apply below_drew1) | exact HB.out)) hb); clear HB; have HO129 := n0_; have HB := n1_; clear n0_ n1_; (try clear hb); (try clear hb2); (try clear hk); (try clear hi); (try clear ho0)))
  go_ret
  exact ⟨_, by first | rfl | (simp [errW_none, errW_some] <;> rfl) | (simp [*, errW_none, errW_some] <;> rfl), by (with_reducible repeat (first | apply Kd.R_alloc | apply Kd.R_drewN | apply Kd.R_drew)); exact HO129.out, by repeat (first | (with_reducible first | exact HB.out | apply below_alloc | apply pw_below_drewN | apply below_drew1) | exact HB.out)⟩

-- NOT PRINTED: function 6 (impl_Tokens)

-- NOT PRINTED: function 5 (laws_works)

-- NOT PRINTED: function 3 (laws_FnTokens)

end Go.Proofs.Ytkjepgahnaieaaa.PFnTokens
