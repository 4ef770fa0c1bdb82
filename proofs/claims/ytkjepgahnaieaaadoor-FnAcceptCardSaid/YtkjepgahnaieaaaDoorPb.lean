/- Plain laws of word and of the tokens of a path. -/
import Derived.Test.YtkjepgahnaieaaaDoorPa
namespace Go.Proofs.YtkjepgahnaieaaaDoor.PFnAccept
open Go.RowKit Go.Proofs.YtkjepgahnaieaaaDoorW.PrintWords Go.Proofs.YtkjepgahnaieaaaDoorW.PrintLast Go.Proofs.YtkjepgahnaieaaaDoorW.PrintMore

/-! ### words -/
def wch (x : Int) : Prop := (97 ≤ x ∧ x ≤ 122) ∨ (65 ≤ x ∧ x ≤ 90) ∨ (48 ≤ x ∧ x ≤ 57) ∨ x = 45
instance (x : Int) : Decidable (wch x) := by unfold wch; exact inferInstance
theorem wch_ifs {α : Type} (x : Int) (X Y : α) :
    (if x ≥ 97 then (if x ≤ 122 then X else (if x ≥ 65 then (if x ≤ 90 then X else (if x ≥ 48 then (if x ≤ 57 then X else (if (x = 45) then X else Y)) else (if (x = 45) then X else Y))) else (if x ≥ 48 then (if x ≤ 57 then X else (if (x = 45) then X else Y)) else (if (x = 45) then X else Y)))) else (if x ≥ 65 then (if x ≤ 90 then X else (if x ≥ 48 then (if x ≤ 57 then X else (if (x = 45) then X else Y)) else (if (x = 45) then X else Y))) else (if x ≥ 48 then (if x ≤ 57 then X else (if (x = 45) then X else Y)) else (if (x = 45) then X else Y))))
    = if wch x then X else Y := by
  by_cases h : wch x
  · rw [if_pos h]
    unfold wch at h
    repeat' split
    all_goals first | rfl | (exfalso; omega)
  · rw [if_neg h]
    unfold wch at h
    repeat' split
    all_goals first | rfl | (exfalso; omega)
/-- Letters, figures and hyphens alone. -/
def wordL (l : List UInt8) : Bool := l.all (fun c => decide (wch (c.toNat : Int))) && !l.isEmpty
theorem word_ev (l : List UInt8) (hl : l.length ≤ 4611686018427387904) (d : Nat) : ∀ i : Nat, i + d = l.length →
    Ev (fun k => spec_word.l0 k (mkB l) (l.length : Int) (i : Int)) ((l.drop i).all (fun c => decide (wch (c.toNat : Int))) && !l.isEmpty) := by
  induction d with
  | zero =>
    intro i hi
    refine Ev.step (f := fun _ => some (!l.isEmpty)) (fun k => ?_) ?_
    · simp only [spec_word.l0]; rw [if_neg (by omega), toList_mkB]; cases l <;> rfl
    · have : l.drop i = [] := List.drop_eq_nil_of_le (by omega)
      rw [this]; simpa using Ev.now (!l.isEmpty)
  | succ d ih =>
    intro i hi
    have hlt : i < l.length := by omega
    have hd : l.drop i = l[i] :: l.drop (i + 1) := List.drop_eq_getElem_cons hlt
    refine Ev.step (f := fun k => if wch (l[i].toNat : Int) then spec_word.l0 k (mkB l) (l.length : Int) ((i + 1 : Nat) : Int) else some false) (fun k => ?_) ?_
    · simp only [spec_word.l0]
      rw [if_pos (by omega), if_pos (by omega), if_pos (by rw [size_mkB]; omega), wch_ifs, bt_mkB l i hlt, wrap_ok (by omega) (by omega)]
      rfl
    · by_cases h : wch (l[i].toNat : Int)
      · refine Ev.congr (fun k => if_pos h) ?_
        have : (l.drop i).all (fun c => decide (wch (c.toNat : Int))) = (l.drop (i + 1)).all (fun c => decide (wch (c.toNat : Int))) := by rw [hd, List.all_cons, decide_eq_true h, Bool.true_and]
        rw [this]; exact ih (i + 1) (by omega)
      · refine Ev.congr (fun k => if_neg h) ?_
        have : (l.drop i).all (fun c => decide (wch (c.toNat : Int))) = false := by rw [hd, List.all_cons, decide_eq_false h, Bool.false_and]
        rw [this, Bool.false_and]; exact Ev.now _
theorem word_f (l : List UInt8) (hl : l.length ≤ 4611686018427387904) : Ev (fun k => spec_word.f k (mkB l)) (wordL l) := by
  have := word_ev l hl l.length 0 (by omega)
  unfold spec_word.f
  rw [size_mkB]
  simpa [wordL] using this

/-! ### the tokens of a path -/
theorem tokens_f (l : List UInt8) (hl : l.length ≤ 1000000000000) (hne : l ≠ [47]) : Ev (fun k => restfulroutes_ZZTokens.f k (mkB l)) ((splitL 47 (rtrim 47 (l.dropWhile (· == 47)))).map mkB) := by
  have h1 := (List.dropWhile_sublist (l := l) (· == (47 : UInt8))).length_le
  have h2 : (rtrim 47 (l.dropWhile (· == 47))).length ≤ l.length := by
    unfold rtrim
    have := (List.dropWhile_sublist (l := (l.dropWhile (· == (47 : UInt8))).reverse) (· == (47 : UInt8))).length_le
    simp at this ⊢; omega
  unfold restfulroutes_ZZTokens.f
  refine Ev.bind (f := fun _ t => some t) ?_ (Ev.now _)
  unfold restfulroutes_tokenizePath.f
  refine Ev.congr (f := fun k => (restfulroutes_trim.f k (mkB l) (mkB [47])).bind fun t123 => ((restfulroutes_split.f k t123 (mkB [47])).bind fun t124 => (some t124))) (fun k => ?_) ?_
  · rw [toList_mkB, if_neg (fun h => hne h.symm)]; rfl
  refine Ev.bind (f := fun k t123 => ((restfulroutes_split.f k t123 (mkB [47])).bind fun t124 => (some t124))) (trim_f 47 l (by omega)) ?_
  exact Ev.bind (f := fun _ t => some t) (split_f 47 _ (by omega)) (Ev.now _)

end Go.Proofs.YtkjepgahnaieaaaDoor.PFnAccept
