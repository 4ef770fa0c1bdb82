/- Plain laws of word, variable, Parts and the tokens of a path; that both cut a template at its slashes alike. -/
import Derived.Test.YtkjepgahnaieaaaPa
namespace Go.Proofs.Ytkjepgahnaieaaa.PFnTokens
open Go.RowKit Go.Proofs.YtkjepgahnaieaaaW.PrintWords Go.Proofs.YtkjepgahnaieaaaW.PrintLast Go.Proofs.YtkjepgahnaieaaaW.PrintMore

/-! ### words -/
def wch (x : Int) : Prop := (97 ≤ x ∧ x ≤ 122) ∨ (65 ≤ x ∧ x ≤ 90) ∨ (48 ≤ x ∧ x ≤ 57) ∨ x = 45
instance (x : Int) : Decidable (wch x) := by unfold wch; exact inferInstance
theorem wch_ifs {α : Type} (x : Int) (X Y : α) :
    (if x ≥ 97 then (if x ≤ 122 then X else (if x ≥ 65 then (if x ≤ 90 then X else (if x ≥ 48 then (if x ≤ 57 then X else (if (x = 45) then X else Y)) else (if (x = 45) then X else Y))) else (if x ≥ 48 then (if x ≤ 57 then X else (if (x = 45) then X else Y)) else (if (x = 45) then X else Y)))) else (if x ≥ 65 then (if x ≤ 90 then X else (if x ≥ 48 then (if x ≤ 57 then X else (if (x = 45) then X else Y)) else (if (x = 45) then X else Y))) else (if x ≥ 48 then (if x ≤ 57 then X else (if (x = 45) then X else Y)) else (if (x = 45) then X else Y))))
    = if wch x then X else Y := by
  by_cases h : wch x
  · rw [if_pos h]
    unfold wch at h
    repeat' split
    all_goals first | rfl | (exfalso; omega)
  · rw [if_neg h]
    unfold wch at h
    repeat' split
    all_goals first | rfl | (exfalso; omega)
/-- Letters, figures and hyphens alone. -/
def wordL (l : List UInt8) : Bool := l.all (fun c => decide (wch (c.toNat : Int))) && !l.isEmpty
theorem word_ev (l : List UInt8) (hl : l.length ≤ 4611686018427387904) (d : Nat) : ∀ i : Nat, i + d = l.length →
    Ev (fun k => spec_word.l0 k (mkB l) (l.length : Int) (i : Int)) ((l.drop i).all (fun c => decide (wch (c.toNat : Int))) && !l.isEmpty) := by
  induction d with
  | zero =>
    intro i hi
    refine Ev.step (f := fun _ => some (!l.isEmpty)) (fun k => ?_) ?_
    · simp only [spec_word.l0]; rw [if_neg (by omega), toList_mkB]; cases l <;> rfl
    · have : l.drop i = [] := List.drop_eq_nil_of_le (by omega)
      rw [this]; simpa using Ev.now (!l.isEmpty)
  | succ d ih =>
    intro i hi
    have hlt : i < l.length := by omega
    have hd : l.drop i = l[i] :: l.drop (i + 1) := List.drop_eq_getElem_cons hlt
    refine Ev.step (f := fun k => if wch (l[i].toNat : Int) then spec_word.l0 k (mkB l) (l.length : Int) ((i + 1 : Nat) : Int) else some false) (fun k => ?_) ?_
    · simp only [spec_word.l0]
      rw [if_pos (by omega), if_pos (by omega), if_pos (by rw [size_mkB]; omega), wch_ifs, bt_mkB l i hlt, wrap_ok (by omega) (by omega)]
      rfl
    · by_cases h : wch (l[i].toNat : Int)
      · refine Ev.congr (fun k => if_pos h) ?_
        have : (l.drop i).all (fun c => decide (wch (c.toNat : Int))) = (l.drop (i + 1)).all (fun c => decide (wch (c.toNat : Int))) := by rw [hd, List.all_cons, decide_eq_true h, Bool.true_and]
        rw [this]; exact ih (i + 1) (by omega)
      · refine Ev.congr (fun k => if_neg h) ?_
        have : (l.drop i).all (fun c => decide (wch (c.toNat : Int))) = false := by rw [hd, List.all_cons, decide_eq_false h, Bool.false_and]
        rw [this, Bool.false_and]; exact Ev.now _
theorem word_f (l : List UInt8) (hl : l.length ≤ 4611686018427387904) : Ev (fun k => spec_word.f k (mkB l)) (wordL l) := by
  have := word_ev l hl l.length 0 (by omega)
  unfold spec_word.f
  rw [size_mkB]
  simpa [wordL] using this

/-! ### the name of a variable: what it is, nobody asks here; it is some text, no longer than the part -/
theorem variable_f (l : List UInt8) (hl : l.length ≤ 1000000000000) : ∃ v : List UInt8, v.length ≤ l.length ∧ Ev (fun k => spec_variable.f k (mkB l)) (mkB v) := by
  have h0 : ∃ v : List UInt8, v.length ≤ l.length ∧ Ev (fun k => some (mkB [])) (mkB v) := ⟨[], by simp, Ev.now _⟩
  unfold spec_variable.f
  rw [size_mkB]
  by_cases c1 : (l.length : Int) > 2
  · have hw : wrap64 ((l.length : Int) - 1) = ((l.length - 1 : Nat) : Int) := by rw [wrap_ok (by omega) (by omega)]; omega
    simp only [hw]
    simp only [if_pos c1]
    simp only [if_pos (show (0 : Int) < (l.length : Int) by omega)]
    by_cases c2 : bt (mkB l) 0 = 123
    · simp only [if_pos c2, if_pos (show (0 : Int) ≤ ((l.length - 1 : Nat) : Int) by omega), if_pos (show ((l.length - 1 : Nat) : Int) < (l.length : Int) by omega)]
      by_cases c3 : bt (mkB l) ((l.length - 1 : Nat) : Int) = 125
      · simp only [if_pos c3, if_pos (show (1 : Int) ≤ ((l.length - 1 : Nat) : Int) by omega), if_pos (show ((l.length - 1 : Nat) : Int) ≤ (l.length : Int) by omega), Int.toNat_natCast, extract_mkB]
        have hlen : (List.take (l.length - 1 - 1) (List.drop 1 l)).length ≤ l.length := by simp; omega
        have hw2 := word_f (List.take (l.length - 1 - 1) (List.drop 1 l)) (by omega)
        by_cases c4 : wordL (List.take (l.length - 1 - 1) (List.drop 1 l)) = true
        · refine ⟨_, hlen, Ev.bind hw2 (Ev.congr (fun k => ?_) (Ev.now _))⟩
          rw [if_pos c4]
        · refine ⟨[], by simp, Ev.bind hw2 (Ev.congr (fun k => ?_) (Ev.now _))⟩
          rw [if_neg c4]; rfl
      · simp only [if_neg c3]; exact h0
    · simp only [if_neg c2]; exact h0
  · simp only [if_neg c1]; exact h0

/-! ### the parts of a path -/
def partsL (l : List UInt8) : List (List UInt8) := (splitL 47 l).filter (fun p => !p.isEmpty)
theorem partsL_len (l : List UInt8) : (partsL l).length ≤ l.length + 1 := Nat.le_trans (List.length_filter_le _ _) (splitL_len 47 l)
theorem partsL_mem {l p : List UInt8} (h : p ∈ partsL l) : p.length ≤ l.length := splitL_mem_len (List.mem_filter.1 h).1

theorem parts_ev (l : List UInt8) (hl : l.length ≤ 1000000000000) (d : Nat) : ∀ (f i : Nat) (acc : List ByteArray), i + d = l.length + 1 → f ≤ i → (i = l.length + 1 → f = l.length + 1) → acc.length ≤ f →
    (47 : UInt8) ∉ (l.drop f).take (i - f) →
    Ev (fun k => spec_Parts.l0 k (mkB l) acc (f : Int) (i : Int)) (acc ++ ((splitL 47 (l.drop f)).filter (fun p => !p.isEmpty)).map mkB) := by
  induction d with
  | zero =>
    intro f i acc hi hf hfe ha hn
    have hfl := hfe (by omega)
    refine Ev.step (f := fun _ => some acc) (fun k => ?_) ?_
    · simp only [spec_Parts.l0]; rw [size_mkB, if_neg (by omega)]
    · have : l.drop f = [] := List.drop_eq_nil_of_le (by omega)
      rw [this]; simpa [splitL] using Ev.now acc
  | succ d ih =>
    intro f i acc hi hf hfe ha hn
    -- the place i ends a part
    have ending : (47 : UInt8) ∉ (l.drop f).take (i - f) → (splitL 47 (l.drop f) = (l.drop f).take (i - f) :: splitL 47 (l.drop (i + 1))) ∨ i = l.length →
        Ev (fun k => spec_Parts.j1 k (mkB l) acc (f : Int) (i : Int) false) (acc ++ ((splitL 47 (l.drop f)).filter (fun p => !p.isEmpty)).map mkB) := by
      intro hn hs
      have hs2 : (splitL 47 (l.drop f)).filter (fun p => !p.isEmpty) = ([(l.drop f).take (i - f)].filter (fun p => !p.isEmpty)) ++ (splitL 47 (l.drop (i + 1))).filter (fun p => !p.isEmpty) := by
        rcases hs with hs | hs
        · rw [hs]; exact List.filter_append [_] _
        · have e1 : l.drop (i + 1) = [] := List.drop_eq_nil_of_le (by omega)
          have e2 : (l.drop f).take (i - f) = l.drop f := List.take_of_length_le (by simp; omega)
          rw [e1, e2]
          rw [e2] at hn
          rw [splitL_none hn]
          simp [splitL]
      have hw : wrap64 ((i : Int) + 1) = ((i + 1 : Nat) : Int) := wrap_ok (by omega) (by omega)
      by_cases c : (i : Int) > (f : Int)
      · refine Ev.step (f := fun k => spec_Parts.l0 k (mkB l) (acc ++ [mkB ((l.drop f).take (i - f))]) ((i + 1 : Nat) : Int) ((i + 1 : Nat) : Int)) (fun k => ?_) ?_
        · simp only [spec_Parts.j1]
          rw [if_neg (by simp), if_pos c, if_pos (by omega), if_pos (by omega), if_pos (by rw [size_mkB]; omega), if_pos (by omega), hw, Int.toNat_natCast, Int.toNat_natCast, extract_mkB]
        · have hne : (!((l.drop f).take (i - f)).isEmpty) = true := by
            rw [Bool.not_eq_true', List.isEmpty_eq_false_iff, ne_eq, ← List.length_eq_zero_iff, List.length_take, List.length_drop]
            omega
          have := ih (i + 1) (i + 1) (acc ++ [mkB ((l.drop f).take (i - f))]) (by omega) (Nat.le_refl _) (by omega) (by simp; omega) (by simp)
          rw [hs2, List.filter_cons, if_pos hne, List.filter_nil, List.map_append, List.map_cons, List.map_nil, ← List.append_assoc]
          exact this
      · have hfi : f = i := by omega
        subst hfi
        refine Ev.step (f := fun k => spec_Parts.l0 k (mkB l) acc ((f + 1 : Nat) : Int) ((f + 1 : Nat) : Int)) (fun k => ?_) ?_
        · simp only [spec_Parts.j1]
          rw [if_neg (by simp), if_neg c, hw]
        · have := ih (f + 1) (f + 1) acc (by omega) (Nat.le_refl _) (by omega) (by omega) (by simp)
          rw [hs2]
          simpa using this
    have hw : wrap64 ((i : Int) + 1) = ((i + 1 : Nat) : Int) := wrap_ok (by omega) (by omega)
    by_cases hlt : i < l.length
    · refine Ev.step (f := fun k => spec_Parts.j1 k (mkB l) acc (f : Int) (i : Int) ((bt (mkB l) i) != 47)) (fun k => ?_) ?_
      · simp only [spec_Parts.l0]
        rw [size_mkB, if_pos (by omega), if_pos (by omega), if_pos (by omega)]
      rw [bt_mkB l i hlt]
      have hd : (l.drop f).drop (i - f) = l[i] :: l.drop (i + 1) := by
        rw [List.drop_drop, show f + (i - f) = i by omega]; exact List.drop_eq_getElem_cons hlt
      by_cases e : l[i] = 47
      · have e2 : (((l[i].toNat : Int)) != 47) = false := by rw [e]; rfl
        rw [e2]
        refine ending hn (.inl ?_)
        have h1 : l.drop f = (l.drop f).take (i - f) ++ 47 :: l.drop (i + 1) := by
          conv => lhs; rw [← List.take_append_drop (i - f) (l.drop f)]
          rw [hd, e]
        conv => lhs; rw [h1]
        exact splitL_at hn _
      · have e2 : (((l[i].toNat : Int)) != 47) = true := by
          rw [bne_iff_ne]; intro h
          exact e (UInt8.toNat_inj.1 (by simpa using (by omega : l[i].toNat = 47)))
        rw [e2]
        refine Ev.step (f := fun k => spec_Parts.l0 k (mkB l) acc (f : Int) ((i + 1 : Nat) : Int)) (fun k => ?_) ?_
        · simp only [spec_Parts.j1]; rw [if_pos trivial, hw]
        · refine ih f (i + 1) acc (by omega) (by omega) (by omega) ha ?_
          rw [show i + 1 - f = (i - f) + 1 by omega, List.take_succ_eq_append_getElem (by simp; omega)]
          intro h
          rcases List.mem_append.1 h with h | h
          · exact hn h
          · simp only [List.mem_singleton, List.getElem_drop] at h
            apply e
            rw [h]
            congr 1
            omega
    · have hie : i = l.length := by omega
      refine Ev.step (f := fun k => spec_Parts.j1 k (mkB l) acc (f : Int) (i : Int) false) (fun k => ?_) ?_
      · simp only [spec_Parts.l0]
        rw [size_mkB, if_pos (by omega), if_neg (by omega)]
      exact ending hn (.inr hie)
theorem parts_f (l : List UInt8) (hl : l.length ≤ 1000000000000) : Ev (fun k => spec_Parts.f k (mkB l)) ((partsL l).map mkB) := by
  have := parts_ev l hl (l.length + 1) 0 0 [] (by omega) (Nat.le_refl _) (by omega) (by simp) (by simp)
  unfold spec_Parts.f
  simpa [partsL] using this

/-! ### the tokens of a path -/
theorem tokens_f (l : List UInt8) (hl : l.length ≤ 1000000000000) (hne : l ≠ [47]) : Ev (fun k => restfulroutes_ZZTokens.f k (mkB l)) ((splitL 47 (rtrim 47 (l.dropWhile (· == 47)))).map mkB) := by
  have h1 := (List.dropWhile_sublist (l := l) (· == (47 : UInt8))).length_le
  have h2 : (rtrim 47 (l.dropWhile (· == 47))).length ≤ l.length := by
    unfold rtrim
    have := (List.dropWhile_sublist (l := (l.dropWhile (· == (47 : UInt8))).reverse) (· == (47 : UInt8))).length_le
    simp at this ⊢; omega
  unfold restfulroutes_ZZTokens.f
  refine Ev.bind (f := fun _ t => some t) ?_ (Ev.now _)
  unfold restfulroutes_tokenizePath.f
  refine Ev.congr (f := fun k => (restfulroutes_trim.f k (mkB l) (mkB [47])).bind fun t123 => ((restfulroutes_split.f k t123 (mkB [47])).bind fun t124 => (some t124))) (fun k => ?_) ?_
  · rw [toList_mkB, if_neg (fun h => hne h.symm)]; rfl
  refine Ev.bind (f := fun k t123 => ((restfulroutes_split.f k t123 (mkB [47])).bind fun t124 => (some t124))) (trim_f 47 l (by omega)) ?_
  exact Ev.bind (f := fun _ t => some t) (split_f 47 _ (by omega)) (Ev.now _)

/-! ### a template is cut alike by both -/
/-- What a template that is neither empty nor a lone slash has, as far as it matters here. -/
structure TG (l : List UInt8) : Prop where
  len : l.length ≤ 100
  first : l[0]? = some 47
  last : l[l.length - 1]? ≠ some 47
  apart : ∀ i, 1 ≤ i → i < l.length → ¬ (l[i]? = some 47 ∧ l[i - 1]? = some 47)
/-- No two slashes together, none at the end; b: one stands ahead. -/
def nb : Bool → List UInt8 → Bool
  | b, [] => !b
  | b, d :: r => if d = 47 then !b && nb true r else nb false r
theorem nb_split : ∀ (t : List UInt8), (nb true t = true → ∀ p ∈ splitL 47 t, p ≠ []) ∧ (nb false t = true → ∀ p ∈ (splitL 47 t).tail, p ≠ [])
  | [] => ⟨fun h => by simp [nb] at h, fun _ p hp => by simp [splitL] at hp⟩
  | d :: r => by
    obtain ⟨ih1, ih2⟩ := nb_split r
    by_cases e : d = 47
    · refine ⟨fun h => by simp [nb, e] at h, fun h p hp => ?_⟩
      have hr : nb true r = true := by simpa [nb, e] using h
      have hp' : p ∈ splitL 47 r := by simpa [splitL, e] using hp
      exact ih1 hr p hp'
    · have key : nb false r = true → ∀ p ∈ splitL 47 (d :: r), p ≠ [] := by
        intro hr p hp
        have i2 := ih2 hr
        unfold splitL at hp
        rw [if_neg e] at hp
        split at hp
        · rename_i h t eq
          rcases List.mem_cons.1 hp with hp | hp
          · rw [hp]; simp
          · exact i2 p (by rw [eq]; exact hp)
        · simp at hp; rw [hp]; simp
      refine ⟨fun h => key (by simpa [nb, e] using h), fun h p hp => key (by simpa [nb, e] using h) p (List.mem_of_mem_tail hp)⟩
theorem nb_of : ∀ (t : List UInt8) (b : Bool), (b = true → t[0]? ≠ some 47) → (t = [] → b = false) → (t ≠ [] → t[t.length - 1]? ≠ some 47) → (∀ i, 1 ≤ i → i < t.length → ¬ (t[i]? = some 47 ∧ t[i - 1]? = some 47)) → nb b t = true
  | [], b, _, h2, _, _ => by rw [h2 rfl]; rfl
  | d :: r, b, h1, _, h3, h4 => by
    have hl : r ≠ [] → r[r.length - 1]? ≠ some 47 := by
      intro hr
      have := h3 (by simp)
      have hpos : 0 < r.length := List.length_pos_iff.2 hr
      have e : (d :: r).length - 1 = (r.length - 1) + 1 := by simp; omega
      rw [e, List.getElem?_cons_succ] at this
      exact this
    have ha : ∀ i, 1 ≤ i → i < r.length → ¬ (r[i]? = some 47 ∧ r[i - 1]? = some 47) := by
      intro i h1 hi hh
      refine h4 (i + 1) (by omega) (by simp; omega) ?_
      rw [List.getElem?_cons_succ]
      refine ⟨hh.1, ?_⟩
      rw [show i + 1 - 1 = (i - 1) + 1 by omega, List.getElem?_cons_succ]
      exact hh.2
    by_cases e : d = 47
    · have hb : b = false := by
        cases b with
        | false => rfl
        | true => exact absurd (by simp [e]) (h1 rfl)
      have hr0 : r ≠ [] := by
        intro hr
        subst hr
        exact h3 (by simp) (by simp [e])
      have := nb_of r true (fun _ h => h4 1 (by omega) (by have := List.length_pos_iff.2 hr0; simp; omega) ⟨by simpa using h, by simp [e]⟩) (fun h => absurd h hr0) hl ha
      simp [nb, e, hb, this]
    · have := nb_of r false (fun h => by cases h) (fun _ => rfl) hl ha
      simp [nb, e, this]
theorem same_cut {l : List UInt8} (h : TG l) : splitL 47 (rtrim 47 (l.dropWhile (· == 47))) = partsL l := by
  obtain ⟨_, h1, h2, h3⟩ := h
  match l, h1, h2, h3 with
  | d :: t, h1, h2, h3 =>
    have hd : d = 47 := by simpa using h1
    subst hd
    have ht : t ≠ [] := by intro e; subst e; simp at h2
    have hpos : 0 < t.length := List.length_pos_iff.2 ht
    have hl : t[t.length - 1]? ≠ some 47 := by
      have e : (47 :: t).length - 1 = (t.length - 1) + 1 := by simp; omega
      rw [e, List.getElem?_cons_succ] at h2
      exact h2
    have h0 : t[0]? ≠ some 47 := fun hh => h3 1 (by omega) (by simp; omega) ⟨by simpa using hh, by simp⟩
    have ha : ∀ i, 1 ≤ i → i < t.length → ¬ (t[i]? = some 47 ∧ t[i - 1]? = some 47) := by
      intro i h1 hi hh
      refine h3 (i + 1) (by omega) (by simp; omega) ?_
      rw [List.getElem?_cons_succ]
      refine ⟨hh.1, ?_⟩
      rw [show i + 1 - 1 = (i - 1) + 1 by omega, List.getElem?_cons_succ]
      exact hh.2
    have hall := (nb_split t).1 (nb_of t true (fun _ => h0) (fun e => absurd e ht) (fun _ => hl) ha)
    have e1 : (47 :: t).dropWhile (· == (47 : UInt8)) = t := by
      rw [List.dropWhile_cons, if_pos (by simp)]
      cases t with
      | nil => rfl
      | cons a r =>
        have : a ≠ 47 := by simpa using h0
        rw [List.dropWhile_cons, if_neg (by simpa using this)]
    have e2 : rtrim 47 t = t := by
      unfold rtrim
      have hrev : t.reverse.dropWhile (· == (47 : UInt8)) = t.reverse := by
        have hh : t.reverse.head? = t[t.length - 1]? := by rw [List.head?_reverse, List.getLast?_eq_getElem?]
        cases hr : t.reverse with
        | nil => rfl
        | cons a r =>
          rw [hr] at hh
          have : a ≠ 47 := by intro e; apply hl; rw [← hh, e]; rfl
          rw [List.dropWhile_cons, if_neg (by simpa using this)]
      rw [hrev, List.reverse_reverse]
    rw [e1, e2]
    unfold partsL
    have e3 : splitL 47 (47 :: t) = [] :: splitL 47 t := by simp [splitL]
    rw [e3, List.filter_cons, if_neg (by simp)]
    symm
    rw [List.filter_eq_self]
    intro p hp
    have := hall p hp
    simpa using this
end Go.Proofs.Ytkjepgahnaieaaa.PFnTokens
