/- Plain laws of the functions on texts (index, split, trim, contains, word, Parts): what each comes to, on lists of bytes, for all texts shorter than 2^62. -/
import Derived.Test.YtkjepgahnaieaaaDoorFa
import Derived.Lib.Strings
namespace Go.Proofs.YtkjepgahnaieaaaDoor.PFnAccept
open Go.RowKit Go.Proofs.YtkjepgahnaieaaaDoorW.PrintWords Go.Proofs.YtkjepgahnaieaaaDoorW.PrintLast Go.Proofs.YtkjepgahnaieaaaDoorW.PrintMore

/-! ### texts as lists of bytes -/
def mkB (l : List UInt8) : ByteArray := ⟨l.toArray⟩
theorem mkB_data (s : ByteArray) : mkB s.data.toList = s := Lib.mk_data s
theorem data_mkB (l : List UInt8) : (mkB l).data.toList = l := rfl
theorem size_mkB (l : List UInt8) : (mkB l).size = l.length := by rw [Lib.size_eq, data_mkB]
theorem toList_mkB (l : List UInt8) : (mkB l).toList = l := by rw [Lib.toList_data, data_mkB]
theorem extract_mkB (l : List UInt8) (a b : Nat) : (mkB l).extract a b = mkB ((l.drop a).take (b - a)) := by
  rw [Lib.extract_eq, data_mkB]; rfl
theorem bt_mkB (l : List UInt8) (i : Nat) (h : i < l.length) : bt (mkB l) (i : Int) = (l[i].toNat : Int) := by
  unfold bt
  have h1 : ((i : Int)).toNat < (mkB l).size := by rw [size_mkB]; omega
  rw [dif_pos h1]
  rfl
theorem append_mkB (a b : List UInt8) : mkB a ++ mkB b = mkB (a ++ b) := by
  rw [← mkB_data (mkB a ++ mkB b)]; congr 1
theorem mkB_inj {a b : List UInt8} (h : mkB a = mkB b) : a = b := by
  have := congrArg (fun s : ByteArray => s.data.toList) h
  simpa [data_mkB] using this
theorem wrap_ok {x : Int} (h0 : -9223372036854775808 ≤ x) (h1 : x ≤ 9223372036854775807) : wrap64 x = x := by
  unfold wrap64; omega

/-! ### the first place of a byte -/
def pos (c : UInt8) (l : List UInt8) : Nat := (l.takeWhile (· != c)).length
theorem pos_le (c : UInt8) (l : List UInt8) : pos c l ≤ l.length := (List.takeWhile_sublist _).length_le
theorem pos_cons_eq (c : UInt8) (l : List UInt8) : pos c (c :: l) = 0 := by simp [pos]
theorem pos_cons_ne {c d : UInt8} (h : d ≠ c) (l : List UInt8) : pos c (d :: l) = pos c l + 1 := by simp [pos, h]
theorem pos_lt {c : UInt8} {l : List UInt8} (h : c ∈ l) : pos c l < l.length := by
  induction l with
  | nil => cases h
  | cons d r ih =>
    by_cases e : d = c
    · subst e; rw [pos_cons_eq]; simp
    · rw [pos_cons_ne e]
      have := ih (by rcases List.mem_cons.1 h with h | h; exact absurd h.symm e; exact h)
      simp; omega
def idx (c : UInt8) (l : List UInt8) (i : Nat) : Int := if c ∈ l then (i : Int) + pos c l else -1

theorem index_ev (c : UInt8) (l : List UInt8) (hl : l.length ≤ 4611686018427387904) (d : Nat) : ∀ i : Nat, i + d = l.length →
    Ev (fun k => restfulroutes_index.l0 k (mkB l) (mkB [c]) (i : Int)) (idx c (l.drop i) i) := by
  induction d with
  | zero =>
    intro i hi
    refine Ev.step (f := fun _ => some (-1)) (fun k => ?_) ?_
    · simp only [restfulroutes_index.l0]
      rw [size_mkB, size_mkB, wrap_ok (by simp; omega) (by simp; omega), if_neg (by simp; omega)]
    · have : idx c (l.drop i) i = -1 := by rw [List.drop_eq_nil_of_le (by omega)]; simp [idx]
      rw [this]; exact Ev.now _
  | succ d ih =>
    intro i hi
    have hlt : i < l.length := by omega
    have hd : l.drop i = l[i] :: l.drop (i + 1) := List.drop_eq_getElem_cons hlt
    have hex : ((mkB l).extract i (i + 1)).toList = [l[i]] := by
      rw [extract_mkB, toList_mkB, hd, show i + 1 - i = 1 by omega]; rfl
    have hw : wrap64 ((i : Int) + ((mkB [c]).size : Int)) = ((i + 1 : Nat) : Int) := by
      rw [size_mkB, wrap_ok (by simp; omega) (by simp; omega)]; simp
    by_cases e : l[i] = c
    · refine Ev.step (f := fun _ => some (i : Int)) (fun k => ?_) ?_
      · simp only [restfulroutes_index.l0]
        rw [hw, size_mkB, if_pos (by omega), if_pos (by omega), if_pos (by omega)]
        rw [Int.toNat_natCast, Int.toNat_natCast, hex, toList_mkB, e, if_pos rfl]
      · have : idx c (l.drop i) i = (i : Int) := by rw [hd, e]; simp [idx, pos_cons_eq]
        rw [this]; exact Ev.now _
    · refine Ev.step (f := fun k => restfulroutes_index.l0 k (mkB l) (mkB [c]) ((i + 1 : Nat) : Int)) (fun k => ?_) ?_
      · simp only [restfulroutes_index.l0]
        rw [hw, size_mkB, if_pos (by omega), if_pos (by omega), if_pos (by omega)]
        rw [Int.toNat_natCast, Int.toNat_natCast, hex, toList_mkB, if_neg (by simpa using e)]
        rw [wrap_ok (by omega) (by omega)]; simp
      · have : idx c (l.drop i) i = idx c (l.drop (i + 1)) (i + 1) := by
          rw [hd]; unfold idx
          rw [pos_cons_ne e]
          have hm : (c ∈ l[i] :: l.drop (i + 1)) ↔ c ∈ l.drop (i + 1) := by
            rw [List.mem_cons]; constructor
            · rintro (h | h); exact absurd h.symm e; exact h
            · exact Or.inr
          by_cases hc : c ∈ l.drop (i + 1)
          · rw [if_pos (hm.2 hc), if_pos hc]; omega
          · rw [if_neg (fun h => hc (hm.1 h)), if_neg hc]
        rw [this]
        exact ih (i + 1) (by omega)
theorem index_f (c : UInt8) (l : List UInt8) (hl : l.length ≤ 4611686018427387904) : Ev (fun k => restfulroutes_index.f k (mkB l) (mkB [c])) (idx c l 0) := by
  have := index_ev c l hl l.length 0 (by omega)
  simpa [restfulroutes_index.f] using this

/-! ### split at a byte -/
def splitL (c : UInt8) : List UInt8 → List (List UInt8)
  | [] => [[]]
  | d :: r => if d = c then [] :: splitL c r else match splitL c r with
    | h :: t => (d :: h) :: t
    | [] => [[d]]
theorem splitL_ne (c : UInt8) (l : List UInt8) : splitL c l ≠ [] := by
  cases l with
  | nil => simp [splitL]
  | cons d r =>
    unfold splitL
    split
    · simp
    · split <;> simp
theorem splitL_none {c : UInt8} {a : List UInt8} (h : c ∉ a) : splitL c a = [a] := by
  induction a with
  | nil => rfl
  | cons d r ih =>
    have h1 : d ≠ c := fun e => h (by simp [e])
    have h2 : c ∉ r := fun e => h (by simp [e])
    unfold splitL
    rw [if_neg h1, ih h2]
theorem splitL_at {c : UInt8} {a : List UInt8} (h : c ∉ a) (b : List UInt8) : splitL c (a ++ c :: b) = a :: splitL c b := by
  induction a with
  | nil => simp [splitL]
  | cons d r ih =>
    have h1 : d ≠ c := fun e => h (by simp [e])
    have h2 : c ∉ r := fun e => h (by simp [e])
    rw [List.cons_append]
    conv => lhs; unfold splitL
    rw [if_neg h1, ih h2]
theorem not_mem_take_pos (c : UInt8) (l : List UInt8) : c ∉ l.take (pos c l) := by
  induction l with
  | nil => simp
  | cons d r ih =>
    by_cases e : d = c
    · subst e; rw [pos_cons_eq]; simp
    · rw [pos_cons_ne e, List.take_succ_cons]
      intro h
      rcases List.mem_cons.1 h with h | h
      · exact e h.symm
      · exact ih h
theorem at_pos {c : UInt8} {l : List UInt8} (h : c ∈ l) : l = l.take (pos c l) ++ c :: l.drop (pos c l + 1) := by
  induction l with
  | nil => cases h
  | cons d r ih =>
    by_cases e : d = c
    · subst e; rw [pos_cons_eq]; simp
    · have hr : c ∈ r := by rcases List.mem_cons.1 h with h | h; exact absurd h.symm e; exact h
      rw [pos_cons_ne e, List.take_succ_cons, List.drop_succ_cons, List.cons_append, ← ih hr]
theorem splitL_pos {c : UInt8} {l : List UInt8} (h : c ∈ l) : splitL c l = l.take (pos c l) :: splitL c (l.drop (pos c l + 1)) := by
  conv => lhs; rw [at_pos h]
  exact splitL_at (not_mem_take_pos c l) _
theorem splitL_len (c : UInt8) (l : List UInt8) : (splitL c l).length ≤ l.length + 1 := by
  induction l with
  | nil => simp [splitL]
  | cons d r ih =>
    unfold splitL
    split
    · simpa using ih
    · split
      · rename_i h; rw [h] at ih; simp at ih ⊢; omega
      · simp
theorem splitL_mem_len {c : UInt8} {l p : List UInt8} (h : p ∈ splitL c l) : p.length ≤ l.length := by
  induction l generalizing p with
  | nil => simp [splitL] at h; simp [h]
  | cons d r ih =>
    unfold splitL at h
    split at h
    · rcases List.mem_cons.1 h with h | h
      · simp [h]
      · have := ih h; simp; omega
    · split at h
      · rename_i a t e
        rcases List.mem_cons.1 h with h | h
        · have := ih (p := a) (by rw [e]; simp); simp [h]; omega
        · have := ih (p := p) (by rw [e]; simp [h]); simp; omega
      · simp at h; simp [h]

theorem splitN_ev (c : UInt8) (n : Nat) : ∀ (l : List UInt8) (acc : List ByteArray), l.length ≤ n → acc.length + l.length ≤ 1000000000000 →
    Ev (fun k => restfulroutes_splitN.l0 k (mkB l) (mkB [c]) (-1) acc) (acc ++ (splitL c l).map mkB) := by
  induction n with
  | zero =>
    intro l acc hn hl
    have hnil : l = [] := List.length_eq_zero_iff.1 (by omega)
    subst hnil
    refine Ev.step (f := fun k => restfulroutes_splitN.j1 k (mkB []) (mkB [c]) (-1) acc true) (fun k => ?_) ?_
    · simp only [restfulroutes_splitN.l0]; rw [if_pos (by omega)]
    refine Ev.step (f := fun k => (restfulroutes_index.f k (mkB []) (mkB [c])).bind fun t105 => (if t105 < 0 then (if acc.length < 8796093022208 then (some (acc ++ [mkB []])) else (none)) else (if 0 ≤ t105 then (if t105 ≤ ((mkB []).size : Int) then (if acc.length < 8796093022208 then (if 0 ≤ (wrap64 (t105 + ((mkB [c]).size : Int))) then (if (wrap64 (t105 + ((mkB [c]).size : Int))) ≤ ((mkB []).size : Int) then (restfulroutes_splitN.l0 k ((mkB []).extract ((wrap64 (t105 + ((mkB [c]).size : Int))) : Int).toNat (mkB []).size) (mkB [c]) (-1) (acc ++ [(mkB []).extract 0 (t105 : Int).toNat])) else (none)) else (none)) else (none)) else (none)) else (none)))) (fun k => ?_) ?_
    · simp only [restfulroutes_splitN.j1]; rw [if_pos trivial]
    refine Ev.bind (index_f c [] (by simp)) ?_
    have : idx c [] 0 = -1 := by simp [idx]
    rw [this]
    refine Ev.congr (f := fun _ => some (acc ++ [mkB []])) (fun k => ?_) ?_
    · rw [if_pos (by omega), if_pos (by omega)]
    · have e : acc ++ (splitL c []).map mkB = acc ++ [mkB []] := by simp [splitL]
      rw [e]; exact Ev.now _
  | succ n ih =>
    intro l acc hn hl
    refine Ev.step (f := fun k => restfulroutes_splitN.j1 k (mkB l) (mkB [c]) (-1) acc true) (fun k => ?_) ?_
    · simp only [restfulroutes_splitN.l0]; rw [if_pos (by omega)]
    refine Ev.step (f := fun k => (restfulroutes_index.f k (mkB l) (mkB [c])).bind fun t105 => (if t105 < 0 then (if acc.length < 8796093022208 then (some (acc ++ [mkB l])) else (none)) else (if 0 ≤ t105 then (if t105 ≤ ((mkB l).size : Int) then (if acc.length < 8796093022208 then (if 0 ≤ (wrap64 (t105 + ((mkB [c]).size : Int))) then (if (wrap64 (t105 + ((mkB [c]).size : Int))) ≤ ((mkB l).size : Int) then (restfulroutes_splitN.l0 k ((mkB l).extract ((wrap64 (t105 + ((mkB [c]).size : Int))) : Int).toNat (mkB l).size) (mkB [c]) (-1) (acc ++ [(mkB l).extract 0 (t105 : Int).toNat])) else (none)) else (none)) else (none)) else (none)) else (none)))) (fun k => ?_) ?_
    · simp only [restfulroutes_splitN.j1]; rw [if_pos trivial]
    refine Ev.bind (index_f c l (by omega)) ?_
    by_cases hc : c ∈ l
    · have hp := pos_lt hc
      have e : idx c l 0 = ((pos c l : Nat) : Int) := by simp [idx, hc]
      rw [e]
      have hw : wrap64 (((pos c l : Nat) : Int) + ((mkB [c]).size : Int)) = ((pos c l + 1 : Nat) : Int) := by
        rw [size_mkB, wrap_ok (by simp; omega) (by simp; omega)]; simp
      refine Ev.congr (f := fun k => restfulroutes_splitN.l0 k (mkB (l.drop (pos c l + 1))) (mkB [c]) (-1) (acc ++ [mkB (l.take (pos c l))])) (fun k => ?_) ?_
      · rw [if_neg (by omega), if_pos (by omega), if_pos (by rw [size_mkB]; omega), if_pos (by omega), hw, if_pos (by omega), if_pos (by rw [size_mkB]; omega)]
        rw [Int.toNat_natCast, Int.toNat_natCast, extract_mkB, extract_mkB, size_mkB]
        simp only [List.drop_zero, Nat.sub_zero]
        rw [List.take_of_length_le (l := l.drop (pos c l + 1)) (by simp)]
      · have := ih (l.drop (pos c l + 1)) (acc ++ [mkB (l.take (pos c l))]) (by simp; omega) (by simp; omega)
        rw [splitL_pos hc]
        simpa using this
    · have e : idx c l 0 = -1 := by simp [idx, hc]
      rw [e]
      refine Ev.congr (f := fun _ => some (acc ++ [mkB l])) (fun k => ?_) ?_
      · rw [if_pos (by omega), if_pos (by omega)]
      · have e : acc ++ (splitL c l).map mkB = acc ++ [mkB l] := by rw [splitL_none hc]; simp
        rw [e]; exact Ev.now _
theorem split_f (c : UInt8) (l : List UInt8) (hl : l.length ≤ 1000000000000) : Ev (fun k => restfulroutes_split.f k (mkB l) (mkB [c])) ((splitL c l).map mkB) := by
  have h := splitN_ev c l.length l [] (Nat.le_refl _) (by simpa using hl)
  rw [List.nil_append] at h
  unfold restfulroutes_split.f
  exact Ev.bind (f := fun _ t => some t) h (Ev.now _)

/-! ### trim -/
theorem contains_f (c d : UInt8) : Ev (fun k => restfulroutes_contains.f k (mkB [c]) (mkB [d])) (decide (d = c)) := by
  unfold restfulroutes_contains.f
  refine Ev.bind (f := fun _ t => some (decide (t ≥ 0))) (index_f d [c] (by simp)) ?_
  by_cases e : d = c
  · subst e
    have h1 : idx d [d] 0 = 0 := by simp [idx, pos_cons_eq]
    rw [h1]; simpa using Ev.now true
  · have h1 : idx d [c] 0 = -1 := by simp [idx, e]
    rw [h1]; simpa [e] using Ev.now false
theorem trimLeft_ev (c : UInt8) : ∀ l : List UInt8, Ev (fun k => restfulroutes_trimLeft.l0 k (mkB l) (mkB [c])) (mkB (l.dropWhile (· == c))) := by
  intro l
  induction l with
  | nil =>
    refine Ev.step (f := fun _ => some (mkB [])) (fun k => ?_) (Ev.now _)
    simp only [restfulroutes_trimLeft.l0]; rw [if_neg (by simp [size_mkB])]
  | cons d r ih =>
    refine Ev.step (f := fun k => (restfulroutes_contains.f k (mkB [c]) (mkB [d])).bind fun t119 => (if t119 = true then (restfulroutes_trimLeft.l0 k (mkB r) (mkB [c])) else (some (mkB (d :: r))))) (fun k => ?_) ?_
    · simp only [restfulroutes_trimLeft.l0]
      rw [if_pos (by rw [size_mkB, List.length_cons]; omega), if_pos (by omega), if_pos (by rw [size_mkB, List.length_cons]; omega), extract_mkB, extract_mkB, size_mkB]
      simp
    refine Ev.bind (contains_f c d) ?_
    by_cases e : d = c
    · refine Ev.congr (f := fun k => restfulroutes_trimLeft.l0 k (mkB r) (mkB [c])) (fun k => by simp [e]) ?_
      have : (d :: r).dropWhile (· == c) = r.dropWhile (· == c) := by simp [e]
      rw [this]; exact ih
    · refine Ev.congr (f := fun k => some (mkB (d :: r))) (fun k => by simp [e]) ?_
      have : (d :: r).dropWhile (· == c) = d :: r := by simp [e]
      rw [this]; exact Ev.now _
/-- A text without the bytes c at its end. -/
def rtrim (c : UInt8) (l : List UInt8) : List UInt8 := (l.reverse.dropWhile (· == c)).reverse
theorem trimRight_ev (c : UInt8) (n : Nat) : ∀ l : List UInt8, l.length = n → n ≤ 4611686018427387904 → Ev (fun k => restfulroutes_trimRight.l0 k (mkB l) (mkB [c])) (mkB (rtrim c l)) := by
  induction n with
  | zero =>
    intro l hl _
    have : l = [] := List.length_eq_zero_iff.1 hl
    subst this
    refine Ev.step (f := fun _ => some (mkB [])) (fun k => ?_) (Ev.now _)
    simp only [restfulroutes_trimRight.l0]; rw [if_neg (by simp [size_mkB])]
  | succ n ih =>
    intro l hl hn
    obtain ⟨r, d, rfl⟩ : ∃ r d, l = r ++ [d] := ⟨l.dropLast, l.getLast (by intro h; simp [h] at hl), (List.dropLast_concat_getLast _).symm⟩
    have hr : r.length = n := by simpa using hl
    have hw : wrap64 (((mkB (r ++ [d])).size : Int) - 1) = (n : Int) := by
      rw [size_mkB, hl, wrap_ok (by omega) (by omega)]; omega
    refine Ev.step (f := fun k => (restfulroutes_contains.f k (mkB [c]) (mkB [d])).bind fun t120 => (if t120 = true then (restfulroutes_trimRight.l0 k (mkB r) (mkB [c])) else (some (mkB (r ++ [d]))))) (fun k => ?_) ?_
    · simp only [restfulroutes_trimRight.l0]
      rw [hw, if_pos (by rw [size_mkB]; omega), if_pos (by omega), if_pos (by rw [size_mkB]; omega), Int.toNat_natCast, extract_mkB, extract_mkB, size_mkB]
      have e1 : List.take ((r ++ [d]).length - n) (List.drop n (r ++ [d])) = [d] := by
        rw [List.drop_append_of_le_length (by omega), List.drop_eq_nil_of_le (by omega)]; simp [hr]
      have e2 : List.take (n - 0) (List.drop 0 (r ++ [d])) = r := by
        simp [← hr]
      rw [e1, e2]
    refine Ev.bind (contains_f c d) ?_
    by_cases e : d = c
    · refine Ev.congr (f := fun k => restfulroutes_trimRight.l0 k (mkB r) (mkB [c])) (fun k => by simp [e]) ?_
      have : rtrim c (r ++ [d]) = rtrim c r := by simp [rtrim, e]
      rw [this]; exact ih r hr (by omega)
    · refine Ev.congr (f := fun k => some (mkB (r ++ [d]))) (fun k => by simp [e]) ?_
      have : rtrim c (r ++ [d]) = r ++ [d] := by simp [rtrim, e]
      rw [this]; exact Ev.now _
theorem trim_f (c : UInt8) (l : List UInt8) (hl : l.length ≤ 4611686018427387904) : Ev (fun k => restfulroutes_trim.f k (mkB l) (mkB [c])) (mkB (rtrim c (l.dropWhile (· == c)))) := by
  unfold restfulroutes_trim.f restfulroutes_trimLeft.f restfulroutes_trimRight.f
  have h1 := (List.dropWhile_sublist (l := l) (· == c)).length_le
  refine Ev.bind (f := fun k t => (restfulroutes_trimRight.l0 k t (mkB [c])).bind fun t122 => (some t122)) (trimLeft_ev c l) ?_
  exact Ev.bind (f := fun _ t => some t) (trimRight_ev c _ _ rfl (by omega)) (Ev.now _)
end Go.Proofs.YtkjepgahnaieaaaDoor.PFnAccept
