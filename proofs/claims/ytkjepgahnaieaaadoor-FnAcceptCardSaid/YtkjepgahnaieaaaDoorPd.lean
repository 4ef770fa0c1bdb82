/- Plain law of spec.Ordered: it is the stable order by falling weights that insertMime's way of inserting comes to, too. -/
import Derived.Test.YtkjepgahnaieaaaDoorMb
import Derived.Test.YtkjepgahnaieaaaDoorFb
import Derived.Test.YtkjepgahnaieaaaDoorPc
namespace Go.Proofs.YtkjepgahnaieaaaDoor.PFnAccept
open Go.RowKit Go.Proofs.YtkjepgahnaieaaaDoorW.PrintWords Go.Proofs.YtkjepgahnaieaaaDoorW.PrintLast Go.Proofs.YtkjepgahnaieaaaDoorW.PrintMore

/-- The list with a new entry ahead of the first of lower weight. -/
def insS (e : S30) : List S30 → List S30
  | [] => [e]
  | x :: r => if x.f1 < e.f1 then e :: x :: r else x :: insS e r
def srtS (l : List S30) : List S30 := l.foldl (fun acc e => insS e acc) []
theorem insS_len (e : S30) (xs : List S30) : (insS e xs).length = xs.length + 1 := by
  induction xs with
  | nil => rfl
  | cons x r ih =>
    unfold insS
    split <;> simp [ih]
theorem insS_mem {e y : S30} {xs : List S30} (h : y ∈ insS e xs) : y = e ∨ y ∈ xs := by
  induction xs with
  | nil => simpa [insS] using h
  | cons x r ih =>
    unfold insS at h
    split at h
    · simpa using h
    · rcases List.mem_cons.1 h with h | h
      · exact .inr (by simp [h])
      · rcases ih h with h | h
        · exact .inl h
        · exact .inr (by simp [h])
/-- Falling weights. -/
def Fall (l : List S30) : Prop := l.Pairwise (fun a b => b.f1 ≤ a.f1)
theorem insS_fall {e : S30} {xs : List S30} (h : Fall xs) : Fall (insS e xs) := by
  induction xs with
  | nil => simp [insS, Fall]
  | cons x r ih =>
    obtain ⟨h1, h2⟩ := List.pairwise_cons.1 h
    unfold insS
    split
    · rename_i hlt
      refine List.pairwise_cons.2 ⟨fun y hy => ?_, h⟩
      rcases List.mem_cons.1 hy with rfl | hy
      · omega
      · have := h1 y hy; omega
    · rename_i hlt
      refine List.pairwise_cons.2 ⟨fun y hy => ?_, ih h2⟩
      rcases insS_mem hy with rfl | hy
      · omega
      · exact h1 y hy
/-- Where the list parts into those that are no lower and those that are lower. -/
theorem insS_at (e : S30) : ∀ (a b : List S30), (∀ x, x ∈ a → ¬ x.f1 < e.f1) → (∀ x, x ∈ b → x.f1 < e.f1) → insS e (a ++ b) = a ++ e :: b
  | [], [], _, _ => rfl
  | [], x :: r, _, hb => by
    have := hb x (by simp)
    simp [insS, this]
  | x :: a, b, ha, hb => by
    have h0 := ha x (by simp)
    have := insS_at e a b (fun y hy => ha y (by simp [hy])) hb
    simp [insS, h0, this]
theorem srtS_snoc (l : List S30) (i : Nat) (h : i < l.length) : srtS (l.take (i + 1)) = insS l[i] (srtS (l.take i)) := by
  unfold srtS
  rw [List.take_succ_eq_append_getElem h, List.foldl_append]
  rfl
theorem srtS_len (l : List S30) : (srtS l).length = l.length := by
  have : ∀ (l acc : List S30), (l.foldl (fun acc e => insS e acc) acc).length = acc.length + l.length := by
    intro l
    induction l with
    | nil => intro acc; simp
    | cons x r ih => intro acc; rw [List.foldl_cons, ih, insS_len]; simp; omega
  have := this l []
  simpa [srtS] using this
theorem srtS_fall (l : List S30) : Fall (srtS l) := by
  have : ∀ (l acc : List S30), Fall acc → Fall (l.foldl (fun acc e => insS e acc) acc) := by
    intro l
    induction l with
    | nil => intro acc h; exact h
    | cons x r ih => intro acc h; rw [List.foldl_cons]; exact ih _ (insS_fall h)
  exact this l [] List.Pairwise.nil
theorem srtS_mem {l : List S30} {y : S30} (h : y ∈ srtS l) : y ∈ l := by
  have : ∀ (l acc : List S30), y ∈ l.foldl (fun acc e => insS e acc) acc → y ∈ acc ∨ y ∈ l := by
    intro l
    induction l with
    | nil => intro acc h; exact .inl h
    | cons x r ih =>
      intro acc h
      rw [List.foldl_cons] at h
      rcases ih _ h with h | h
      · rcases insS_mem h with h | h
        · exact .inr (by simp [h])
        · exact .inl h
      · exact .inr (by simp [h])
  rcases this l [] h with h | h
  · cases h
  · exact h

/-! ### the program's way -/
theorem rd_at {a b : List S30} {e : S30} {n : Nat} (h : a.length = n) : rd_T30 (a ++ e :: b) (n : Int) = e := by
  subst h
  unfold rd_T30; rw [Int.toNat_natCast, List.getD_eq_getElem?_getD, List.getElem?_append_right (Nat.le_refl _), Nat.sub_self]; rfl
theorem down_ev (n i : Nat) (e : S30) (v : List S30) (hn : n ≤ 1000) (m : Nat) : ∀ (a b tail : List S30), a.length = m → (a ++ e :: (b ++ tail)).length = n → Fall (a ++ b) → (∀ x, x ∈ b → x.f1 < e.f1) →
    Ev (fun k => spec_Ordered.l0 k (insS e (a ++ b) ++ tail) (n : Int) (wrap64 ((i : Int) + 1))) v → Ev (fun k => spec_Ordered.l1 k (a ++ e :: (b ++ tail)) (m : Int) (n : Int) (i : Int)) v := by
  induction m with
  | zero =>
    intro a b tail ha hlen hf hb hv
    obtain rfl : a = [] := List.length_eq_zero_iff.1 ha
    refine Ev.step (fun k => ?_) hv
    rw [insS_at e [] b (fun _ h => by cases h) hb]
    simp only [spec_Ordered.l1]
    rw [if_neg (by omega)]
    rfl
  | succ m ih =>
    intro a b tail ha hlen hf hb hv
    obtain ⟨a', x, rfl⟩ : ∃ a' x, a = a' ++ [x] := ⟨a.dropLast, a.getLast (by intro h; rw [h] at ha; simp at ha), (List.dropLast_concat_getLast _).symm⟩
    have ha' : a'.length = m := by simpa using ha
    have hl : m + 1 < n := by simp at hlen; omega
    have e1 : rd_T30 ((a' ++ [x]) ++ e :: (b ++ tail)) ((m + 1 : Nat) : Int) = e := rd_at ha
    have e2 : rd_T30 ((a' ++ [x]) ++ e :: (b ++ tail)) (m : Int) = x := by
      rw [List.append_assoc]; exact rd_at ha'
    have hw : wrap64 (((m + 1 : Nat) : Int) - 1) = (m : Int) := by rw [wrap_ok (by omega) (by omega)]; omega
    by_cases hlt : x.f1 < e.f1
    · have hs : (((a' ++ [x]) ++ e :: (b ++ tail)).set (m + 1) x).set m e = a' ++ e :: ((x :: b) ++ tail) := by
        rw [List.set_append_right _ _ (by simp; omega)]
        simp only [ha, Nat.sub_self, List.set_cons_zero]
        rw [List.append_assoc, List.set_append_right _ _ (by omega), ha', Nat.sub_self]
        rfl
      refine Ev.step (f := fun k => spec_Ordered.l1 k (a' ++ e :: ((x :: b) ++ tail)) (m : Int) (n : Int) (i : Int)) (fun k => ?_) ?_
      · simp only [spec_Ordered.l1]
        rw [hw, e1, e2, if_pos (by omega), if_pos (by omega), if_pos (by rw [hlen]; omega), if_pos (by omega), if_pos (by rw [hlen]; omega), if_pos hlt]
        rw [Int.toNat_natCast, Int.toNat_natCast, hs]
      · refine ih a' (x :: b) tail ha' (by simp at hlen ⊢; omega) (by rw [List.append_assoc] at hf; exact hf) (fun y hy => ?_) (by rw [List.append_assoc] at hv; exact hv)
        rcases List.mem_cons.1 hy with rfl | hy
        · exact hlt
        · exact hb y hy
    · have hall : ∀ y, y ∈ a' ++ [x] → ¬ y.f1 < e.f1 := by
        intro y hy
        rcases List.mem_append.1 hy with hy | hy
        · have h1 := (List.pairwise_append.1 (List.pairwise_append.1 hf).1).2.2 y hy x (by simp)
          omega
        · simp only [List.mem_singleton] at hy
          subst hy; exact hlt
      rw [insS_at e _ b hall hb] at hv
      refine Ev.step (fun k => ?_) hv
      simp only [spec_Ordered.l1]
      rw [hw, e1, e2, if_pos (by omega), if_pos (by omega), if_pos (by rw [hlen]; omega), if_pos (by omega), if_pos (by rw [hlen]; omega), if_neg hlt]
      simp
theorem ordered_ev (l : List S30) (hl : l.length ≤ 1000) (d : Nat) : ∀ i : Nat, i + d = l.length → Ev (fun k => spec_Ordered.l0 k (srtS (l.take i) ++ l.drop i) (l.length : Int) (i : Int)) (srtS l) := by
  induction d with
  | zero =>
    intro i hi
    refine Ev.step (f := fun _ => some (srtS l)) (fun k => ?_) (Ev.now _)
    simp only [spec_Ordered.l0]
    rw [if_neg (by omega), List.take_of_length_le (by omega), List.drop_eq_nil_of_le (by omega), List.append_nil]
  | succ d ih =>
    intro i hi
    have hlt : i < l.length := by omega
    have hd : l.drop i = l[i] :: l.drop (i + 1) := List.drop_eq_getElem_cons hlt
    refine Ev.step (f := fun k => spec_Ordered.l1 k (srtS (l.take i) ++ l.drop i) (i : Int) (l.length : Int) (i : Int)) (fun k => ?_) ?_
    · simp only [spec_Ordered.l0]; rw [if_pos (by omega)]
    · have hsl : (srtS (l.take i)).length = i := by rw [srtS_len, List.length_take]; omega
      rw [hd]
      refine down_ev l.length i l[i] (srtS l) hl i (srtS (l.take i)) [] (l.drop (i + 1)) hsl ?_ ?_ (fun _ h => by cases h) ?_
      · simp [hsl]; omega
      · rw [List.append_nil]; exact srtS_fall _
      · rw [List.append_nil, ← srtS_snoc l i hlt, wrap_ok (by omega) (by omega)]
        exact ih (i + 1) (by omega)
theorem ordered_f (l : List S30) (hl : l.length ≤ 1000) : Ev (fun k => spec_Ordered.f k l) (srtS l) := by
  unfold spec_Ordered.f
  refine Ev.congr (f := fun k => spec_Ordered.l0 k l (l.length : Int) 0) (fun k => ?_) ?_
  · simp only [Option.bind_some, List.nil_append, List.length_nil]
    rw [if_pos (by omega)]
  · have := ordered_ev l hl l.length 0 (by omega)
    simpa [srtS] using this

/-! ### the two orders are one -/
/-- A medium with its weight as the program reads it: the float of its thousandths. -/
def toM (m : S30) : M47 := ⟨m.f0, qF m.f1.toNat⟩
def InR (m : S30) : Prop := 0 ≤ m.f1 ∧ m.f1 ≤ 1000
theorem gtM_toM {e x : S30} (he : InR e) (hx : InR x) : gtM (toM e) (toM x) = decide (x.f1 < e.f1) := by
  unfold gtM toM
  simp only
  have h1 := he.1; have h2 := he.2; have h3 := hx.1; have h4 := hx.2
  rw [order_F (by omega) (by omega)]
  rw [decide_eq_decide]
  omega
theorem insL_toM {e : S30} (he : InR e) : ∀ xs : List S30, (∀ x, x ∈ xs → InR x) → insL (toM e) (xs.map toM) = (insS e xs).map toM
  | [], _ => rfl
  | x :: r, h => by
    have hx := h x (by simp)
    have := insL_toM he r (fun y hy => h y (by simp [hy]))
    rw [List.map_cons]
    unfold insL insS
    rw [gtM_toM he hx]
    by_cases hlt : x.f1 < e.f1
    · simp [hlt]
    · simp [hlt, this]
theorem sortL_toM (l : List S30) (h : ∀ m, m ∈ l → InR m) : sortL (l.map toM) = (srtS l).map toM := by
  have : ∀ (l acc : List S30), (∀ m, m ∈ l → InR m) → (∀ m, m ∈ acc → InR m) → (l.map toM).foldl (fun acc e => insL e acc) (acc.map toM) = (l.foldl (fun acc e => insS e acc) acc).map toM := by
    intro l
    induction l with
    | nil => intro acc _ _; rfl
    | cons x r ih =>
      intro acc hl ha
      rw [List.map_cons, List.foldl_cons, List.foldl_cons, insL_toM (hl x (by simp)) acc ha]
      refine ih _ (fun m hm => hl m (by simp [hm])) (fun m hm => ?_)
      rcases insS_mem hm with rfl | hm
      · exact hl _ (by simp)
      · exact ha m hm
  exact this l [] h (fun m hm => by cases hm)
end Go.Proofs.YtkjepgahnaieaaaDoor.PFnAccept
