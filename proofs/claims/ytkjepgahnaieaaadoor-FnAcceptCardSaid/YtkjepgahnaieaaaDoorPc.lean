/- Plain laws: zzFits7, spec.media at one type, spec.Weighed: each comes to an answer; what a true one says. -/
import Derived.Test.YtkjepgahnaieaaaDoorPb
namespace Go.Proofs.YtkjepgahnaieaaaDoor.PFnAccept
open Go.RowKit Go.Proofs.YtkjepgahnaieaaaDoorW.PrintWords Go.Proofs.YtkjepgahnaieaaaDoorW.PrintLast Go.Proofs.YtkjepgahnaieaaaDoorW.PrintMore

theorem rd_getElem {l : List S30} {i : Nat} (h : i < l.length) : rd_T30 l (i : Int) = l[i] := by
  unfold rd_T30; rw [Int.toNat_natCast, List.getD_eq_getElem?_getD, List.getElem?_eq_getElem h, Option.getD_some]

/-! ### zzFits7 -/
theorem fits_ev (l : List S30) (hl : l.length ≤ 2147483647) (d : Nat) : ∀ i : Nat, i + d = l.length →
    Ev (fun k => laws_zzFits7.l0 k l (l.length : Int) (i : Int)) ((l.drop i).all (fun m => decide (m.f0.size ≤ 2147483647))) := by
  induction d with
  | zero =>
    intro i hi
    refine Ev.step (f := fun _ => some true) (fun k => ?_) ?_
    · simp only [laws_zzFits7.l0]; rw [if_neg (by omega)]
    · rw [List.drop_eq_nil_of_le (by omega)]; exact Ev.now _
  | succ d ih =>
    intro i hi
    have hlt : i < l.length := by omega
    have hd : l.drop i = l[i] :: l.drop (i + 1) := List.drop_eq_getElem_cons hlt
    have hf : laws_zzFits8.f l[i].f0 l[i].f1 = some (decide (l[i].f0.size ≤ 2147483647)) := by
      unfold laws_zzFits8.f
      by_cases h : l[i].f0.size ≤ 2147483647
      · rw [if_neg (by omega), decide_eq_true h]
      · rw [if_pos (by omega), decide_eq_false h]
    refine Ev.step (f := fun k => if decide (l[i].f0.size ≤ 2147483647) = true then laws_zzFits7.l0 k l (l.length : Int) ((i + 1 : Nat) : Int) else some false) (fun k => ?_) ?_
    · simp only [laws_zzFits7.l0]
      rw [if_pos (by omega), if_pos (by omega), if_pos (by omega), rd_getElem hlt, hf, wrap_ok (by omega) (by omega)]
      rfl
    · rw [hd, List.all_cons]
      by_cases h : l[i].f0.size ≤ 2147483647
      · rw [decide_eq_true h, Bool.true_and]
        exact Ev.congr (fun k => if_pos rfl) (ih (i + 1) (by omega))
      · rw [decide_eq_false h, Bool.false_and]
        exact Ev.congr (fun k => if_neg (by simp)) (Ev.now _)
theorem fits_f (l : List S30) : ∃ k r, laws_zzFits7.f k l = some r ∧ (r = true → ∀ m, m ∈ l → m.f0.size ≤ 2147483647) := by
  by_cases h : l.length ≤ 2147483647
  · obtain ⟨k, hk⟩ := (fits_ev l h l.length 0 (by omega)).rounds
    refine ⟨k, ((l.drop 0).all fun m => decide (m.f0.size ≤ 2147483647)), ?_, ?_⟩
    · unfold laws_zzFits7.f
      rw [if_neg (by omega)]
      exact hk
    · intro hr m hm
      rw [List.drop_zero, List.all_eq_true] at hr
      exact of_decide_eq_true (hr m hm)
  · refine ⟨0, false, ?_, fun h => by cases h⟩
    unfold laws_zzFits7.f
    rw [if_pos (by omega)]

/-! ### media at one type -/
def MediaL (t : List UInt8) : Prop := ∃ a b, t = a ++ 47 :: b ∧ wordL a = true ∧ wordL b = true
theorem media_ev (t : List UInt8) (hl : t.length ≤ 4611686018427387904) (d : Nat) : ∀ (i : Nat) (r : Int), i + d = t.length → (r = -1 ∨ ∃ p : Nat, r = (p : Int) ∧ ∃ h : p < t.length, t[p] = 47) →
    ∃ v, Ev (fun k => spec_media.l1 k [mkB t] (mkB t) r [mkB t] (([mkB t] : List ByteArray).length : Int) 0 (t.length : Int) (i : Int)) v ∧ (v = true → MediaL t) := by
  induction d with
  | zero =>
    intro i r hi hr
    rcases hr with rfl | ⟨p, rfl, hp, h47⟩
    · refine ⟨false, Ev.step (f := fun _ => some false) (fun k => ?_) (Ev.now _), fun h => by cases h⟩
      simp only [spec_media.l1]; rw [if_neg (by omega), if_pos (by omega)]
    · have hw1 := word_f (t.take p) (by rw [List.length_take]; omega)
      have hw2 := word_f (t.drop (p + 1)) (by rw [List.length_drop]; omega)
      refine ⟨wordL (t.take p) && wordL (t.drop (p + 1)), ?_, ?_⟩
      · refine Ev.step (f := fun k => (spec_word.f k (mkB (t.take p))).bind fun t106 => (if t106 = true then ((spec_word.f k (mkB (t.drop (p + 1)))).bind fun t107 => (if t107 = true then (spec_media.l0 k [mkB t] [mkB t] (([mkB t] : List ByteArray).length : Int) (1 : Int)) else (some false))) else (some false))) (fun k => ?_) ?_
        · simp only [spec_media.l1]
          rw [if_neg (by omega), if_neg (by omega), if_pos (by omega), if_pos (by rw [size_mkB]; omega), wrap_ok (x := (p : Int) + 1) (by omega) (by omega), if_pos (by omega), if_pos (by rw [size_mkB]; omega)]
          rw [Int.toNat_natCast, show ((p : Int) + 1).toNat = p + 1 by omega, extract_mkB, extract_mkB, size_mkB]
          simp only [List.drop_zero, Nat.sub_zero]
          rw [List.take_of_length_le (l := t.drop (p + 1)) (by simp), wrap_ok (by omega) (by omega)]
          rfl
        · refine Ev.bind hw1 ?_
          cases h1 : wordL (t.take p) with
          | false => exact Ev.congr (fun k => if_neg (by simp)) (Ev.now _)
          | true =>
            refine Ev.congr (fun k => if_pos rfl) ?_
            refine Ev.bind hw2 ?_
            cases h2 : wordL (t.drop (p + 1)) with
            | false => exact Ev.congr (fun k => if_neg (by simp)) (Ev.now _)
            | true =>
              refine Ev.congr (fun k => if_pos rfl) ?_
              refine Ev.step (f := fun _ => some true) (fun k => ?_) (Ev.now _)
              simp only [spec_media.l0]
              rw [if_neg (by simp)]
              rfl
      · intro h
        rw [Bool.and_eq_true] at h
        refine ⟨t.take p, t.drop (p + 1), ?_, h.1, h.2⟩
        conv => lhs; rw [← List.take_append_drop p t]
        rw [List.drop_eq_getElem_cons hp, h47]
  | succ d ih =>
    intro i r hi hr
    have hlt : i < t.length := by omega
    by_cases h : t[i] = 47
    · obtain ⟨v, hv, hm⟩ := ih (i + 1) (i : Int) (by omega) (.inr ⟨i, rfl, hlt, h⟩)
      refine ⟨v, Ev.step (fun k => ?_) hv, hm⟩
      simp only [spec_media.l1]
      rw [if_pos (by omega), if_pos (by omega), if_pos (by rw [size_mkB]; omega), bt_mkB t i hlt, h, if_pos (by rfl), wrap_ok (by omega) (by omega)]
      rfl
    · obtain ⟨v, hv, hm⟩ := ih (i + 1) r (by omega) hr
      refine ⟨v, Ev.step (fun k => ?_) hv, hm⟩
      have h' : ¬ ((t[i].toNat : Int) = 47) := fun e => h (UInt8.toNat_inj.1 (by simpa using (by omega : t[i].toNat = 47)))
      simp only [spec_media.l1]
      rw [if_pos (by omega), if_pos (by omega), if_pos (by rw [size_mkB]; omega), bt_mkB t i hlt, if_neg h', wrap_ok (by omega) (by omega)]
      rfl
theorem media_f (t : List UInt8) (hl : t.length ≤ 4611686018427387904) : ∃ v, Ev (fun k => spec_media.f k [mkB t]) v ∧ (v = true → MediaL t) := by
  obtain ⟨v, hv, hm⟩ := media_ev t hl t.length 0 (-1) (by omega) (.inl rfl)
  refine ⟨v, ?_, hm⟩
  unfold spec_media.f
  refine Ev.step (fun k => ?_) hv
  simp only [spec_media.l0]
  rw [if_pos (by simp), if_pos (by omega), if_pos (by simp)]
  have e : rdOf ByteArray.empty [mkB t] 0 = mkB t := rfl
  rw [e, size_mkB]
  rfl

/-! ### Weighed -/
def TypeL (t : List UInt8) : Prop := t = [42, 47, 42] ∨ MediaL t
def WOk (m : S30) : Prop := 0 ≤ m.f1 ∧ m.f1 ≤ 1000 ∧ TypeL m.f0.data.toList
theorem weighed_ev (l : List S30) (hl : l.length ≤ 20) (hz : ∀ m, m ∈ l → m.f0.size ≤ 2147483647) (d : Nat) : ∀ i : Nat, i + d = l.length →
    ∃ v, Ev (fun k => spec_Weighed.l0 k l (l.length : Int) (i : Int)) v ∧ (v = true → ∀ m, m ∈ l.drop i → WOk m) := by
  induction d with
  | zero =>
    intro i hi
    refine ⟨true, Ev.step (f := fun _ => some true) (fun k => ?_) (Ev.now _), fun _ m hm => ?_⟩
    · simp only [spec_Weighed.l0]; rw [if_neg (by omega)]
    · rw [List.drop_eq_nil_of_le (by omega)] at hm; cases hm
  | succ d ih =>
    intro i hi
    have hlt : i < l.length := by omega
    have hd : l.drop i = l[i] :: l.drop (i + 1) := List.drop_eq_getElem_cons hlt
    have hs : l[i].f0.size ≤ 2147483647 := hz _ (List.getElem_mem hlt)
    obtain ⟨v, hv, hm⟩ := ih (i + 1) (by omega)
    have hgo : WOk l[i] → v = true → ∀ m, m ∈ l.drop i → WOk m := fun h0 h m hmm => by
      rw [hd] at hmm
      rcases List.mem_cons.1 hmm with rfl | hmm
      · exact h0
      · exact hm h m hmm
    by_cases h1 : l[i].f1 < 0
    · refine ⟨false, Ev.step (f := fun _ => some false) (fun k => ?_) (Ev.now _), fun h => by cases h⟩
      simp only [spec_Weighed.l0]
      rw [if_pos (by omega), if_pos (by omega), if_pos (by omega), rd_getElem hlt, if_pos h1]
    by_cases h2 : l[i].f1 > 1000
    · refine ⟨false, Ev.step (f := fun _ => some false) (fun k => ?_) (Ev.now _), fun h => by cases h⟩
      simp only [spec_Weighed.l0]
      rw [if_pos (by omega), if_pos (by omega), if_pos (by omega), rd_getElem hlt, if_neg h1, if_pos h2]
    by_cases h3 : l[i].f0.data.toList = [42, 47, 42]
    · refine ⟨v, Ev.step (fun k => ?_) hv, hgo ⟨by omega, by omega, .inl h3⟩⟩
      simp only [spec_Weighed.l0]
      rw [if_pos (by omega), if_pos (by omega), if_pos (by omega), rd_getElem hlt, if_neg h1, if_neg h2, Lib.toList_data, if_pos h3, wrap_ok (by omega) (by omega)]
      rfl
    · obtain ⟨u, hu, hum⟩ := media_f l[i].f0.data.toList (by rw [← Lib.size_eq]; omega)
      rw [mkB_data] at hu
      have hstep : Ev (fun k => (spec_media.f k [l[i].f0]).bind fun t113 => (if t113 = true then (spec_Weighed.l0 k l (l.length : Int) ((i + 1 : Nat) : Int)) else (some false))) (u && v) := by
        refine Ev.bind hu ?_
        cases u with
        | false => exact Ev.congr (fun k => if_neg (by simp)) (Ev.now _)
        | true => exact Ev.congr (fun k => if_pos rfl) hv
      refine ⟨u && v, Ev.step (fun k => ?_) hstep, fun h => ?_⟩
      · simp only [spec_Weighed.l0]
        rw [if_pos (by omega), if_pos (by omega), if_pos (by omega), rd_getElem hlt, if_neg h1, if_neg h2, Lib.toList_data, if_neg h3, wrap_ok (by omega) (by omega)]
        rfl
      · rw [Bool.and_eq_true] at h
        exact hgo ⟨by omega, by omega, .inr (hum h.1)⟩ h.2
theorem weighed_f (l : List S30) (hz : ∀ m, m ∈ l → m.f0.size ≤ 2147483647) : ∃ k r, spec_Weighed.f k l = some r ∧ (r = true → l ≠ [] ∧ l.length ≤ 20 ∧ ∀ m, m ∈ l → WOk m) := by
  by_cases h0 : (l.length : Int) = 0
  · refine ⟨1, false, ?_, fun h => by cases h⟩
    unfold spec_Weighed.f
    rw [if_pos h0]
    simp only [spec_Weighed.j0, if_true]
  · by_cases h20 : l.length ≤ 20
    · obtain ⟨v, hv, hm⟩ := weighed_ev l h20 hz l.length 0 (by omega)
      obtain ⟨k, hk⟩ := hv.rounds
      refine ⟨k + 1, v, ?_, fun h => ⟨fun e => h0 (by rw [e]; rfl), h20, fun m hmm => hm h m (by simpa using hmm)⟩⟩
      unfold spec_Weighed.f
      rw [if_neg h0, decide_eq_false (by omega)]
      simp only [spec_Weighed.j0]
      rw [if_neg (by simp)]
      exact hk
    · refine ⟨1, false, ?_, fun h => by cases h⟩
      unfold spec_Weighed.f
      rw [if_neg h0, decide_eq_true (by omega)]
      simp only [spec_Weighed.j0, if_true]

/-! ### the bytes of a type -/
theorem wordL_mem {l : List UInt8} (h : wordL l = true) {c : UInt8} (hc : c ∈ l) : wch (c.toNat : Int) := by
  unfold wordL at h
  rw [Bool.and_eq_true, List.all_eq_true] at h
  exact of_decide_eq_true (h.1 c hc)
theorem typeL_mem {t : List UInt8} (h : TypeL t) {c : UInt8} (hc : c ∈ t) : c ≠ 44 ∧ c ≠ 59 ∧ c ≠ 32 := by
  rcases h with rfl | ⟨a, b, rfl, ha, hb⟩
  · simp only [List.mem_cons, List.not_mem_nil, or_false] at hc
    rcases hc with rfl | rfl | rfl <;> decide
  · have hw : wch (c.toNat : Int) → c ≠ 44 ∧ c ≠ 59 ∧ c ≠ 32 := by
      intro h
      unfold wch at h
      refine ⟨?_, ?_, ?_⟩ <;> (rintro rfl; simp at h)
    rcases List.mem_append.1 hc with h1 | h1
    · exact hw (wordL_mem ha h1)
    · rcases List.mem_cons.1 h1 with rfl | h1
      · decide
      · exact hw (wordL_mem hb h1)
end Go.Proofs.YtkjepgahnaieaaaDoor.PFnAccept
