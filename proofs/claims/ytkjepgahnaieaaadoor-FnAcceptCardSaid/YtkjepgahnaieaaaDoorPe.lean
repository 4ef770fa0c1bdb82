/- Plain law of spec.Accept: its text's pieces between commas are the media types, each with its weight of three figures or without one. And what is asked of every list by FnAccept's walk. -/
import Derived.Test.YtkjepgahnaieaaaDoorLa
namespace Go.Proofs.YtkjepgahnaieaaaDoor.PFnAccept
open Go.RowKit Go.Proofs.YtkjepgahnaieaaaDoorW.PrintWords Go.Proofs.YtkjepgahnaieaaaDoorW.PrintLast Go.Proofs.YtkjepgahnaieaaaDoorW.PrintMore

/-! ### thousandths -/
def thL (n : Nat) : List UInt8 := [48, 46, UInt8.ofNat (48 + n / 100 % 10), UInt8.ofNat (48 + n / 10 % 10), UInt8.ofNat (48 + n % 10)]
theorem toNat_fig {x : Nat} (h : x < 10) : (UInt8.ofNat (48 + x)).toNat = 48 + x := by
  rw [UInt8.toNat_ofNat']; omega
theorem thousandths_f {n : Nat} (h : n ≤ 999) : spec_thousandths.f (n : Int) = some (mkB (thL n)) := by
  have hne : ¬ ((n : Int) = 1000) := by omega
  have h1 : (wrap64 (48 + (Int.tmod (wrap64 (Int.tdiv (n : Int) 100)) 10))) % 256 = ((48 + n / 100 % 10 : Nat) : Int) := by
    rw [Int.tdiv_eq_ediv_of_nonneg (by omega), wrap_ok (x := (n : Int) / 100) (by omega) (by omega), Int.tmod_eq_emod_of_nonneg (by omega), wrap_ok (by omega) (by omega)]
    omega
  have h2 : (wrap64 (48 + (Int.tmod (wrap64 (Int.tdiv (n : Int) 10)) 10))) % 256 = ((48 + n / 10 % 10 : Nat) : Int) := by
    rw [Int.tdiv_eq_ediv_of_nonneg (by omega), wrap_ok (x := (n : Int) / 10) (by omega) (by omega), Int.tmod_eq_emod_of_nonneg (by omega), wrap_ok (by omega) (by omega)]
    omega
  have h3 : (wrap64 (48 + (Int.tmod (n : Int) 10))) % 256 = ((48 + n % 10 : Nat) : Int) := by
    rw [Int.tmod_eq_emod_of_nonneg (by omega), wrap_ok (by omega) (by omega)]
    omega
  unfold spec_thousandths.f
  rw [if_neg hne, h1, h2, h3, Option.bind_some]
  have e : strOfNums [((48 + n / 100 % 10 : Nat) : Int), ((48 + n / 10 % 10 : Nat) : Int), ((48 + n % 10 : Nat) : Int)] = mkB [UInt8.ofNat (48 + n / 100 % 10), UInt8.ofNat (48 + n / 10 % 10), UInt8.ofNat (48 + n % 10)] := by
    unfold strOfNums mkB
    simp only [List.map_cons, List.map_nil, Int.toNat_natCast]
  rw [e, size_mkB, if_pos (by simp)]
  have e2 : (⟨#[48, 46]⟩ : ByteArray) = mkB [48, 46] := rfl
  rw [e2, append_mkB]
  rfl
theorem bt_thL (n i : Nat) (h : i < 5) : bt (mkB (thL n)) (i : Int) = ((thL n)[i]'(by simpa [thL] using h)).toNat := bt_mkB (thL n) i (by simpa [thL] using h)
theorem thL_dec {n : Nat} (h : n ≤ 999) : Dec (mkB (thL n)) n := by
  have b0 : bt (mkB (thL n)) 0 = 48 := bt_thL n 0 (by omega)
  have b1 : bt (mkB (thL n)) 1 = 46 := bt_thL n 1 (by omega)
  have b2 : bt (mkB (thL n)) 2 = ((48 + n / 100 % 10 : Nat) : Int) := by rw [← toNat_fig (x := n / 100 % 10) (by omega)]; exact bt_thL n 2 (by omega)
  have b3 : bt (mkB (thL n)) 3 = ((48 + n / 10 % 10 : Nat) : Int) := by rw [← toNat_fig (x := n / 10 % 10) (by omega)]; exact bt_thL n 3 (by omega)
  have b4 : bt (mkB (thL n)) 4 = ((48 + n % 10 : Nat) : Int) := by rw [← toNat_fig (x := n % 10) (by omega)]; exact bt_thL n 4 (by omega)
  exact ⟨by rw [size_mkB]; rfl, b0, b1, by omega, by omega, by omega, by omega⟩
theorem thL_mem {n : Nat} {c : UInt8} (h : c ∈ thL n) : c ≠ 44 ∧ c ≠ 59 ∧ c ≠ 32 ∧ c ≠ 61 := by
  have hfig : ∀ x : Nat, x < 10 → c = UInt8.ofNat (48 + x) → c ≠ 44 ∧ c ≠ 59 ∧ c ≠ 32 ∧ c ≠ 61 := by
    intro x hx e
    have h1 := toNat_fig hx
    rw [← e] at h1
    have h3 : 48 + x < 58 := by omega
    have h4 : 48 ≤ 48 + x := by omega
    rw [← h1] at h3 h4
    refine ⟨?_, ?_, ?_, ?_⟩ <;> (intro h2; rw [h2] at h3 h4; exact absurd (And.intro h4 h3) (by decide))
  unfold thL at h
  simp only [List.mem_cons, List.not_mem_nil, or_false] at h
  rcases h with rfl | rfl | h | h | h
  · decide
  · decide
  · exact hfig _ (by omega) h
  · exact hfig _ (by omega) h
  · exact hfig _ (by omega) h

/-! ### the text -/
def segL (m : S30) : List UInt8 := m.f0.data.toList ++ (if m.f1 = 1000 then [] else 59 :: 113 :: 61 :: thL m.f1.toNat)
def accL : Bool → List S30 → List UInt8
  | _, [] => []
  | true, m :: r => segL m ++ accL false r
  | false, m :: r => 44 :: 32 :: segL m ++ accL false r
theorem segL_len (m : S30) : (segL m).length ≤ m.f0.size + 8 := by
  unfold segL
  rw [List.length_append, ← Lib.size_eq]
  split <;> simp [thL]
theorem accept_ev (l : List S30) (hl : l.length ≤ 20) (hz : ∀ m, m ∈ l → m.f0.size ≤ 2147483647) (hw : ∀ m, m ∈ l → WOk m) (d : Nat) : ∀ (i : Nat) (acc : List UInt8), i + d = l.length → acc.length ≤ i * 3000000000 →
    ∃ r, Ev (fun k => spec_Accept.l0 k (mkB acc) l (l.length : Int) (i : Int)) (mkB r) ∧ r = acc ++ accL (decide (i = 0)) (l.drop i) ∧ r.length ≤ l.length * 3000000000 := by
  induction d with
  | zero =>
    intro i acc hi ha
    refine ⟨acc, Ev.step (f := fun _ => some (mkB acc)) (fun k => ?_) (Ev.now _), ?_, ?_⟩
    · simp only [spec_Accept.l0]; rw [if_neg (by omega)]
    · rw [List.drop_eq_nil_of_le (by omega)]
      cases decide (i = 0) <;> simp [accL]
    · have : i = l.length := by omega
      rw [← this]; exact ha
  | succ d ih =>
    intro i acc hi ha
    have hlt : i < l.length := by omega
    have hd : l.drop i = l[i] :: l.drop (i + 1) := List.drop_eq_getElem_cons hlt
    have hs : l[i].f0.size ≤ 2147483647 := hz _ (List.getElem_mem hlt)
    obtain ⟨h0, h1, _⟩ := hw _ (List.getElem_mem hlt)
    have hsl := segL_len l[i]
    obtain ⟨t, ht⟩ : ∃ t, t = l[i].f0.data.toList := ⟨_, rfl⟩
    have ht2 : l[i].f0 = mkB t := by rw [ht, mkB_data]
    have htl : t.length ≤ 2147483647 := by rw [ht, ← Lib.size_eq]; exact hs
    have e2 : (⟨#[44, 32]⟩ : ByteArray) = mkB [44, 32] := rfl
    have e3 : (⟨#[59, 113, 61]⟩ : ByteArray) = mkB [59, 113, 61] := rfl
    have hseg : segL l[i] = t ++ (if l[i].f1 = 1000 then [] else 59 :: 113 :: 61 :: thL l[i].f1.toNat) := by rw [ht]; rfl
    have hacc : i * 3000000000 ≤ 60000000000 := by omega
    by_cases hi0 : i = 0
    · obtain ⟨r, hr, he, hlen⟩ := ih (i + 1) (acc ++ segL l[i]) (by omega) (by rw [List.length_append]; omega)
      refine ⟨r, ?_, ?_, hlen⟩
      · refine Ev.step (fun k => ?_) hr
        simp only [spec_Accept.l0]
        rw [if_pos (by omega), if_pos (by omega), if_pos (by omega), rd_getElem hlt, if_neg (by omega), ht2, e3, size_mkB, size_mkB, if_pos (by omega), wrap_ok (by omega) (by omega), hseg]
        by_cases h : l[i].f1 = 1000
        · rw [if_pos h, if_pos h, append_mkB, List.append_nil]
          rfl
        · obtain ⟨n, hn⟩ : ∃ n : Nat, l[i].f1 = (n : Int) := ⟨l[i].f1.toNat, by omega⟩
          rw [if_neg h, if_neg h, hn, thousandths_f (by omega), Option.bind_some, Int.toNat_natCast, append_mkB, append_mkB, append_mkB, size_mkB, size_mkB, size_mkB, if_pos (by simp [thL]), if_pos (by simp [thL]; omega)]
          simp
      · rw [he, hd, decide_eq_true hi0, decide_eq_false (by omega)]
        simp [accL]
    · obtain ⟨r, hr, he, hlen⟩ := ih (i + 1) (acc ++ (44 :: 32 :: segL l[i])) (by omega) (by rw [List.length_append]; simp only [List.length_cons]; omega)
      refine ⟨r, ?_, ?_, hlen⟩
      · refine Ev.step (fun k => ?_) hr
        simp only [spec_Accept.l0]
        rw [if_pos (by omega), if_pos (by omega), if_pos (by omega), rd_getElem hlt, if_pos (by omega), ht2, e2, e3, append_mkB, size_mkB, size_mkB, size_mkB, if_pos (by omega), if_pos (by simp; omega), wrap_ok (by omega) (by omega), hseg]
        by_cases h : l[i].f1 = 1000
        · rw [if_pos h, if_pos h, append_mkB, List.append_nil]
          simp
        · obtain ⟨n, hn⟩ : ∃ n : Nat, l[i].f1 = (n : Int) := ⟨l[i].f1.toNat, by omega⟩
          rw [if_neg h, if_neg h, hn, thousandths_f (by omega), Option.bind_some, Int.toNat_natCast, append_mkB, append_mkB, append_mkB, size_mkB, size_mkB, size_mkB, if_pos (by simp [thL]), if_pos (by simp [thL]; omega)]
          simp
      · rw [he, hd, decide_eq_false hi0, decide_eq_false (by omega)]
        simp [accL]
theorem accept_f (l : List S30) (hl : l.length ≤ 20) (hz : ∀ m, m ∈ l → m.f0.size ≤ 2147483647) (hw : ∀ m, m ∈ l → WOk m) : ∃ k, spec_Accept.f k l = some (mkB (accL true l)) ∧ (accL true l).length ≤ 100000000000 := by
  obtain ⟨r, hr, he, hlen⟩ := accept_ev l hl hz hw l.length 0 [] (by omega) (by simp)
  obtain ⟨k, hk⟩ := hr.rounds
  have he' : r = accL true l := by simpa using he
  subst he'
  exact ⟨k, hk, by omega⟩

/-! ### its pieces -/
theorem segL_mem {m : S30} (h : WOk m) {c : UInt8} (hc : c ∈ segL m) : c ≠ 44 ∧ c ≠ 32 := by
  unfold segL at hc
  rcases List.mem_append.1 hc with h1 | h1
  · have := typeL_mem h.2.2 h1
    exact ⟨this.1, this.2.2⟩
  · split at h1
    · cases h1
    · simp only [List.mem_cons] at h1
      rcases h1 with rfl | rfl | rfl | h1
      · decide
      · decide
      · decide
      · have := thL_mem h1
        exact ⟨this.1, this.2.2.1⟩
theorem split_accL : ∀ (r : List S30) (a : List UInt8), (44 : UInt8) ∉ a → (∀ m, m ∈ r → WOk m) → splitL 44 (a ++ accL false r) = a :: r.map (fun m => 32 :: segL m)
  | [], a, h, _ => by simpa [accL] using splitL_none h
  | m :: r, a, h, hw => by
    have := split_accL r (32 :: segL m) (by
      intro h1
      rcases List.mem_cons.1 h1 with h1 | h1
      · cases h1
      · exact (segL_mem (hw m (by simp)) h1).1 rfl) (fun x hx => hw x (by simp [hx]))
    show splitL 44 (a ++ 44 :: (32 :: segL m ++ accL false r)) = _
    rw [splitL_at h, this]
    rfl
theorem drop_none {c : UInt8} : ∀ {a : List UInt8}, c ∉ a → a.dropWhile (· == c) = a
  | [], _ => rfl
  | d :: r, h => by
    have : d ≠ c := fun e => h (by simp [e])
    simp [this]
theorem trimL_none {c : UInt8} {a : List UInt8} (h : c ∉ a) : trimL c a = a := by
  unfold trimL rtrim
  rw [drop_none h, drop_none (by simpa using h), List.reverse_reverse]
theorem trimL_cons {c : UInt8} {a : List UInt8} (h : c ∉ a) : trimL c (c :: a) = a := by
  have : trimL c (c :: a) = trimL c a := by unfold trimL; simp
  rw [this, trimL_none h]
theorem segOk_of {m : S30} (h : WOk m) {seg : List UInt8} (hs : trimL 32 seg = segL m) : SegOk seg (toM m) := by
  obtain ⟨h0, h1, h2⟩ := h
  have h59 : (59 : UInt8) ∉ m.f0.data.toList := fun hc => (typeL_mem h2 hc).2.1 rfl
  unfold SegOk
  rw [hs]
  unfold segL
  by_cases he : m.f1 = 1000
  · left
    refine ⟨m.f0.data.toList, ?_, ?_⟩
    · rw [if_pos he, List.append_nil, splitL_none h59]
    · unfold toM
      rw [he, mkB_data, ← one_F]
      rfl
  · right
    refine ⟨m.f0.data.toList, thL m.f1.toNat, m.f1.toNat, ?_, fun hc => (thL_mem hc).2.2.2 rfl, thL_dec (by omega), by omega, ?_⟩
    · rw [if_neg he, splitL_at h59, splitL_none]
      intro hc
      simp only [List.mem_cons] at hc
      rcases hc with hc | hc | hc
      · cases hc
      · cases hc
      · exact (thL_mem hc).2.1 rfl
    · unfold toM
      rw [mkB_data]
theorem segs_of (l : List S30) (hne : l ≠ []) (hw : ∀ m, m ∈ l → WOk m) : Segs (splitL 44 (accL true l)) (l.map toM) := by
  cases l with
  | nil => exact absurd rfl hne
  | cons m r =>
    have h44 : (44 : UInt8) ∉ segL m := fun h1 => (segL_mem (hw m (by simp)) h1).1 rfl
    have e : splitL 44 (accL true (m :: r)) = segL m :: r.map (fun m => 32 :: segL m) := split_accL r (segL m) h44 (fun x hx => hw x (by simp [hx]))
    rw [e]
    refine ⟨by simp, fun j hj => ?_⟩
    rw [List.length_map] at hj
    cases j with
    | zero => exact segOk_of (hw m (by simp)) (trimL_none (fun h1 => (segL_mem (hw m (by simp)) h1).2 rfl))
    | succ j =>
      have hj' : j < r.length := by simpa using hj
      have hm := hw r[j] (by simp)
      have e1 : (segL m :: r.map (fun m => 32 :: segL m)).getD (j + 1) [] = 32 :: segL r[j] := by
        simp [hj']
      have e2 : ((m :: r).map toM).getD (j + 1) z47 = toM r[j] := by
        simp [hj']
      rw [e1, e2]
      exact segOk_of hm (trimL_cons (fun h1 => (segL_mem hm h1).2 rfl))

/-! ### what the walk asks of every list -/
theorem lawF (l : List S30) : LawF l := by
  obtain ⟨k1, r1, h1, hz⟩ := fits_f l
  refine ⟨k1, r1, h1, fun hr1 => ?_⟩
  obtain ⟨k2, r2, h2, hw⟩ := weighed_f l (hz hr1)
  refine ⟨k2, r2, h2, fun hr2 => ?_⟩
  obtain ⟨hne, h20, hok⟩ := hw hr2
  obtain ⟨k3, h3, hlen⟩ := accept_f l h20 (hz hr1) hok
  obtain ⟨k4, h4⟩ := (ordered_f l (by omega)).rounds
  have hin : ∀ m, m ∈ l → InR m := fun m hm => ⟨(hok m hm).1, (hok m hm).2.1⟩
  exact ⟨⟨k3, _, h3, hlen, segs_of l hne hok⟩, ⟨k4, _, h4, sortL_toM l hin, fun m hm => hin m (srtS_mem hm)⟩, h20⟩
end Go.Proofs.YtkjepgahnaieaaaDoor.PFnAccept
