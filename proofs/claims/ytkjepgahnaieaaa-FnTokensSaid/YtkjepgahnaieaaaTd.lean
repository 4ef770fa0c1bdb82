/- spec.template at every path, and spec.Template: where the third result is true the path is empty, a lone slash, or has what TG says. -/
import Derived.Test.YtkjepgahnaieaaaTc
namespace Go.Proofs.Ytkjepgahnaieaaa.PFnTokens
open Go.RowKit Go.Maps Go.Proofs.YtkjepgahnaieaaaW.PrintWords Go.Proofs.YtkjepgahnaieaaaW.PrintLast Go.Proofs.YtkjepgahnaieaaaW.PrintMore

set_option maxHeartbeats 1000000 in
set_option maxRecDepth 100000 in
theorem template_any (s : ByteArray) (w0 w : World) (B n : Nat) (D : DataW Unit) (hown : w.ownsMap Try.prog 9 (plainElem Try.prog 4) B n D) (hn : n ≤ 1000000) (hb : Below w0.heap.size w0 w) (hB : w0.heap.size ≤ B) (hs : s.size ≤ 2147483647) :
    Calls Try.prog 8 #[.string s, .map (some B)] w (SomeBool s.data.toList w0) := by
  have hd : s.toList = s.data.toList := Lib.toList_data s
  by_cases c1 : s.toList = []
  · have h1 : (s.toList == []) = true := by rw [c1]; rfl
    have HB := Aside0.mk hb
    have HT := Aside0.mk (show TOK s.data.toList from .inl (hd ▸ c1))
    clear hb hown hd c1
    go_enter Try.func8, Try.ntmps8
    go_wp2_with fail
    go_ret
    exact ⟨true, rfl, (fun _ => HT.out), HB.out⟩
  have h1 : (s.toList == []) = false := by simpa using c1
  by_cases c2 : s.toList = [47]
  · have h2 : (s.toList == [47]) = true := by rw [c2]; rfl
    have HB := Aside0.mk hb
    have HT := Aside0.mk (show TOK s.data.toList from .inr (.inl (hd ▸ c2)))
    clear hb hown hd c1 c2
    go_enter Try.func8, Try.ntmps8
    go_wp2_with fail
    go_ret
    exact ⟨true, rfl, (fun _ => HT.out), HB.out⟩
  have h2 : (s.toList == [47]) = false := by simpa using c2
  have h0 : 0 < s.size := by
    rw [Lib.size_eq, ← hd]
    exact List.length_pos_iff.2 c1
  by_cases h3 : bt s 0 = 47
  · by_cases h4 : bt s ((s.size - 1 : Nat) : Int) = 47
    · have HB := Aside0.mk hb
      have hx0 : ∀ h : 0 < s.size, ((s[0]'h).toNat : Int) = bt s 0 := fun h => by simp [bt, h]
      have hx1 : ∀ h : s.size - 1 < s.size, ((s[s.size - 1]'h).toNat : Int) = bt s ((s.size - 1 : Nat) : Int) := fun h => by simp only [bt, Int.toNat_natCast, h]; rfl
      have b0 : (bt s 0 == 47) = true := beq_iff_eq.2 h3
      have b0' : (bt s 0 != 47) = false := bne_eq_false_iff_eq.2 h3
      have b1 : (bt s ((s.size - 1 : Nat) : Int) == 47) = true := beq_iff_eq.2 h4
      clear hb hown hd c1 c2 h3 h4
      go_enter Try.func8, Try.ntmps8
      go_wp2_with fail
      go_ret
      exact ⟨false, rfl, (fun h => by cases h), HB.out⟩
    · by_cases h5 : s.size ≤ 100
      · exact template_go s w0 w B n D hown hn hb hB h1 h2 h0 h3 h4 h5
      · have HB := Aside0.mk hb
        have hx0 : ∀ h : 0 < s.size, ((s[0]'h).toNat : Int) = bt s 0 := fun h => by simp [bt, h]
        have hx1 : ∀ h : s.size - 1 < s.size, ((s[s.size - 1]'h).toNat : Int) = bt s ((s.size - 1 : Nat) : Int) := fun h => by simp only [bt, Int.toNat_natCast, h]; rfl
        have b0 : (bt s 0 == 47) = true := beq_iff_eq.2 h3
        have b0' : (bt s 0 != 47) = false := bne_eq_false_iff_eq.2 h3
        have b1 : (bt s ((s.size - 1 : Nat) : Int) == 47) = false := beq_eq_false_iff_ne.2 h4
        have h5' : decide ((100 : Int) < (s.size : Int)) = true := decide_eq_true (by omega)
        clear hb hown hd c1 c2 h3 h4
        go_enter Try.func8, Try.ntmps8
        go_wp2_with fail
        go_ret
        exact ⟨false, rfl, (fun h => by cases h), HB.out⟩
  · have HB := Aside0.mk hb
    have hx0 : ∀ h : 0 < s.size, ((s[0]'h).toNat : Int) = bt s 0 := fun h => by simp [bt, h]
    have b0 : (bt s 0 == 47) = false := beq_eq_false_iff_ne.2 h3
    have b0' : (bt s 0 != 47) = true := bne_iff_ne.2 h3
    clear hb hown hd c1 c2 h3
    go_enter Try.func8, Try.ntmps8
    go_wp2_with fail
    go_ret
    exact ⟨false, rfl, (fun h => by cases h), HB.out⟩

/-- What the second loop, over the parts, keeps: the names gathered so far, and the parts' own row apart from theirs. -/
structure NInv (w0 wr : World) (m j : Nat) (v u : Value) (ps : List ByteArray) : Prop where
  names : ∃ xs : List ByteArray, xs.length ≤ j ∧ Kd.R Kd.string 9 wr w0.heap.size (fun _ => True) v xs
  row : Kd.R Kd.string 9 wr m (fun k => True ∧ some k ≠ v.ownBlock) u ps
  below : Below w0.heap.size w0 wr
theorem NInv.drew {w0 wr : World} {m j : Nat} {v u : Value} {ps : List ByteArray} (h : NInv w0 wr m j v u ps) (n : Nat) : NInv w0 (wr.drewN n) m j v u ps := by
  obtain ⟨⟨xs, hl, hx⟩, h2, h3⟩ := h
  exact ⟨⟨xs, hl, Kd.R_drewN hx n⟩, Kd.R_drewN h2 n, pw_below_drewN h3 n⟩
theorem NInv.more {w0 wr : World} {m j : Nat} {v u : Value} {ps : List ByteArray} (h : NInv w0 wr m j v u ps) : NInv w0 wr m (j + 1) v u ps := by
  obtain ⟨⟨xs, hl, hx⟩, h2, h3⟩ := h
  exact ⟨⟨xs, by omega, hx⟩, h2, h3⟩

def SomeTempl (l : List UInt8) (w0 : World) (e : Ending) (w' : World) : Prop := ∃ (v : Value) (n : Int) (b : Bool), e = .returned (.tuple #[v, .int .i64 n, .bool b]) ∧ (b = true → TOK l) ∧ Below w0.heap.size w0 w'

set_option maxHeartbeats 2000000 in
set_option maxRecDepth 100000 in
theorem Template_any (s : ByteArray) (w : World) (hs : s.size ≤ 2147483647) : Calls Try.prog 4 #[.string s] w (SomeTempl s.data.toList w) := by
  have hmm := @run_makeMap Try.prog
  have HB0 := Aside0.mk (below_alloc (Below.refl w.heap.size w) (.map #[] 0))
  have HM0 := Aside0.mk (World.ownsMap_made (H := Unit) w Try.prog 9 (plainElem Try.prog 4))
  obtain ⟨kp, hkp⟩ := (parts_f s.data.toList (by rw [← Lib.size_eq]; omega)).rounds
  rw [mkB_data] at hkp
  have HP := Aside0.mk hkp
  clear hkp
  go_enter Try.func4, Try.ntmps4
  go_wp2_with (go_at_call 8; (with_reducible refine (template_any s w _ w.heap.size 0 _ HM0.out (by omega) HB0.out (Nat.le_refl _) hs).mono ?_); rintro e w1 ⟨b, rfl, hT, hb1⟩; have HT := Aside0.mk hT; have HB1 := Aside0.mk hb1; clear hT hb1)
  · have hbf : (!b) = true := by assumption
    go_ret3
    exact ⟨_, _, false, rfl, (fun h => by cases h), HB1.out⟩
  have hbt : (!b) = false := by assumption
  obtain rfl : b = true := by simpa using hbt
  clear hbt
  have HT1 := Aside0.mk (HT.out rfl)
  have hsz : s.size ≤ 100 := by
    rw [Lib.size_eq]
    rcases HT1.out with h | h | h
    · rw [h]; decide
    · rw [h]; decide
    · exact h.len
  have hpl := partsL_len s.data.toList
  rw [← Lib.size_eq] at hpl
  obtain ⟨ps, hps⟩ : ∃ ps, ps = (partsL s.data.toList).map mkB := ⟨_, rfl⟩
  have hplen : ps.length ≤ 101 := by rw [hps, List.length_map]; omega
  have hpm : Aside0 (∀ p ∈ ps, p.size ≤ 100) := by
    refine ⟨fun p hp => ?_⟩
    rw [hps] at hp
    obtain ⟨q, hq, rfl⟩ := List.mem_map.1 hp
    rw [size_mkB]
    have := partsL_mem hq
    rw [← Lib.size_eq] at this
    omega
  rw [← hps] at HP
  clear hps hpl HT HM0 HB0
  obtain ⟨m, hm⟩ : ∃ m, m = w1.heap.size := ⟨_, rfl⟩
  have Hm := Aside0.mk hm
  clear hm
  (with_reducible refine (spec_Parts.calls kp s ps _ HP.out).mono ?_); rintro e w2 ⟨v1, rfl, hR1, hb1⟩
  rw [← Hm.out] at hR1
  have HI := Aside0.mk (show NInv w w2 m 0 (.slice none 0 0) v1 ps from ⟨⟨[], Nat.le_refl _, Kd.R_nil _ _ _ _ _⟩, Kd.R_apart_nil hR1, below_step HB1.out hb1⟩)
  clear hR1 hb1 HB1 Hm
  obtain ⟨A1, c1, e1⟩ := Kd.R_slice HI.out.row
  subst e1
  go_wp2_with fail
  go_loopw [2, 3, 15] (fun v x i wr => ∃ (j : Nat) (z : Int), j ≤ ps.length ∧ i = .int .i64 j ∧ x = .int .i64 z ∧ Aside0 (NInv w wr m j v (.slice A1 ps.length c1) ps)) (fun _ _ i _ => ps.length - (intOf i).toNat)
  case atStart => exact ⟨0, 0, Nat.zero_le _, rfl, rfl, HI⟩
  case round =>
    clear HI
    obtain ⟨j, z, hj, rfl, rfl, HI⟩ := hrel
    by_cases hlt : j < ps.length
    · obtain ⟨A', c', ev, _, hC⟩ := Kd.R_reads HI.out.row
      obtain ⟨ad, e2, hcell⟩ := (Kd.reads_of_C (d := ByteArray.empty) hC).at_ (j : Int) (by omega) (by omega)
      obtain ⟨p, hp⟩ : ∃ p, p = rdOf ByteArray.empty ps (j : Int) := ⟨_, rfl⟩
      rw [← hp, Int.toNat_natCast] at hcell
      injection ev with ev1 ev2 ev3
      clear ev2 ev3
      rw [e2] at ev1
      subst ev1
      have hps : p.size ≤ 100 := hpm.out p (by rw [hp]; simp only [rdOf, Int.toNat_natCast, List.getD_eq_getElem?_getD, List.getElem?_eq_getElem hlt, Option.getD_some]; exact List.getElem_mem _)
      clear hp hC e2
      obtain ⟨vl, hvl, hev⟩ := variable_f p.data.toList (by rw [← Lib.size_eq]; omega)
      obtain ⟨kv, hkv⟩ := hev.rounds
      rw [mkB_data] at hkv
      obtain ⟨v, hv⟩ : ∃ v, v = mkB vl := ⟨_, rfl⟩
      rw [← hv] at hkv
      have HV := Aside0.mk hkv
      clear hkv hv hev hvl
      by_cases cv : v.toList = []
      · have v1 : (v.toList == []) = true := by rw [cv]; rfl
        have v2 : (v.toList != []) = false := by rw [cv]; rfl
        have v3 : v.toList.isEmpty = true := by rw [cv]; rfl
        clear cv
        go_wp2_with (go_at_call 9; (with_reducible refine (spec_variable.calls kv p v _ HV.out).mono ?_); rintro e w2 ⟨rfl, ⟨nd, rfl⟩⟩; have HI2 := Aside0.mk ((HI.out.drew nd).more))
        go_roundw
        case rel => exact ⟨j + 1, _, by omega, by go_num, rfl, HI2⟩
        case measure => simp [intOf]; omega
      · have v1 : (v.toList == []) = false := by simpa using cv
        have v2 : (v.toList != []) = true := by simpa using cv
        have v3 : v.toList.isEmpty = false := by simpa using cv
        clear cv
        obtain ⟨xs, hxl, hX⟩ := HI.out.names
        have HX := Aside0.mk hX
        clear hX
        go_wp2_with (first | (go_at_call 9; (with_reducible refine (spec_variable.calls kv p v _ HV.out).mono ?_); rintro e w2 ⟨rfl, ⟨nd, rfl⟩⟩; have HI2 := Aside0.mk (HI.out.drew nd)) | ((with_reducible refine gate_builtin (b := .append) (xs := #[.tmp 23, .tmp 25]) rfl ?_); at_builtin; refine Kd.R_append Kd.string (w0 := w) w.heap.size rfl (.tmp 23) (.tmp 25) 22 9 (.string ⟨#[]⟩) 16 rfl Try.underlying22 info9 rfl (by decide) (by omega) u2 xs v [.string v] (fun _ => True) (fun _ => False) rfl rfl ?aP (fun _ hk => hk.elim) ?aF ?aO ?aB ?aS ?aL ?_; (case aP => exact rfl); (case aF => exact fun _ _ => trivial); (case aO => exact Kd.R_drewN HX.out nd); (case aB => exact HI2.out.below); (case aS => exact HI2.out.below.size); (case aL => omega); intro y3 w3 ho hb hg hat; have HI3 := Aside0.mk (show NInv w w3 m (j + 1) y3 (.slice (some ad) ps.length c1) ps from ⟨⟨xs ++ [v], by simp; omega, ho⟩, Kd.R_after HI2.out.row hg hat, hb⟩); clear ho hb hg hat))
        go_roundw
        case rel => exact ⟨j + 1, z, by omega, by go_num, rfl, HI3⟩
        case measure => simp [intOf]; omega
    · go_wp2_with fail
      go_ret3
      exact ⟨_, _, true, rfl, (fun _ => HT1.out), HI.out.below⟩
end Go.Proofs.Ytkjepgahnaieaaa.PFnTokens
