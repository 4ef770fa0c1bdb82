/- spec.template: where it answers true the path is empty, a lone slash, or has what TG says; what was there stays as it was but for the map of names. -/
import Derived.Test.YtkjepgahnaieaaaTb
import Derived.Maps.OwnOps
import Derived.Outline
namespace Go.Proofs.Ytkjepgahnaieaaa.PFnTokens
open Go.RowKit Go.Maps Go.Proofs.YtkjepgahnaieaaaW.PrintWords Go.Proofs.YtkjepgahnaieaaaW.PrintLast Go.Proofs.YtkjepgahnaieaaaW.PrintMore

/-! ### a look-up in a map of bools that the call made -/
theorem elem_bool_inv {H : Type} {P : Program} {e : TypeId} (he : P.underlying e = some .bool) {v : Value} {z : DataW H × List MemPlace} (h : plainElem P e v = some z) : ∃ x, v = .bool x := by
  unfold plainElem at h
  rw [he] at h
  cases v <;> simp at h
  exact ⟨_, rfl⟩
theorem lookup_bool {H : Type} {P : Program} {w : World} {k b n : Nat} {D : DataW H} {t e : TypeId} (h : w.ownsMap P k (plainElem P e) b n D) (K : Keyed P k) (ht : P.underlying t = some (.map k e)) (he : P.underlying e = some .bool) (hz : (zeroValue e).run P w = .ok (.bool false) w)
    {key : Value} {kl : Lit} (hkey : keyOf P k key = some kl) : ∃ x, (Instr.lookup t (.map (some b)) key false).run P w = .ok (.bool x) w := by
  obtain ⟨v, ps, hrun, hv⟩ := h.lookup K ht hz (plainElem_bool he false) hkey
  obtain ⟨x, rfl⟩ := elem_bool_inv he hv
  exact ⟨x, hrun⟩
theorem keys9 : Keyed Try.prog 9 := string_keyed Try.underlying9
theorem zero4 (w : World) : (zeroValue 4).run Try.prog w = .ok (.bool false) w := by kernel_rfl

/-! ### what the second loop keeps -/
structure TInv (w0 wr : World) (B m n : Nat) (v : Value) (ps : List ByteArray) : Prop where
  map : ∃ D : DataW Unit, wr.ownsMap Try.prog 9 (plainElem Try.prog 4) B n D
  row : Kd.R Kd.string 9 wr m (fun k => k ≠ B) v ps
  below : Below w0.heap.size w0 wr
  base : w0.heap.size ≤ B
theorem TInv.drew {w0 wr : World} {B m n : Nat} {v : Value} {ps : List ByteArray} (h : TInv w0 wr B m n v ps) (j : Nat) : TInv w0 (wr.drewN j) B m n v ps := by
  obtain ⟨⟨D, hD⟩, h2, h3, h4⟩ := h
  exact ⟨⟨D, hD.kept (grown_of_below (pw_below_drewN (Below.refl _ _) j) none) (by simp)⟩, Kd.R_drewN h2 j, pw_below_drewN h3 j, h4⟩
theorem TInv.more {w0 wr : World} {B m n n' : Nat} {v : Value} {ps : List ByteArray} (h : TInv w0 wr B m n v ps) (hn : n ≤ n') : TInv w0 wr B m n' v ps := by
  obtain ⟨⟨D, hD⟩, h2, h3, h4⟩ := h
  exact ⟨⟨D, hD.mono hn⟩, h2, h3, h4⟩
theorem TInv.put {w0 wr w1 : World} {B m n : Nat} {v : Value} {ps : List ByteArray} (h : TInv w0 wr B m n v ps) {D : DataW Unit} (hD : w1.ownsMap Try.prog 9 (plainElem Try.prog 4) B (n + 1) D) (hg : wr.grownBy w1 (some B)) : TInv w0 w1 B m (n + 1) v ps := by
  obtain ⟨_, h2, h3, h4⟩ := h
  exact ⟨⟨D, hD⟩, Kd.R_grown h2 hg (fun k hk e => hk (Option.some.inj e)), h3.grown hg h3.size (fun k hk => by cases hk; exact h4), h4⟩

def TOK (l : List UInt8) : Prop := l = [] ∨ l = [47] ∨ TG l
def SomeBool (l : List UInt8) (w0 : World) (e : Ending) (w' : World) : Prop := ∃ b : Bool, e = .returned (.bool b) ∧ (b = true → TOK l) ∧ Below w0.heap.size w0 w'

theorem bt_47 (s : ByteArray) (k : Nat) (h : k < s.size) : bt s (k : Int) = 47 ↔ s.data.toList[k]? = some 47 := by
  have hl : k < s.data.toList.length := by rw [← Lib.size_eq]; exact h
  have := bt_mkB s.data.toList k hl
  rw [mkB_data] at this
  rw [this, List.getElem?_eq_getElem hl]
  constructor
  · intro e; congr 1; exact UInt8.toNat_inj.1 (show (s.data.toList[k]).toNat = 47 by omega)
  · intro e; have := Option.some.inj e; rw [this]; rfl
/-- No two slashes together ahead of place k. -/
def Apart (l : List UInt8) (k : Nat) : Prop := ∀ j, 1 ≤ j → j < k → ¬ (l[j]? = some 47 ∧ l[j - 1]? = some 47)
theorem Apart.next {l : List UInt8} {k : Nat} (h : Apart l k) (hk : ¬ (l[k]? = some 47 ∧ l[k - 1]? = some 47)) : Apart l (k + 1) := by
  intro j h1 h2
  by_cases e : j = k
  · subst e; exact hk
  · exact h j h1 (by omega)

set_option maxHeartbeats 2000000 in
set_option maxRecDepth 100000 in
theorem template_go (s : ByteArray) (w0 w : World) (B n : Nat) (D : DataW Unit) (hown : w.ownsMap Try.prog 9 (plainElem Try.prog 4) B n D) (hn : n ≤ 1000000) (hb : Below w0.heap.size w0 w) (hB : w0.heap.size ≤ B)
    (h1 : (s.toList == []) = false) (h2 : (s.toList == [47]) = false) (h0 : 0 < s.size) (h3 : bt s 0 = 47) (h4 : ¬ bt s ((s.size - 1 : Nat) : Int) = 47) (h5 : s.size ≤ 100) :
    Calls Try.prog 8 #[.string s, .map (some B)] w (SomeBool s.data.toList w0) := by
  have HM := Aside0.mk hown
  have HB := Aside0.mk hb
  have hBw : B < w.heap.size := hown.lt
  have hx0 : ∀ h : 0 < s.size, ((s[0]'h).toNat : Int) = bt s 0 := fun h => by simp [bt, h]
  have hx1 : ∀ h : s.size - 1 < s.size, ((s[s.size - 1]'h).toNat : Int) = bt s ((s.size - 1 : Nat) : Int) := fun h => by simp only [bt, Int.toNat_natCast, h]; rfl
  have b0 : (bt s 0 == 47) = true := beq_iff_eq.2 h3
  have b0' : (bt s 0 != 47) = false := bne_eq_false_iff_eq.2 h3
  have b1 : (bt s ((s.size - 1 : Nat) : Int) == 47) = false := beq_eq_false_iff_ne.2 h4
  have A0 := Aside0.mk ((bt_47 s 0 h0).1 h3)
  have A1 := Aside0.mk (fun e => h4 ((bt_47 s (s.size - 1) (by omega)).2 e))
  have h5' : decide ((100 : Int) < (s.size : Int)) = false := decide_eq_false (by omega)
  clear hown hb h3 h4
  go_enter Try.func8, Try.ntmps8
  go_wp2_with fail
  go_loop [5] (fun i => ∃ k : Nat, 1 ≤ k ∧ k ≤ s.size ∧ i = .int .i64 k ∧ Aside0 (Apart s.data.toList k)) (fun i => s.size - (intOf i).toNat)
  case atStart => exact ⟨1, Nat.le_refl _, by omega, rfl, ⟨fun j h1 h2 => by omega⟩⟩
  case round =>
    obtain ⟨k, hk1, hk2, rfl, hA⟩ := hrel
    clear b0 b0' b1 hx0 hx1
    by_cases hlt : k < s.size
    · have hx0 : ∀ h : k < s.size, ((s[k]'h).toNat : Int) = bt s (k : Int) := fun h => by simp only [bt, Int.toNat_natCast, h]; rfl
      have hx1 : ∀ h : k - 1 < s.size, ((s[k - 1]'h).toNat : Int) = bt s ((k - 1 : Nat) : Int) := fun h => by simp only [bt, Int.toNat_natCast, h]; rfl
      by_cases e0 : bt s (k : Int) = 47
      · have b0 : (bt s (k : Int) == 47) = true := beq_iff_eq.2 e0
        by_cases e1 : bt s ((k - 1 : Nat) : Int) = 47
        · have b1 : (bt s ((k - 1 : Nat) : Int) == 47) = true := beq_iff_eq.2 e1
          clear e0 e1
          go_wp2_with fail
          go_ret
          exact ⟨false, rfl, (fun h => by cases h), HB.out⟩
        · have b1 : (bt s ((k - 1 : Nat) : Int) == 47) = false := beq_eq_false_iff_ne.2 e1
          have hA' := Aside0.mk (hA.out.next (fun h => e1 ((bt_47 s (k - 1) (by omega)).2 h.2)))
          clear e0 e1
          go_wp2_with fail
          go_round
          case rel => exact ⟨k + 1, by omega, by omega, by go_num, hA'⟩
          case measure => simp [intOf]; omega
      · have b0 : (bt s (k : Int) == 47) = false := beq_eq_false_iff_ne.2 e0
        have hA' := Aside0.mk (hA.out.next (fun h => e0 ((bt_47 s k (by omega)).2 h.1)))
        clear e0
        go_wp2_with fail
        go_round
        case rel => exact ⟨k + 1, by omega, by omega, by go_num, hA'⟩
        case measure => simp [intOf]; omega
    · have hks : k = s.size := by omega
      have AG := Aside0.mk (show TG s.data.toList from ⟨by rw [← Lib.size_eq]; exact h5, A0.out, by rw [← Lib.size_eq]; exact A1.out, by rw [← Lib.size_eq, ← hks]; exact hA.out⟩)
      clear hks
      obtain ⟨kp, hkp⟩ := (parts_f s.data.toList (by rw [← Lib.size_eq]; omega)).rounds
      rw [mkB_data] at hkp
      have hpl := partsL_len s.data.toList
      rw [← Lib.size_eq] at hpl
      have HP := Aside0.mk hkp
      clear hkp
      obtain ⟨ps, hps⟩ : ∃ ps, ps = (partsL s.data.toList).map mkB := ⟨_, rfl⟩
      have hplen : ps.length ≤ 101 := by rw [hps, List.length_map]; omega
      have hpm : Aside0 (∀ p ∈ ps, p.size ≤ 100) := by
        refine ⟨fun p hp => ?_⟩
        rw [hps] at hp
        obtain ⟨q, hq, rfl⟩ := List.mem_map.1 hp
        rw [size_mkB]
        have := partsL_mem hq
        rw [← Lib.size_eq] at this
        omega
      rw [← hps] at HP
      clear hps hpl
      go_wp2_with (go_at_call 7; (with_reducible refine (spec_Parts.calls kp s ps _ HP.out).mono ?_); rintro e w1 ⟨v1, rfl, hR1, hb1⟩; have HI := Aside0.mk (show TInv w0 w1 B w.heap.size n v1 ps from ⟨⟨D, HM.out.kept (grown_of_below hb1 none) (by simp)⟩, Kd.R_mono (Kd.R_bound hR1) (fun k hk e => by have := hk.2.1; omega), below_step HB.out hb1, hB⟩); clear hR1 hb1; obtain ⟨A1, c1, e1⟩ := Kd.R_slice HI.out.row; subst e1)
      go_loopw [51] (fun i wr => ∃ j : Nat, j ≤ ps.length ∧ i = .int .i64 j ∧ Aside0 (TInv w0 wr B w.heap.size (n + j) (.slice A1 ps.length c1) ps)) (fun i _ => ps.length - (intOf i).toNat)
      case atStart => exact ⟨0, Nat.zero_le _, rfl, HI⟩
      case round =>
        clear HI HB HM
        obtain ⟨j, hj, rfl, HI⟩ := hrel
        by_cases hlt : j < ps.length
        · obtain ⟨A', c', ev, _, hC⟩ := Kd.R_reads HI.out.row
          obtain ⟨ad, e2, hcell⟩ := (Kd.reads_of_C (d := ByteArray.empty) hC).at_ (j : Int) (by omega) (by omega)
          obtain ⟨p, hp⟩ : ∃ p, p = rdOf ByteArray.empty ps (j : Int) := ⟨_, rfl⟩
          rw [← hp, Int.toNat_natCast] at hcell
          injection ev with ev1 ev2 ev3
          clear ev2 ev3
          rw [e2] at ev1
          subst ev1
          have hps : p.size ≤ 100 := hpm.out p (by rw [hp]; simp only [rdOf, Int.toNat_natCast, List.getD_eq_getElem?_getD, List.getElem?_eq_getElem hlt, Option.getD_some]; exact List.getElem_mem _)
          clear hp hC e2
          obtain ⟨vl, hvl, hev⟩ := variable_f p.data.toList (by rw [← Lib.size_eq]; omega)
          obtain ⟨kv, hkv⟩ := hev.rounds
          obtain ⟨kw, hkw⟩ := (word_f p.data.toList (by rw [← Lib.size_eq]; omega)).rounds
          rw [mkB_data] at hkv hkw
          obtain ⟨v, hv⟩ : ∃ v, v = mkB vl := ⟨_, rfl⟩
          obtain ⟨b, hb⟩ : ∃ b, b = wordL p.data.toList := ⟨_, rfl⟩
          have hvs : v.size ≤ 100 := by rw [hv, size_mkB]; rw [← Lib.size_eq] at hvl; omega
          rw [← hv] at hkv
          rw [← hb] at hkw
          have HV := Aside0.mk hkv
          have HW := Aside0.mk hkw
          clear hkv hkw hv hb hev hvl
          have hkey : Aside0 (keyOf Try.prog 9 (.string v) = some (.string v.data.toList)) := ⟨WideMaps.keyOf_string_mk Try.underlying9 (by unfold maxLen; omega)⟩
          by_cases cv : v.toList = []
          · have v1 : (v.toList == []) = true := by rw [cv]; rfl
            have v2 : (v.toList != []) = false := by rw [cv]; rfl
            have v3 : v.toList.isEmpty = true := by rw [cv]; rfl
            clear cv
            cases b with
            | true =>
              go_wp2_with (first | (go_at_call 9; (with_reducible refine (spec_variable.calls kv p v _ HV.out).mono ?_); rintro e w2 ⟨rfl, ⟨nd, rfl⟩⟩; have HI2 := Aside0.mk (HI.out.drew nd)) | (go_at_call 12; (with_reducible refine (spec_word.calls kw p true _ HW.out).mono ?_); rintro e w3 ⟨rfl, ⟨nd3, rfl⟩⟩; have HI3 := Aside0.mk (HI.out.drew (nd + nd3))))
              go_roundw
              case rel => exact ⟨j + 1, by omega, by go_num, ⟨HI3.out.more (by omega)⟩⟩
              case measure => simp [intOf]; omega
            | false =>
              go_wp2_with (first | (go_at_call 9; (with_reducible refine (spec_variable.calls kv p v _ HV.out).mono ?_); rintro e w2 ⟨rfl, ⟨nd, rfl⟩⟩; have HI2 := Aside0.mk (HI.out.drew nd)) | (go_at_call 12; (with_reducible refine (spec_word.calls kw p false _ HW.out).mono ?_); rintro e w3 ⟨rfl, ⟨nd3, rfl⟩⟩; have HI3 := Aside0.mk (HI.out.drew (nd + nd3))))
              go_ret
              exact ⟨false, rfl, (fun h => by cases h), HI3.out.below⟩
          · have v1 : (v.toList == []) = false := by simpa using cv
            have v2 : (v.toList != []) = true := by simpa using cv
            have v3 : v.toList.isEmpty = false := by simpa using cv
            clear cv
            go_wp2_with (first | (go_at_call 9; (with_reducible refine (spec_variable.calls kv p v _ HV.out).mono ?_); rintro e w2 ⟨rfl, ⟨nd, rfl⟩⟩; have HI2 := Aside0.mk (HI.out.drew nd); obtain ⟨D1, hD1⟩ := HI2.out.map; have HD1 := Aside0.mk hD1; obtain ⟨x, hx⟩ := lookup_bool hD1 keys9 Try.underlying29 Try.underlying4 (zero4 _) hkey.out; clear hD1) | (at_mapUpdate; refine wpList_mapUpdate_own _ rfl _ _ _ 29 rfl 9 4 keys9 Try.underlying29 _ B (n + j) _ rfl HD1.out (by unfold maxLen; omega) _ _ _ rfl rfl hkey.out _ [] (plainElem_bool Try.underlying4 true) ?_; intro w4 hown4 hgrow4; have HI4 := Aside0.mk (HI2.out.put hown4 hgrow4); clear hown4 hgrow4))
            · go_ret
              exact ⟨false, rfl, (fun h => by cases h), HI2.out.below⟩
            · go_roundw
              case rel => exact ⟨j + 1, by omega, by go_num, HI4⟩
              case measure => simp [intOf]; omega
        · go_wp2_with fail
          go_ret
          exact ⟨true, rfl, (fun _ => .inr (.inr AG.out)), HI.out.below⟩
end Go.Proofs.Ytkjepgahnaieaaa.PFnTokens
