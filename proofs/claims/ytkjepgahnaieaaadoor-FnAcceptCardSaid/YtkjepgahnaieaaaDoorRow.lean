/- laws.FnAccept returns true at every list of media types that can be read, and the list reads afterwards as it did; of the listed variables three are read. The row, and the tied card. -/
import Derived.Test.YtkjepgahnaieaaaDoorTie
import Derived.Test.YtkjepgahnaieaaaDoorCards
import Derived.Test.YtkjepgahnaieaaaDoorPe
import Derived.WalkKit
import Derived.ProofKit
import Derived.OpenShut
import Derived.ChangeOld
import Derived.Below
import Derived.Carry
import Derived.LaidMore
import Derived.Lay
import Derived.SevenTiedAt
import Derived.Stop.Joined
import Derived.Stop.LaidErr
import Derived.Deep.SlicePairs
namespace Go.Proofs.YtkjepgahnaieaaaDoor.fnAccept
open Go.ChangeShapes Go.WideShapes Go.ChangeAt Go.RowKit Go.Deep PFnAccept
open Go.Proofs.YtkjepgahnaieaaaDoorW.PrintWords
set_option linter.unusedVariables false
theorem own : ownKnob Tryd.prog.godebug = none := by kernel_rfl
theorem laidOut : laidOutB Tryd.prog = true := by kernel_rfl
theorem cells30 : Tryd.prog.cellsOf 30 = 2 := by kernel_rfl
theorem cells9 : Tryd.prog.cellsOf 9 = 1 := by kernel_rfl
theorem cells3 : Tryd.prog.cellsOf 3 = 1 := by kernel_rfl
theorem cells31 : Tryd.prog.cellsOf 31 = 1 := by kernel_rfl

/-! ### what the listed variables give -/
theorem trod_float {H : Type} {enc : TypeId × Value → H} {P : Program} {w : World} {base : Nat} {spare : Nat → Bool} {held : Bool} {fuel : Nat} {t : TypeId} {cs : List Value} {x : DataW H × List MemPlace} {k : FloatKind}
    (ht : P.underlying t = some (.float k)) (h : DataW.trod enc P w base spare held fuel t cs = some x) : ∃ b, cs = [.float k b] ∧ x = (.lit (.float k b), []) := by
  cases fuel with
  | zero => simp [DataW.trod] at h
  | succ n =>
    unfold DataW.trod at h
    rw [ht] at h
    split at h <;> simp_all
theorem first_cell {cs : Array Value} {v : Value} (h : (cs.toList.drop 0).take 1 = [v]) : cs[0]? = some v := by
  have h0 : ((cs.toList.drop 0).take 1)[0]? = some v := by rw [h]; rfl
  simpa using h0
theorem of_laid {W : World} (h : laidMetH Tryd.prog Rows.fnAcceptRow.laid W) : GL W := by
  rw [MakeChecks.laidMetH_plain _ _ _ (by kernel_rfl)] at h
  have h3 := h.tail.tail.tail
  have h4 := h3.tail
  have h6 := h4.tail.tail
  clear h
  refine ⟨?_, ?_, ?_⟩
  · obtain ⟨_, ⟨g, t, cs, fuel, p, q, hg, ht, hv, hd, _, _⟩, _, _⟩ := h4
    obtain rfl := Option.some.inj ((show Tryd.prog.globalNamed "internal/strconv.optimize" = some 3 by kernel_rfl).symm.trans hg)
    obtain rfl := Option.some.inj ((show (Tryd.prog.globals[3]?).map (·.type) = some 4 by kernel_rfl).symm.trans ht)
    obtain ⟨b, e1, e2⟩ := DataW.trod_bool Tryd.underlying4 hd
    have hb : b = true := by
      have := (Prod.mk.inj e2).1
      unfold Rows.laid_internal_strconv_optimize at this
      simpa using this.symm
    subst hb
    rw [World.var?_cell hg hv 0]
    have : cs.toList[0]? = some (.bool true) := by rw [e1]; rfl
    simpa using this
  · obtain ⟨_, ⟨g, t, cs, fuel, p, q, hg, ht, hv, hd, _, _⟩, _, _⟩ := h3
    obtain rfl := Option.some.inj ((show Tryd.prog.globalNamed "internal/strconv.float64info" = some 4 by kernel_rfl).symm.trans hg)
    obtain rfl := Option.some.inj ((show (Tryd.prog.globals[4]?).map (·.type) = some 83 by kernel_rfl).symm.trans ht)
    obtain ⟨xs, n, _, ex, _, hl, hel⟩ := DataW.trod_struct Tryd.underlying83 hd
    have hE := hel 0 _ rfl
    rw [List.getElem?_eq_getElem (by rw [hl]; decide)] at hE
    obtain ⟨z, e1, e2, _⟩ := DataW.trod_int Tryd.underlying81 hE
    have e3 : (xs.map (·.1))[0]? = some (.lit (.int .u64 52)) := by rw [← (DataW.agg.inj (Prod.mk.inj ex).1)]; rfl
    rw [List.getElem?_map, List.getElem?_eq_getElem (by rw [hl]; decide), e2] at e3
    have hz : z = 52 := by simpa using e3
    subst hz
    rw [World.var?_cell hg hv 0]
    have c81 : Tryd.prog.cellsOf 81 = 1 := by kernel_rfl
    have e4 : (cs.toList.drop 0).take (Tryd.prog.cellsOf 81) = [.int .u64 52] := e1
    rw [c81] at e4
    exact first_cell e4
  · obtain ⟨_, ⟨g, t, cs, fuel, p, q, hg, ht, hv, hd, _, _⟩, _, _⟩ := h6
    obtain rfl := Option.some.inj ((show Tryd.prog.globalNamed "internal/strconv.float64pow10" = some 7 by kernel_rfl).symm.trans hg)
    obtain rfl := Option.some.inj ((show (Tryd.prog.globals[7]?).map (·.type) = some 38 by kernel_rfl).symm.trans ht)
    obtain ⟨a, cap, e1, _, hel⟩ := open_row Tryd.underlying38 cells31 hd
    obtain ⟨v, n, q', hc, hr⟩ := hel 3 _ rfl
    obtain ⟨b, e2, e3⟩ := trod_float Tryd.underlying31 hr
    have hb : b = 4652007308841189376 := by
      have := (Prod.mk.inj e3).1
      simpa using this.symm
    subst hb
    rw [List.cons.injEq] at e2
    refine ⟨a, cap, ?_, by rw [hc, e2.1]⟩
    rw [World.var?_cell hg hv 0]
    have : cs.toList[0]? = some (.slice (some a) 23 cap) := by rw [e1]; rfl
    simpa using this

/-! ### the argument -/
theorem row_of {W : World} {a : Addr} {len : Nat} (h : ∀ i, i < len → ∃ p : S30, W.cell? (a.add (i * 2)) = some (.string p.f0) ∧ W.cell? (a.add (i * 2 + 1)) = some (.int .i64 p.f1)) (k : Nat) (hk : k ≤ len) :
    ∃ l : List S30, l.length = k ∧ ∀ j p, l[j]? = some p → W.cell? (a.add (j * 2)) = some (.string p.f0) ∧ W.cell? (a.add (j * 2 + 1)) = some (.int .i64 p.f1) := by
  induction k with
  | zero => exact ⟨[], rfl, fun j p hp => by simp at hp⟩
  | succ k ih =>
    obtain ⟨l, hl, hc⟩ := ih (by omega)
    obtain ⟨p, h0, h1⟩ := h k (by omega)
    refine ⟨l ++ [p], by simp [hl], fun j q hq => ?_⟩
    by_cases hj : j < l.length
    · rw [List.getElem?_append_left hj] at hq
      exact hc j q hq
    · have hjk : j = k := by
        have := (List.getElem?_eq_some_iff.1 hq).1
        simp at this
        omega
      subst hjk
      rw [List.getElem?_append_right (by omega), hl, Nat.sub_self] at hq
      obtain rfl : p = q := by simpa using hq
      exact ⟨h0, h1⟩
theorem c_of {W : World} {a : Addr} {len : Nat} (hlen : len ≤ 9223372036854775807) (h : ∀ i, i < len → ∃ p : S30, W.cell? (a.add (i * 2)) = some (.string p.f0) ∧ W.cell? (a.add (i * 2 + 1)) = some (.int .i64 p.f1)) :
    ∃ l : List S30, l.length = len ∧ Kd.C k30 W (some a) len l := by
  obtain ⟨l, hl, hc⟩ := row_of h len (Nat.le_refl _)
  refine ⟨l, hl, hl, hlen, fun _ => ⟨a, rfl, fun j p hj => ⟨[.string p.f0, .int .i64 p.f1], rfl, k30_mk W p, fun i u hu => ?_⟩⟩⟩
  obtain ⟨h0, h1⟩ := hc j p hj
  match i, hu with
  | 0, hu =>
    obtain rfl : Value.string p.f0 = u := by simpa using hu
    exact h0
  | 1, hu =>
    obtain rfl : Value.int .i64 p.f1 = u := by simpa using hu
    exact h1

set_option maxRecDepth 100000 in
theorem lifted (os : Os) (started : os.Started) (H : Type) (enc : TypeId × Value → H) :
    ReturnsInHanded {} Tryd.checked os 3 .any (fun w args => (Rows.fnAcceptSpec.pre enc Tryd.prog Tryd.f3 Rows.fnAcceptRow.domain false w args ∧ laidMetH Tryd.prog Rows.fnAcceptRow.laid w) ∧ sizedMet enc Tryd.prog Tryd.f3 (OpenSpec.ofChange Rows.fnAcceptSpec) false w args)
      (Rows.fnAcceptSpec.post enc Tryd.prog Tryd.f3 false true false false) := by
  refine returnsInHanded_of_change_and (C := Tryd.checked) (X := fun w _ => laidMetH Tryd.prog Rows.fnAcceptRow.laid w) (fun _ _ _ hh h => h.of_heap hh) own started (by kernel_rfl) Tryd.func3
    (ChangeSpec.witness_shaped (enc := enc) (C := Tryd.checked) (os := os) (X := fun w _ => laidMetH Tryd.prog Rows.fnAcceptRow.laid w) false (World.laidAll Tryd.prog os Rows.fnAcceptRow.laid) #[.slice none 0 0] 8 (World.laidAll_os _ _ _)
      (World.shaped_of_ZipB (by kernel_rfl) (by kernel_rfl)) (by kernel_rfl) (by kernel_rfl) (by kernel_rfl)
      (by rw [MakeChecks.laidMetH_plain _ _ _ (by kernel_rfl)]; exact laidMet_laidAll _ (by kernel_rfl) (by kernel_rfl))) ?_
  intro W base args ds gs before hval0 hW hcnd _ hL _
  have hval : ∀ (j : Nat) t v, Tryd.f3.params[j]? = some t → args[j]? = some v → Value.okWide Tryd.prog W .any base t v := hval0
  have hW' := hW
  obtain ⟨p, q, hA0, hV, rfl, hfz, hnd⟩ := hW
  have hA : DataW.TrodAll enc Tryd.prog W 0 (fun _ => true) true Tryd.f3.params.toList args.toList ds p := hA0
  rw [Tryd.params3] at hA hval
  obtain ⟨v0, vs0, d0, ds0, p0, q0, hargs, rfl, rfl, h0, r0⟩ := trodAll_cons hA
  obtain ⟨rfl, rfl, rfl⟩ := trodAll_nil r0
  obtain rfl : args = #[v0] := by cases args; simp_all
  obtain ⟨rfl, rfl⟩ := trodVars_none hV
  obtain ⟨a0, len0, cap0, rfl⟩ := okWide_slice Tryd.underlying22 (hval 0 22 v0 rfl rfl)
  have k0 := h0
  have lt0 : ∀ x ∈ p0, x.block < W.heap.size := by obtain ⟨m, hm⟩ := k0; exact DataW.trod_lt m _ _ _ hm
  obtain ⟨l, hl, hC, hle⟩ : ∃ l : List S30, l.length = len0 ∧ Kd.C k30 W a0 len0 l ∧ len0 ≤ cap0 := by
    obtain ⟨fuel, hf⟩ := h0
    rcases open_slice_pairs Tryd.underlying22 Tryd.underlying30 cells30 rfl rfl cells9 cells3 hf with ⟨hcs, _⟩ | ⟨x, n, c, m, k, V0, V1, D0, D1, P0, P1, hcs, _, hln, hm, hmm, _, hall⟩
    · simp [Value.cells] at hcs
      obtain ⟨rfl, rfl, rfl⟩ := hcs
      exact ⟨[], rfl, ⟨rfl, by omega, fun h => by omega⟩, Nat.le_refl _⟩
    · simp [Value.cells] at hcs
      obtain ⟨rfl, rfl, rfl⟩ := hcs
      have hmax : maxLen ≤ 9223372036854775807 := by decide
      have hnm : len0 ≤ m := by rw [hmm]; split <;> omega
      obtain ⟨l, h1, h2⟩ := c_of (W := W) (a := x) (len := len0) (by omega) (fun i hi => by
        obtain ⟨e0, e1, t0, t1⟩ := hall i (by omega)
        obtain ⟨s, es, _⟩ := DataW.trod_string Tryd.underlying9 t0
        obtain ⟨z, ez, _⟩ := DataW.trod_int Tryd.underlying3 t1
        rw [List.cons.injEq] at es ez
        exact ⟨⟨s, z⟩, by rw [e0, es.1], by rw [e1, ez.1]⟩)
      exact ⟨l, h1, h2, hln⟩
  subst hl
  clear hA0 hval0
  refine (law_calls a0 cap0 l W (of_laid hL) hC hle (lawF l)).mono fun e W' ⟨he, bel⟩ => ?_
  subst he
  exact ⟨_, rfl, _, _, _, [], _, [], hW', trodAll_mk1 (shut_bool Tryd.underlying4 _), (trodAll_cons_mk (Below.trod laidOut (by kernel_rfl) (of_decide_eq_true (by kernel_rfl)) k0 bel lt0) trodAll_mk0), rfl, bel.frame _, fun h => by cases h⟩
theorem over : Rows.fnAcceptRow.holds Tryd.pinned (OpenSpec.ofChange Rows.fnAcceptSpec) :=
  OpenClaim.holds_of_wide 3 Tryd.f3 rfl rfl rfl rfl rfl rfl rfl ⟨rfl, rfl, rfl, rfl, rfl⟩ rfl rfl rfl rfl rfl (by kernel_rfl) Tryd.func3 (by kernel_rfl)
    (of_decide_eq_true (by kernel_rfl)) (by unfold Func.isWrapper; first | (rw [if_pos (by decide +kernel)]; kernel_rfl) | (rw [if_neg (by decide +kernel)]; exact ⟨rfl, rfl⟩))
    (fun os started H enc _ => lifted os started H enc)
end Go.Proofs.YtkjepgahnaieaaaDoor.fnAccept
namespace Go.Proofs.YtkjepgahnaieaaaDoor
/-- The statement: the row and its tied card. -/
theorem fnAccept_card_holds : Rows.FnAcceptCardSaid :=
  Claim7.holds_tied_plain_at .later [] [.data, .data, .widerDeep, .widerDeep, .data, .data, .data, .data, .data, .sentinel, .sentinel, .pinned, .pinned] true (true, "a28cf8cf312b889a76e02514dc1801d1564ff26a75c46d476ad3143abfc74d5d") true
    fnAccept.over (fun _ h => by cases h) (by kernel_rfl) (fun _ h => by cases h) fnAccept_row_tie rfl ⟨rfl, rfl⟩ (by kernel_rfl) rfl
    (fun f fn hf hfn => by
      obtain rfl : f = 3 := Option.some.inj ((show Tryd.prog.funcNamed "restroutes/laws.FnAccept" = some 3 by kernel_rfl).symm.trans hf) |>.symm
      obtain rfl : fn = Tryd.f3 := (Option.some.inj (Tryd.func3.symm.trans hfn)).symm
      exact ⟨by kernel_rfl, fun j t ht => by
        rw [Tryd.params3] at ht
        have hm : t ∈ [22] := by simpa using Array.mem_of_getElem? ht
        have hall : ([22].all fun u => !Tryd.prog.wantsStandIn u) = true := by kernel_rfl
        exact (show Tryd.prog.wantsStandIn t = false by simpa using List.all_eq_true.1 hall t hm)⟩)
    (by kernel_rfl)
end Go.Proofs.YtkjepgahnaieaaaDoor
#print axioms Go.Proofs.YtkjepgahnaieaaaDoor.fnAccept_card_holds
