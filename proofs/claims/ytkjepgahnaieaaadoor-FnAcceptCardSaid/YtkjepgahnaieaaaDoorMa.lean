/- insertMime: of a list of media types with their qualities it hands back the one with the new entry ahead of the first of lower quality. -/
import Derived.Test.YtkjepgahnaieaaaDoorRb
namespace Go.Proofs.YtkjepgahnaieaaaDoor.PFnAccept
open Go.RowKit Go.Proofs.YtkjepgahnaieaaaDoorW.PrintWords Go.Proofs.YtkjepgahnaieaaaDoorW.PrintLast Go.Proofs.YtkjepgahnaieaaaDoorW.PrintMore
set_option linter.unusedSimpArgs false

/-! ### a media type with its quality, the quality by its float's bits -/
structure M47 where
  f0 : ByteArray
  f1 : Nat
def kF : Kd Nat := Kd.scalar (Value.float .f64) (fun _ => rfl)
def k47 : Kd M47 := Kd.iso (Kd.pair Kd.string kF) (fun x : M47 => (x.f0, x.f1))
def z47 : M47 := ⟨⟨#[]⟩, 0⟩
theorem k47_open {w : World} {x : M47} {cs : List Value} (h : k47.K w x cs) : cs = [.string x.f0, .float .f64 x.f1] := by
  obtain ⟨_, _, rfl, rfl, rfl⟩ := h
  exact rfl
theorem k47_mkM (w : World) (base : Nat) (ok : Nat → Prop) (x : M47) : k47.M w base ok x [.string x.f0, .float .f64 x.f1] := ⟨[.string x.f0], [.float .f64 x.f1], rfl, rfl, rfl⟩
theorem at_T47 {w : World} {A : Option Addr} {n : Nat} {xs : List M47} (h : Kd.C k47 w A n xs) (j : Nat) (h1 : j < n) :
    ∃ ad, A = some ad ∧ w.cell? (ad.add (j * 2)) = some (.string (xs.getD j z47).f0) ∧ w.cell? ⟨(ad.add (j * 2)).block, (ad.add (j * 2)).off + 1, none⟩ = some (.float .f64 (xs.getD j z47).f1) := by
  obtain ⟨ad, c, e, _, hK, hc0⟩ := Kd.C_get h z47 (j : Int) (by omega) (by omega)
  rw [Int.toNat_natCast] at hK hc0
  have hc : ∀ i u, c[i]? = some u → w.cell? (ad.add (j * 2 + i)) = some u := hc0
  obtain rfl := k47_open hK
  exact ⟨ad, e, hc 0 _ rfl, by rw [← add_field _ _ 1 (by omega)]; exact hc 1 _ rfl⟩
theorem info47 : (Tryd.prog.info? 47).map (fun i => (i.zero, i.size, i.bytes)) = some (some (.agg #[.string ⟨#[]⟩, .float .f64 0]), 2, 24) := by kernel_rfl

/-- A float is stored as any other value of one cell (the kit's set has no such row). -/
theorem run_store_float (P : Program) (w : World) (a : Addr) (m : Mode) (k : FloatKind) (b : Nat) : (store a (.float k b) m).run P w = stored P w a (.float k b) m := run_store P w a _ m rfl
attribute [local go_sem] run_store_float

/-- The first quality is the greater one. -/
def gtM (e x : M47) : Bool := FloatKind.f64.format.order e.f1 x.f1 == some .gt
/-- The list with a new entry ahead of the first of lower quality. -/
def insL (e : M47) : List M47 → List M47
  | [] => [e]
  | x :: r => if gtM e x = true then e :: x :: r else x :: insL e r
def NoneLower (e : M47) (xs : List M47) (j : Nat) : Prop := ∀ t, t < j → gtM e (xs.getD t z47) = false
theorem insL_at (e : M47) : ∀ (xs : List M47) (j : Nat), NoneLower e xs j → j < xs.length → gtM e (xs.getD j z47) = true → insL e xs = xs.take j ++ e :: xs.drop j
  | [], j, _, hj, _ => by simp at hj
  | x :: r, 0, _, _, hg => by
    have hg' : gtM e x = true := hg
    simp [insL, hg']
  | x :: r, j + 1, hn, hj, hg => by
    have h0 : gtM e x = false := hn 0 (by omega)
    have := insL_at e r j (fun t ht => hn (t + 1) (by omega)) (by simpa using hj) hg
    simp [insL, h0, this]
theorem insL_end (e : M47) : ∀ (xs : List M47), NoneLower e xs xs.length → insL e xs = xs ++ [e]
  | [], _ => rfl
  | x :: r, hn => by
    have h0 : gtM e x = false := hn 0 (by simp)
    have := insL_end e r (fun t ht => hn (t + 1) (by simp; omega))
    simp [insL, h0, this]
theorem insL_len (e : M47) (xs : List M47) : (insL e xs).length = xs.length + 1 := by
  induction xs with
  | nil => rfl
  | cons x r ih =>
    unfold insL
    split <;> simp [ih]

set_option maxHeartbeats 4000000 in
set_option maxRecDepth 100000 in
theorem insert_calls (A : Option Addr) (c : Nat) (xs : List M47) (e : M47) (w0 w : World) (HO : Kd.R k47 47 w w0.heap.size (fun _ => True) (.slice A xs.length c) xs) (HB : Below w0.heap.size w0 w) (hl : xs.length ≤ 1000) :
    Calls Tryd.prog 23 #[.slice A xs.length c, .agg #[.string e.f0, .float .f64 e.f1]] w fun r w' => ∃ v', r = .returned v' ∧ Kd.R k47 47 w' w0.heap.size (fun _ => True) v' (insL e xs) ∧ Below w0.heap.size w0 w' ∧ w.grownBy w' (Value.slice A xs.length c).ownBlock ∧ ∀ k, v'.ownBlock = some k → (Value.slice A xs.length c).ownBlock = some k ∨ w.heap.size ≤ k := by
  obtain ⟨W1, hW1⟩ : ∃ W1, W1 = w.alloc (.cells #[.string e.f0, .float .f64 e.f1] 47) := ⟨_, rfl⟩
  have HW1 := Aside0.mk hW1
  have hbox0 : W1.cell? ⟨w.heap.size, 0, none⟩ = some (.string e.f0) := by rw [hW1]; exact blk_cell (blk_new w _) 0
  have hbox1 : W1.cell? ⟨w.heap.size, 1, none⟩ = some (.float .f64 e.f1) := by rw [hW1]; exact blk_cell (blk_new w _) 1
  have hsz1 : W1.heap.size = w.heap.size + 1 := by rw [hW1]; simp
  have HX := Aside0.mk (And.intro hbox0 hbox1)
  have HS := Aside0.mk hsz1
  have HW := Aside0.mk (show Below w.heap.size w W1 from by rw [hW1]; exact below_alloc (Below.refl _ _) _)
  have HOa := Aside0.mk HO
  have HBa := Aside0.mk HB
  have hcap := (Kd.R_reads' HO).2.1
  clear hW1 hbox0 hbox1 hsz1 HO HB
  go_enter Tryd.func23, Tryd.ntmps23
  go_wp2_with fail
  rw [← HW1.out]
  go_loopw [10] (fun i wr => ∃ j : Nat, j ≤ xs.length ∧ i = .int .i64 j ∧ Aside0 (Below W1.heap.size W1 wr) ∧ Aside0 (NoneLower e xs j)) (fun i _ => xs.length - (intOf i).toNat)
  case atStart => exact ⟨0, Nat.zero_le _, rfl, ⟨Below.refl _ _⟩, ⟨fun t ht => by omega⟩⟩
  case round =>
    obtain ⟨j, hj, rfl, HR, HN⟩ := hrel
    have HRw := Aside0.mk (below_step HW.out HR.out)
    have hbx0 : wr.cell? ⟨w.heap.size, 0, none⟩ = some (.string e.f0) := pw_cell_below HR.out HX.out.1
    have hbx1 : wr.cell? ⟨w.heap.size, 1, none⟩ = some (.float .f64 e.f1) := pw_cell_below HR.out HX.out.2
    have hlt0 : w.heap.size < wr.heap.size := by have := HR.out.size; have := HS.out; omega
    have HOr := Aside0.mk (Kd.R_below HOa.out HRw.out)
    by_cases hlt : j < xs.length
    · obtain ⟨ad, hAd, hc0, hc1⟩ := at_T47 (Kd.R_reads' HOr.out).2.2 j hlt
      obtain ⟨p, hp⟩ : ∃ p, p = xs.getD j z47 := ⟨_, rfl⟩
      rw [← hp] at hc0 hc1
      have HP := Aside0.mk hp
      clear hp
      cases hg : gtM e p with
      | true =>
        have hgt : (FloatKind.f64.format.order e.f1 p.f1 == some .gt) = true := hg
        clear hg
        subst hAd
        have htl : (xs.take j).length = j := by rw [List.length_take]; omega
        have HCt : Aside0 (Kd.C k47 w (some ad) j (xs.take j)) := ⟨by have := Kd.C_take (m := j) (Kd.R_reads' HOa.out).2.2 (by omega); rwa [htl] at this⟩
        have HCd : Aside0 (Kd.C k47 w (if c = j then some ad else some (ad.add (j * 2))) (xs.length - j) (xs.drop j)) := ⟨by
          have := Kd.C_drop (m := j) (c := c) (Kd.R_reads' HOa.out).2.2 (by omega) hcap
          rw [List.length_drop] at this
          exact this⟩
        clear htl
        go_wp2_with (first | ((with_reducible refine gate_dst (N := 20) rfl ?_); refine Kd.R_lit k47 (w0 := W1) W1.heap.size 47 ?hg (N := 20) ?hd (xs := ([] : List M47)) (inner := []) (ok := fun _ => True) (okp := fun _ => True) ?hr ?hp (fun _ hk => hk) trivial (below_alloc HR.out _) (below_alloc HR.out _).size (by simp) ?_; (case hd => rfl); (case hg => rfl); (case hr => first | (go_simp; done) | (go_simp; rfl)); (case hp => exact (Reps.none _ _)); intro y3 w3 ho3 hb3 hg3 hn3; have HD3 := Aside0.mk ho3; have HB3 := Aside0.mk hb3; clear ho3 hb3 hg3 hn3) | ((with_reducible refine gate_builtin (b := .append) (xs := #[.tmp 20, .tmp 23]) rfl ?_); at_builtin; refine Kd.R_append_rows k47 (w0 := W1) W1.heap.size rfl (.tmp 20) (.tmp 23) 44 47 (.agg #[.string ⟨#[]⟩, .float .f64 0]) 24 rfl Tryd.underlying44 info47 rfl (by decide) (by omega) y3 [] (xs.take j) _ _ _ (fun _ => True) (fun _ => False) rfl rfl ?aO ?aR (fun _ _ h => h) (fun _ h => h.elim) ?aF ?aB ?aS ?aL ?_; (case aR => exact (Kd.C_below HCt.out (below_step HW.out HB3.out))); (case aB => exact HB3.out); (case aF => exact (fun _ _ => trivial)); (case aO => exact HD3.out); (case aS => exact HB3.out.size); (case aL => simp only [List.length_nil]; omega); intro y4 w4 ho4 hb4 hg4 hat4; have HD4 := Aside0.mk ho4; have HB4 := Aside0.mk hb4; clear ho4 hb4 hg4 hat4))
        have HD5 := Aside0.mk (Kd.R_drew HD4.out)
        have HB5 := Aside0.mk (below_drew1 HB4.out)
        have HE5 := Aside0.mk (And.intro (pw_cell_below HB5.out HX.out.1) (pw_cell_below HB5.out HX.out.2))
        clear HD4 HB4 HD3 HB3
        refine start_ (n := 9) (S := fun w' => w'.cell? ⟨w.heap.size, 0, none⟩ = some (.string e.f0) ∧ w'.cell? ⟨w.heap.size, 1, none⟩ = some (.float .f64 e.f1)) (ds := [2, 3, 7]) #[false, false, false, false, false, false, false, false, false] (by kernel_rfl) rfl rfl ⟨HE5.out.1, HE5.out.2⟩ (fun hHeld => ?_)
        generalize w4.drew = w6 at HD5 HB5 HE5 hHeld ⊢
        refine pure_ (i := 0) (N := some 25) (v := ?_) (a' := ?_) #[true, false, false, false, false, false, false, false, false] rfl rfl (by kernel_rfl) (fun _ _ _ h => h) (Or.inl ⟨by rfl, ?_⟩) ?_ ?_
        rotate_left
        · intro w'
          go_simp
          with_reducible rfl
        rotate_left
        · simp only [Act.put, List.setIfInBounds_toArray, List.set_cons_zero, List.set_cons_succ, i64_w, i32_w]
          rfl
        refine pure_ (i := 4) (N := some 29) (v := ?_) (a' := ?_) #[true, false, false, false, true, false, false, false, false] rfl rfl (by kernel_rfl) (fun _ _ _ h => h) (Or.inl ⟨by rfl, ?_⟩) ?_ ?_
        rotate_left
        · intro w'
          go_simp
          with_reducible rfl
        rotate_left
        · simp only [Act.put, List.setIfInBounds_toArray, List.set_cons_zero, List.set_cons_succ, i64_w, i32_w]
          rfl
        refine pure_ (i := 5) (N := some 30) (v := ?_) (a' := ?_) #[true, false, false, false, true, true, false, false, false] rfl rfl (by kernel_rfl) (fun _ _ _ h => h) (Or.inl ⟨by rfl, ?_⟩) ?_ ?_
        rotate_left
        · intro w'
          go_simp
          with_reducible rfl
        rotate_left
        · simp only [Act.put, List.setIfInBounds_toArray, List.set_cons_zero, List.set_cons_succ, i64_w, i32_w]
          rfl
        refine pure_ (i := 6) (N := some 31) (v := ?_) (a' := ?_) #[true, false, false, false, true, true, true, false, false] rfl rfl (by kernel_rfl) (fun _ _ _ h => h) (Or.inl ⟨by rfl, ?_⟩) ?_ ?_
        rotate_left
        · intro w'
          go_simp
          with_reducible rfl
        rotate_left
        · simp only [Act.put, List.setIfInBounds_toArray, List.set_cons_zero, List.set_cons_succ, i64_w, i32_w]
          rfl
        refine take_ (i := 1) (N := some 26) (v := ?_) (a' := ?_) #[true, true, false, false, true, true, true, false, false] rfl rfl (by kernel_rfl) (fun _ _ _ h => h) (Or.inl ⟨by rfl, ?_⟩) hHeld ?_ ?_
        rotate_left
        · rintro w' ⟨s0, s1⟩
          go_simp
          with_reducible rfl
        rotate_left
        · simp only [Act.put, List.setIfInBounds_toArray, List.set_cons_zero, List.set_cons_succ, i64_w, i32_w]
          rfl
        refine last_ (i := 2) (N := some 27) #[true, true, true, false, true, true, true, false, false] rfl rfl (by kernel_rfl) (by decide) (fun K hK => ?_)
        refine event_step (by rfl) (w1 := w6.alloc (.cells #[.string e.f0, .float .f64 e.f1] 47)) (v := .slice (some ⟨w6.heap.size, 0, none⟩) 1 1) ?_ ?_
        · first | (go_simp; done) | (go_simp; rfl)
        refine hK.out _ _ ?_
        clear hK K
        refine last_ (i := 3) (N := some 28) #[true, true, true, true, true, true, true, false, false] rfl rfl (by kernel_rfl) (by decide) (fun K hK => ?_)
        refine Kd.R_append_step k47 (w0 := W1) (W := w6) W1.heap.size (by rfl) (.tmp 25) (.tmp 27) 44 47 (.agg #[.string ⟨#[]⟩, .float .f64 0]) 24 rfl Tryd.underlying44 info47 rfl (by decide) (by omega) y4 (xs.take j) e [.string e.f0, .float .f64 e.f1] (fun _ => True) (fun _ => False) rfl rfl (k47_mkM _ _ _ e) (fun _ hk => hk.elim) (fun _ _ => trivial) HD5.out HB5.out HB5.out.size (by rw [List.length_take]; omega) ?_
        intro y7 w7 ho7 hb7 hg7 hat7
        have HD7 := Aside0.mk ho7
        have HB7 := Aside0.mk hb7
        clear ho7 hb7 hg7 hat7 HD5
        refine hK.out _ _ ?_
        clear hK K
        refine last_ (i := 7) (N := some 32) #[true, true, true, true, true, true, true, true, false] rfl rfl (by kernel_rfl) (by decide) (fun K hK => ?_)
        refine Kd.R_append_rows_step k47 (w0 := W1) W1.heap.size (by rfl) (.tmp 28) (.tmp 31) 44 47 (.agg #[.string ⟨#[]⟩, .float .f64 0]) 24 rfl Tryd.underlying44 info47 rfl (by decide) (by omega) y7 (xs.take j ++ [e]) (xs.drop j) (if c = j then some ad else some (ad.add (j * 2))) (xs.length - j) (c - j) (fun _ => True) (fun _ => False) rfl rfl HD7.out (Kd.C_below HCd.out (below_step HW.out HB7.out)) (fun _ _ h => h) (fun _ h => h.elim) (fun _ _ => trivial) HB7.out HB7.out.size (by simp; omega) ?_
        intro y8 w8 ho8 hb8 hg8 hat8
        have HD8 := Aside0.mk ho8
        have HB8 := Aside0.mk hb8
        clear ho8 hb8 hg8 hat8 HD7
        refine hK.out _ _ ?_
        clear hK K
        refine pure_ (i := 8) (N := some 4) (v := ?_) (a' := ?_) #[true, true, true, true, true, true, true, true, true] rfl rfl (by kernel_rfl) (fun _ _ _ h => h) (Or.inl ⟨by rfl, ?_⟩) ?_ ?_
        rotate_left
        · intro w'
          go_simp
          with_reducible rfl
        rotate_left
        · simp only [Act.put, List.setIfInBounds_toArray, List.set_cons_zero, List.set_cons_succ, i64_w, i32_w]
          rfl
        refine done_ (by kernel_rfl) ?_
        go_wp2
        go_ret
        have hN := HN.out
        have hins := insL_at e xs j hN hlt (by rw [← HP.out]; exact hgt)
        refine ⟨y8, rfl, ?_, below_step HBa.out (below_step HW.out HB8.out), grown_of_below (below_step HW.out HB8.out) _, fun k hk => .inr ?_⟩
        · rw [hins]
          have h8 := HD8.out
          rw [List.append_assoc] at h8
          exact Kd.R_lower h8 (Nat.le_trans HBa.out.size HW.out.size)
        · obtain ⟨_, h8⟩ := Kd.R_own HD8.out
          exact Nat.le_trans HW.out.size (own_base h8 k hk)
      | false =>
        have hgt : (FloatKind.f64.format.order e.f1 p.f1 == some .gt) = false := hg
        have HN' : Aside0 (NoneLower e xs (j + 1)) := ⟨fun t ht => by
          by_cases h : t = j
          · subst h; rw [← HP.out]; exact hg
          · exact HN.out t (by omega)⟩
        clear hg
        subst hAd
        go_wp2_with fail
        go_roundw
        case rel => exact ⟨j + 1, by omega, by go_num, ⟨below_alloc HR.out _⟩, HN'⟩
        case measure => simp [intOf]; omega
    · have hje : j = xs.length := by omega
      have HI := Aside0.mk (insL_end e xs (hje ▸ HN.out))
      clear hje
      go_wp2_with ((with_reducible refine gate_builtin (b := .append) (xs := #[.tmp 34, .tmp 36]) rfl ?_); at_builtin; refine Kd.R_append k47 (w0 := w0) w0.heap.size rfl (.tmp 34) (.tmp 36) 44 47 (.agg #[.string ⟨#[]⟩, .float .f64 0]) 24 rfl Tryd.underlying44 info47 rfl (by decide) (by omega) (.slice A xs.length c) xs e [.string e.f0, .float .f64 e.f1] (fun _ => True) (fun _ => False) rfl rfl ?aP (fun _ hk => hk.elim) ?aF ?aO ?aB ?aS ?aL ?_; (case aP => exact k47_mkM _ _ _ e); (case aF => exact fun _ _ => trivial); (case aO => exact HOr.out); (case aB => exact below_step HBa.out HRw.out); (case aS => exact (below_step HBa.out HRw.out).size); (case aL => omega); intro y9 w9 ho9 hb9 hg9 hat9; have HD9 := Aside0.mk ho9; have HB9 := Aside0.mk hb9; have HG9 := Aside0.mk (And.intro hg9 hat9); clear ho9 hb9 hg9 hat9)
      go_ret
      refine ⟨y9, rfl, by rw [HI.out]; exact HD9.out, HB9.out, (grown_of_below HRw.out _).trans HG9.out.1, fun k hk => ?_⟩
      rcases HG9.out.2 with h | ⟨b, h, hb⟩
      · left; rw [← h]; exact hk
      · right; rw [h] at hk; cases hk; exact Nat.le_trans HRw.out.size hb
end Go.Proofs.YtkjepgahnaieaaaDoor.PFnAccept
