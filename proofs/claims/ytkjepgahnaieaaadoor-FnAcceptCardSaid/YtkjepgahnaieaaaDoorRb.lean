/- strconv.ParseFloat at '0.' and three figures: the float of their number over 1000, and no error; of the package's variables the listed ones that are read. -/
import Derived.Test.YtkjepgahnaieaaaDoorRa
import Derived.Test.YtkjepgahnaieaaaDoorFm
import Derived.WalkLawsBesides
namespace Go.Proofs.YtkjepgahnaieaaaDoor.PFnAccept
open Go.RowKit Go.Proofs.YtkjepgahnaieaaaDoorW.PrintWords Go.Proofs.YtkjepgahnaieaaaDoorW.PrintLast Go.Proofs.YtkjepgahnaieaaaDoorW.PrintMore

/-- What the package's variables hold, as far as it is read. -/
structure GL (w : World) : Prop where
  opt : w.cell? ⟨3, 0, none⟩ = some (.bool true)
  info : w.cell? ⟨4, 0, none⟩ = some (.int .u64 52)
  pow : ∃ ad c, w.cell? ⟨7, 0, none⟩ = some (.slice (some ad) 23 c) ∧ w.cell? (ad.add 3) = some (.float .f64 4652007308841189376)
theorem GL.below {w w' : World} (h : GL w) (hb : Below w.heap.size w w') : GL w' := by
  obtain ⟨h1, h2, ad, c, h3, h4⟩ := h
  exact ⟨pw_cell_below hb h1, pw_cell_below hb h2, ad, c, pw_cell_below hb h3, pw_cell_below hb h4⟩
theorem GL.drew {w : World} (h : GL w) (n : Nat) : GL (w.drewN n) := h.below (pw_below_drewN (Below.refl _ _) n)

set_option maxHeartbeats 2000000 in
set_option maxRecDepth 100000 in
theorem special_calls (s : ByteArray) (n : Nat) (w : World) (h : Dec s n) :
    Calls Tryd.prog 42 #[.string s] w fun e w' => e = .returned (.tuple #[.float .f64 0, .int .i64 0, .bool false]) ∧ w = w' := by
  have hx0 : ∀ h : 0 < s.size, ((s[0]'h).toNat : Int) = 48 := fun h1 => by rw [← h.b0]; simp [bt, h1]
  have hs2 : 5 ≤ s.size := by have := h.size; omega
  have hne : ¬ s = ByteArray.empty := fun e => by rw [e] at hs2; exact absurd hs2 (by decide)
  have hz : ((s.size : Int) == 0) = false := beq_eq_false_iff_ne.2 (by omega)
  clear h
  go_enter Tryd.func42, Tryd.ntmps42
  go_wp2_with fail
  go_ret3
  exact ⟨rfl, rfl⟩

set_option maxHeartbeats 2000000 in
set_option maxRecDepth 100000 in
theorem exact_calls (n : Nat) (w : World) (hG : GL w) (hn0 : 1 ≤ n) (hn : n ≤ 999) :
    Calls Tryd.prog 53 #[.int .u64 n, .int .i64 (-3), .bool false] w fun e w' => e = .returned (.tuple #[.float .f64 (qF n), .bool true]) ∧ w = w' := by
  obtain ⟨_, hinfo, ad, c, hpow, hpow3⟩ := hG
  rw [show (3 : Nat) = 2 + 1 from rfl, Addr.add_succ'] at hpow3
  have hdiv := fun W => run_float_arith (P := Tryd.prog) W .quo 31 .f64 (floatOfInt .f64 (n : Int)) 4652007308841189376 (qF n) (div_F (by omega))
  go_enter Tryd.func53, Tryd.ntmps53
  go_wp2_with fail
  go_ret2
  exact ⟨rfl, rfl⟩

set_option maxHeartbeats 2000000 in
set_option maxRecDepth 100000 in
theorem atof64_some (s : ByteArray) (n : Nat) (w : World) (hG : GL w) (h : Dec s n) (hn0 : 1 ≤ n) (hn : n ≤ 999) :
    Calls Tryd.prog 38 #[.string s] w fun e w' => e = .returned (.tuple #[.float .f64 (qF n), .int .i64 5, .nilIface]) ∧ Drawn0 w w' := by
  have HH := Aside0.mk h
  have HG := Aside0.mk hG
  have hopt := hG.opt
  have hn1 : ¬ n = 0 := by omega
  have hn2 : ((n : Int) == 0) = false := beq_eq_false_iff_ne.2 (by omega)
  clear h hG
  go_enter Tryd.func38, Tryd.ntmps38
  go_wp2_with (first | (go_at_call 42; (with_reducible refine (special_calls s n _ HH.out).mono ?_); rintro e w1 ⟨rfl, rfl⟩) | (go_at_call 43; (with_reducible refine (readFloat_calls s n _ HH.out).mono ?_); rintro e w2 ⟨rfl, ⟨nd, rfl⟩⟩) | (go_at_call 51; (with_reducible refine (strconv_bool2_uint64.calls false 0 _ rfl).mono ?_); rintro e w3 ⟨rfl, ⟨nd3, rfl⟩⟩) | (go_at_call 53; (with_reducible refine (exact_calls n _ (HG.out.drew _) hn0 hn).mono ?_); rintro e w4 ⟨rfl, rfl⟩))
  go_ret3
  exact ⟨rfl, ⟨_, rfl⟩⟩

set_option maxHeartbeats 2000000 in
set_option maxRecDepth 100000 in
theorem atof64_zero (s : ByteArray) (w : World) (hG : GL w) (h : Dec s 0) :
    Calls Tryd.prog 38 #[.string s] w fun e w' => e = .returned (.tuple #[.float .f64 (qF 0), .int .i64 5, .nilIface]) ∧ Drawn0 w w' := by
  rw [zero_F]
  have hfb : ∀ W, Sem.run Tryd.prog (callFunc 52 #[.int .u64 (bits BinOp.or IntKind.u64 0 0)]) W = .ok (.value (.float .f64 0)) W := fun W => by kernel_rfl
  have HH := Aside0.mk h
  have hopt := hG.opt
  clear h hG
  go_enter Tryd.func38, Tryd.ntmps38
  go_wp2_with (first | (go_at_call 42; (with_reducible refine (special_calls s 0 _ HH.out).mono ?_); rintro e w1 ⟨rfl, rfl⟩) | (go_at_call 43; (with_reducible refine (readFloat_calls s 0 _ HH.out).mono ?_); rintro e w2 ⟨rfl, ⟨nd, rfl⟩⟩) | (go_at_call 51; (with_reducible refine (strconv_bool2_uint64.calls false 0 _ rfl).mono ?_); rintro e w3 ⟨rfl, ⟨nd3, rfl⟩⟩))
  go_ret3
  exact ⟨rfl, ⟨_, rfl⟩⟩
theorem atof64_any (s : ByteArray) (n : Nat) (w : World) (hG : GL w) (h : Dec s n) (hn : n ≤ 999) :
    Calls Tryd.prog 38 #[.string s] w fun e w' => e = .returned (.tuple #[.float .f64 (qF n), .int .i64 5, .nilIface]) ∧ Drawn0 w w' := by
  by_cases h0 : n = 0
  · subst h0; exact atof64_zero s w hG h
  · exact atof64_some s n w hG h (by omega) hn

set_option maxHeartbeats 2000000 in
set_option maxRecDepth 100000 in
theorem prefix_calls (s : ByteArray) (n : Nat) (w : World) (hG : GL w) (h : Dec s n) (hn : n ≤ 999) :
    Calls Tryd.prog 32 #[.string s, .int .i64 64] w fun e w' => e = .returned (.tuple #[.float .f64 (qF n), .int .i64 5, .nilIface]) ∧ Drawn0 w w' := by
  have HH := Aside0.mk h
  have HG := Aside0.mk hG
  clear h hG
  go_enter Tryd.func32, Tryd.ntmps32
  go_wp2_with (go_at_call 38; (with_reducible refine (atof64_any s n _ HG.out HH.out hn).mono ?_); rintro e w1 ⟨rfl, ⟨nd, rfl⟩⟩)
  go_ret3
  exact ⟨rfl, ⟨_, rfl⟩⟩

set_option maxHeartbeats 2000000 in
set_option maxRecDepth 100000 in
theorem inner_calls (s : ByteArray) (n : Nat) (w : World) (hG : GL w) (h : Dec s n) (hn : n ≤ 999) :
    Calls Tryd.prog 28 #[.string s, .int .i64 64] w fun e w' => e = .returned (.tuple #[.float .f64 (qF n), .nilIface]) ∧ Drawn0 w w' := by
  have HH := Aside0.mk h
  have HG := Aside0.mk hG
  have hs : ((s.size : Int)) = 5 := by have := h.size; omega
  have hsz : ((5 : Int) != (s.size : Int)) = false := by rw [hs]; rfl
  clear h hG hs
  go_enter Tryd.func28, Tryd.ntmps28
  go_wp2_with (go_at_call 32; (with_reducible refine (prefix_calls s n _ HG.out HH.out hn).mono ?_); rintro e w1 ⟨rfl, ⟨nd, rfl⟩⟩)
  go_ret2
  exact ⟨rfl, ⟨_, rfl⟩⟩

set_option maxHeartbeats 2000000 in
set_option maxRecDepth 100000 in
theorem parseFloat_calls (s : ByteArray) (n : Nat) (w : World) (hG : GL w) (h : Dec s n) (hn : n ≤ 999) :
    Calls Tryd.prog 24 #[.string s, .int .i64 64] w fun e w' => e = .returned (.tuple #[.float .f64 (qF n), .nilIface]) ∧ Drawn0 w w' := by
  have HH := Aside0.mk h
  have HG := Aside0.mk hG
  clear h hG
  go_enter Tryd.func24, Tryd.ntmps24
  go_wp2_with (go_at_call 28; (with_reducible refine (inner_calls s n _ HG.out HH.out hn).mono ?_); rintro e w1 ⟨rfl, ⟨nd, rfl⟩⟩)
  go_ret2
  exact ⟨rfl, ⟨_, rfl⟩⟩
end Go.Proofs.YtkjepgahnaieaaaDoor.PFnAccept
