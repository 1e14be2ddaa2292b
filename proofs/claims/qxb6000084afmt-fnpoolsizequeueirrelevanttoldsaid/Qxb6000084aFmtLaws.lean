/-
  THE WALKS over the two laws (functions 3, 4) and over ZZpoolSize (function 5), for every F. By an AI agent.
-/
import Derived.Test.Qxb6000084aFmtPool
import Derived.Deep.QuietTactic
import Derived.BigQuiet
import Derived.WalkSmall
namespace Go.Proofs.Qxb6000084aFmt
open Go.RowKit Go.Extern.Stop Go.Stop Go.Extern

theorem ret_true {b : Bool} (h : b = true) : Ending.returned (.bool b) = .returned (.bool true) := by rw [h]

theorem wrap4 (c : Int) (h1 : 1 ≤ c) (h2 : c ≤ 2305843009213693951) : wrap64 (4 * c) = 4 * c := by
  unfold wrap64; omega

theorem dflt_of (c : Int) (h1 : 1 ≤ c) (h2 : c ≤ 2305843009213693951) : dflt c = min (4 * c) 200 := by
  unfold dflt; rw [wrap4 c h1 h2]

set_option maxHeartbeats 400000 in
theorem zz_zero (q c : Int) (w : World) (hq : ¬ q < 0) :
    Calls Tryf.prog 5 #[.int .i64 0, .int .i64 q, .int .i64 c] w fun e w' => e = .returned (.tuple #[.int .i64 (dflt c), .nilIface]) ∧ w' = w := by
  go_enter Tryf.func5, Tryf.ntmps5
  go_wp2_with (go_at_call 6; refine (pool_zero _ _ _ hq).mono ?_; rintro e w' ⟨rfl, rfl⟩)
  go_ret2
  exact ⟨rfl, rfl⟩

set_option maxHeartbeats 400000 in
theorem zz_pos (a q c : Int) (w : World) (ha : 0 < a) (hq : ¬ q < 0) :
    Calls Tryf.prog 5 #[.int .i64 a, .int .i64 q, .int .i64 c] w fun e w' => e = .returned (.tuple #[.int .i64 a, .nilIface]) ∧ w' = w := by
  go_enter Tryf.func5, Tryf.ntmps5
  go_wp2_with (go_at_call 6; refine (pool_pos _ _ _ _ ha hq).mono ?_; rintro e w' ⟨rfl, rfl⟩)
  go_ret2
  exact ⟨rfl, rfl⟩

/-- Refused: 0, an error that is not nil, nothing old has turned, the tape is the old one's. -/
theorem zz_neg (F : Interp) (a q c : Int) (w : World) (hF : F.answers w.tape) (h : a < 0 ∨ q < 0) :
    Calls Tryf.prog 5 #[.int .i64 a, .int .i64 q, .int .i64 c] w fun e w' => e = .returned (.tuple #[.int .i64 0, .iface 31 (.pointer (some ⟨w.heap.size + 1, 0, none⟩))]) ∧
      ∃ o1 o2, w' = ((w.alloc o1).alloc o2).drew := by
  by_cases ha : a < 0
  · go_enter Tryf.func5, Tryf.ntmps5
    go_wp2_with (go_at_call 6; refine (pool_neg1 F _ _ _ _ (by exact hF) ha).mono ?_; rintro e w' ⟨rfl, rfl⟩)
    go_ret2
    exact ⟨rfl, _, _, rfl⟩
  · have hq : q < 0 := by omega
    go_enter Tryf.func5, Tryf.ntmps5
    go_wp2_with (go_at_call 6; refine (pool_neg2 F _ _ _ _ (by exact hF) ha hq).mono ?_; rintro e w' ⟨rfl, rfl⟩)
    go_ret2
    exact ⟨rfl, _, _, rfl⟩

set_option maxHeartbeats 400000 in
theorem mono_out (a q c1 c2 : Int) (w : World) (h : ¬ (1 ≤ c1 ∧ c1 ≤ 2305843009213693951 ∧ 1 ≤ c2 ∧ c2 ≤ 2305843009213693951)) :
    Calls Tryf.prog 3 #[.int .i64 a, .int .i64 q, .int .i64 c1, .int .i64 c2] w fun e w' => e = .returned (.bool true) ∧ Below w.heap.size w w' := by
  go_enter Tryf.func3, Tryf.ntmps3
  go_wp2_with fail
  all_goals first
    | (go_ret; exact ⟨rfl, Below.refl _ _⟩)
    | (exfalso; omega)

set_option maxHeartbeats 400000 in
theorem mono_neg (F : Interp) (a q c1 c2 : Int) (w : World) (hF : F.answers w.tape) (h1 : 1 ≤ c1) (h2 : c1 ≤ 2305843009213693951) (h3 : 1 ≤ c2) (h4 : c2 ≤ 2305843009213693951) (h : a < 0 ∨ q < 0) :
    Calls Tryf.prog 3 #[.int .i64 a, .int .i64 q, .int .i64 c1, .int .i64 c2] w fun e w' => e = .returned (.bool true) ∧ Below w.heap.size w w' := by
  by_cases h12 : c1 ≤ c2
  all_goals
    go_enter Tryf.func3, Tryf.ntmps3
    go_wp2_with (go_at_call 5; refine (zz_neg F _ _ _ _ (by exact hF) h).mono ?_; rintro e w' ⟨rfl, o1, o2, rfl⟩)
    all_goals (go_quiet (fail))
    all_goals (go_wp2)
    all_goals
      go_ret
      exact ⟨ret_true (by simp), below_drewN (((((Below.refl _ _).alloc (Nat.le_refl _) _).alloc (by simp) _).alloc (by simp; omega) _).alloc (by simp; omega) _) _⟩

set_option maxHeartbeats 400000 in
theorem mono_zero (q c1 c2 : Int) (w : World) (h1 : 1 ≤ c1) (h2 : c1 ≤ 2305843009213693951) (h3 : 1 ≤ c2) (h4 : c2 ≤ 2305843009213693951) (hq : ¬ q < 0) :
    Calls Tryf.prog 3 #[.int .i64 0, .int .i64 q, .int .i64 c1, .int .i64 c2] w fun e w' => e = .returned (.bool true) ∧ Below w.heap.size w w' := by
  have a1 : 1 ≤ dflt c1 := by rw [dflt_of c1 h1 h2]; omega
  have a2 : 1 ≤ dflt c2 := by rw [dflt_of c2 h3 h4]; omega
  have a3 : dflt c1 ≤ 200 := by rw [dflt_of c1 h1 h2]; omega
  have a4 : dflt c2 ≤ 200 := by rw [dflt_of c2 h3 h4]; omega
  by_cases h12 : c1 ≤ c2
  · have a5 : dflt c1 ≤ dflt c2 := by rw [dflt_of c1 h1 h2, dflt_of c2 h3 h4]; omega
    go_enter Tryf.func3, Tryf.ntmps3
    go_wp2_with (go_at_call 5; refine (zz_zero _ _ _ (by omega)).mono ?_; rintro e w' ⟨rfl, rfl⟩)
    all_goals (go_quiet (fail))
    all_goals (go_wp2)
    all_goals
      go_ret
      exact ⟨rfl, below_drewN (Below.refl _ _) _⟩
  · have a5 : dflt c2 ≤ dflt c1 := by rw [dflt_of c1 h1 h2, dflt_of c2 h3 h4]; omega
    go_enter Tryf.func3, Tryf.ntmps3
    go_wp2_with (go_at_call 5; refine (zz_zero _ _ _ (by omega)).mono ?_; rintro e w' ⟨rfl, rfl⟩)
    all_goals (go_quiet (fail))
    all_goals (go_wp2)
    all_goals
      go_ret
      exact ⟨rfl, below_drewN (Below.refl _ _) _⟩

set_option maxHeartbeats 400000 in
theorem mono_pos (a q c1 c2 : Int) (w : World) (h1 : 1 ≤ c1) (h2 : c1 ≤ 2305843009213693951) (h3 : 1 ≤ c2) (h4 : c2 ≤ 2305843009213693951) (ha : 0 < a) (hq : ¬ q < 0) :
    Calls Tryf.prog 3 #[.int .i64 a, .int .i64 q, .int .i64 c1, .int .i64 c2] w fun e w' => e = .returned (.bool true) ∧ Below w.heap.size w w' := by
  by_cases h12 : c1 ≤ c2
  all_goals
    go_enter Tryf.func3, Tryf.ntmps3
    go_wp2_with (go_at_call 5; refine (zz_pos _ _ _ _ ha (by omega)).mono ?_; rintro e w' ⟨rfl, rfl⟩)
    all_goals (go_quiet (fail))
    all_goals (go_wp2)
    all_goals
      go_ret
      exact ⟨rfl, below_drewN (Below.refl _ _) _⟩

theorem mono_any (F : Interp) (a q c1 c2 : Int) (w : World) (hF : F.answers w.tape) :
    Calls Tryf.prog 3 #[.int .i64 a, .int .i64 q, .int .i64 c1, .int .i64 c2] w fun e w' => e = .returned (.bool true) ∧ Below w.heap.size w w' := by
  by_cases h : 1 ≤ c1 ∧ c1 ≤ 2305843009213693951 ∧ 1 ≤ c2 ∧ c2 ≤ 2305843009213693951
  · obtain ⟨h1, h2, h3, h4⟩ := h
    by_cases hn : a < 0 ∨ q < 0
    · exact mono_neg F a q c1 c2 w hF h1 h2 h3 h4 hn
    · by_cases h0 : a = 0
      · subst h0; exact mono_zero q c1 c2 w h1 h2 h3 h4 (by omega)
      · exact mono_pos a q c1 c2 w h1 h2 h3 h4 (by omega) (by omega)
  · exact mono_out a q c1 c2 w h

set_option maxHeartbeats 400000 in
theorem que_out (a q1 q2 c : Int) (w : World) (h : q1 < 0 ∨ q2 < 0) :
    Calls Tryf.prog 4 #[.int .i64 a, .int .i64 q1, .int .i64 q2, .int .i64 c] w fun e w' => e = .returned (.bool true) ∧ Below w.heap.size w w' := by
  go_enter Tryf.func4, Tryf.ntmps4
  go_wp2_with fail
  all_goals first
    | (go_ret; exact ⟨rfl, Below.refl _ _⟩)
    | (exfalso; omega)

set_option maxHeartbeats 400000 in
theorem que_neg (F : Interp) (a q1 q2 c : Int) (w : World) (hF : F.answers w.tape) (h1 : 0 ≤ q1) (h2 : 0 ≤ q2) (ha : a < 0) :
    Calls Tryf.prog 4 #[.int .i64 a, .int .i64 q1, .int .i64 q2, .int .i64 c] w fun e w' => e = .returned (.bool true) ∧ Below w.heap.size w w' := by
  go_enter Tryf.func4, Tryf.ntmps4
  go_wp2_with (go_at_call 5; refine (zz_neg F _ _ _ _ (by exact hF) (Or.inl ha)).mono ?_; rintro e w' ⟨rfl, o1, o2, rfl⟩)
  all_goals (go_quiet (fail))
  all_goals (go_wp2)
  all_goals
    go_ret
    exact ⟨ret_true (by simp), below_drewN (((((Below.refl _ _).alloc (Nat.le_refl _) _).alloc (by simp) _).alloc (by simp; omega) _).alloc (by simp; omega) _) _⟩

set_option maxHeartbeats 400000 in
theorem que_zero (q1 q2 c : Int) (w : World) (h1 : 0 ≤ q1) (h2 : 0 ≤ q2) :
    Calls Tryf.prog 4 #[.int .i64 0, .int .i64 q1, .int .i64 q2, .int .i64 c] w fun e w' => e = .returned (.bool true) ∧ Below w.heap.size w w' := by
  go_enter Tryf.func4, Tryf.ntmps4
  go_wp2_with (go_at_call 5; refine (zz_zero _ _ _ (by omega)).mono ?_; rintro e w' ⟨rfl, rfl⟩)
  all_goals (go_quiet (fail))
  all_goals (go_wp2)
  all_goals
    go_ret
    exact ⟨ret_true (by simp), below_drewN (Below.refl _ _) _⟩

set_option maxHeartbeats 400000 in
theorem que_pos (a q1 q2 c : Int) (w : World) (h1 : 0 ≤ q1) (h2 : 0 ≤ q2) (ha : 0 < a) :
    Calls Tryf.prog 4 #[.int .i64 a, .int .i64 q1, .int .i64 q2, .int .i64 c] w fun e w' => e = .returned (.bool true) ∧ Below w.heap.size w w' := by
  go_enter Tryf.func4, Tryf.ntmps4
  go_wp2_with (go_at_call 5; refine (zz_pos _ _ _ _ ha (by omega)).mono ?_; rintro e w' ⟨rfl, rfl⟩)
  all_goals (go_quiet (fail))
  all_goals (go_wp2)
  all_goals
    go_ret
    exact ⟨ret_true (by simp), below_drewN (Below.refl _ _) _⟩

theorem que_any (F : Interp) (a q1 q2 c : Int) (w : World) (hF : F.answers w.tape) :
    Calls Tryf.prog 4 #[.int .i64 a, .int .i64 q1, .int .i64 q2, .int .i64 c] w fun e w' => e = .returned (.bool true) ∧ Below w.heap.size w w' := by
  by_cases h : q1 < 0 ∨ q2 < 0
  · exact que_out a q1 q2 c w h
  · by_cases ha : a < 0
    · exact que_neg F a q1 q2 c w hF (by omega) (by omega) ha
    · by_cases h0 : a = 0
      · subst h0; exact que_zero q1 q2 c w (by omega) (by omega)
      · exact que_pos a q1 q2 c w (by omega) (by omega) (by omega)

end Go.Proofs.Qxb6000084aFmt
