/-
  THE WALKS over the two laws (functions 3, 4) and over ZZpoolSize (function 5), for every F. By an AI agent.
-/
import Derived.Test.Qxb6000029aFmtPool
namespace Go.Proofs.Qxb6000029aFmt
open Go.RowKit Go.Extern.Stop Go.Stop Go.Extern

theorem ret_true {b : Bool} (h : b = true) : Ending.returned (.bool b) = .returned (.bool true) := by rw [h]

theorem wrap4 (c : Int) (h1 : 1 ≤ c) (h2 : c ≤ 2305843009213693951) : wrap64 (4 * c) = 4 * c := by
  unfold wrap64; omega

theorem dflt_of (c : Int) (h1 : 1 ≤ c) (h2 : c ≤ 2305843009213693951) : dflt c = min (4 * c) 200 := by
  unfold dflt; rw [wrap4 c h1 h2]

set_option maxHeartbeats 400000 in
theorem zz_zero (q c : Int) (w : World) (hq : ¬ q < 0) :
    Calls Tryf.prog 5 #[.int .i64 0, .int .i64 q, .int .i64 c] w fun e w' => e = .returned (.tuple #[.int .i64 (dflt c), .nilIface]) ∧ w' = w := by
  go_enter Tryf.func5, Tryf.ntmps5
  go_wp2_with (go_at_call 6; refine (pool_zero _ _ _ hq).mono ?_; rintro e w' ⟨rfl, rfl⟩)
  go_ret2
  exact ⟨rfl, rfl⟩

set_option maxHeartbeats 400000 in
theorem zz_pos (a q c : Int) (w : World) (ha : 0 < a) (hq : ¬ q < 0) :
    Calls Tryf.prog 5 #[.int .i64 a, .int .i64 q, .int .i64 c] w fun e w' => e = .returned (.tuple #[.int .i64 a, .nilIface]) ∧ w' = w := by
  go_enter Tryf.func5, Tryf.ntmps5
  go_wp2_with (go_at_call 6; refine (pool_pos _ _ _ _ ha hq).mono ?_; rintro e w' ⟨rfl, rfl⟩)
  go_ret2
  exact ⟨rfl, rfl⟩

/-- Refused: 0, an error that is not nil, nothing old has turned, the tape is the old one's. -/
theorem zz_neg (F : Interp) (a q c : Int) (w : World) (hF : F.answers w.tape) (h : a < 0 ∨ q < 0) :
    Calls Tryf.prog 5 #[.int .i64 a, .int .i64 q, .int .i64 c] w fun e w' => e = .returned (.tuple #[.int .i64 0, .iface 31 (.pointer (some ⟨w.heap.size + 1, 0, none⟩))]) ∧
      ∃ o1 o2, w' = ((w.alloc o1).alloc o2).drew := by
  by_cases ha : a < 0
  · go_enter Tryf.func5, Tryf.ntmps5
    go_wp2_with (go_at_call 6; refine (pool_neg1 F _ _ _ _ (by exact hF) ha).mono ?_; rintro e w' ⟨rfl, rfl⟩)
    go_ret2
    exact ⟨rfl, _, _, rfl⟩
  · have hq : q < 0 := by omega
    go_enter Tryf.func5, Tryf.ntmps5
    go_wp2_with (go_at_call 6; refine (pool_neg2 F _ _ _ _ (by exact hF) ha hq).mono ?_; rintro e w' ⟨rfl, rfl⟩)
    go_ret2
    exact ⟨rfl, _, _, rfl⟩

set_option maxHeartbeats 400000 in
theorem def_out (q c1 c2 : Int) (w : World) (h : ¬ (1 ≤ c1 ∧ c1 ≤ 2305843009213693951 ∧ 1 ≤ c2 ∧ c2 ≤ 2305843009213693951 ∧ 0 ≤ q)) :
    Calls Tryf.prog 3 #[.int .i64 q, .int .i64 c1, .int .i64 c2] w fun e w' => e = .returned (.bool true) ∧ w' = w := by
  go_enter Tryf.func3, Tryf.ntmps3
  go_wp2_with fail
  all_goals first
    | (go_ret; exact ⟨rfl, rfl⟩)
    | (exfalso; omega)

set_option maxHeartbeats 400000 in
theorem def_le (q c1 c2 : Int) (w : World) (h1 : 1 ≤ c1) (h2 : c2 ≤ 2305843009213693951) (h12 : c1 ≤ c2) (hq : 0 ≤ q) :
    Calls Tryf.prog 3 #[.int .i64 q, .int .i64 c1, .int .i64 c2] w fun e w' => e = .returned (.bool true) ∧ w' = w := by
  have a1 : 4 ≤ dflt c1 := by rw [dflt_of c1 h1 (by omega)]; omega
  have a2 : dflt c1 ≤ dflt c2 := by rw [dflt_of c1 h1 (by omega), dflt_of c2 (by omega) h2]; omega
  have a3 : dflt c2 ≤ 200 := by rw [dflt_of c2 (by omega) h2]; omega
  have a4 : min c1 200 ≤ dflt c1 := by rw [dflt_of c1 h1 (by omega)]; omega
  go_enter Tryf.func3, Tryf.ntmps3
  go_wp2_with (go_at_call 5; refine (zz_zero _ _ _ (by omega)).mono ?_; rintro e w' ⟨rfl, rfl⟩)
  all_goals
    go_ret
    exact ⟨ret_true (by simp; omega), rfl⟩

set_option maxHeartbeats 400000 in
theorem def_gt (q c1 c2 : Int) (w : World) (h1 : 1 ≤ c2) (h2 : c1 ≤ 2305843009213693951) (h12 : c2 < c1) (hq : 0 ≤ q) :
    Calls Tryf.prog 3 #[.int .i64 q, .int .i64 c1, .int .i64 c2] w fun e w' => e = .returned (.bool true) ∧ w' = w := by
  have a1 : 4 ≤ dflt c2 := by rw [dflt_of c2 h1 (by omega)]; omega
  have a2 : dflt c2 ≤ dflt c1 := by rw [dflt_of c2 h1 (by omega), dflt_of c1 (by omega) h2]; omega
  have a3 : dflt c1 ≤ 200 := by rw [dflt_of c1 (by omega) h2]; omega
  have a4 : min c2 200 ≤ dflt c2 := by rw [dflt_of c2 h1 (by omega)]; omega
  go_enter Tryf.func3, Tryf.ntmps3
  go_wp2_with (go_at_call 5; refine (zz_zero _ _ _ (by omega)).mono ?_; rintro e w' ⟨rfl, rfl⟩)
  all_goals
    go_ret
    exact ⟨ret_true (by simp; omega), rfl⟩

theorem def_any (q c1 c2 : Int) (w : World) :
    Calls Tryf.prog 3 #[.int .i64 q, .int .i64 c1, .int .i64 c2] w fun e w' => e = .returned (.bool true) ∧ w' = w := by
  by_cases h : 1 ≤ c1 ∧ c1 ≤ 2305843009213693951 ∧ 1 ≤ c2 ∧ c2 ≤ 2305843009213693951 ∧ 0 ≤ q
  · by_cases h12 : c1 ≤ c2
    · exact def_le q c1 c2 w (by omega) (by omega) h12 (by omega)
    · exact def_gt q c1 c2 w (by omega) (by omega) (by omega) (by omega)
  · exact def_out q c1 c2 w h

theorem def_below (q c1 c2 : Int) (w : World) :
    Calls Tryf.prog 3 #[.int .i64 q, .int .i64 c1, .int .i64 c2] w fun e w' => e = .returned (.bool true) ∧ Below w.heap.size w w' :=
  (def_any q c1 c2 w).mono fun e w' ⟨he, hw⟩ => ⟨he, by subst hw; exact Below.refl _ _⟩

set_option maxHeartbeats 400000 in
theorem acc_neg (F : Interp) (a q c : Int) (w : World) (hF : F.answers w.tape) (h : a < 0 ∨ q < 0) :
    Calls Tryf.prog 4 #[.int .i64 a, .int .i64 q, .int .i64 c] w fun e w' => e = .returned (.bool true) ∧ Below w.heap.size w w' := by
  by_cases ha : a < 0
  · by_cases hq : q < 0
    all_goals
      go_enter Tryf.func4, Tryf.ntmps4
      go_wp2_with (go_at_call 5; refine (zz_neg F _ _ _ _ (by exact hF) h).mono ?_; rintro e w' ⟨rfl, o1, o2, rfl⟩)
      all_goals
        go_ret
        exact ⟨rfl, (((Below.refl _ _).alloc (Nat.le_refl _) _).alloc (by simp) _).drew⟩
  · have hq : q < 0 := by omega
    go_enter Tryf.func4, Tryf.ntmps4
    go_wp2_with (go_at_call 5; refine (zz_neg F _ _ _ _ (by exact hF) h).mono ?_; rintro e w' ⟨rfl, o1, o2, rfl⟩)
    all_goals
      go_ret
      exact ⟨rfl, (((Below.refl _ _).alloc (Nat.le_refl _) _).alloc (by simp) _).drew⟩

set_option maxHeartbeats 400000 in
theorem acc_zero (q c : Int) (w : World) (hq : ¬ q < 0) :
    Calls Tryf.prog 4 #[.int .i64 0, .int .i64 q, .int .i64 c] w fun e w' => e = .returned (.bool true) ∧ Below w.heap.size w w' := by
  go_enter Tryf.func4, Tryf.ntmps4
  go_wp2_with (go_at_call 5; refine (zz_zero _ _ _ (by omega)).mono ?_; rintro e w' ⟨rfl, rfl⟩)
  all_goals
    go_ret
    exact ⟨ret_true (by simp), Below.refl _ _⟩

set_option maxHeartbeats 400000 in
theorem acc_pos (a q c : Int) (w : World) (ha : 0 < a) (hq : ¬ q < 0) :
    Calls Tryf.prog 4 #[.int .i64 a, .int .i64 q, .int .i64 c] w fun e w' => e = .returned (.bool true) ∧ Below w.heap.size w w' := by
  go_enter Tryf.func4, Tryf.ntmps4
  go_wp2_with (go_at_call 5; refine (zz_pos _ _ _ _ ha (by omega)).mono ?_; rintro e w' ⟨rfl, rfl⟩)
  all_goals
    go_ret
    exact ⟨ret_true (by simp), Below.refl _ _⟩

theorem acc_any (F : Interp) (a q c : Int) (w : World) (hF : F.answers w.tape) :
    Calls Tryf.prog 4 #[.int .i64 a, .int .i64 q, .int .i64 c] w fun e w' => e = .returned (.bool true) ∧ Below w.heap.size w w' := by
  by_cases h : a < 0 ∨ q < 0
  · exact acc_neg F a q c w hF h
  · by_cases h0 : a = 0
    · subst h0; exact acc_zero q c w (by omega)
    · exact acc_pos a q c w (by omega) (by omega)

end Go.Proofs.Qxb6000029aFmt
