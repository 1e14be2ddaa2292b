/-
  THE WALK over the law FnVssStringToSignKeepsDst (4). By an AI agent.
-/
import Derived.Test.Qxb6601522aSign
namespace Go.Proofs.Qxb6601522a
open Go.RowKit

theorem Own.below {w w' : World} {v : Value} {xs : List UInt8} (h : Own w v xs) (hb : Below w.heap.size w w') : Own w' v xs := by
  refine ⟨h.1, ?_⟩
  rcases h.2 with hn | ⟨g, cap, cur, e, hbg, hg, rest⟩
  · exact .inl hn
  · exact .inr ⟨g, cap, cur, e, hbg, (hb.block g (Array.getElem?_eq_some_iff.1 hg).1).trans hg, rest⟩

theorem door_any (v : Value) (xs : List UInt8) (h p m : ByteArray) (s : Value) (ps : List (ByteArray × ByteArray)) (w : World) (hown : Own w v xs) (hs : RP w s ps) (hne : ∀ k, s.ownBlock = some k → v.ownBlock ≠ some k)
    (hb : xs.length + m.size + h.size + p.size + 1 + 2 * ps.length + psum ps ≤ 1099511627776) (hn : ps.length ≤ 1048576) (hpl : psum ps ≤ 1099511627776) :
    Calls Try.prog 10 #[v, .string m, .string h, .string p, s] w fun e w' => ∃ v', e = .returned v' ∧ Own w' v' (xs ++ bs m ++ bs h ++ bs p ++ [63] ++ tl true ps) ∧ App 1 w v w' v' := by
  have HO := hideH hown
  have HS := hideH hs
  have HN := hideH hne
  obtain ⟨ad, cap, e, hc⟩ := hs
  subst e
  clear hown hc hne
  go_enter Try.func10, Try.ntmps10
  go_wp2_with (go_at_call 16; refine (sign_any v xs h p m _ ps _ HO.out HS.out HN.out hb hn hpl).mono ?_; rintro e w' ⟨v', rfl, ho, ha⟩)
  go_ret
  exact ⟨_, rfl, ho, ha⟩

theorem within_int (f : Int) (v : Value) (ps : List (ByteArray × ByteArray)) (w : World) (hv : RP w v ps) (h0 : 0 ≤ f) (h1 : f ≤ 1099511627776) (hn : ps.length ≤ 1048576) (hsm : Small ps ps.length) :
    Calls Try.prog 6 #[.int .i64 f, v] w (Yes (f + 32 * ps.length + psum ps ≤ 1048576) w) := by
  obtain ⟨n, rfl⟩ := Int.eq_ofNat_of_zero_le h0
  refine (within_any n v ps w hv (by omega) hn hsm).mono ?_
  rintro e w' ⟨b, rfl, hb, hw⟩
  exact ⟨b, rfl, fun h => by have := hb h; omega, hw⟩

set_option maxRecDepth 100000 in
set_option maxHeartbeats 1000000 in
/-- Outside the law's own guard it answers true by itself. -/
theorem keeps_out (dst : Value) (xs : List UInt8) (room : Int) (m h p : ByteArray) (s : Value) (ps : List (ByteArray × ByteArray)) (w : World) (hd : RB w dst xs) (hs : RP w s ps)
    (hout : ¬ (xs.length ≤ 1048576 ∧ m.size ≤ 1048576 ∧ h.size ≤ 1048576 ∧ p.size ≤ 1048576 ∧ ps.length ≤ 1048576 ∧ 0 ≤ room ∧ room ≤ 65536)) :
    Calls Try.prog 4 #[dst, .int .i64 room, .string m, .string h, .string p, s] w fun e w' => e = .returned (.bool true) ∧ Below w.heap.size w w' := by
  obtain ⟨ad, cap, rfl, hcd⟩ := hd
  have HS := hideH hs
  obtain ⟨ads, caps, e, hcs⟩ := hs
  subst e
  clear hcd hcs
  obtain ⟨nd, hnd⟩ : ∃ n, n = xs.length := ⟨_, rfl⟩
  obtain ⟨ns, hns⟩ : ∃ n, n = ps.length := ⟨_, rfl⟩
  rw [← hnd, ← hns] at hout
  rw [← hns] at HS
  rw [← hnd, ← hns]
  clear hnd hns
  go_enter Try.func4, Try.ntmps4
  go_wp2_with fail
  refine (bytesKeeps_any _ _ _ _ _ _ _ _ ps _ HS.out).mono ?_
  rintro e w' ⟨b, rfl, hb, n, rfl⟩
  clear hb
  cases b
  · go_wp2_with fail
    go_ret
    exact ⟨rfl, below_drewN (Below.refl _ _) _⟩
  · go_wp2_with fail
    all_goals first
      | (go_ret; exact ⟨rfl, below_drewN (Below.refl _ _) _⟩)
      | (exfalso; omega)

end Go.Proofs.Qxb6601522a
