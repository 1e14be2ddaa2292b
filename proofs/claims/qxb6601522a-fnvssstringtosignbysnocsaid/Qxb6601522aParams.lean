/-
  THE WALKS over zzVssWithin (6), the two zzBytes (5, 15), zzCloneParams (8), zzToParams (13). By an AI agent.
-/
import Derived.Test.Qxb6601522aBytes
namespace Go.Proofs.Qxb6601522a
open Go.RowKit

/-- The lengths of the first k pairs are at most 2^20 each. -/
def Small (ps : List (ByteArray × ByteArray)) (k : Nat) : Prop := ∀ j p, j < k → ps[j]? = some p → p.1.size ≤ 1048576 ∧ p.2.size ≤ 1048576

theorem Small.step {ps : List (ByteArray × ByteArray)} {k : Nat} (h : Small ps k) {p : ByteArray × ByteArray} (hp : ps[k]? = some p) (h1 : p.1.size ≤ 1048576) (h2 : p.2.size ≤ 1048576) : Small ps (k + 1) := by
  intro j q hj hq
  by_cases e : j = k
  · subst e
    rw [hp] at hq
    cases hq
    exact ⟨h1, h2⟩
  · exact h j q (by omega) hq

def psum : List (ByteArray × ByteArray) → Nat
  | [] => 0
  | p :: r => p.1.size + p.2.size + psum r

theorem psum_append (a b : List (ByteArray × ByteArray)) : psum (a ++ b) = psum a + psum b := by
  induction a with
  | nil => simp [psum]
  | cons p r ih => simp [psum, ih]; omega

theorem psum_take {ps : List (ByteArray × ByteArray)} {k : Nat} {p : ByteArray × ByteArray} (hp : ps[k]? = some p) : psum (ps.take (k + 1)) = psum (ps.take k) + (p.1.size + p.2.size) := by
  obtain ⟨hk, e⟩ := List.getElem?_eq_some_iff.1 hp
  rw [List.take_succ_eq_append_getElem hk, psum_append, e]
  simp [psum]

/-- A bool comes back; where it is true, p holds; the world is as it was but for draws. -/
def Yes (p : Prop) (w : World) (e : Ending) (w' : World) : Prop := ∃ b, e = .returned (.bool b) ∧ (b = true → p) ∧ ∃ n, w' = w.drewN n
theorem Yes.no {p : Prop} {w : World} (n : Nat) : Yes p w (.returned (.bool false)) (w.drewN n) := ⟨false, rfl, (fun h => by cases h), n, rfl⟩
theorem Yes.no0 {p : Prop} {w : World} : Yes p w (.returned (.bool false)) w := ⟨false, rfl, (fun h => by cases h), 0, rfl⟩
theorem Yes.yes {p : Prop} {w : World} (n : Nat) (h : p) : Yes p w (.returned (.bool true)) (w.drewN n) := ⟨true, rfl, (fun _ => h), n, rfl⟩

set_option maxHeartbeats 400000 in
theorem within_any (flat : Nat) (v : Value) (ps : List (ByteArray × ByteArray)) (w : World) (hv : RP w v ps) (hf : flat ≤ 1099511627776) (hn : ps.length ≤ 1048576) (hsm : Small ps ps.length) :
    Calls Try.prog 6 #[.int .i64 flat, v] w (Yes (flat + 32 * ps.length + psum ps ≤ 1048576) w) := by
  obtain ⟨ad, cap, rfl, hc⟩ := hv
  obtain ⟨n, hnn⟩ : ∃ n, n = ps.length := ⟨_, rfl⟩
  have HN : Hid (n = ps.length) := hnn
  rw [← hnn] at hn hsm ⊢
  clear hnn
  go_enter Try.func6, Try.ntmps6
  go_wp2
  all_goals first
    | (go_ret; exact Yes.no0)
    | skip
  go_loopw [5, 6] (fun t i wr => ∃ k q T : Nat, k ≤ n ∧ i = .int .i64 k ∧ t = .int .i64 T ∧ T ≤ 1048576 ∧ Hid (T = flat + 32 * n + psum (ps.take k)) ∧ wr = w.drewN q) (fun _ i _ => n - (intOf i).toNat)
  case atStart => exact ⟨0, 0, flat + 32 * n, Nat.zero_le _, rfl, by go_num, by omega, by show _ = _; simp [psum], rfl⟩
  case round =>
    obtain ⟨k, q, T, hk, rfl, rfl, hT, HT, rfl⟩ := hrel
    by_cases hlt : k < n
    · obtain ⟨⟨s1, s2⟩, hp⟩ : ∃ p, ps[k]? = some p := ⟨_, List.getElem?_eq_getElem (by rw [← HN.out]; exact hlt)⟩
      obtain ⟨b1, o1, rfl, h1, h2⟩ := hc k _ hp
      have hs := hsm k _ hlt hp
      have hs1 : s1.size ≤ 1048576 := hs.1
      have hs2 : s2.size ≤ 1048576 := hs.2
      have HP := hideH (psum_take hp)
      have hlt' : (k : Int) < (n : Int) := by omega
      clear hc hp hs hsm
      go_wp2_with fail
      go_quiet (fail)
      go_wp2
      · go_ret
        exact Yes.no _
      · go_roundw
        case rel => exact ⟨k + 1, _, T + (s1.size + s2.size), by omega, by go_num, by go_num, by omega, by show _ = _; rw [HP.out, HT.out]; omega, rfl⟩
        case measure => simp [intOf]; omega
    · go_wp2
      go_ret
      refine Yes.yes _ ?_
      have := HT.out
      rw [List.take_of_length_le (by rw [← HN.out]; omega)] at this
      omega

set_option maxHeartbeats 1000000 in
theorem bytesKeeps_any (ad : Option Addr) (nd cd : Nat) (room : Int) (m h p : ByteArray) (v : Value) (ps : List (ByteArray × ByteArray)) (w : World) (hv : RP w v ps) :
    Calls Try.prog 15 #[.slice ad nd cd, .int .i64 room, .string m, .string h, .string p, v] w (Yes (Small ps ps.length) w) := by
  obtain ⟨ads, cap, rfl, hc⟩ := hv
  obtain ⟨n, hnn⟩ : ∃ n, n = ps.length := ⟨_, rfl⟩
  have HN : Hid (n = ps.length) := hnn
  rw [← hnn]
  clear hnn
  go_enter Try.func15, Try.ntmps15
  go_wp2
  all_goals first
    | (go_ret; exact Yes.no0)
    | skip
  go_loopw [13, 14] (fun z i wr => ∃ (k q : Nat) (zz : Int), k ≤ n ∧ z = .int .i64 zz ∧ i = .int .i64 k ∧ Small ps k ∧ wr = w.drewN q) (fun _ i _ => n - (intOf i).toNat)
  case atStart => exact ⟨0, 0, _, Nat.zero_le _, rfl, rfl, fun j p hj => by omega, rfl⟩
  case round =>
    obtain ⟨k, q, zz, hk, rfl, rfl, hsm, rfl⟩ := hrel
    by_cases hlt : k < n
    · obtain ⟨⟨s1, s2⟩, hp⟩ : ∃ p, ps[k]? = some p := ⟨_, List.getElem?_eq_getElem (by rw [← HN.out]; exact hlt)⟩
      obtain ⟨b1, o1, rfl, h1, h2⟩ := hc k _ hp
      have HS := hideH (fun a b => hsm.step hp a b)
      have hlt' : (k : Int) < (n : Int) := by omega
      clear hc hp hsm
      go_wp2
      all_goals first
        | (go_ret; exact Yes.no _)
        | (go_roundw
           case rel => exact ⟨k + 1, q, _, by omega, rfl, by go_num, HS.out (by simp only; omega) (by simp only; omega), rfl⟩
           case measure => simp [intOf]; omega)
    · go_wp2
      go_ret
      have e : k = n := by omega
      exact Yes.yes _ (by rw [← e]; exact hsm)

set_option maxHeartbeats 1000000 in
theorem bytesSnoc_any (ad : Option Addr) (nd cd : Nat) (room : Int) (m h p nm vl : ByteArray) (v : Value) (ps : List (ByteArray × ByteArray)) (w : World) (hv : RP w v ps) :
    Calls Try.prog 5 #[.slice ad nd cd, .int .i64 room, .string m, .string h, .string p, v, .string nm, .string vl] w (Yes (Small ps ps.length) w) := by
  obtain ⟨ads, cap, rfl, hc⟩ := hv
  obtain ⟨n, hnn⟩ : ∃ n, n = ps.length := ⟨_, rfl⟩
  have HN : Hid (n = ps.length) := hnn
  rw [← hnn]
  clear hnn
  go_enter Try.func5, Try.ntmps5
  go_wp2
  all_goals first
    | (go_ret; exact Yes.no0)
    | skip
  go_loopw [17, 18] (fun z i wr => ∃ (k q : Nat) (zz : Int), k ≤ n ∧ z = .int .i64 zz ∧ i = .int .i64 k ∧ Small ps k ∧ wr = w.drewN q) (fun _ i _ => n - (intOf i).toNat)
  case atStart => exact ⟨0, 0, _, Nat.zero_le _, rfl, rfl, fun j p hj => by omega, rfl⟩
  case round =>
    obtain ⟨k, q, zz, hk, rfl, rfl, hsm, rfl⟩ := hrel
    by_cases hlt : k < n
    · obtain ⟨⟨s1, s2⟩, hp⟩ : ∃ p, ps[k]? = some p := ⟨_, List.getElem?_eq_getElem (by rw [← HN.out]; exact hlt)⟩
      obtain ⟨b1, o1, rfl, h1, h2⟩ := hc k _ hp
      have HS := hideH (fun a b => hsm.step hp a b)
      have hlt' : (k : Int) < (n : Int) := by omega
      clear hc hp hsm
      go_wp2
      all_goals first
        | (go_ret; exact Yes.no _)
        | (go_roundw
           case rel => exact ⟨k + 1, q, _, by omega, rfl, by go_num, HS.out (by simp only; omega) (by simp only; omega), rfl⟩
           case measure => simp [intOf]; omega)
    · have e : k = n := by omega
      have HE := hideH e
      clear e
      go_wp2
      all_goals first
        | (go_ret; exact Yes.no _)
        | (go_ret; exact Yes.yes _ (by rw [← HE.out]; exact hsm))

end Go.Proofs.Qxb6601522a
