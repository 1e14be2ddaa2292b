/-
  STRICTLY INCREASING LISTS OF STRINGS; the walk over zzIndex (9). By an AI agent.
-/
import Derived.Test.Qxb6600808aBase
namespace Go.Proofs.Qxb6600808a
open Go.RowKit

theorem bytesLess_is : ∀ (x y : List UInt8), Op.bytesLess x y = decide (x < y)
  | _, [] => by simp [Op.bytesLess]
  | [], b :: y => by simp [Op.bytesLess]
  | a :: x, b :: y => by
    rw [Op.bytesLess, bytesLess_is x y]
    rw [Bool.eq_iff_iff]
    simp [List.cons_lt_cons_iff]

theorem less_is (a b : ByteArray) : Op.bytesLess a.toList b.toList = decide (a.data.toList < b.data.toList) := by
  rw [bytesLess_is, ByteArray.toList_eq, ByteArray.toList_eq]

/-- Strictly increasing. -/
def Srt (R : List ByteArray) : Prop := ∀ (i j : Nat) (a b : ByteArray), R[i]? = some a → R[j]? = some b → i < j → a.data.toList < b.data.toList

theorem Srt.lt {R : List ByteArray} (h : Srt R) {p m : Nat} {s c : ByteArray} (hp : R[p]? = some s) (hm : R[m]? = some c) (hl : Op.bytesLess c.toList s.toList = true) : m < p := by
  rw [less_is, decide_eq_true_eq] at hl
  rcases Nat.lt_trichotomy m p with h1 | h1 | h1
  · exact h1
  · subst h1
    rw [hp] at hm
    cases hm
    exact absurd hl (List.lt_irrefl _)
  · exact absurd (List.lt_trans hl (h p m s c hp hm h1)) (List.lt_irrefl _)

theorem Srt.ge {R : List ByteArray} (h : Srt R) {p m : Nat} {s c : ByteArray} (hp : R[p]? = some s) (hm : R[m]? = some c) (hl : Op.bytesLess c.toList s.toList = false) : p ≤ m := by
  rw [less_is, decide_eq_false_iff_not] at hl
  rcases Nat.lt_or_ge m p with h1 | h1
  · exact absurd (h m p c s hm hp h1) hl
  · exact h1

set_option maxHeartbeats 400000 in
theorem index_any (v : Value) (xs : List ByteArray) (s : ByteArray) (w : World) (hv : RS w v xs) (hx : xs.length ≤ 1048576) (hS : Srt xs) (p : Nat) (hp : xs[p]? = some s) :
    Calls Try.prog 9 #[v, .string s] w fun e w' => e = .returned (.int .i64 p) ∧ ∃ n, w' = w.drewN n := by
  obtain ⟨ad, cap, rfl, hc⟩ := hv
  obtain ⟨n, hnn⟩ : ∃ n, n = xs.length := ⟨_, rfl⟩
  have HN : Hid (n = xs.length) := hnn
  have hpn : p < n := by rw [hnn]; exact (List.getElem?_eq_some_iff.1 hp).1
  have HP := hideH hp
  have HSr := hideH hS
  rw [← hnn] at hx ⊢
  clear hnn hp hS
  go_enter Try.func9, Try.ntmps9
  go_wp2
  go_loopw [5, 6] (fun l h wr => ∃ lo hi q : Nat, l = .int .i64 lo ∧ h = .int .i64 hi ∧ lo ≤ p ∧ p ≤ hi ∧ hi ≤ n ∧ wr = w.drewN q) (fun l h _ => (intOf h).toNat - (intOf l).toNat)
  case atStart => exact ⟨0, n, 0, rfl, rfl, Nat.zero_le _, by omega, Nat.le_refl _, rfl⟩
  case round =>
    obtain ⟨lo, hi, q, rfl, rfl, h1, h2, h3, rfl⟩ := hrel
    by_cases hlt : lo < hi
    · have hm1 : lo ≤ lo + (hi - lo) / 2 := by omega
      have hm2 : lo + (hi - lo) / 2 < hi := by omega
      obtain ⟨c, hcx⟩ : ∃ c, xs[lo + (hi - lo) / 2]? = some c := ⟨_, List.getElem?_eq_getElem (by rw [← HN.out]; omega)⟩
      obtain ⟨b1, o1, rfl, hcell⟩ := hc _ c hcx
      have HC := hideH hcx
      clear hcx hc hm1 hm2
      go_wp2
      · have hl : Op.bytesLess c.toList s.toList = true := by assumption
        have h4 := HSr.out.lt HP.out HC.out hl
        go_roundw
        case rel => exact ⟨lo + (hi - lo) / 2 + 1, hi, q, by go_num, rfl, by omega, h2, h3, rfl⟩
        case measure => simp [intOf]; omega
      · have hl : Op.bytesLess c.toList s.toList = false := by assumption
        have h4 := HSr.out.ge HP.out HC.out hl
        go_roundw
        case rel => exact ⟨lo, lo + (hi - lo) / 2, q, rfl, by go_num, h1, by omega, by omega, rfl⟩
        case measure => simp [intOf]; omega
    · obtain ⟨b1, o1, rfl, hcell⟩ := hc p s HP.out
      have e1 : lo = p := by omega
      have e2 : hi = p := by omega
      subst e1
      subst e2
      clear hc
      have hlt' : (hi : Int) < (n : Int) := by omega
      go_wp2
      go_ret
      exact ⟨rfl, _, rfl⟩

end Go.Proofs.Qxb6600808a
