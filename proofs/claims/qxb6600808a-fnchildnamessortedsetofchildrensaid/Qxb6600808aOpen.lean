/-
  FROM THE FORM's READING OF A SLICE OF STRINGS TO 'RS'. By an AI agent.
-/
import Derived.Test.Qxb6600808aBase
import Derived.ProofKit
import Derived.OpenShut
import Derived.ChangeOld
import Derived.SliceStrings
namespace Go.Proofs.Qxb6600808a
open Go.ChangeShapes Go.WideShapes Go.ChangeAt Go.RowKit

theorem own : ownKnob Try.prog.godebug = none := by kernel_rfl
theorem laidOut : laidOutB Try.prog = true := by kernel_rfl

theorem spot_of {w : World} {a : Addr} {v : Value} (h : w.cell? (a.add 0) = some v) : a = ⟨a.block, a.off, none⟩ := by
  obtain ⟨b, off, spot⟩ := a
  have hs : spot = none := by simpa [Addr.add] using World.cell?_spot h
  subst hs
  rfl

theorem add_at {a : Addr} (h : a = ⟨a.block, a.off, none⟩) (i : Nat) : a.add i = ⟨a.block, a.off + i, none⟩ := by
  generalize a.block = b at h ⊢
  generalize a.off = o at h ⊢
  subst h
  unfold Addr.add; split <;> simp_all

/-- A slice of strings that came in. -/
theorem rs_of {H : Type} {enc : TypeId × Value → H} {W : World} {base : Nat} {spare : Nat → Bool} {held : Bool} {a0 : Option Addr} {len0 cap0 : Nat} {d : DataW H} {p : List MemPlace}
    (h0 : DataW.Trod enc Try.prog W base spare held 22 (.slice a0 len0 cap0) d p) (hsp : ∀ b, spare b = true) : ∃ xs : List ByteArray, RS W (.slice a0 len0 cap0) xs := by
  obtain ⟨fuel, hf⟩ := h0
  rcases open_strings Try.underlying22 Try.underlying9 (by kernel_rfl) hf with ⟨hcs, _⟩ | ⟨x, l, c, ss, hcs, _, hl, hm, hz, _, hcell, _⟩
  · simp [Value.cells] at hcs
    obtain ⟨rfl, rfl, rfl⟩ := hcs
    exact ⟨[], none, 0, rfl, fun i c hi => by simp at hi⟩
  · simp [Value.cells] at hcs
    obtain ⟨rfl, rfl, rfl⟩ := hcs
    have hzl : ss.length = cap0 := by simpa [hsp] using hz
    refine ⟨ss.take len0, some x, cap0, ?_, fun i c hi => ?_⟩
    · congr 1
      rw [List.length_take]
      omega
    · have hlt : i < len0 := by
        rcases Nat.lt_or_ge i len0 with h | h
        · exact h
        · rw [List.getElem?_eq_none (by rw [List.length_take]; omega)] at hi
          simp at hi
      rw [List.getElem?_take_of_lt hlt] at hi
      have hc := hcell i (by omega)
      have e := spot_of (hcell 0 (by omega))
      refine ⟨x.block, x.off, congrArg some e, ?_⟩
      rw [← add_at e, hc, List.getD_eq_getElem?_getD, hi]
      rfl

end Go.Proofs.Qxb6600808a
