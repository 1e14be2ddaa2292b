/-
  FROM THE FORM's READINGS OF THE ARGUMENTS TO 'RB' AND 'RP'. By an AI agent.
-/
import Derived.Test.Qxb6601522aBase
import Derived.ProofKit
import Derived.OpenShut
import Derived.ChangeOld
import Derived.Deep.SlicePairs
namespace Go.Proofs.Qxb6601522a
open Go.ChangeShapes Go.WideShapes Go.ChangeAt Go.RowKit

theorem own : ownKnob Try.prog.godebug = none := by kernel_rfl
theorem laidOut : laidOutB Try.prog = true := by kernel_rfl

theorem spot_of {w : World} {a : Addr} {v : Value} (h : w.cell? (a.add 0) = some v) : a = ⟨a.block, a.off, none⟩ := by
  obtain ⟨b, off, spot⟩ := a
  have hs : spot = none := by simpa [Addr.add] using World.cell?_spot h
  subst hs
  rfl

theorem add_at {a : Addr} (h : a = ⟨a.block, a.off, none⟩) (i : Nat) : a.add i = ⟨a.block, a.off + i, none⟩ := by
  generalize a.block = b at h ⊢
  generalize a.off = o at h ⊢
  subst h
  unfold Addr.add; split <;> simp_all

/-- A byte slice that came in. -/
theorem rb_of {H : Type} {enc : TypeId × Value → H} {W : World} {base : Nat} {spare : Nat → Bool} {held : Bool} {a0 : Option Addr} {len0 cap0 : Nat} {d : DataW H} {p : List MemPlace}
    (h0 : DataW.Trod enc Try.prog W base spare held 22 (.slice a0 len0 cap0) d p) (hsp : ∀ b, spare b = true) : ∃ xs : List UInt8, RB W (.slice a0 len0 cap0) xs := by
  obtain ⟨fuel, hf⟩ := h0
  rcases open_ints Try.underlying22 Try.underlying5 (by kernel_rfl) hf with ⟨hcs, _⟩ | ⟨x, l, c, zs, hcs, _, hl, hm, hz, _, hcell, hwz⟩
  · simp [Value.cells] at hcs
    obtain ⟨rfl, rfl, rfl⟩ := hcs
    exact ⟨[], none, 0, rfl, fun i c hi => by simp at hi⟩
  · simp [Value.cells] at hcs
    obtain ⟨rfl, rfl, rfl⟩ := hcs
    have hzl : zs.length = cap0 := by simpa [hsp] using hz
    refine ⟨(zs.take len0).map (fun z => UInt8.ofNat z.toNat), some x, cap0, ?_, fun i c hi => ?_⟩
    · congr 1
      rw [List.length_map, List.length_take]
      omega
    · rw [List.getElem?_map] at hi
      have hlt : i < len0 := by
        rcases Nat.lt_or_ge i len0 with h | h
        · exact h
        · rw [List.getElem?_eq_none (by rw [List.length_take]; omega)] at hi
          simp at hi
      rw [List.getElem?_take_of_lt hlt, List.getElem?_eq_getElem (by omega)] at hi
      simp at hi
      have hc := hcell i (by omega)
      have e := spot_of (hcell 0 (by omega))
      refine ⟨x.block, x.off, congrArg some e, ?_⟩
      rw [← add_at e, hc]
      have hw := hwz (zs[i]'(by omega)) (List.getElem_mem _)
      simp [Lit.wf, IntKind.min, IntKind.max, IntKind.signed, IntKind.bits] at hw
      subst hi
      rw [List.getD_eq_getElem?_getD, List.getElem?_eq_getElem (by omega)]
      simp only [Option.getD_some, UInt8.toNat_ofNat']
      congr 2
      omega

/-- A slice of pairs of strings that came in. -/
theorem rp_of {H : Type} {enc : TypeId × Value → H} {W : World} {base : Nat} {spare : Nat → Bool} {held : Bool} {a0 : Option Addr} {len0 cap0 : Nat} {d : DataW H} {p : List MemPlace}
    (h0 : DataW.Trod enc Try.prog W base spare held 23 (.slice a0 len0 cap0) d p) : ∃ ps : List (ByteArray × ByteArray), RP W (.slice a0 len0 cap0) ps := by
  obtain ⟨fuel, hf⟩ := h0
  rcases Deep.open_slice_pairs Try.underlying23 Try.underlying36 (by kernel_rfl) (by kernel_rfl) (by kernel_rfl) (by kernel_rfl) (by kernel_rfl) hf with ⟨hcs, _⟩ | ⟨x, l, c, m, n, V0, V1, D0, D1, P0, P1, hcs, _, hl, hm, hmm, _, hx⟩
  · simp [Value.cells] at hcs
    obtain ⟨rfl, rfl, rfl⟩ := hcs
    exact ⟨[], none, 0, rfl, fun i c hi => by simp at hi⟩
  · simp [Value.cells] at hcs
    obtain ⟨rfl, rfl, rfl⟩ := hcs
    have hlm : len0 ≤ m := by rw [hmm]; split <;> omega
    obtain ⟨f, hf⟩ := Deep.choose_lt (α := ByteArray × ByteArray) (n := len0) (p := fun i q => W.cell? (x.add (i * 2)) = some (.string q.1) ∧ W.cell? (x.add (i * 2 + 1)) = some (.string q.2)) (fun i hi => by
      obtain ⟨c0, c1, t0, t1⟩ := hx i (by omega)
      obtain ⟨s0, e0, _⟩ := DataW.trod_string Try.underlying9 t0
      obtain ⟨s1, e1, _⟩ := DataW.trod_string Try.underlying9 t1
      simp at e0 e1
      exact ⟨(s0, s1), by rw [c0, e0], by rw [c1, e1]⟩)
    refine ⟨(List.range len0).map f, some x, cap0, by simp, fun i q hi => ?_⟩
    rw [List.getElem?_map] at hi
    have hlt : i < len0 := by
      rcases Nat.lt_or_ge i len0 with h | h
      · exact h
      · rw [List.getElem?_eq_none (by simpa using h)] at hi
        simp at hi
    rw [List.getElem?_range hlt] at hi
    simp at hi
    subst hi
    have e := spot_of (a := x) (by simpa using (hf 0 (by omega)).1)
    have c0 := (hf i hlt).1
    have c1 := (hf i hlt).2
    rw [add_at e] at c0 c1
    exact ⟨x.block, x.off, congrArg some e, c0, by rw [Nat.add_assoc]; exact c1⟩

end Go.Proofs.Qxb6601522a
