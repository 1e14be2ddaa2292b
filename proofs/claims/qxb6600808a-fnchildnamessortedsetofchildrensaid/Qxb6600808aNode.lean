/-
  THE WALK over ZZNodeWithChildren (8): a node whose children are a set of names. By an AI agent.
-/
import Derived.Test.Qxb6600808aBase
import Derived.Maps.Own
import Derived.Maps.OwnSet
import Derived.Maps.RangeWalk
import Derived.Sort.KeysCollected
namespace Go.Proofs.Qxb6600808a
open Go.RowKit Go.Maps

theorem law9 : Keyed Try.prog 9 := string_keyed Try.underlying9

/-- The map D holds just the names xs. -/
def Set (D : DataW Unit) (xs : List ByteArray) : Prop := ∀ x : List UInt8, has D (.string x) = true ↔ ∃ s ∈ xs, s.data.toList = x

theorem set_nil : Set (.map []) [] := fun x => by simp [has]

theorem set_put {D : DataW Unit} {xs : List ByteArray} (h : Set D xs) (hD : IsMap D) (s : ByteArray) (d : DataW Unit) : Set (D.put (.string s.data.toList) d) (xs ++ [s]) := fun x => by
  by_cases e : x = s.data.toList
  · subst e
    rw [has_put_same hD (by simp [WideAt.IsKeyLit])]
    simp
  · rw [has_put_other (fun e1 => e (by simpa using e1)), h x]
    simp only [List.mem_append, List.mem_singleton]
    constructor
    · rintro ⟨t, ht, rfl⟩; exact ⟨t, .inl ht, rfl⟩
    · rintro ⟨t, ht | rfl, rfl⟩
      · exact ⟨t, ht, rfl⟩
      · exact absurd rfl e

/-- Block q is a node whose children are the names xs. -/
def Node (w : World) (q : Nat) (xs : List ByteArray) : Prop :=
  (w.cell? ⟨q, 10, none⟩ = some (.map none) ∧ xs = []) ∨
  ∃ b D, w.cell? ⟨q, 10, none⟩ = some (.map (some b)) ∧ w.ownsMap Try.prog 9 (unitElem (H := Unit)) b xs.length D ∧ Set D xs

theorem run_makeMap_hint (n : Int) (w : World) : (Instr.makeMap 33 (some (.int .i64 n))).run Try.prog w = .ok (.map (some w.heap.size)) (w.alloc (.map #[] 0)) := by
  simp [Instr.makeMap, run_underlying Try.underlying33, asInt, asIntOf, newObj]
  rfl

set_option maxHeartbeats 400000 in
theorem node_any (v : Value) (xs : List ByteArray) (w : World) (hv : RS w v xs) (hx : xs.length ≤ 4194304) (hs : ∀ s ∈ xs, s.size ≤ 1048576) :
    Calls Try.prog 8 #[v] w fun e w' => e = .returned (.pointer (some ⟨w.heap.size, 0, none⟩)) ∧ Node w' w.heap.size xs ∧ Below w.heap.size w w' := by
  have hv' := hv
  obtain ⟨ad, cap, rfl, hc⟩ := hv
  cases ad with
  | none =>
    have h0 := hv'.nil_of
    subst h0
    have hnil := fun w => run_neq_slice_nil_any (P := Try.prog) w 22 9 none 0 cap 0 0 Try.underlying22
    go_enter Try.func8, Try.ntmps8
    go_wp2
    go_ret
    exact ⟨rfl, .inl ⟨by simp, rfl⟩, (Below.refl _ _).alloc (Nat.le_refl _) _⟩
  | some ad =>
    obtain ⟨n, hn⟩ : ∃ n, n = xs.length := ⟨_, rfl⟩
    have HN : Hid (n = xs.length) := hn
    have HSM := hideH hs
    have hnil := fun w => run_neq_slice_nil_any (P := Try.prog) w 22 9 (some ad) n cap 0 0 Try.underlying22
    rw [← hn] at hx ⊢
    clear hn hs hv'
    have hmm := run_makeMap_hint
    go_enter Try.func8, Try.ntmps8
    go_wp2_with fail
    go_loopw [18] (fun i wr => ∃ (k : Nat) (D : DataW Unit), k ≤ n ∧ i = .int .i64 k ∧ wr.ownsMap Try.prog 9 (unitElem (H := Unit)) (w.heap.size + 1) k D ∧ Hid (Set D (xs.take k)) ∧ wr.cell? ⟨w.heap.size, 10, none⟩ = some (.map (some (w.heap.size + 1))) ∧ Below w.heap.size w wr) (fun i _ => n - (intOf i).toNat)
    case atStart =>
      refine ⟨0, .map [], Nat.zero_le _, rfl, ?_, set_nil, by simp, ((Below.refl _ _).alloc (Nat.le_refl _) _).alloc (by simp) _⟩
      have h1 := World.ownsMap_made (H := Unit) (w.alloc (.cells #[.slice none 0 0, .slice none 0 0, .int .i64 0, .int .i64 0, .int .i64 0, .int .i64 0, .int .i64 0, .int .i32 0, .int .i64 0, .int .i64 0, .map (some (w.heap.size + 1))] 35)) Try.prog 9 (unitElem (H := Unit))
      simpa using h1
    case round =>
      obtain ⟨k, D, hk, rfl, hown, HSt, hcq, hbel⟩ := hrel
      by_cases hlt : k < n
      · obtain ⟨s, hcx⟩ : ∃ c, xs[k]? = some c := ⟨_, List.getElem?_eq_getElem (by rw [← HN.out]; exact hlt)⟩
        obtain ⟨b1, o1, e1, h1⟩ := hc k s hcx
        cases e1
        have hb1 : b1 < w.heap.size := World.block_lt_of_cell? w _ h1
        have h1' : wr.cell? ⟨b1, o1 + k, none⟩ = some (.string s) := (hbel.cell (p := ⟨b1, o1 + k, none⟩) hb1).trans h1
        have hsz : s.size ≤ maxLen := by have := HSM.out s (List.mem_of_getElem? hcx); unfold maxLen; omega
        have HK := hideH (Go.WideMaps.keyOf_string_mk (P := Try.prog) Try.underlying9 hsz)
        have HTK : Hid (xs.take (k + 1) = xs.take k ++ [s]) := by
          obtain ⟨hk', e⟩ := List.getElem?_eq_some_iff.1 hcx
          show _ = _
          rw [List.take_succ_eq_append_getElem hk', e]
        have HM := hideH hown.isMap
        have HO := hideH hown
        have HB := hideH hbel
        clear hcx hc h1 hsz hown hbel
        go_wp2_with (at_mapUpdate; refine wpList_mapUpdate_own _ rfl _ _ _ 33 rfl 9 36 law9 Try.underlying33 _ (w.heap.size + 1) k _ rfl HO.out (by unfold maxLen; omega) _ _ _ rfl rfl HK.out _ [] unitElem_mk ?_; intro w1 hown1 hgrow1; have HO1 := hideH hown1; have HG1 := hideH hgrow1; clear hown1 hgrow1)
        go_roundw
        case rel =>
          refine ⟨k + 1, _, by omega, by go_num, HO1.out, ?_, HG1.out.cell hcq (by simp), HB.out.grown HG1.out HB.out.size (fun j hj => by cases hj; omega)⟩
          show Set _ _
          rw [HTK.out]
          exact set_put HSt.out HM.out s _
        case measure => simp [intOf]; omega
      · go_wp2
        go_ret
        have hkn : k = n := by omega
        subst hkn
        refine ⟨rfl, .inr ⟨_, D, hcq, ?_, ?_⟩, hbel⟩
        · rw [← HN.out]; exact hown
        · have := HSt.out
          rw [List.take_of_length_le (by rw [← HN.out]; exact Nat.le_refl _)] at this
          exact this

end Go.Proofs.Qxb6600808a
