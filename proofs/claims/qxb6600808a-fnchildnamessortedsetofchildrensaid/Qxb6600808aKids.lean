/-
  THE WALK over childNames (11) and its door (7): the children, sorted, each once. By an AI agent.
-/
import Derived.Test.Qxb6600808aNode
import Derived.Test.Qxb6600808aIndex
import Derived.Test.Qxb6600808aShelf
import Derived.Sort.OwnSorted
import Derived.OwnWalk
namespace Go.Proofs.Qxb6600808a
open Go.RowKit Go.Maps Go.Sort

def ba (x : List UInt8) : ByteArray := ⟨x.toArray⟩

theorem ba_toList (x : List UInt8) : (ba x).data.toList = x := by simp [ba]
theorem ba_inj {s t : ByteArray} (h : s.data.toList = t.data.toList) : s = t := by
  cases s; cases t
  simp at h
  rw [h]
theorem ba_data (s : ByteArray) : ba s.data.toList = s := ba_inj (ba_toList _)

/-- R: the names xs, each once, in strictly increasing order. -/
structure Kids (R xs : List ByteArray) : Prop where
  srt : Srt R
  mem : ∀ s, s ∈ R ↔ s ∈ xs
  len : R.length ≤ xs.length

theorem kids_sorted {D : DataW Unit} {xs : List ByteArray} {ss : List (List UInt8)} (hS : Set D xs) (hnd : ss.Nodup) (hm : ∀ x, x ∈ ss ↔ has D (.string x) = true) (hl : ss.length ≤ xs.length) :
    Kids ((ss.mergeSort fun x y => decide (x ≤ y)).map ba) xs := by
  have tr : ∀ a b c : List UInt8, leB a b = true → leB b c = true → leB a c = true := fun a b c h1 h2 => by simp only [leB, decide_eq_true_eq] at *; exact List.le_trans h1 h2
  have to : ∀ a b : List UInt8, (leB a b || leB b a) = true := fun a b => by simp only [leB, Bool.or_eq_true, decide_eq_true_eq]; exact List.le_total a b
  have hp := List.mergeSort_perm ss leB
  have hnd' : (ss.mergeSort leB).Nodup := hp.nodup_iff.2 hnd
  have hpw : (ss.mergeSort leB).Pairwise (fun a b => a < b) := by
    have h1 := List.pairwise_mergeSort tr to ss
    refine (h1.and hnd').imp ?_
    rintro a b ⟨h2, h3⟩
    simp only [leB, decide_eq_true_eq] at h2
    by_cases h4 : a < b
    · exact h4
    · exact absurd (List.le_antisymm h2 (List.not_lt.1 h4)) h3
  refine ⟨?_, ?_, ?_⟩
  · intro i j a b hi hj hij
    rw [List.getElem?_map] at hi hj
    obtain ⟨x, hx, rfl⟩ := Option.map_eq_some_iff.1 hi
    obtain ⟨y, hy, rfl⟩ := Option.map_eq_some_iff.1 hj
    rw [ba_toList, ba_toList]
    obtain ⟨h1, e1⟩ := List.getElem?_eq_some_iff.1 hx
    obtain ⟨h2, e2⟩ := List.getElem?_eq_some_iff.1 hy
    have := List.pairwise_iff_getElem.1 hpw i j h1 h2 hij
    rw [e1, e2] at this
    exact this
  · intro s
    rw [List.mem_map]
    constructor
    · rintro ⟨x, hx, rfl⟩
      obtain ⟨t, ht, e⟩ := (hS x).1 ((hm x).1 (hp.mem_iff.1 hx))
      rw [← e, ba_data]
      exact ht
    · intro h
      exact ⟨s.data.toList, hp.mem_iff.2 ((hm _).2 ((hS _).2 ⟨s, h, rfl⟩)), ba_data s⟩
  · rw [List.length_map, List.length_mergeSort]
    exact hl

theorem rs_of_enc {w : World} {base : Nat} {v : Value} {n : Nat} {ts : List (List UInt8)} (hn : n = ts.length) (h : w.ownsRow base 9 1 v n (ts.map encStr)) : RS w v (ts.map ba) := by
  refine rs_of_row (base := base) ?_
  rw [List.length_map, ← hn]
  have e : (ts.map ba).map Value.string = ts.map encStr := by
    rw [List.map_map]; rfl
  rw [e]
  exact h

set_option maxRecDepth 100000 in
set_option maxHeartbeats 1000000 in
theorem kids_map (q b : Nat) (D : DataW Unit) (xs : List ByteArray) (w : World) (hcq : w.cell? ⟨q, 10, none⟩ = some (.map (some b))) (hown : w.ownsMap Try.prog 9 (unitElem (H := Unit)) b xs.length D) (hS : Set D xs) (hx : xs.length ≤ 4194304) :
    Calls Try.prog 11 #[.pointer (some ⟨q, 0, none⟩)] w fun e w' => ∃ (g cap : Nat) (R : List ByteArray), e = .returned (.slice (some ⟨g, 0, none⟩) R.length cap) ∧ Kids R xs ∧ RS w' (.slice (some ⟨g, 0, none⟩) R.length cap) R ∧ Loc (.slice (some ⟨g, 0, none⟩) R.length cap) w.heap.size w'.heap.size ∧ Below w.heap.size w w' := by
  obtain ⟨i0, hi, hz0, hz1, hz2⟩ := info_parts info9
  have hbl := hown.lt
  have hsz := hown.size_le
  have HS := hideH hS
  obtain ⟨n, hn⟩ : ∃ n, n = xs.length := ⟨_, rfl⟩
  have HN := hideH hn
  rw [← hn] at hx hown hsz
  clear hn hS
  go_enter Try.func11, Try.ntmps11
  go_wp2_with (first
    | (at_len; refine wpList_len_own _ rfl _ 33 rfl 9 36 Try.underlying33 _ b n _ rfl hown ?_)
    | (at_make; refine wpList_make_own _ rfl _ _ 22 rfl w.heap.size 9 i0 (.string ⟨#[]⟩) 1 Try.underlying22 hi hz0 hz1 _ _ _ (Maps.size D) rfl rfl rfl (by rw [hz2]; omega) (by unfold maxLen; omega) (Nat.le_refl _) ?_; intro w1 hrow1 hg1; have hcq1 := hg1.cell hcq (by simp))
    | (at_range; refine wpList_range_own _ rfl _ 33 rfl 9 36 law9 Try.underlying33 _ b n _ rfl (hown.kept hg1 (by simp)) ?_; intro w0 hrg0 hg0 hs0))
  go_frame
  go_loopw [3] (fun v wr => ∃ (left : Lit → Bool) (cnt : Nat) (ss : List (List UInt8)), wr.ranges Try.prog 9 (unitElem (H := Unit)) b w1.heap.size n D left cnt ∧ ss.length + cnt ≤ Maps.size D ∧
      wr.ownsRow w.heap.size 9 1 v ss.length (ss.map encStr) ∧ v ≠ .slice none 0 0 ∧ Collected D left ss ∧ Below w.heap.size w wr)
    (fun _ wr => wr.rangeLeft b w1.heap.size)
  case atStart =>
    exact ⟨_, _, [], hrg0, by simp, hrow1.kept hg0 (Or.inr (by simp [Value.ownBlock])), by simp, Collected.start D,
      ((Below.refl _ _).grown hg1 (Nat.le_refl _) (fun j hj => by cases hj)).grown hg0 hg1.size (fun j hj => by cases hj)⟩
  case round =>
    obtain ⟨left, cnt, ss, hrg, hcs, hrow, hnn, hC, hnx⟩ := hrel
    go_wp2_with (at_next; refine wpList_next_ranges _ rfl _ rfl 9 law9 (unitElem (H := Unit)) encStr (fun _ : Unit => Value.agg #[]) (fun key kl hk => by obtain ⟨x, hx, _⟩ := Maps.keyOf_str Try.underlying9 hk; exact ⟨x, hx⟩) (fun v y hv => by obtain ⟨rfl, _⟩ := unitElem_inv hv; exact ⟨(), rfl⟩) b w1.heap.size n _ _ _ rfl hrg ?_ ?_)
    · -- NOTHING IS LEFT: the slice is sorted and handed back
      intro hc0 hl0
      rcases hrow.2 with ⟨hnil, _⟩ | ⟨g, cap, cur, rfl, hbase, hb, h1, h2, h3, h4⟩
      · exact absurd hnil hnn
      have hH : Holds encStr wr g 0 ss.toArray := holds_of_block hb (by simpa using h4)
      have hgl : g < wr.heap.size := (Array.getElem?_eq_some_iff.1 hb).1
      have hc := Try.slices_Sort_string g 0 cap ss wr hH hgl (by omega)
      have HM : Hid (∀ x, x ∈ ss ↔ has D (.string x) = true) := fun x => by rw [hC.2 x, hl0]; simp
      go_wp2_with (go_at_call 12; refine hc.mono ?_; rintro e w' ⟨rfl, nn, os, rfl⟩)
      go_ret
      have hK := kids_sorted HS.out hC.1 HM.out (by have := HN.out; omega)
      have hso := ownsRow_sorted (w := wr) (n := nn) (os := os) (ss := ss) (ts := ss.mergeSort fun x y => decide (x ≤ y)) (by simp) hbase hb h1 h2 h3
      have hll : ((ss.mergeSort fun x y => decide (x ≤ y)).map ba).length = ss.length := by simp
      refine ⟨g, cap, (ss.mergeSort fun x y => decide (x ≤ y)).map ba, by rw [hll]; rfl, hK, ?_, ?_, hnx.grown (grownBy_sorted _) hnx.size (fun j hj => by cases hj; exact hbase)⟩
      · rw [hll]
        exact rs_of_enc (by simp) hso
      · intro k hk
        rw [hll] at hk
        exact hso.lt k hk
    · -- AN ENTRY HAS COME: its key goes to the slice's end
      intro x kl yd yp w2 cnt2 hkey hlk hv hat hrg2 hlt hg2 hs2 hen
      obtain ⟨x', ex, rfl, _⟩ := Maps.keyOf_str Try.underlying9 hkey
      obtain rfl : x = x' := encStr_inj ex
      have hrow2 := hrow.kept hg2 (Or.inr (row_ne_iter hrow hrg).symm)
      clear hs2
      go_wp2_with (at_builtin; refine wpList_append_own _ rfl _ _ 22 rfl w.heap.size 9 i0 (.string ⟨#[]⟩) 1 16 Try.underlying22 hi hz0 hz1 hz2 rfl (by decide) _ _ _ rfl (hrow2.alloc _) ⟨w2.heap.size, 0, none⟩ 1 1 [encStr x] rfl rfl (cell_one_new _ _ _) (by simp [Value.oneCell', encStr]) (by unfold maxLen at *; omega) (by omega) (by have := hnx.size; have := hg2.size; simp; omega) ?_; intro v' w3 hown' hg3 hnil3; go_frame)
      have hrg3 := (hrg2.alloc (.cells #[encStr x] 9)).kept hg3 (row_ne_low hrow2 hbl) (row_ne_iter hrow2 hrg2)
      go_roundw
      case rel =>
        refine ⟨_, cnt2, ss ++ [x], hrg3, by simp; omega, by simpa using hown', fun hv' => by have := (hnil3.1 hv').2; omega, hC.step hlk hat, ?_⟩
        exact ((hnx.grown hg2 hnx.size (fun j hj => by cases hj; exact hg1.size)).alloc (by have := hnx.size; have := hg2.size; omega) _).grown hg3 (by have := hnx.size; have := hg2.size; simp; omega) (fun j hj => (hrow2.lt j hj).1)
      case measure => rw [hrg3.left_eq, hrg.left_eq]; exact hlt

set_option maxRecDepth 100000 in
set_option maxHeartbeats 400000 in
theorem kids_nil (q : Nat) (w : World) (hcq : w.cell? ⟨q, 10, none⟩ = some (.map none)) :
    Calls Try.prog 11 #[.pointer (some ⟨q, 0, none⟩)] w fun e w' => ∃ (g cap : Nat) (R : List ByteArray), e = .returned (.slice (some ⟨g, 0, none⟩) R.length cap) ∧ Kids R [] ∧ RS w' (.slice (some ⟨g, 0, none⟩) R.length cap) R ∧ Loc (.slice (some ⟨g, 0, none⟩) R.length cap) w.heap.size w'.heap.size ∧ Below w.heap.size w w' := by
  obtain ⟨i0, hi, hz0, hz1, hz2⟩ := info_parts info9
  go_enter Try.func11, Try.ntmps11
  go_wp2_with (at_make; refine wpList_make_own _ rfl _ _ 22 rfl w.heap.size 9 i0 (.string ⟨#[]⟩) 1 Try.underlying22 hi hz0 hz1 _ _ _ 0 rfl rfl rfl (by omega) (Nat.zero_le _) (Nat.le_refl _) ?_; intro w1 hrow1 hg1; have hcq1 := hg1.cell hcq (by simp); have hrg := run_range_nilMap (P := Try.prog) w1 33 9 36 Try.underlying33; have hnx : ∀ ty, (Instr.next (.pointer (some ⟨w1.heap.size, 0, none⟩)) false ty).run Try.prog (w1.alloc (.mapIter none 0 #[] 0)) = _ := fun ty => run_next_nilMap _ ty 0 0 #[])
  refine wp_loop_rounds 1 ?_
  rw [rounds_succ]
  have hrow2 := hrow1.alloc (.mapIter none 0 #[] 0)
  rcases hrow2.2 with ⟨hnil, _⟩ | ⟨g, cap, cur, hv, hbase, hb, h1, h2, h3, h4⟩
  · cases hnil
  cases hv
  have hH : Holds encStr (w1.alloc (.mapIter none 0 #[] 0)) w.heap.size 0 ([] : List (List UInt8)).toArray := fun j hj => absurd hj (by simp)
  have hc := Try.slices_Sort_string w.heap.size 0 0 [] _ hH (Array.getElem?_eq_some_iff.1 hb).1 (by decide)
  go_wp2_with (go_at_call 12; refine hc.mono ?_; rintro e w' ⟨rfl, nn, os, rfl⟩)
  go_ret
  have hso := ownsRow_sorted (w := w1.alloc (.mapIter none 0 #[] 0)) (n := nn) (os := os) (ss := []) (ts := []) rfl hbase hb h1 h2 h3
  refine ⟨w.heap.size, 0, [], rfl, ⟨fun i j a b h => by simp at h, fun s => Iff.rfl, Nat.le_refl _⟩, rs_of_row hso, fun k hk => hso.lt k hk, ?_⟩
  exact (((Below.refl _ _).grown hg1 (Nat.le_refl _) (fun j hj => by cases hj)).alloc hg1.size _).grown (grownBy_sorted _) (by have := hg1.size; simp; omega) (fun j hj => by cases hj; exact Nat.le_refl _)

theorem kids_any (q : Nat) (xs : List ByteArray) (w : World) (hn : Node w q xs) (hx : xs.length ≤ 4194304) :
    Calls Try.prog 11 #[.pointer (some ⟨q, 0, none⟩)] w fun e w' => ∃ (g cap : Nat) (R : List ByteArray), e = .returned (.slice (some ⟨g, 0, none⟩) R.length cap) ∧ Kids R xs ∧ RS w' (.slice (some ⟨g, 0, none⟩) R.length cap) R ∧ Loc (.slice (some ⟨g, 0, none⟩) R.length cap) w.heap.size w'.heap.size ∧ Below w.heap.size w w' := by
  rcases hn with ⟨hc, rfl⟩ | ⟨b, D, hc, ho, hS⟩
  · exact kids_nil q w hc
  · exact kids_map q b D xs w hc ho hS hx

theorem door_any (q : Nat) (xs : List ByteArray) (w : World) (hn : Node w q xs) (hx : xs.length ≤ 4194304) :
    Calls Try.prog 7 #[.pointer (some ⟨q, 0, none⟩)] w fun e w' => ∃ (g cap : Nat) (R : List ByteArray), e = .returned (.slice (some ⟨g, 0, none⟩) R.length cap) ∧ Kids R xs ∧ RS w' (.slice (some ⟨g, 0, none⟩) R.length cap) R ∧ Loc (.slice (some ⟨g, 0, none⟩) R.length cap) w.heap.size w'.heap.size ∧ Below w.heap.size w w' := by
  have HN := hideH hn
  clear hn
  go_enter Try.func7, Try.ntmps7
  go_wp2_with (go_at_call 11; refine (kids_any q xs _ HN.out hx).mono ?_; rintro e w' ⟨g, cap, R, rfl, h1, h2, h3, h4⟩)
  go_ret
  exact ⟨g, cap, R, rfl, h1, h2, h3, h4⟩

end Go.Proofs.Qxb6600808a
