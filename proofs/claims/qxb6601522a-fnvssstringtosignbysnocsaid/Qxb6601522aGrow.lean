/-
  THE WALKS over zzCloneRoom (11) and slices.Grow (17). By an AI agent.
-/
import Derived.Test.Qxb6601522aBytes
import Derived.Lib.Walk
import Derived.Lib.SliceRun
import Derived.Lib.AppendZerosOnto
namespace Go.Proofs.Qxb6601522a
open Go.RowKit

set_option maxHeartbeats 400000 in
theorem cloneRoom_make (ad : Option Addr) (cap : Nat) (xs : List UInt8) (room : Nat) (w : World) (hb : RB w (.slice ad xs.length cap) xs) (hx : xs.length ≤ 1099511627776) (hr : room ≤ 1099511627776) (hne : ad = none → ((room : Int) == 0) = false) :
    Calls Try.prog 11 #[.slice ad xs.length cap, .int .i64 room] w fun e w' => ∃ v, e = .returned v ∧ Own w' v xs ∧ Loc v w.heap.size w'.heap.size ∧ Below w.heap.size w w' := by
  obtain ⟨n, hn⟩ : ∃ n, n = xs.length := ⟨_, rfl⟩
  have HN : Hid (n = xs.length) := hn
  obtain ⟨i0, hi, hz0, hz1, hz2⟩ := info_parts info5
  obtain ⟨ad', cap', e, hc⟩ := hb
  cases e
  rw [← hn] at hx ⊢
  clear hn
  cases ad with
  | none =>
    have hr0 := hne rfl
    have h0 : xs = [] := by
      cases xs with
      | nil => rfl
      | cons c r =>
        obtain ⟨b, off, e, _⟩ := hc 0 c rfl
        cases e
    subst h0
    have hn0 : n = 0 := HN.out
    subst hn0
    have hnil := eql_none 22 5 Try.underlying22 0 cap
    go_enter Try.func11, Try.ntmps11
    go_wp2_with (at_make; refine wpList_make_row rfl (.tmp 14) (.tmp 18) 22 rfl 5 i0 (.int .u8 0) 1 Try.underlying22 hi hz0 hz1 _ _ 0 room rfl rfl rfl (by simp) (Nat.zero_le _) (by rw [hz2]; omega) (by unfold maxLen; omega) ?_; intro w1 zs hown hbel hsz; clear hi hz0 hz1 hz2)
    refine wp_loop_rounds 1 ?_
    rw [rounds_succ]
    go_wp2
    go_ret
    have hz := Filled.done (zs := zs) (xs := []) (fun j c hj => by simp at hj) (by simpa using hown.1)
    subst hz
    refine ⟨_, rfl, hown, ?_, hbel⟩
    intro b hb
    have := World.ownsRow.lt hown b hb
    simp [Value.ownBlock] at hb
    omega
  | some ad =>
    clear hne
    have hnil := eql_some 22 5 Try.underlying22 ad n cap
    go_enter Try.func11, Try.ntmps11
    go_wp2_with (at_make; refine wpList_make_row rfl (.tmp 14) (.tmp 18) 22 rfl 5 i0 (.int .u8 0) 1 Try.underlying22 hi hz0 hz1 _ _ n (n + room) rfl rfl rfl (by simp) (by omega) (by rw [hz2]; omega) (by unfold maxLen; omega) ?_; intro w1 zs hown hbel hsz; clear hi hz0 hz1 hz2)
    go_loopw [6] (fun i wr => ∃ (k : Nat) (zs : List Value), k ≤ n ∧ i = .int .i64 k ∧ wr.ownsRow 0 5 1 (.slice (some ⟨w.heap.size, 0, none⟩) n (n + room)) n zs ∧ Filled zs xs k ∧ Below w.heap.size w wr) (fun i _ => n - (intOf i).toNat)
    case atStart => exact ⟨0, zs, Nat.zero_le _, rfl, hown, fun j c hj => by omega, hbel⟩
    case round =>
      clear hown hbel hsz
      obtain ⟨k, zs, hk, rfl, hown, hfl, hbel⟩ := hrel
      by_cases hlt : k < n
      · obtain ⟨c, hcx⟩ : ∃ c, xs[k]? = some c := ⟨_, List.getElem?_eq_getElem (by rw [← HN.out]; exact hlt)⟩
        obtain ⟨b1, o1, e1, h1⟩ := hc k c hcx
        cases e1
        have hb1 : b1 < w.heap.size := World.block_lt_of_cell? w _ h1
        have h1' : wr.cell? ⟨b1, o1 + k, none⟩ = some (.int .u8 c.toNat) := (hbel.cell (p := ⟨b1, o1 + k, none⟩) hb1).trans h1
        have hzl : zs.length = n := by simpa using hown.1
        obtain ⟨z, hz⟩ : ∃ z, wr.cell? ⟨w.heap.size, k, none⟩ = some z := by
          rw [hown.cellAt k (by omega)]; exact ⟨_, List.getElem?_eq_getElem (by omega)⟩
        have hf := hown.frozenAt k
        have HR := hideH (row_stored hown hbel k (bv c))
        have HF := hideH (hfl.step (by omega) hcx)
        clear hown hbel hfl hc hcx h1 hzl
        go_wp2
        go_roundw
        case rel => exact ⟨k + 1, _, by omega, by go_num, HR.out.1, HF.out, HR.out.2⟩
        case measure => simp [intOf]; omega
      · go_wp2
        go_ret
        have hkn : k = n := by omega
        subst hkn
        have hz := Filled.done (by rw [← HN.out]; exact hfl) (by rw [← HN.out]; simpa using hown.1)
        subst hz
        refine ⟨_, rfl, ?_, ?_, hbel⟩
        · unfold Own; rw [← HN.out]; exact hown
        · intro b hb
          have := World.ownsRow.lt hown b hb
          simp [Value.ownBlock] at hb
          omega

theorem cloneRoom_any (b : Value) (xs : List UInt8) (room : Nat) (w : World) (hb : RB w b xs) (hx : xs.length ≤ 1099511627776) (hr : room ≤ 1099511627776) :
    Calls Try.prog 11 #[b, .int .i64 room] w fun e w' => ∃ v, e = .returned v ∧ Own w' v xs ∧ Loc v w.heap.size w'.heap.size ∧ Below w.heap.size w w' := by
  have hb' := hb
  obtain ⟨ad, cap, rfl, hc⟩ := hb
  by_cases h : ad = none ∧ room = 0
  · obtain ⟨rfl, rfl⟩ := h
    have h0 : xs = [] := by
      cases xs with
      | nil => rfl
      | cons c r =>
        obtain ⟨b, off, e, _⟩ := hc 0 c rfl
        cases e
    subst h0
    have hnil := eql_none 22 5 Try.underlying22 0 cap
    go_enter Try.func11, Try.ntmps11
    go_wp2
    go_ret
    exact ⟨_, rfl, World.ownsRow_nil _ _ _ _, fun k hk => by simp [Value.ownBlock] at hk, Below.refl _ _⟩
  · exact cloneRoom_make ad cap xs room w hb' hx hr (fun e => beq_eq_false_iff_ne.2 (fun h0 => h ⟨e, by omega⟩))

/-- The cells of the row that slices.Grow makes. -/
def growCells (cs : List Value) (c N G : Nat) : Array Value := cs.toArray ++ Builtin.zeroCells (Value.int .u8 0).cells (N - c) ++ Builtin.zeroCells (Value.int .u8 0).cells (G - N)

/-- The row that slices.Grow makes. -/
theorem grown_row {w : World} {v : Value} {xs : List UInt8} (hown : Own w v xs) (cs : List Value) (c G N : Nat) (hcl : cs.length = c) (hlc : xs.length ≤ c) (hcN : c ≤ N) (hNG : N ≤ G) (hG : G ≤ maxLen)
    (hcs : cs.take xs.length = xs.map bv) :
    Own (w.drew.alloc (.cells (growCells cs c N G) 5)) (.slice (some ⟨w.heap.size, 0, none⟩) xs.length G) xs ∧
    App 1 w v (w.drew.alloc (.cells (growCells cs c N G) 5)) (.slice (some ⟨w.heap.size, 0, none⟩) xs.length G) := by
  have hz1 : (Value.int IntKind.u8 0).cells.size = 1 := rfl
  have hl := hown.lenV
  constructor
  · refine ⟨by simp, .inr ⟨w.heap.size, G, _, rfl, Nat.zero_le _, heap_alloc_new w.drew _, by omega, hG, ?_, ?_⟩⟩
    · simp only [growCells, Array.size_append, List.size_toArray, size_zeroCells, hz1, hcl]
      omega
    · rw [growCells, Array.toList_append, Array.toList_append, List.append_assoc, Nat.mul_one, List.take_append_of_le_length (by simp; omega)]
      exact hcs
  · have e1 : ∀ (o : Obj) k, k < w.heap.size → (w.drew.alloc o).heap[k]? = w.heap[k]? := fun o k hk => Below.heap_alloc w.drew o k hk
    refine ⟨rfl, rfl, rfl, by simp, fun k hk _ => e1 _ k hk, fun k hk => .inr ?_, hown.inb, fun k hk => ?_, by rw [hl]; exact Nat.le_refl _, fun g hg j _ => World.cell?_of_block (a := ⟨g, j, none⟩) (e1 _ g (hown.inb g hg))⟩
    · simp [Value.ownBlock] at hk; omega
    · simp [Value.ownBlock] at hk; subst hk; simp

set_option maxHeartbeats 400000 in
theorem grow_room (ad : Option Addr) (l c n : Nat) (w : World) (hlc : l ≤ c) (hc63 : c ≤ 9223372036854775807) (hn63 : n ≤ 4398046511104) (hroom : l + n ≤ c) :
    Calls Try.prog 17 #[.slice ad l c, .int .i64 n] w fun e w' => e = .returned (.slice ad l c) ∧ w' = w := by
  have h4 : ¬ ((n : Int) - ((c : Int) - (l : Int)) > 0) := by omega
  go_enter Try.func17, Try.ntmps17
  go_wp2
  go_ret
  exact ⟨rfl, rfl⟩

set_option maxHeartbeats 1000000 in
theorem grow_grow (ad : Option Addr) (l c n : Nat) (cs : List Value) (w : World) (hlc : l ≤ c) (hroom : c < l + n) (hbig : l + n ≤ 70368744177664)
    (hcl : cs.length = c) (hnil : ad = none → c = 0) (hcs : ∀ a, ad = some a → ∀ j v, cs[j]? = some v → w.cell? (a.add j) = some v) :
    Calls Try.prog 17 #[.slice ad l c, .int .i64 n] w fun e w' => ∃ G, l + n ≤ G ∧ G ≤ maxLen ∧
      e = .returned (.slice (some ⟨w.heap.size, 0, none⟩) l G) ∧
      w' = w.drew.alloc (.cells (growCells cs c (l + n) G) 5) := by
  obtain ⟨i0, hi, hz0, hz1, hz2⟩ := info_parts info5
  have h4 : (n : Int) - ((c : Int) - (l : Int)) > 0 := by omega
  have hck : c + (l + n - c) = l + n := by omega
  have hold : (Builtin.firstCells i0.size c (.slice ad c c)).run Try.prog w.drew = .ok cs.toArray w.drew := by
    rw [hz1]
    cases ad with
    | none =>
      have h0 := hnil rfl
      subst h0
      have hc0 : cs = [] := List.length_eq_zero_iff.1 hcl
      rw [hc0]
      exact run_firstCells_none w.drew 1 0 0 0
    | some a => exact run_firstCells_some w.drew 1 c a c c cs (by rw [hcl, Nat.mul_one]) (fun j v hj => hcs a rfl j v hj)
  have hrz : ∀ ty, (Builtin.append_ #[22, 3] ty #[.slice ad c c, .int .i64 ((n : Int) - ((c : Int) - (l : Int)))]).run Try.prog w =
      .ok (.slice (some ⟨w.heap.size, 0, none⟩) (l + n) (grownCap w (l + n) c 5)) (w.drew.alloc (.cells (growCells cs c (l + n) (grownCap w (l + n) c 5)) 5)) := fun ty => by
    have h := Lib.run_append_grow_zeros w 22 3 ty 5 i0 (.int .u8 0) .i64 .i64 Try.underlying22 Try.underlying3 hi hz0 ad c c cs hold (l + n - c) (by omega) (by rw [hz1]; omega) (by omega) (by omega)
      (by rw [hz2]; omega) (by rw [hck]; exact growslice_fits hroom (by rw [hz2]; omega))
    rw [hck] at h
    rw [show (n : Int) - ((c : Int) - (l : Int)) = ((l + n - c : Nat) : Int) by omega]
    exact h
  have hGn : l + n ≤ grownCap w (l + n) c 5 := grownCap_ge w _ _ _
  have hG63 : grownCap w (l + n) c 5 ≤ maxLen := grownCap_le_maxLen w (l + n) c 5 (by unfold maxLen; omega)
  obtain ⟨G, hG⟩ : ∃ G, G = grownCap w (l + n) c 5 := ⟨_, rfl⟩
  rw [← hG] at hrz hGn hG63
  have hG' : G ≤ 9223372036854775807 := by unfold maxLen at hG63; exact hG63
  have HG : Hid (l + n ≤ G ∧ G ≤ maxLen) := ⟨hGn, hG63⟩
  clear hold hck hG hcs hcl hi hz0 hz1 hz2 hG63
  go_enter Try.func17, Try.ntmps17
  cases ad with
  | none =>
    have h0 := hnil rfl
    subst h0
    obtain rfl : l = 0 := by omega
    clear hnil
    go_wp2_with (at_builtin; refine Lib.wpList_append_run _ rfl _ _ _ _ rfl _ _ rfl rfl _ _ (hrz _) ?_)
    all_goals (go_ret; exact ⟨G, HG.out.1, HG.out.2, rfl, by simp only [Nat.zero_add]; rfl⟩)
  | some a =>
    clear hnil
    obtain ⟨ab, ao, asp⟩ := a
    go_wp2_with (at_builtin; refine Lib.wpList_append_run _ rfl _ _ _ _ rfl _ _ rfl rfl _ _ (hrz _) ?_)
    all_goals (go_ret; exact ⟨G, HG.out.1, HG.out.2, rfl, rfl⟩)

theorem grow_any (v : Value) (xs : List UInt8) (n : Nat) (w : World) (hown : Own w v xs) (hx : xs.length ≤ 4398046511104) (hn : n ≤ 4398046511104) :
    Calls Try.prog 17 #[v, .int .i64 n] w fun e w' => ∃ v', e = .returned v' ∧ Own w' v' xs ∧ App 1 w v w' v' := by
  have hown' := hown
  rcases hown.2 with ⟨rfl, h0⟩ | ⟨g, cap, cur, rfl, hbg, hg, hnc, hcm, hcs, htake⟩
  · have hx0 : xs = [] := List.eq_nil_of_length_eq_zero h0
    subst hx0
    by_cases hn0 : n = 0
    · subst hn0
      refine (grow_room none 0 0 0 w (by omega) (by omega) (by omega) (by omega)).mono ?_
      rintro e w' ⟨rfl, rfl⟩
      exact ⟨_, rfl, hown', App.refl hown'.inb⟩
    · refine (grow_grow none 0 0 n [] w (by omega) (by omega) (by omega) rfl (fun _ => rfl) (fun a ha => by cases ha)).mono ?_
      rintro e w' ⟨G, h1, h2, rfl, rfl⟩
      have := grown_row hown' [] 0 G (0 + n) rfl (Nat.le_refl _) (by omega) h1 h2 (by simp)
      exact ⟨_, rfl, this.1, this.2⟩
  · have hcs' : cur.size = cap := by simpa using hcs
    by_cases hroom : xs.length + n ≤ cap
    · refine (grow_room _ xs.length cap n w hnc (by simp only [maxLen] at hcm; omega) hn hroom).mono ?_
      rintro e w' ⟨rfl, rfl⟩
      exact ⟨_, rfl, hown', App.refl hown'.inb⟩
    · refine (grow_grow _ xs.length cap n cur.toList w hnc (by omega) (by omega) (by simpa using hcs') (fun h => by cases h) (fun a ha j u hj => ?_)).mono ?_
      · cases ha
        have hadd : (⟨g, 0, none⟩ : Addr).add j = ⟨g, j, none⟩ := by unfold Addr.add; split <;> simp_all
        rw [hadd, cell_of_row w g j cur 5 (0, 0) hg]
        simpa using hj
      · rintro e w' ⟨G, h1, h2, rfl, rfl⟩
        have := grown_row hown' cur.toList cap G (xs.length + n) (by simpa using hcs') hnc (by omega) h1 h2 (by simpa using htake)
        exact ⟨_, rfl, this.1, this.2⟩

end Go.Proofs.Qxb6601522a
