/-
  WHAT A SLICE OF STRINGS READS AS ('RS'), where a slice's own block lies ('Loc'), a row of ours being filled; the walks over the two zzBytes (5, 10), zzCopyNames (6), zzIndex (9). By an AI agent.
-/
import Derived.Test.Qxb6600808aRows
import Derived.WalkKit
import Derived.WalkSpells
import Derived.WalkLawsBesides
import Derived.WalkSmall
import Derived.Deep.QuietTactic
import Derived.BigQuiet
namespace Go.Proofs.Qxb6600808a
open Go.RowKit

theorem hideH {p : Prop} (h : p) : Hid p := h
theorem ret_true {b : Bool} (h : b = true) : Ending.returned (.bool b) = .returned (.bool true) := by rw [h]

theorem info9 : (Try.prog.info? 9).map (fun i => (i.zero, i.size, i.bytes)) = some (some (.string ⟨#[]⟩), 1, 16) := by kernel_rfl

/-- v reads as the strings xs. -/
def RS (w : World) (v : Value) (xs : List ByteArray) : Prop :=
  ∃ ad cap, v = .slice ad xs.length cap ∧ ∀ i s, xs[i]? = some s → ∃ b off, ad = some ⟨b, off, none⟩ ∧ w.cell? ⟨b, off + i, none⟩ = some (.string s)

/-- v's own block, if it has one, lies from lo on and below hi. -/
def Loc (v : Value) (lo hi : Nat) : Prop := ∀ k, v.ownBlock = some k → lo ≤ k ∧ k < hi

section
variable {w w' : World} {v : Value}

theorem RS.kept {xs : List ByteArray} (h : RS w v xs) (hb : ∀ k, v.ownBlock = some k → k < w.heap.size → w'.heap[k]? = w.heap[k]?) : RS w' v xs := by
  obtain ⟨ad, cap, rfl, hc⟩ := h
  refine ⟨ad, cap, rfl, fun i c hi => ?_⟩
  obtain ⟨b, off, rfl, hcell⟩ := hc i c hi
  refine ⟨b, off, rfl, ?_⟩
  have hlt : b < w.heap.size := World.block_lt_of_cell? w ⟨b, off + i, none⟩ hcell
  rw [World.cell?_of_block (a := ⟨b, off + i, none⟩) (hb b (by simp [Value.ownBlock]) hlt)]
  exact hcell

theorem RS.below {xs : List ByteArray} (h : RS w v xs) (hb : Below w.heap.size w w') : RS w' v xs := h.kept fun k _ hk => hb.block k hk
theorem RS.belowB {xs : List ByteArray} {B lo : Nat} (h : RS w v xs) (hb : Below B w w') (hl : Loc v lo B) : RS w' v xs := h.kept fun k hk _ => hb.block k (hl k hk).2

theorem RS.item {ad : Option Addr} {n cap k : Nat} {xs : List ByteArray} {c : ByteArray} (h : RS w (.slice ad n cap) xs) (hc : xs[k]? = some c) :
    ∃ b off, ad = some ⟨b, off, none⟩ ∧ w.cell? ⟨b, off + k, none⟩ = some (.string c) := by
  obtain ⟨ad', cap', e, hcc⟩ := h
  cases e
  exact hcc k c hc

theorem RS.nil_of {n cap : Nat} {xs : List ByteArray} (h : RS w (.slice none n cap) xs) : xs = [] := by
  cases xs with
  | nil => rfl
  | cons c r =>
    obtain ⟨b, off, e, _⟩ := h.item (k := 0) rfl
    cases e

theorem rs_of_row {base : Nat} {xs : List ByteArray} (h : w.ownsRow base 9 1 v xs.length (xs.map Value.string)) : RS w v xs := by
  rcases h.2 with ⟨rfl, h0⟩ | ⟨g, cap, cur, rfl, _⟩
  · have : xs = [] := List.eq_nil_of_length_eq_zero h0
    subst this
    exact ⟨none, 0, rfl, fun i c hi => by simp at hi⟩
  · refine ⟨_, cap, rfl, fun i c hi => ⟨g, 0, rfl, ?_⟩⟩
    have hlt : i < xs.length := (List.getElem?_eq_some_iff.1 hi).1
    rw [Nat.zero_add, h.cellAt i (by omega), List.getElem?_map, hi]
    rfl
end

theorem eql_some (t e : TypeId) (h : Try.prog.underlying t = some (.slice e)) (ad : Addr) (n cap : Nat) (w : World) : (binOp .eql t (.slice (some ad) n cap) (.slice none 0 0)).run Try.prog w = .ok (.bool false) w := Lib.run_eql_slice_nil w t e (some ad) n cap 0 0 h
theorem eql_none (t e : TypeId) (h : Try.prog.underlying t = some (.slice e)) (n cap : Nat) (w : World) : (binOp .eql t (.slice none n cap) (.slice none 0 0)).run Try.prog w = .ok (.bool true) w := Lib.run_eql_slice_nil w t e none n cap 0 0 h

/-- make([]T, n, c), in the walk: a new row; of what it holds nothing is said. -/
theorem wpList_make_row {P : Program} {w : World} {ops : Array Oper} {rest : List Oper} {o : Oper} {a : Act} {Q : Exit → Act → World → Prop}
    (hgd : o.guard = none) (l c : Operand) (t : TypeId) (hop : o.op = Op.makeSlice t l c)
    (e : TypeId) (i : TypeInfo) (z : Value) (size : Nat) (ht : P.underlying t = some (.slice e)) (hi : P.info? e = some i) (hz : i.zero = some z) (hsz : i.size = size)
    (L C : Int) (n m : Nat) (hl : a.eval l = .int .i64 L) (hc : a.eval c = .int .i64 C) (hL : L = (n : Int)) (hC : C = (m : Int)) (hnm : n ≤ m) (hb : i.bytes * m ≤ 281474976710656) (h63 : m ≤ maxLen)
    (h : ∀ w' zs, w'.ownsRow w.heap.size e size (.slice (some ⟨w.heap.size, 0, none⟩) n m) n zs → Below w.heap.size w w' → w'.heap.size = w.heap.size + 1 → wpList P ops Q rest (a.put o.dst (.slice (some ⟨w.heap.size, 0, none⟩) n m)) w') :
    wpList P ops Q (o :: rest) a w := by
  refine wpList_plain hgd fun K hK => ?_
  subst hL hC hsz
  have hb' : (i.bytes : Int) * (m : Int) ≤ 281474976710656 := by
    have h : ((i.bytes * m : Nat) : Int) ≤ 281474976710656 := by omega
    rwa [Int.natCast_mul] at h
  have h63' : (m : Int) ≤ 9223372036854775807 := by
    simp only [maxLen] at h63; omega
  have hr := run_make (P := P) w t e i z ht hi hz .i64 .i64 n m (by omega) (by omega) hb' h63'
  simp only [Int.toNat_natCast] at hr
  unfold Oper.wp
  simp [execOp, hop, hl, hc, hr, Result.andThen]
  refine hK _ _ (h _ ((madeCells z.cells (m * i.size)).toList.take (n * i.size)) ⟨?_, .inr ⟨w.heap.size, m, _, rfl, Nat.le_refl _, heap_alloc_new w _, hnm, h63, size_madeCells _ _, rfl⟩⟩ ((Below.refl _ _).alloc (Nat.le_refl _) _) (by simp))
  rw [List.length_take, Array.length_toList, size_madeCells]
  exact Nat.min_eq_left (Nat.mul_le_mul_right _ hnm)

/-- Of the cells zs the first k are those of xs. -/
def Filled (zs : List Value) (xs : List ByteArray) (k : Nat) : Prop := ∀ j c, j < k → xs[j]? = some c → zs[j]? = some (.string c)

theorem Filled.step {zs : List Value} {xs : List ByteArray} {k : Nat} (h : Filled zs xs k) (hk : k < zs.length) {c : ByteArray} (hc : xs[k]? = some c) : Filled (zs.set k (.string c)) xs (k + 1) := by
  intro j c' hj hc'
  by_cases e : j = k
  · subst e
    rw [hc] at hc'
    cases hc'
    simp [hk]
  · rw [List.getElem?_set_ne (by omega)]
    exact h j c' (by omega) hc'

theorem Filled.done {zs : List Value} {xs : List ByteArray} (h : Filled zs xs xs.length) (hl : zs.length = xs.length) : zs = xs.map Value.string := by
  apply List.ext_getElem?
  intro j
  rw [List.getElem?_map]
  cases hx : xs[j]? with
  | some c => exact h j c (List.getElem?_eq_some_iff.1 hx).1 hx
  | none =>
    rw [List.getElem?_eq_none_iff] at hx
    simp; omega

/-- A row of ours is stored into. -/
theorem row_stored {w0 w : World} {base g n m e size : Nat} {zs : List Value} (h : w.ownsRow base e size (.slice (some ⟨g, 0, none⟩) n m) n zs) (hb : Below g w0 w) (j : Nat) (u : Value) :
    (w.setCell ⟨g, j, none⟩ u).ownsRow base e size (.slice (some ⟨g, 0, none⟩) n m) n (zs.set j u) ∧ Below g w0 (w.setCell ⟨g, j, none⟩ u) :=
  ⟨(h.stored j u).1, hb.setCell (Nat.le_refl _) u⟩

set_option maxHeartbeats 400000 in
theorem copyNames_some (ad : Addr) (cap : Nat) (xs : List ByteArray) (w : World) (hb : RS w (.slice (some ad) xs.length cap) xs) (hx : xs.length ≤ 1048576) :
    Calls Try.prog 6 #[.slice (some ad) xs.length cap] w fun e w' => ∃ v, e = .returned v ∧ RS w' v xs ∧ Loc v w.heap.size w'.heap.size ∧ Below w.heap.size w w' := by
  obtain ⟨n, hn⟩ : ∃ n, n = xs.length := ⟨_, rfl⟩
  have HN : Hid (n = xs.length) := hn
  obtain ⟨i0, hi, hz0, hz1, hz2⟩ := info_parts info9
  have hnil := eql_some 22 9 Try.underlying22 ad n cap
  obtain ⟨ad', cap', e, hc⟩ := hb
  cases e
  rw [← hn] at hx ⊢
  clear hn
  go_enter Try.func6, Try.ntmps6
  go_wp2_with (at_make; refine wpList_make_row rfl (.tmp 8) (.tmp 8) 22 rfl 9 i0 (.string ⟨#[]⟩) 1 Try.underlying22 hi hz0 hz1 _ _ n n rfl rfl rfl rfl (Nat.le_refl _) (by rw [hz2]; omega) (by unfold maxLen; omega) ?_; intro w1 zs hown hbel hsz; clear hi hz0 hz1 hz2)
  go_loopw [4] (fun i wr => ∃ (k : Nat) (zs : List Value), k ≤ n ∧ i = .int .i64 k ∧ wr.ownsRow w.heap.size 9 1 (.slice (some ⟨w.heap.size, 0, none⟩) n n) n zs ∧ Filled zs xs k ∧ Below w.heap.size w wr) (fun i _ => n - (intOf i).toNat)
  case atStart => exact ⟨0, zs, Nat.zero_le _, rfl, hown, fun j c hj => by omega, hbel⟩
  case round =>
    clear hown hbel hsz
    obtain ⟨k, zs, hk, rfl, hown, hfl, hbel⟩ := hrel
    by_cases hlt : k < n
    · obtain ⟨c, hcx⟩ : ∃ c, xs[k]? = some c := ⟨_, List.getElem?_eq_getElem (by rw [← HN.out]; exact hlt)⟩
      obtain ⟨b1, o1, e1, h1⟩ := hc k c hcx
      cases e1
      have hb1 : b1 < w.heap.size := World.block_lt_of_cell? w _ h1
      have h1' : wr.cell? ⟨b1, o1 + k, none⟩ = some (.string c) := (hbel.cell (p := ⟨b1, o1 + k, none⟩) hb1).trans h1
      have hzl : zs.length = n := by simpa using hown.1
      obtain ⟨z, hz⟩ : ∃ z, wr.cell? ⟨w.heap.size, k, none⟩ = some z := by
        rw [hown.cellAt k (by omega)]; exact ⟨_, List.getElem?_eq_getElem (by omega)⟩
      have hf := hown.frozenAt k
      have HR := hideH (row_stored hown hbel k (.string c))
      have HF := hideH (hfl.step (by omega) hcx)
      clear hown hbel hfl hc hcx h1 hzl
      go_wp2
      go_roundw
      case rel => exact ⟨k + 1, _, by omega, by go_num, HR.out.1, HF.out, HR.out.2⟩
      case measure => simp [intOf]; omega
    · go_wp2
      go_ret
      have hkn : k = n := by omega
      subst hkn
      have hz := Filled.done (by rw [← HN.out]; exact hfl) (by rw [← HN.out]; simpa using hown.1)
      subst hz
      refine ⟨_, rfl, rs_of_row (base := w.heap.size) (by rw [← HN.out]; exact hown), ?_, hbel⟩
      intro b hb
      exact World.ownsRow.lt hown b hb

theorem copyNames_any (b : Value) (xs : List ByteArray) (w : World) (hb : RS w b xs) (hx : xs.length ≤ 1048576) :
    Calls Try.prog 6 #[b] w fun e w' => ∃ v, e = .returned v ∧ RS w' v xs ∧ Loc v w.heap.size w'.heap.size ∧ Below w.heap.size w w' := by
  have hb' := hb
  obtain ⟨ad, cap, rfl, hc⟩ := hb
  cases ad with
  | some ad => exact copyNames_some ad cap xs w hb' hx
  | none =>
    have h0 := hb'.nil_of
    subst h0
    have hnil := eql_none 22 9 Try.underlying22 0 cap
    go_enter Try.func6, Try.ntmps6
    go_wp2
    go_ret
    exact ⟨_, rfl, ⟨none, 0, rfl, fun i p hi => by simp at hi⟩, fun k hk => by simp [Value.ownBlock] at hk, Below.refl _ _⟩

/-- The lengths of the first k names are at most 2^20 each. -/
def Small (xs : List ByteArray) (k : Nat) : Prop := ∀ j s, j < k → xs[j]? = some s → s.size ≤ 1048576
theorem Small.step {xs : List ByteArray} {k : Nat} (h : Small xs k) {s : ByteArray} (hp : xs[k]? = some s) (h1 : s.size ≤ 1048576) : Small xs (k + 1) := by
  intro j q hj hq
  by_cases e : j = k
  · subst e
    rw [hp] at hq
    cases hq
    exact h1
  · exact h j q (by omega) hq

/-- A bool comes back; where it is true, p holds; the world is as it was but for draws. -/
def Yes (p : Prop) (w : World) (e : Ending) (w' : World) : Prop := ∃ b, e = .returned (.bool b) ∧ (b = true → p) ∧ ∃ n, w' = w.drewN n
theorem Yes.no {p : Prop} {w : World} (n : Nat) : Yes p w (.returned (.bool false)) (w.drewN n) := ⟨false, rfl, (fun h => by cases h), n, rfl⟩
theorem Yes.no0 {p : Prop} {w : World} : Yes p w (.returned (.bool false)) w := ⟨false, rfl, (fun h => by cases h), 0, rfl⟩
theorem Yes.yes {p : Prop} {w : World} (n : Nat) (h : p) : Yes p w (.returned (.bool true)) (w.drewN n) := ⟨true, rfl, (fun _ => h), n, rfl⟩

set_option maxHeartbeats 400000 in
theorem bytesSet_any (v : Value) (xs : List ByteArray) (w : World) (hv : RS w v xs) :
    Calls Try.prog 5 #[v] w (Yes (xs.length ≤ 1048576 ∧ Small xs xs.length) w) := by
  obtain ⟨ad, cap, rfl, hc⟩ := hv
  obtain ⟨n, hnn⟩ : ∃ n, n = xs.length := ⟨_, rfl⟩
  have HN : Hid (n = xs.length) := hnn
  rw [← hnn]
  clear hnn
  go_enter Try.func5, Try.ntmps5
  go_wp2
  all_goals first
    | (go_ret; exact Yes.no0)
    | skip
  go_loopw [3, 4] (fun z i wr => ∃ (k q : Nat) (zz : Int), k ≤ n ∧ z = .int .i64 zz ∧ i = .int .i64 k ∧ Small xs k ∧ wr = w.drewN q) (fun _ i _ => n - (intOf i).toNat)
  case atStart => exact ⟨0, 0, _, Nat.zero_le _, rfl, rfl, fun j p hj => by omega, rfl⟩
  case round =>
    obtain ⟨k, q, zz, hk, rfl, rfl, hsm, rfl⟩ := hrel
    by_cases hlt : k < n
    · obtain ⟨s, hp⟩ : ∃ p, xs[k]? = some p := ⟨_, List.getElem?_eq_getElem (by rw [← HN.out]; exact hlt)⟩
      obtain ⟨b1, o1, rfl, h1⟩ := hc k _ hp
      have HS := hideH (fun a => hsm.step hp a)
      have hlt' : (k : Int) < (n : Int) := by omega
      clear hc hp hsm
      go_wp2
      all_goals first
        | (go_ret; exact Yes.no _)
        | (go_roundw
           case rel => exact ⟨k + 1, q, _, by omega, rfl, by go_num, HS.out (by omega), rfl⟩
           case measure => simp [intOf]; omega)
    · have e : k = n := by omega
      have hn20 : n ≤ 1048576 := by omega
      go_wp2
      go_ret
      exact Yes.yes _ ⟨hn20, by rw [← e]; exact hsm⟩

set_option maxHeartbeats 400000 in
theorem bytesOrd_any (v : Value) (xs : List ByteArray) (w : World) (hv : RS w v xs) :
    Calls Try.prog 10 #[v] w (Yes (xs.length ≤ 1048576 ∧ Small xs xs.length) w) := by
  obtain ⟨ad, cap, rfl, hc⟩ := hv
  obtain ⟨n, hnn⟩ : ∃ n, n = xs.length := ⟨_, rfl⟩
  have HN : Hid (n = xs.length) := hnn
  rw [← hnn]
  clear hnn
  go_enter Try.func10, Try.ntmps10
  go_wp2
  all_goals first
    | (go_ret; exact Yes.no0)
    | skip
  go_loopw [3, 4] (fun z i wr => ∃ (k q : Nat) (zz : Int), k ≤ n ∧ z = .int .i64 zz ∧ i = .int .i64 k ∧ Small xs k ∧ wr = w.drewN q) (fun _ i _ => n - (intOf i).toNat)
  case atStart => exact ⟨0, 0, _, Nat.zero_le _, rfl, rfl, fun j p hj => by omega, rfl⟩
  case round =>
    obtain ⟨k, q, zz, hk, rfl, rfl, hsm, rfl⟩ := hrel
    by_cases hlt : k < n
    · obtain ⟨s, hp⟩ : ∃ p, xs[k]? = some p := ⟨_, List.getElem?_eq_getElem (by rw [← HN.out]; exact hlt)⟩
      obtain ⟨b1, o1, rfl, h1⟩ := hc k _ hp
      have HS := hideH (fun a => hsm.step hp a)
      have hlt' : (k : Int) < (n : Int) := by omega
      clear hc hp hsm
      go_wp2
      all_goals first
        | (go_ret; exact Yes.no _)
        | (go_roundw
           case rel => exact ⟨k + 1, q, _, by omega, rfl, by go_num, HS.out (by omega), rfl⟩
           case measure => simp [intOf]; omega)
    · have e : k = n := by omega
      have hn20 : n ≤ 1048576 := by omega
      go_wp2
      go_ret
      exact Yes.yes _ ⟨hn20, by rw [← e]; exact hsm⟩

end Go.Proofs.Qxb6600808a
