/-
  THE WALKS over zzAppendString (9), zzEqual (12), zzHasPrefix (14), zzCloneBytes (7), zzCloneRoom (11). By an AI agent.
-/
import Derived.Test.Qxb6601522aBase
import Derived.Deep.QuietTactic
import Derived.BigQuiet
import Derived.WalkLawsBesides
namespace Go.Proofs.Qxb6601522a
open Go.RowKit

theorem info5 : (Try.prog.info? 5).map (fun i => (i.zero, i.size, i.bytes)) = some (some (.int .u8 0), 1, 1) := by kernel_rfl

theorem srcStr (s : ByteArray) (w : World) : Src Try.prog 1 9 (.string s) s.data.toList.length (s.data.toList.map bv) w := by
  have h := Src.ofString (P := Try.prog) (tx := 9) w Try.underlying9 s
  have e : s.data.toList.length = s.size := Array.length_toList
  rw [e]
  exact h

theorem srcOne (c : UInt8) (w : World) : Src Try.prog 1 22 (.slice (some ⟨w.heap.size, 0, none⟩) 1 1) [c].length ([c].map bv) (w.alloc (.cells #[.int .u8 c.toNat] 5)) := by
  refine Src.ofSlice (P := Try.prog) _ Try.underlying22 ⟨w.heap.size, 0, none⟩ 1 1 _ rfl (cell_one_new w (bv c) 5) ?_
  intro u hu
  simp at hu
  subst hu
  rfl

/-- append onto bytes of our own, in the walk. -/
theorem wpList_app {w : World} {ops : Array Oper} {rest : List Oper} {o : Oper} {a : Act} {Q : Exit → Act → World → Prop} (hgd : o.guard = none) (s x : Operand) (tx : TypeId)
    (ho : o.op = .call { callee := .builtin .append, args := #[s, x], argTypes := #[22, tx] })
    (v : Value) (xs : List UInt8) (hv : a.eval s = v) (hown : Own w v xs) (xv : Value) (news : List UInt8) (hx : a.eval x = xv) (hs : Src Try.prog 1 tx xv news.length (news.map bv) w)
    (hl : xs.length + news.length ≤ 70368744177664)
    (h : ∀ v' w', Own w' v' (xs ++ news) → App 1 w v w' v' → wpList Try.prog ops Q rest (a.put o.dst v') w') : wpList Try.prog ops Q (o :: rest) a w := by
  obtain ⟨i, hi, hz0, hz1, hz2⟩ := info_parts info5
  refine wpList_append_app w hgd s x 22 tx ho 5 i (.int .u8 0) Try.underlying22 hi hz0 (by rw [hz1]; rfl) v xs.length (xs.map bv) hv (by rw [hz1]; exact hown) xv news.length (news.map bv) hx (by rw [hz1]; exact hs) (by unfold maxLen; omega) (by rw [hz2]; omega) ?_
  intro v' w' h1 h2
  rw [hz1] at h1 h2
  refine h v' w' ?_ h2
  unfold Own
  rw [List.length_append, List.map_append]
  exact h1

/-- append of one byte: the byte lies in a block of its own. -/
theorem wpList_app1 {w : World} {ops : Array Oper} {rest : List Oper} {o : Oper} {a : Act} {Q : Exit → Act → World → Prop} (hgd : o.guard = none) (s x : Operand)
    (ho : o.op = .call { callee := .builtin .append, args := #[s, x], argTypes := #[22, 22] })
    (v : Value) (xs : List UInt8) (hv : a.eval s = v) (hown : Own w v xs) (c : UInt8) (hx : a.eval x = .slice (some ⟨w.heap.size, 0, none⟩) 1 1)
    (hl : xs.length + 1 ≤ 70368744177664)
    (h : ∀ v' w', Own w' v' (xs ++ [c]) → App 1 w v w' v' → wpList Try.prog ops Q rest (a.put o.dst v') w') : wpList Try.prog ops Q (o :: rest) a (w.alloc (.cells #[.int .u8 c.toNat] 5)) := by
  refine wpList_app hgd s x 22 ho v xs hv (hown.alloc _) _ [c] hx (srcOne c w) hl ?_
  intro v' w' h1 h2
  exact h v' w' h1 (((App.refl hown.inb).alloc _).trans h2)

theorem hideH {p : Prop} (h : p) : Hid p := h

theorem take_snoc (s : ByteArray) (k : Nat) (h : k < s.size) : s.data.toList.take (k + 1) = s.data.toList.take k ++ [s[k]] := by
  rw [List.take_succ_eq_append_getElem (by simpa using h)]; rfl

set_option maxHeartbeats 400000 in
theorem appendString_any (s : ByteArray) (v : Value) (xs : List UInt8) (w : World) (hown : Own w v xs) (hs : s.size ≤ 1099511627776) (hx : xs.length ≤ 1099511627776) :
    Calls Try.prog 9 #[v, .string s] w fun e w' => ∃ v', e = .returned v' ∧ Own w' v' (xs ++ s.data.toList) ∧ App 1 w v w' v' := by
  go_enter Try.func9, Try.ntmps9
  go_wp2_with fail
  go_loopw [0, 5] (fun u i wr => ∃ k : Nat, k ≤ s.size ∧ i = .int .i64 k ∧ Own wr u (xs ++ s.data.toList.take k) ∧ App 1 w v wr u) (fun _ i _ => s.size - (intOf i).toNat)
  case atStart => exact ⟨0, Nat.zero_le _, rfl, by simpa using hown, App.refl hown.inb⟩
  case round =>
    obtain ⟨k, hk, rfl, ho, ha⟩ := hrel
    by_cases hlt : k < s.size
    · have HT : Hid (s.data.toList.take (k + 1) = s.data.toList.take k ++ [s[k]]) := take_snoc s k hlt
      have hl : (xs ++ s.data.toList.take k).length + 1 ≤ 70368744177664 := by
        rw [List.length_append, List.length_take]; omega
      have HL : Hid ((xs ++ s.data.toList.take k).length + 1 ≤ 70368744177664) := hl
      clear hl
      go_wp2_with (at_builtin; refine wpList_app1 rfl (.tmp 12) (.tmp 16) rfl _ _ rfl ho s[k] rfl HL.out ?_; intro v2 w2 ho2 ha2)
      go_roundw
      case rel => exact ⟨k + 1, by omega, by go_num, by rw [HT.out, ← List.append_assoc]; exact ho2, ha.trans ha2⟩
      case measure => simp [intOf]; omega
    · go_wp2
      go_ret
      refine ⟨_, rfl, ?_, ha⟩
      rw [List.take_of_length_le (by simp; omega)] at ho
      exact ho

set_option maxHeartbeats 400000 in
/-- zzEqual on two slices that read alike: true. -/
theorem equal_same (a b : Value) (xs : List UInt8) (w : World) (ha : RB w a xs) (hb : RB w b xs) (hx : xs.length ≤ 1099511627776) :
    Calls Try.prog 12 #[a, b] w fun e w' => e = .returned (.bool true) ∧ ∃ n, w' = w.drewN n := by
  obtain ⟨ad, ca, rfl, hca⟩ := ha
  obtain ⟨bd, cb, rfl, hcb⟩ := hb
  obtain ⟨n, hn⟩ : ∃ n, n = xs.length := ⟨_, rfl⟩
  have HN : Hid (n = xs.length) := hn
  rw [← hn] at hx ⊢
  clear hn
  go_enter Try.func12, Try.ntmps12
  go_wp2
  go_loopw [5] (fun i wr => ∃ k q : Nat, k ≤ n ∧ i = .int .i64 k ∧ wr = w.drewN q) (fun i _ => n - (intOf i).toNat)
  case atStart => exact ⟨0, 0, Nat.zero_le _, rfl, rfl⟩
  case round =>
    obtain ⟨k, q, hk, rfl, rfl⟩ := hrel
    by_cases hlt : k < n
    · obtain ⟨c, hc⟩ : ∃ c, xs[k]? = some c := ⟨_, List.getElem?_eq_getElem (by rw [← HN.out]; exact hlt)⟩
      obtain ⟨b1, o1, rfl, h1⟩ := hca k c hc
      obtain ⟨b2, o2, rfl, h2⟩ := hcb k c hc
      clear hca hcb hc
      have hlt' : (k : Int) < (n : Int) := by omega
      go_wp2_with fail
      go_quiet (fail)
      go_wp2
      go_roundw
      case rel => exact ⟨k + 1, _, by omega, by go_num, rfl⟩
      case measure => simp [intOf]; omega
    · go_wp2
      go_ret
      exact ⟨rfl, _, rfl⟩
set_option maxHeartbeats 400000 in
/-- zzHasPrefix: p reads as the head of what s reads as: true. -/
theorem hasPrefix_same (a b : Value) (xs ys : List UInt8) (w : World) (ha : RB w a (xs ++ ys)) (hb : RB w b xs) (hx : xs.length + ys.length ≤ 1099511627776) :
    Calls Try.prog 14 #[a, b] w fun e w' => e = .returned (.bool true) ∧ ∃ n, w' = w.drewN n := by
  obtain ⟨ad, ca, rfl, hca⟩ := ha
  obtain ⟨bd, cb, rfl, hcb⟩ := hb
  rw [List.length_append]
  obtain ⟨n, hn⟩ : ∃ n, n = xs.length := ⟨_, rfl⟩
  obtain ⟨m, hm⟩ : ∃ m, m = ys.length := ⟨_, rfl⟩
  have HN : Hid (n = xs.length) := hn
  rw [← hn, ← hm] at hx ⊢
  clear hn hm
  go_enter Try.func14, Try.ntmps14
  go_wp2
  go_loopw [5] (fun i wr => ∃ k q : Nat, k ≤ n ∧ i = .int .i64 k ∧ wr = w.drewN q) (fun i _ => n - (intOf i).toNat)
  case atStart => exact ⟨0, 0, Nat.zero_le _, rfl, rfl⟩
  case round =>
    obtain ⟨k, q, hk, rfl, rfl⟩ := hrel
    by_cases hlt : k < n
    · obtain ⟨c, hc⟩ : ∃ c, xs[k]? = some c := ⟨_, List.getElem?_eq_getElem (by rw [← HN.out]; exact hlt)⟩
      obtain ⟨b1, o1, rfl, h1⟩ := hca k c (by rw [List.getElem?_append_left (by rw [← HN.out]; exact hlt)]; exact hc)
      obtain ⟨b2, o2, rfl, h2⟩ := hcb k c hc
      clear hca hcb hc
      have hlt' : (k : Int) < (n : Int) := by omega
      have hlt2 : (k : Int) < (n : Int) + (m : Int) := by omega
      go_wp2_with fail
      go_quiet (fail)
      go_wp2
      go_roundw
      case rel => exact ⟨k + 1, _, by omega, by go_num, rfl⟩
      case measure => simp [intOf]; omega
    · go_wp2
      go_ret
      exact ⟨rfl, _, rfl⟩

/-- make([]T, n, c), in the walk: a new row; of what it holds nothing is said. -/
theorem wpList_make_row {P : Program} {w : World} {ops : Array Oper} {rest : List Oper} {o : Oper} {a : Act} {Q : Exit → Act → World → Prop}
    (hgd : o.guard = none) (l c : Operand) (t : TypeId) (hop : o.op = Op.makeSlice t l c)
    (e : TypeId) (i : TypeInfo) (z : Value) (size : Nat) (ht : P.underlying t = some (.slice e)) (hi : P.info? e = some i) (hz : i.zero = some z) (hsz : i.size = size)
    (L C : Int) (n m : Nat) (hl : a.eval l = .int .i64 L) (hc : a.eval c = .int .i64 C) (hL : L = (n : Int)) (hC : C = (m : Int)) (hnm : n ≤ m) (hb : i.bytes * m ≤ 281474976710656) (h63 : m ≤ maxLen)
    (h : ∀ w' zs, w'.ownsRow 0 e size (.slice (some ⟨w.heap.size, 0, none⟩) n m) n zs → Below w.heap.size w w' → w'.heap.size = w.heap.size + 1 → wpList P ops Q rest (a.put o.dst (.slice (some ⟨w.heap.size, 0, none⟩) n m)) w') :
    wpList P ops Q (o :: rest) a w := by
  refine wpList_plain hgd fun K hK => ?_
  subst hL hC hsz
  have hb' : (i.bytes : Int) * (m : Int) ≤ 281474976710656 := by
    have h : ((i.bytes * m : Nat) : Int) ≤ 281474976710656 := by omega
    rwa [Int.natCast_mul] at h
  have h63' : (m : Int) ≤ 9223372036854775807 := by
    simp only [maxLen] at h63; omega
  have hr := run_make (P := P) w t e i z ht hi hz .i64 .i64 n m (by omega) (by omega) hb' h63'
  simp only [Int.toNat_natCast] at hr
  unfold Oper.wp
  simp [execOp, hop, hl, hc, hr, Result.andThen]
  refine hK _ _ (h _ ((madeCells z.cells (m * i.size)).toList.take (n * i.size)) ⟨?_, .inr ⟨w.heap.size, m, _, rfl, Nat.zero_le _, heap_alloc_new w _, hnm, h63, size_madeCells _ _, rfl⟩⟩ ((Below.refl _ _).alloc (Nat.le_refl _) _) (by simp))
  rw [List.length_take, Array.length_toList, size_madeCells]
  exact Nat.min_eq_left (Nat.mul_le_mul_right _ hnm)

/-- Of the cells zs the first k are those of xs. -/
def Filled (zs : List Value) (xs : List UInt8) (k : Nat) : Prop := ∀ j c, j < k → xs[j]? = some c → zs[j]? = some (bv c)

theorem Filled.step {zs : List Value} {xs : List UInt8} {k : Nat} (h : Filled zs xs k) (hk : k < zs.length) {c : UInt8} (hc : xs[k]? = some c) : Filled (zs.set k (bv c)) xs (k + 1) := by
  intro j c' hj hc'
  by_cases e : j = k
  · subst e
    rw [hc] at hc'
    cases hc'
    simp [hk]
  · rw [List.getElem?_set_ne (by omega)]
    exact h j c' (by omega) hc'

theorem Filled.done {zs : List Value} {xs : List UInt8} (h : Filled zs xs xs.length) (hl : zs.length = xs.length) : zs = xs.map bv := by
  apply List.ext_getElem?
  intro j
  rw [List.getElem?_map]
  cases hx : xs[j]? with
  | some c => exact h j c (List.getElem?_eq_some_iff.1 hx).1 hx
  | none =>
    rw [List.getElem?_eq_none_iff] at hx
    simp; omega

/-- A row of ours is stored into. -/
theorem row_stored {w0 w : World} {g n m e size : Nat} {zs : List Value} (h : w.ownsRow 0 e size (.slice (some ⟨g, 0, none⟩) n m) n zs) (hb : Below g w0 w) (j : Nat) (u : Value) :
    (w.setCell ⟨g, j, none⟩ u).ownsRow 0 e size (.slice (some ⟨g, 0, none⟩) n m) n (zs.set j u) ∧ Below g w0 (w.setCell ⟨g, j, none⟩ u) :=
  ⟨(h.stored j u).1, hb.setCell (Nat.le_refl _) u⟩

theorem eql_some (t e : TypeId) (h : Try.prog.underlying t = some (.slice e)) (ad : Addr) (n cap : Nat) (w : World) : (binOp .eql t (.slice (some ad) n cap) (.slice none 0 0)).run Try.prog w = .ok (.bool false) w := Lib.run_eql_slice_nil w t e (some ad) n cap 0 0 h
theorem eql_none (t e : TypeId) (h : Try.prog.underlying t = some (.slice e)) (n cap : Nat) (w : World) : (binOp .eql t (.slice none n cap) (.slice none 0 0)).run Try.prog w = .ok (.bool true) w := Lib.run_eql_slice_nil w t e none n cap 0 0 h

set_option maxHeartbeats 400000 in
theorem cloneBytes_some (ad : Addr) (cap : Nat) (xs : List UInt8) (w : World) (hb : RB w (.slice (some ad) xs.length cap) xs) (hx : xs.length ≤ 1099511627776) :
    Calls Try.prog 7 #[.slice (some ad) xs.length cap] w fun e w' => ∃ v, e = .returned v ∧ Own w' v xs ∧ Loc v w.heap.size w'.heap.size ∧ Below w.heap.size w w' := by
  obtain ⟨n, hn⟩ : ∃ n, n = xs.length := ⟨_, rfl⟩
  have HN : Hid (n = xs.length) := hn
  obtain ⟨i0, hi, hz0, hz1, hz2⟩ := info_parts info5
  have hnil := eql_some 22 5 Try.underlying22 ad n cap
  obtain ⟨ad', cap', e, hc⟩ := hb
  cases e
  rw [← hn] at hx ⊢
  clear hn
  go_enter Try.func7, Try.ntmps7
  go_wp2_with (at_make; refine wpList_make_row rfl (.tmp 8) (.tmp 8) 22 rfl 5 i0 (.int .u8 0) 1 Try.underlying22 hi hz0 hz1 _ _ n n rfl rfl rfl rfl (Nat.le_refl _) (by rw [hz2]; omega) (by unfold maxLen; omega) ?_; intro w1 zs hown hbel hsz; clear hi hz0 hz1 hz2)
  go_loopw [4] (fun i wr => ∃ (k : Nat) (zs : List Value), k ≤ n ∧ i = .int .i64 k ∧ wr.ownsRow 0 5 1 (.slice (some ⟨w.heap.size, 0, none⟩) n n) n zs ∧ Filled zs xs k ∧ Below w.heap.size w wr) (fun i _ => n - (intOf i).toNat)
  case atStart => exact ⟨0, zs, Nat.zero_le _, rfl, hown, fun j c hj => by omega, hbel⟩
  case round =>
    clear hown hbel hsz
    obtain ⟨k, zs, hk, rfl, hown, hfl, hbel⟩ := hrel
    by_cases hlt : k < n
    · obtain ⟨c, hcx⟩ : ∃ c, xs[k]? = some c := ⟨_, List.getElem?_eq_getElem (by rw [← HN.out]; exact hlt)⟩
      obtain ⟨b1, o1, e1, h1⟩ := hc k c hcx
      cases e1
      have hb1 : b1 < w.heap.size := World.block_lt_of_cell? w _ h1
      have h1' : wr.cell? ⟨b1, o1 + k, none⟩ = some (.int .u8 c.toNat) := (hbel.cell (p := ⟨b1, o1 + k, none⟩) hb1).trans h1
      have hzl : zs.length = n := by simpa using hown.1
      obtain ⟨z, hz⟩ : ∃ z, wr.cell? ⟨w.heap.size, k, none⟩ = some z := by
        rw [hown.cellAt k (by omega)]; exact ⟨_, List.getElem?_eq_getElem (by omega)⟩
      have hf := hown.frozenAt k
      have HR := hideH (row_stored hown hbel k (bv c))
      have HF := hideH (hfl.step (by omega) hcx)
      clear hown hbel hfl hc hcx h1 hzl
      go_wp2
      go_roundw
      case rel => exact ⟨k + 1, _, by omega, by go_num, HR.out.1, HF.out, HR.out.2⟩
      case measure => simp [intOf]; omega
    · go_wp2
      go_ret
      have hkn : k = n := by omega
      subst hkn
      have hz := Filled.done (by rw [← HN.out]; exact hfl) (by rw [← HN.out]; simpa using hown.1)
      subst hz
      refine ⟨_, rfl, ?_, ?_, hbel⟩
      · unfold Own; rw [← HN.out]; exact hown
      · intro b hb
        have := World.ownsRow.lt hown b hb
        simp [Value.ownBlock] at hb
        omega

theorem cloneBytes_any (b : Value) (xs : List UInt8) (w : World) (hb : RB w b xs) (hx : xs.length ≤ 1099511627776) :
    Calls Try.prog 7 #[b] w fun e w' => ∃ v, e = .returned v ∧ Own w' v xs ∧ Loc v w.heap.size w'.heap.size ∧ Below w.heap.size w w' := by
  have hb' := hb
  obtain ⟨ad, cap, rfl, hc⟩ := hb
  cases ad with
  | some ad => exact cloneBytes_some ad cap xs w hb' hx
  | none =>
    have h0 : xs = [] := by
      cases xs with
      | nil => rfl
      | cons c r =>
        obtain ⟨b, off, e, _⟩ := hc 0 c rfl
        cases e
    subst h0
    have hnil := eql_none 22 5 Try.underlying22 0 cap
    go_enter Try.func7, Try.ntmps7
    go_wp2
    go_ret
    exact ⟨_, rfl, World.ownsRow_nil _ _ _ _, fun k hk => by simp [Value.ownBlock] at hk, Below.refl _ _⟩

end Go.Proofs.Qxb6601522a
