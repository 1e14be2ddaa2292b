/-
  OF NO WALK: what an append leaves ('App'), what a slice of the call's own holds ('Own'), what a slice reads as ('RB': bytes, 'RP': pairs of strings), and the append's law. By an AI agent.
-/
import Derived.Test.Qxb6601522aRows
import Derived.WalkKit
import Derived.WalkSpells
import Derived.WalkSmall
import Derived.Deep.AppendSrc
namespace Go.Proofs.Qxb6601522a
open Go.RowKit

def lenV : Value → Nat
  | .slice _ n _ => n
  | _ => 0

/-- What an append of v to v', and new blocks and draws beside it, leave: only v's own block may have turned, and of that one not what v holds; v' lies in v's block or in a new one. -/
structure App (size : Nat) (w : World) (v : Value) (w' : World) (v' : Value) : Prop where
  os : w'.os = w.os
  tape : w'.tape = w.tape
  output : w'.output = w.output
  grows : w.heap.size ≤ w'.heap.size
  block : ∀ k, k < w.heap.size → some k ≠ v.ownBlock → w'.heap[k]? = w.heap[k]?
  place : ∀ k, v'.ownBlock = some k → v.ownBlock = some k ∨ w.heap.size ≤ k
  inb : ∀ k, v.ownBlock = some k → k < w.heap.size
  inb' : ∀ k, v'.ownBlock = some k → k < w'.heap.size
  len : lenV v ≤ lenV v'
  old : ∀ g, v.ownBlock = some g → ∀ j, j < lenV v * size → w'.cell? ⟨g, j, none⟩ = w.cell? ⟨g, j, none⟩

section
variable {size : Nat} {w w' w'' : World} {v v' v'' : Value}

theorem App.refl (h : ∀ k, v.ownBlock = some k → k < w.heap.size) : App size w v w v :=
  ⟨rfl, rfl, rfl, Nat.le_refl _, fun _ _ _ => rfl, fun _ h => .inl h, h, h, Nat.le_refl _, fun _ _ _ _ => rfl⟩

theorem App.trans (h : App size w v w' v') (k : App size w' v' w'' v'') : App size w v w'' v'' := by
  have hne : ∀ b, b < w.heap.size → some b ≠ v.ownBlock → some b ≠ v'.ownBlock := fun b hb hn e => by
    rcases h.place b e.symm with h1 | h1
    · exact hn h1.symm
    · omega
  refine ⟨k.os.trans h.os, k.tape.trans h.tape, k.output.trans h.output, Nat.le_trans h.grows k.grows, fun b hb hn => ?_, fun b hb => ?_, h.inb, k.inb', Nat.le_trans h.len k.len, fun g hg j hj => ?_⟩
  · exact (k.block b (Nat.lt_of_lt_of_le hb h.grows) (hne b hb hn)).trans (h.block b hb hn)
  · rcases k.place b hb with h1 | h1
    · exact h.place b h1
    · exact .inr (Nat.le_trans h.grows h1)
  · refine Eq.trans ?_ (h.old g hg j hj)
    by_cases hv : v'.ownBlock = some g
    · exact k.old g hv j (Nat.lt_of_lt_of_le hj (Nat.mul_le_mul_right _ h.len))
    · exact World.cell?_of_block (a := ⟨g, j, none⟩) (k.block g (Nat.lt_of_lt_of_le (h.inb g hg) h.grows) (fun e => hv e.symm))

theorem App.alloc (h : App size w v w' v') (o : Obj) : App size w v (w'.alloc o) v' := by
  have e : ∀ k, k < w'.heap.size → (w'.alloc o).heap[k]? = w'.heap[k]? := fun k hk => Below.heap_alloc w' o k hk
  refine ⟨h.os, h.tape, h.output, by have := h.grows; simp; omega, fun k hk hn => (e k (Nat.lt_of_lt_of_le hk h.grows)).trans (h.block k hk hn), h.place, h.inb, fun k hk => by have := h.inb' k hk; simp; omega, h.len, fun g hg j hj => ?_⟩
  exact (World.cell?_of_block (a := ⟨g, j, none⟩) (e g (Nat.lt_of_lt_of_le (h.inb g hg) h.grows))).trans (h.old g hg j hj)

theorem App.drewN (h : App size w v w' v') (n : Nat) : App size w v (w'.drewN n) v' :=
  ⟨h.os, h.tape, h.output, h.grows, h.block, h.place, h.inb, h.inb', h.len, h.old⟩

theorem App.drew (h : App size w v w' v') : App size w v w'.drew v' :=
  ⟨h.os, h.tape, h.output, h.grows, h.block, h.place, h.inb, h.inb', h.len, h.old⟩

/-- A store into a block that was not there when it began, and in which v' does not lie. -/
theorem App.setCell (h : App size w v w' v') {p : Addr} (hp : w.heap.size ≤ p.block) (u : Value) : App size w v (w'.setCell p u) v' := by
  have e : ∀ k, k < w.heap.size → (w'.setCell p u).heap[k]? = w'.heap[k]? := fun k hk => Below.heap_setCell w' p u k (by omega)
  refine ⟨h.os, h.tape, h.output, by have := h.grows; simp [World.setCell]; omega, fun k hk hn => (e k hk).trans (h.block k hk hn), h.place, h.inb, fun k hk => by have := h.inb' k hk; simp [World.setCell]; omega, h.len, fun g hg j hj => ?_⟩
  exact (World.cell?_of_block (a := ⟨g, j, none⟩) (e g (h.inb g hg))).trans (h.old g hg j hj)

theorem App.below (h : App size w v w' v') {B : Nat} (hB : B ≤ w.heap.size) (hv : ∀ k, v.ownBlock = some k → B ≤ k) : Below B w w' :=
  ⟨h.os, h.tape, h.output, h.grows, fun k hk => h.block k (by omega) (fun e => by have := hv k e.symm; omega)⟩
end

section
variable {P : Program} (w : World)

/-- There is room: the source general (after run_append_room). -/
theorem run_append_room_row (t tx ty e : TypeId) (i : TypeInfo) (ht : P.underlying t = some (.slice e)) (hi : P.info? e = some i)
    (g sLen sCap : Nat) (cur : Array Value) (hg : w.heap[g]? = some (.cells cur e (0, 0))) (x : Value) (m : Nat) (news : List Value) (hs : Src P i.size tx x m news w)
    (hroom : sLen + m ≤ sCap) (hfit : sLen * i.size + news.length ≤ cur.size) :
    (Builtin.append_ #[t, tx] ty #[.slice (some ⟨g, 0, none⟩) sLen sCap, x]).run P w =
      .ok (.slice (some ⟨g, 0, none⟩) (sLen + m) sCap) (w.setRow g (cur.toList.take (sLen * i.size) ++ news ++ cur.toList.drop (sLen * i.size + news.length)).toArray) := by
  have hst := run_storeCells_at P g (sLen * i.size) e news 0 cur w hg (by simpa using hfit) hs.one
  simp only [Nat.add_zero] at hst
  rcases hs.kind with ⟨e', hk⟩ | hk <;> simp [Builtin.append_, run_underlying ht, run_underlying hk, sizeOf, typeInfo, hi, hs.len, hroom, hs.cells, Addr.add_lit, hst]

/-- append onto a slice that is nil or the head of a row of ours, from whatever source. -/
theorem run_append_app (t tx ty e : TypeId) (i : TypeInfo) (z : Value) (ht : P.underlying t = some (.slice e)) (hi : P.info? e = some i) (hz : i.zero = some z) (hzs : z.cells.size = i.size)
    (v : Value) (n : Nat) (xs : List Value) (hown : w.ownsRow 0 e i.size v n xs) (x : Value) (m : Nat) (news : List Value) (hs : Src P i.size tx x m news w)
    (h63 : n + m ≤ maxLen) (hbytes : (n + m) * i.bytes ≤ 140737488355328) :
    ∃ v' w', (Builtin.append_ #[t, tx] ty #[v, x]).run P w = .ok v' w' ∧ w'.ownsRow 0 e i.size v' (n + m) (xs ++ news) ∧ App i.size w v w' v' := by
  have hsmall : n + m ≤ 9223372036854775807 := by simp only [maxLen] at h63; omega
  have hlen : (xs ++ news).length = (n + m) * i.size := by rw [List.length_append, hown.1, hs.newsLen, Nat.add_mul]
  have hin := hown.lt
  -- a new row
  have grown : ∀ (old : Nat),
      (w.drew.alloc (.cells ((xs ++ news).toArray ++ Builtin.zeroCells z.cells (grownCap w (n + m) old e - (n + m))) e)).ownsRow 0 e i.size
        (.slice (some ⟨w.heap.size, 0, none⟩) (n + m) (grownCap w (n + m) old e)) (n + m) (xs ++ news) := by
    intro old
    have hge := grownCap_ge w (n + m) old e
    have hcm : grownCap w (n + m) old e ≤ maxLen := grownCap_le_maxLen w (n + m) old e h63
    refine ⟨hlen, .inr ⟨w.heap.size, _, _, rfl, Nat.zero_le _, heap_alloc_new w.drew _, hge, hcm, ?_, ?_⟩⟩
    · rw [Array.size_append, List.size_toArray, size_zeroCells, hzs, hlen, ← Nat.add_mul]
      congr 1
      omega
    · rw [Array.toList_append, ← hlen]
      exact List.take_left
  have newApp : ∀ (o : Obj) (c : Nat), lenV v ≤ n + m → App i.size w v (w.drew.alloc o) (.slice (some ⟨w.heap.size, 0, none⟩) (n + m) c) := by
    intro o c hl
    have e1 : ∀ k, k < w.heap.size → (w.drew.alloc o).heap[k]? = w.heap[k]? := fun k hk => Below.heap_alloc w.drew o k hk
    refine ⟨rfl, rfl, rfl, by simp, fun k hk _ => e1 k hk, fun k hk => .inr ?_, fun k hk => (hin k hk).2, fun k hk => ?_, hl, fun g hg j _ => World.cell?_of_block (a := ⟨g, j, none⟩) (e1 g (hin g hg).2)⟩
    · simp [Value.ownBlock] at hk; omega
    · simp [Value.ownBlock] at hk; subst hk; simp
  rcases hown.2 with ⟨rfl, rfl⟩ | ⟨g, cap, cur, rfl, hbg, hg, hnc, hcm, hcs, htake⟩
  · have hx : xs = [] := List.eq_nil_of_length_eq_zero (by simpa using hown.1)
    subst hx
    by_cases hm : m = 0
    · subst hm
      have hn : news = [] := List.eq_nil_of_length_eq_zero (by simpa using hs.newsLen)
      subst hn
      refine ⟨.slice none 0 0, w, ?_, World.ownsRow_nil w 0 e i.size, App.refl (fun k hk => by simp [Value.ownBlock] at hk)⟩
      have hc0 := hs.cells
      rcases hs.kind with ⟨e', hk⟩ | hk <;> simp [Builtin.append_, run_underlying ht, run_underlying hk, sizeOf, typeInfo, hi, hs.len, hc0]
    · have hr := run_append_grow_src (P := P) w t tx ty e i z ht hi hz none 0 0 [] (run_firstCells_none w.drew i.size 0 0 0) x m news hs (by omega) (by omega) (growslice_fits (by omega) hbytes)
      exact ⟨_, _, hr, grown 0, newApp _ _ (by simp [lenV])⟩
  · by_cases hroom : n + m ≤ cap
    · have hfit : n * i.size + news.length ≤ cur.size := by rw [hs.newsLen, hcs, ← Nat.add_mul]; exact Nat.mul_le_mul_right _ hroom
      have hr := run_append_room_row (P := P) w t tx ty e i ht hi g n cap cur hg x m news hs hroom hfit
      have hgl : g < w.heap.size := (Array.getElem?_eq_some_iff.1 hg).1
      refine ⟨_, _, hr, ⟨hlen, .inr ⟨g, cap, _, rfl, hbg, setRow_heap w g cur _ e _ hg, hroom, hcm, ?_, ?_⟩⟩, ⟨rfl, rfl, rfl, by simp, fun k _ hk => setRow_other w g k _ (fun e => hk (by simp [Value.ownBlock, e])), fun k hk => .inl (by simpa [Value.ownBlock] using hk), fun k hk => ?_, fun k hk => ?_, by simp [lenV], fun g' hg' j hj => ?_⟩⟩
      · simp only [List.size_toArray, List.length_append, List.length_take, List.length_drop, Array.length_toList]
        omega
      · rw [htake, ← hlen]
        exact List.take_left
      · simp [Value.ownBlock] at hk; omega
      · simp [Value.ownBlock] at hk; subst hk; simpa using hgl
      · simp [Value.ownBlock] at hg'
        subst hg'
        simp only [lenV] at hj
        have hjs : j < cur.size := by omega
        rw [cell_setRow_same w g j cur _ e _ hg, cell_of_row w g j cur e _ hg]
        rw [List.getElem?_toArray, List.append_assoc, List.getElem?_append_left (by simp; omega), List.getElem?_take_of_lt hj]
        simp
    · have holds : ∀ j u, xs[j]? = some u → w.drew.cell? ((⟨g, 0, none⟩ : Addr).add j) = some u := hown.cells (g := g) rfl
      have hr := run_append_grow_src (P := P) w t tx ty e i z ht hi hz (some ⟨g, 0, none⟩) n cap xs (run_firstCells_some w.drew i.size n ⟨g, 0, none⟩ n cap xs hown.1 holds) x m news hs (by omega) (by omega) (growslice_fits (by omega) hbytes)
      exact ⟨_, _, hr, grown cap, newApp _ _ (by simp [lenV])⟩

theorem wpList_append_app {ops : Array Oper} {rest : List Oper} {o : Oper} {a : Act} {Q : Exit → Act → World → Prop} (hgd : o.guard = none) (s x : Operand) (t tx : TypeId)
    (ho : o.op = .call { callee := .builtin .append, args := #[s, x], argTypes := #[t, tx] })
    (e : TypeId) (i : TypeInfo) (z : Value) (ht : P.underlying t = some (.slice e)) (hi : P.info? e = some i) (hz : i.zero = some z) (hzs : z.cells.size = i.size)
    (v : Value) (n : Nat) (xs : List Value) (hv : a.eval s = v) (hown : w.ownsRow 0 e i.size v n xs) (xv : Value) (m : Nat) (news : List Value) (hx : a.eval x = xv) (hs : Src P i.size tx xv m news w)
    (h63 : n + m ≤ maxLen) (hbytes : (n + m) * i.bytes ≤ 140737488355328)
    (h : ∀ v' w', w'.ownsRow 0 e i.size v' (n + m) (xs ++ news) → App i.size w v w' v' → wpList P ops Q rest (a.put o.dst v') w') : wpList P ops Q (o :: rest) a w := by
  refine wpList_plain hgd fun K hK => ?_
  obtain ⟨v', w', hr, h2, h3⟩ := run_append_app (P := P) w t tx o.type e i z ht hi hz hzs v n xs hown xv m news hs h63 hbytes
  unfold Oper.wp execOp
  simp only [ho, resolve, invoke, builtin, Sem.run_bind, Sem.run_pure, Result.andThen_ok, List.map_toArray, List.map_cons, List.map_nil, hv, hx, hr]
  exact hK _ _ (h v' w' h2 h3)
end

/-! ### Bytes -/

def bv (c : UInt8) : Value := .int .u8 c.toNat

/-- v is nil, or the head of a row of ours, and holds xs. -/
def Own (w : World) (v : Value) (xs : List UInt8) : Prop := w.ownsRow 0 5 1 v xs.length (xs.map bv)

/-- v reads as the bytes xs. -/
def RB (w : World) (v : Value) (xs : List UInt8) : Prop :=
  ∃ ad cap, v = .slice ad xs.length cap ∧ ∀ i c, xs[i]? = some c → ∃ b off, ad = some ⟨b, off, none⟩ ∧ w.cell? ⟨b, off + i, none⟩ = some (.int .u8 c.toNat)

/-- v reads as the pairs ps: two cells of strings each. -/
def RP (w : World) (v : Value) (ps : List (ByteArray × ByteArray)) : Prop :=
  ∃ ad cap, v = .slice ad ps.length cap ∧ ∀ i p, ps[i]? = some p → ∃ b off, ad = some ⟨b, off, none⟩ ∧ w.cell? ⟨b, off + i * 2, none⟩ = some (.string p.1) ∧ w.cell? ⟨b, off + i * 2 + 1, none⟩ = some (.string p.2)

/-- v's own block, if it has one, lies from lo on and below hi. -/
def Loc (v : Value) (lo hi : Nat) : Prop := ∀ k, v.ownBlock = some k → lo ≤ k ∧ k < hi

section
variable {w w' : World} {v : Value}

theorem RB.kept {xs : List UInt8} (h : RB w v xs) (hb : ∀ k, v.ownBlock = some k → k < w.heap.size → w'.heap[k]? = w.heap[k]?) : RB w' v xs := by
  obtain ⟨ad, cap, rfl, hc⟩ := h
  refine ⟨ad, cap, rfl, fun i c hi => ?_⟩
  obtain ⟨b, off, rfl, hcell⟩ := hc i c hi
  refine ⟨b, off, rfl, ?_⟩
  have hlt : b < w.heap.size := World.block_lt_of_cell? w ⟨b, off + i, none⟩ hcell
  rw [World.cell?_of_block (a := ⟨b, off + i, none⟩) (hb b (by simp [Value.ownBlock]) hlt)]
  exact hcell

theorem RP.kept {ps : List (ByteArray × ByteArray)} (h : RP w v ps) (hb : ∀ k, v.ownBlock = some k → k < w.heap.size → w'.heap[k]? = w.heap[k]?) : RP w' v ps := by
  obtain ⟨ad, cap, rfl, hc⟩ := h
  refine ⟨ad, cap, rfl, fun i p hi => ?_⟩
  obtain ⟨b, off, rfl, hc1, hc2⟩ := hc i p hi
  have hlt : b < w.heap.size := World.block_lt_of_cell? w ⟨b, off + i * 2, none⟩ hc1
  refine ⟨b, off, rfl, ?_, ?_⟩
  · rw [World.cell?_of_block (a := ⟨b, off + i * 2, none⟩) (hb b (by simp [Value.ownBlock]) hlt)]; exact hc1
  · rw [World.cell?_of_block (a := ⟨b, off + i * 2 + 1, none⟩) (hb b (by simp [Value.ownBlock]) hlt)]; exact hc2

theorem RB.below {xs : List UInt8} (h : RB w v xs) (hb : Below w.heap.size w w') : RB w' v xs := h.kept fun k _ hk => hb.block k hk
theorem RP.below {ps : List (ByteArray × ByteArray)} (h : RP w v ps) (hb : Below w.heap.size w w') : RP w' v ps := h.kept fun k _ hk => hb.block k hk

theorem RB.app {xs : List UInt8} {size : Nat} {u u' : Value} (h : RB w v xs) (ha : App size w u w' u') (hne : ∀ k, v.ownBlock = some k → u.ownBlock ≠ some k) : RB w' v xs :=
  h.kept fun k hk hlt => ha.block k hlt (fun e => hne k hk e.symm)
theorem RP.app {ps : List (ByteArray × ByteArray)} {size : Nat} {u u' : Value} (h : RP w v ps) (ha : App size w u w' u') (hne : ∀ k, v.ownBlock = some k → u.ownBlock ≠ some k) : RP w' v ps :=
  h.kept fun k hk hlt => ha.block k hlt (fun e => hne k hk e.symm)

theorem RB.drewN {xs : List UInt8} (h : RB w v xs) (n : Nat) : RB (w.drewN n) v xs := h
theorem RP.drewN {ps : List (ByteArray × ByteArray)} (h : RP w v ps) (n : Nat) : RP (w.drewN n) v ps := h

theorem Own.reads {xs : List UInt8} (h : Own w v xs) : RB w v xs := by
  rcases h.2 with ⟨rfl, h0⟩ | ⟨g, cap, cur, rfl, _⟩
  · have : xs = [] := List.eq_nil_of_length_eq_zero h0
    subst this
    exact ⟨none, 0, rfl, fun i c hi => by simp at hi⟩
  · refine ⟨_, cap, rfl, fun i c hi => ⟨g, 0, rfl, ?_⟩⟩
    have := World.ownsRow.cells h (g := g) rfl i (bv c) (by rw [List.getElem?_map, hi]; rfl)
    rw [Nat.zero_add]
    have hadd : (⟨g, 0, none⟩ : Addr).add i = ⟨g, i, none⟩ := by unfold Addr.add; split <;> simp_all
    rw [hadd] at this
    exact this

theorem Own.inb {xs : List UInt8} (h : Own w v xs) : ∀ k, v.ownBlock = some k → k < w.heap.size := fun k hk => (World.ownsRow.lt h k hk).2

theorem Own.lenV {xs : List UInt8} (h : Own w v xs) : lenV v = xs.length := by
  rcases h.2 with ⟨rfl, h0⟩ | ⟨g, cap, cur, rfl, _⟩
  · simp [Qxb6601522a.lenV, h0]
  · rfl

theorem Own.shape {xs : List UInt8} (h : Own w v xs) : ∃ ad cap, v = .slice ad xs.length cap := by
  rcases h.2 with ⟨rfl, h0⟩ | ⟨g, cap, cur, rfl, _⟩
  · exact ⟨none, 0, by rw [h0]⟩
  · exact ⟨_, _, rfl⟩

/-- What v held it still reads as, though something has been appended to it. -/
theorem Own.old {xs : List UInt8} {v' : Value} (h : Own w v xs) (ha : App 1 w v w' v') : RB w' v xs := by
  have hl := h.lenV
  obtain ⟨ad, cap, e, hc⟩ := h.reads
  subst e
  refine ⟨ad, cap, rfl, fun i c hi => ?_⟩
  obtain ⟨b, off, rfl, hcell⟩ := hc i c hi
  refine ⟨b, off, rfl, ?_⟩
  have h0 : off = 0 := by
    rcases h.2 with ⟨e, _⟩ | ⟨g, cap', cur, e, _⟩
    · cases e
    · simp at e; omega
  subst h0
  have hlt : i < xs.length := (List.getElem?_eq_some_iff.1 hi).1
  have := ha.old b (by simp [Value.ownBlock]) (0 + i) (by rw [hl]; omega)
  rw [this]
  exact hcell

theorem Own.alloc {xs : List UInt8} (h : Own w v xs) (o : Obj) : Own (w.alloc o) v xs := World.ownsRow.alloc h o
theorem Own.drewN {xs : List UInt8} (h : Own w v xs) (n : Nat) : Own (w.drewN n) v xs := h
end

end Go.Proofs.Qxb6601522a
