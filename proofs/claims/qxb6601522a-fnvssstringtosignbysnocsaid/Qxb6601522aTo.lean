/-
  THE WALK over zzToParams (13). By an AI agent.
-/
import Derived.Test.Qxb6601522aClone
import Derived.Deep.RegionLaw
namespace Go.Proofs.Qxb6601522a
open Go.RowKit

def cellsOf : List (ByteArray × ByteArray) → List Value
  | [] => []
  | p :: r => .string p.1 :: .string p.2 :: cellsOf r

theorem cellsOf_append (a b : List (ByteArray × ByteArray)) : cellsOf (a ++ b) = cellsOf a ++ cellsOf b := by
  induction a with
  | nil => rfl
  | cons p r ih => simp [cellsOf, ih]

theorem cellsOf_take {ps : List (ByteArray × ByteArray)} {k : Nat} {p : ByteArray × ByteArray} (hp : ps[k]? = some p) : cellsOf (ps.take (k + 1)) = cellsOf (ps.take k) ++ [.string p.1, .string p.2] := by
  obtain ⟨hk, e⟩ := List.getElem?_eq_some_iff.1 hp
  rw [List.take_succ_eq_append_getElem hk, cellsOf_append, e]
  rfl

theorem cellsOf_at {ps : List (ByteArray × ByteArray)} {i : Nat} {p : ByteArray × ByteArray} (hp : ps[i]? = some p) : (cellsOf ps)[i * 2]? = some (.string p.1) ∧ (cellsOf ps)[i * 2 + 1]? = some (.string p.2) := by
  induction ps generalizing i with
  | nil => simp at hp
  | cons q r ih =>
    cases i with
    | zero => simp at hp; subst hp; exact ⟨rfl, rfl⟩
    | succ i =>
      have := ih (i := i) (by simpa using hp)
      rw [show (i + 1) * 2 = i * 2 + 2 by omega]
      exact this

theorem cellsOf_reads {w : World} {e : TypeId} {v : Value} {ps : List (ByteArray × ByteArray)} (h : w.ownsRow 0 e 2 v ps.length (cellsOf ps)) : RP w v ps := by
  rcases h.2 with ⟨rfl, h0⟩ | ⟨g, cap, cur, rfl, _⟩
  · have : ps = [] := List.eq_nil_of_length_eq_zero h0
    subst this
    exact ⟨none, 0, rfl, fun i c hi => by simp at hi⟩
  · refine ⟨_, cap, rfl, fun i p hi => ⟨g, 0, rfl, ?_⟩⟩
    have hlt : i < ps.length := (List.getElem?_eq_some_iff.1 hi).1
    have := cellsOf_at hi
    refine ⟨?_, ?_⟩
    · rw [Nat.zero_add, h.cellAt (i * 2) (by omega)]; exact this.1
    · rw [Nat.zero_add, h.cellAt (i * 2 + 1) (by omega)]; exact this.2

theorem run_append_param (w : World) (ty : TypeId) (v : Value) (n : Nat) (xs : List Value) (hown : w.ownsRow 0 40 2 v n xs) (s1 s2 : ByteArray) (hn : n ≤ 2097152) :
    ∃ v' w', (Builtin.append_ #[32, 32] ty #[v, .slice (some ⟨w.heap.size, 0, none⟩) 1 1]).run Try.prog (w.alloc (.cells #[.string s1, .string s2] 40)) = .ok v' w' ∧
      w'.ownsRow 0 40 2 v' (n + 1) (xs ++ [.string s1, .string s2]) ∧ App 2 w v w' v' := by
  obtain ⟨i, hi, hz0, hz1, hz2⟩ := info_parts info40
  have hin := hown.lt
  have hsrc : Src Try.prog i.size 32 (.slice (some ⟨w.heap.size, 0, none⟩) 1 1) 1 [.string s1, .string s2] (w.alloc (.cells #[.string s1, .string s2] 40)) := by
    rw [hz1]
    refine Src.ofSlice (P := Try.prog) _ Try.underlying32 ⟨w.heap.size, 0, none⟩ 1 1 _ rfl ?_ ?_
    · intro j u hj
      have hadd : (⟨w.heap.size, 0, none⟩ : Addr).add j = ⟨w.heap.size, j, none⟩ := by unfold Addr.add; split <;> simp_all
      rw [hadd, cell_of_row _ w.heap.size j _ 40 _ (heap_alloc_new w _)]
      simpa using hj
    · intro u hu
      simp at hu
      rcases hu with rfl | rfl <;> rfl
  obtain ⟨v', w', hr, h2, h3⟩ := run_append_app (P := Try.prog) (w.alloc (.cells #[.string s1, .string s2] 40)) 32 32 ty 40 i _ Try.underlying32 hi hz0 (by rw [hz1]; rfl) v n xs (by rw [hz1]; exact hown.alloc _) _ 1 _ hsrc (by unfold maxLen; omega) (by rw [hz2]; omega)
  rw [hz1] at h2 h3
  exact ⟨v', w', hr, h2, ((App.refl (fun k hk => (hin k hk).2)).alloc _).trans h3⟩

theorem step_param {W w : World} {ops : Array Oper} {o : Oper} {a : Act} {K : Act → World → Prop} {Q : Exit → Act → World → Prop} {E : Prop}
    (hg : o.guard = none) (s x : Operand) (hop : o.op = Op.call { callee := Callee.builtin Builtin.append, args := #[s, x], argTypes := #[32, 32] })
    (v : Value) (n : Nat) (xs : List Value) (hown : w.ownsRow 0 40 2 v n xs) (hv : a.eval s = v) (s1 s2 : ByteArray) (hW : W = w.alloc (.cells #[.string s1, .string s2] 40)) (hx : a.eval x = .slice (some ⟨w.heap.size, 0, none⟩) 1 1) (hn : n ≤ 2097152)
    (hK : ∀ v' w', w'.ownsRow 0 40 2 v' (n + 1) (xs ++ [.string s1, .string s2]) → App 2 w v w' v' → K (a.put o.dst v') w') :
    if Region.wanted o (yielded ops a.tmps) = true then Oper.wp Try.prog o a W K Q else E := by
  subst hW
  have hw : Region.wanted o (yielded ops a.tmps) = true := by simp [Region.wanted, hg]
  rw [if_pos hw]
  obtain ⟨v', w', hr, h2, h3⟩ := run_append_param w o.type v n xs hown s1 s2 hn
  unfold Oper.wp execOp
  simp only [hop, resolve, invoke, builtin, Sem.run_bind, Sem.run_pure, Result.andThen_ok, List.map_toArray, List.map_cons, List.map_nil, hv, hx, hr]
  exact hK _ _ h2 h3

theorem wpList_param {W w : World} {ops : Array Oper} {rest : List Oper} {o : Oper} {a : Act} {Q : Exit → Act → World → Prop} (hgd : o.guard = none) (s x : Operand)
    (ho : o.op = .call { callee := .builtin .append, args := #[s, x], argTypes := #[32, 32] })
    (v : Value) (n : Nat) (xs : List Value) (hown : w.ownsRow 0 40 2 v n xs) (hv : a.eval s = v) (s1 s2 : ByteArray) (hW : W = w.alloc (.cells #[.string s1, .string s2] 40)) (hx : a.eval x = .slice (some ⟨w.heap.size, 0, none⟩) 1 1) (hn : n ≤ 2097152)
    (h : ∀ v' w', w'.ownsRow 0 40 2 v' (n + 1) (xs ++ [.string s1, .string s2]) → App 2 w v w' v' → wpList Try.prog ops Q rest (a.put o.dst v') w') : wpList Try.prog ops Q (o :: rest) a W := by
  subst hW
  refine wpList_plain hgd fun K hK => ?_
  obtain ⟨v', w', hr, h2, h3⟩ := run_append_param w o.type v n xs hown s1 s2 hn
  unfold Oper.wp execOp
  simp only [ho, resolve, invoke, builtin, Sem.run_bind, Sem.run_pure, Result.andThen_ok, List.map_toArray, List.map_cons, List.map_nil, hv, hx, hr]
  exact hK _ _ (h v' w' h2 h3)

set_option maxHeartbeats 1000000 in
theorem toParams_no (v : Value) (ps : List (ByteArray × ByteArray)) (nm vl : ByteArray) (w : World) (hb : RP w v ps) (hx : ps.length ≤ 1048576) :
    Calls Try.prog 13 #[v, .bool false, .string nm, .string vl] w fun e w' => ∃ v, e = .returned v ∧ RP w' v ps ∧ Loc v w.heap.size w'.heap.size ∧ Below w.heap.size w w' := by
  obtain ⟨n, hn⟩ : ∃ n, n = ps.length := ⟨_, rfl⟩
  have HN : Hid (n = ps.length) := hn
  obtain ⟨i0, hi, hz0, hz1, hz2⟩ := info_parts info40
  obtain ⟨ad, cap, rfl, hc⟩ := hb
  rw [← hn] at hx ⊢
  clear hn
  go_enter Try.func13, Try.ntmps13
  go_wp2_with (at_make; refine wpList_make_row rfl _ (.tmp 17) 32 rfl 40 i0 _ 2 Try.underlying32 hi hz0 hz1 _ _ 0 n rfl rfl rfl rfl (Nat.zero_le _) (by rw [hz2]; omega) (by unfold maxLen; omega) ?_; intro w1 zs hown hbel hsz; clear hi hz0 hz1 hz2)
  have hz : zs = [] := List.eq_nil_of_length_eq_zero (by simpa using hown.1)
  subst hz
  go_loopw [10, 11] (fun u i wr => ∃ (k : Nat), k ≤ n ∧ i = .int .i64 k ∧ wr.ownsRow 0 40 2 u k (cellsOf (ps.take k)) ∧ App 2 w1 (.slice (some ⟨w.heap.size, 0, none⟩) 0 n) wr u) (fun _ i _ => n - (intOf i).toNat)
  case atStart => exact ⟨0, Nat.zero_le _, rfl, by simpa [cellsOf] using hown, App.refl (fun k hk => (hown.lt k hk).2)⟩
  case round =>
    obtain ⟨k, hk, rfl, hown2, happ⟩ := hrel
    by_cases hlt : k < n
    · obtain ⟨⟨s1, s2⟩, hp⟩ : ∃ p, ps[k]? = some p := ⟨_, List.getElem?_eq_getElem (by rw [← HN.out]; exact hlt)⟩
      obtain ⟨b1, o1, rfl, h1, h2⟩ := hc k _ hp
      have hbr : Below w.heap.size w wr := hbel.trans (happ.below (by omega) (fun k hk => by simp [Value.ownBlock] at hk; omega))
      have hb1 : b1 < w.heap.size := World.block_lt_of_cell? w _ h1
      have h1' : wr.cell? ⟨b1, o1 + k * 2, none⟩ = some (.string s1) := (hbr.cell (p := ⟨b1, o1 + k * 2, none⟩) hb1).trans h1
      have h2' : wr.cell? ⟨b1, o1 + k * 2 + 1, none⟩ = some (.string s2) := (hbr.cell (p := ⟨b1, o1 + k * 2 + 1, none⟩) hb1).trans h2
      have HT := hideH (cellsOf_take hp)
      have hlt' : (k : Int) < (n : Int) := by omega
      have HO := hideH hown2
      have HA := hideH happ
      clear hown2 happ hbr hc hp h1 h2 hown hbel hsz
      go_wp2_with fail
      go_region_law (refine step_param (w := wr.drew) rfl (.tmp 25) (.tmp 37) rfl _ k _ HO.out rfl s1 s2 rfl rfl (by omega) ?_; intro v2 w2 ho2 ha2)
      all_goals
        go_wp2
        go_roundw
        case rel => exact ⟨k + 1, by omega, by go_num, by rw [HT.out]; exact ho2, HA.out.drew.trans ha2⟩
        case measure => simp [intOf]; omega
    · go_wp2
      go_ret
      have hkn : k = n := by omega
      subst hkn
      have hlk : (ps.take k) = ps := List.take_of_length_le (by rw [← HN.out]; exact Nat.le_refl _)
      rw [hlk] at hown2
      refine ⟨_, rfl, cellsOf_reads (by rw [← HN.out]; exact hown2), fun b hb => ?_, hbel.trans (happ.below (by omega) (fun k hk => by simp [Value.ownBlock] at hk; omega))⟩
      refine ⟨?_, happ.inb' b hb⟩
      rcases happ.place b hb with h | h
      · simp [Value.ownBlock] at h; omega
      · omega

set_option maxHeartbeats 1000000 in
theorem toParams_yes (v : Value) (ps : List (ByteArray × ByteArray)) (nm vl : ByteArray) (w : World) (hb : RP w v ps) (hx : ps.length ≤ 1048576) :
    Calls Try.prog 13 #[v, .bool true, .string nm, .string vl] w fun e w' => ∃ v, e = .returned v ∧ RP w' v (ps ++ [(nm, vl)]) ∧ Loc v w.heap.size w'.heap.size ∧ Below w.heap.size w w' := by
  obtain ⟨n, hn⟩ : ∃ n, n = ps.length := ⟨_, rfl⟩
  have HN : Hid (n = ps.length) := hn
  obtain ⟨i0, hi, hz0, hz1, hz2⟩ := info_parts info40
  obtain ⟨ad, cap, rfl, hc⟩ := hb
  rw [← hn] at hx ⊢
  clear hn
  go_enter Try.func13, Try.ntmps13
  go_wp2_with (at_make; refine wpList_make_row rfl _ (.tmp 17) 32 rfl 40 i0 _ 2 Try.underlying32 hi hz0 hz1 _ _ 0 (n + 1) rfl rfl rfl (by simp) (Nat.zero_le _) (by rw [hz2]; omega) (by unfold maxLen; omega) ?_; intro w1 zs hown hbel hsz; clear hi hz0 hz1 hz2)
  have hz : zs = [] := List.eq_nil_of_length_eq_zero (by simpa using hown.1)
  subst hz
  go_loopw [10, 11] (fun u i wr => ∃ (k : Nat), k ≤ n ∧ i = .int .i64 k ∧ wr.ownsRow 0 40 2 u k (cellsOf (ps.take k)) ∧ App 2 w1 (.slice (some ⟨w.heap.size, 0, none⟩) 0 (n + 1)) wr u) (fun _ i _ => n - (intOf i).toNat)
  case atStart => exact ⟨0, Nat.zero_le _, rfl, by simpa [cellsOf] using hown, App.refl (fun k hk => (hown.lt k hk).2)⟩
  case round =>
    obtain ⟨k, hk, rfl, hown2, happ⟩ := hrel
    by_cases hlt : k < n
    · obtain ⟨⟨s1, s2⟩, hp⟩ : ∃ p, ps[k]? = some p := ⟨_, List.getElem?_eq_getElem (by rw [← HN.out]; exact hlt)⟩
      obtain ⟨b1, o1, rfl, h1, h2⟩ := hc k _ hp
      have hbr : Below w.heap.size w wr := hbel.trans (happ.below (by omega) (fun k hk => by simp [Value.ownBlock] at hk; omega))
      have hb1 : b1 < w.heap.size := World.block_lt_of_cell? w _ h1
      have h1' : wr.cell? ⟨b1, o1 + k * 2, none⟩ = some (.string s1) := (hbr.cell (p := ⟨b1, o1 + k * 2, none⟩) hb1).trans h1
      have h2' : wr.cell? ⟨b1, o1 + k * 2 + 1, none⟩ = some (.string s2) := (hbr.cell (p := ⟨b1, o1 + k * 2 + 1, none⟩) hb1).trans h2
      have HT := hideH (cellsOf_take hp)
      have hlt' : (k : Int) < (n : Int) := by omega
      have HO := hideH hown2
      have HA := hideH happ
      clear hown2 happ hbr hc hp h1 h2 hown hbel hsz
      go_wp2_with fail
      go_region_law (refine step_param (w := wr.drew) rfl (.tmp 25) (.tmp 37) rfl _ k _ HO.out rfl s1 s2 rfl rfl (by omega) ?_; intro v2 w2 ho2 ha2)
      all_goals
        go_wp2
        go_roundw
        case rel => exact ⟨k + 1, by omega, by go_num, by rw [HT.out]; exact ho2, HA.out.drew.trans ha2⟩
        case measure => simp [intOf]; omega
    · have hkn : k = n := by omega
      subst hkn
      have hlk : (ps.take k) = ps := List.take_of_length_le (by rw [← HN.out]; exact Nat.le_refl _)
      rw [hlk] at hown2
      have HO := hideH hown2
      have HA := hideH happ
      have HB := hideH hbel
      clear hlk hown2 happ hbel hown
      go_wp2_with (at_builtin; refine wpList_param (w := wr) rfl (.tmp 40) (.tmp 44) rfl _ k _ HO.out rfl nm vl rfl rfl (by omega) ?_; intro v2 w2 ho2 ha2)
      go_ret
      have happ := HA.out.trans ha2
      have hown3 : w2.ownsRow 0 40 2 v2 (ps ++ [(nm, vl)]).length (cellsOf (ps ++ [(nm, vl)])) := by
        rw [cellsOf_append, List.length_append, ← HN.out]; exact ho2
      refine ⟨_, rfl, cellsOf_reads hown3, fun b hb => ?_, HB.out.trans (happ.below (by omega) (fun k hk => by simp [Value.ownBlock] at hk; omega))⟩
      refine ⟨?_, happ.inb' b hb⟩
      rcases happ.place b hb with h | h
      · simp [Value.ownBlock] at h; omega
      · omega

end Go.Proofs.Qxb6601522a
