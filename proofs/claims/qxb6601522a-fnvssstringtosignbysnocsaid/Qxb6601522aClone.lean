/-
  THE WALKS over zzCloneParams (8), zzToParams (13). By an AI agent.
-/
import Derived.Test.Qxb6601522aParams
import Derived.RegionTactic
import Derived.ChangeAlike
namespace Go.Proofs.Qxb6601522a
open Go.RowKit

theorem info36 : (Try.prog.info? 36).map (fun i => (i.zero, i.size, i.bytes)) = some (some (.agg #[.string ⟨#[]⟩, .string ⟨#[]⟩]), 2, 32) := by kernel_rfl
theorem info40 : (Try.prog.info? 40).map (fun i => (i.zero, i.size, i.bytes)) = some (some (.agg #[.string ⟨#[]⟩, .string ⟨#[]⟩]), 2, 32) := by kernel_rfl

def Filled2 (zs : List Value) (ps : List (ByteArray × ByteArray)) (k : Nat) : Prop := ∀ j p, j < k → ps[j]? = some p → zs[j * 2]? = some (.string p.1) ∧ zs[j * 2 + 1]? = some (.string p.2)

theorem Filled2.step {zs : List Value} {ps : List (ByteArray × ByteArray)} {k : Nat} (h : Filled2 zs ps k) (hk : k * 2 + 1 < zs.length) {p : ByteArray × ByteArray} (hp : ps[k]? = some p) :
    Filled2 ((zs.set (k * 2) (.string p.1)).set (k * 2 + 1) (.string p.2)) ps (k + 1) := by
  intro j q hj hq
  by_cases e : j = k
  · subst e
    rw [hp] at hq
    cases hq
    refine ⟨?_, ?_⟩
    · rw [List.getElem?_set_ne (by omega), List.getElem?_set_self (by omega)]
    · rw [List.getElem?_set_self (by simp; omega)]
  · rw [List.getElem?_set_ne (by omega), List.getElem?_set_ne (by omega), List.getElem?_set_ne (by omega), List.getElem?_set_ne (by omega)]
    exact h j q (by omega) hq

theorem Filled2.reads {w : World} {e g m : Nat} {zs : List Value} {ps : List (ByteArray × ByteArray)} (hown : w.ownsRow 0 e 2 (.slice (some ⟨g, 0, none⟩) ps.length m) ps.length zs) (h : Filled2 zs ps ps.length) :
    RP w (.slice (some ⟨g, 0, none⟩) ps.length m) ps := by
  refine ⟨_, m, rfl, fun i p hi => ⟨g, 0, rfl, ?_⟩⟩
  have hlt : i < ps.length := (List.getElem?_eq_some_iff.1 hi).1
  have := h i p hlt hi
  refine ⟨?_, ?_⟩
  · rw [Nat.zero_add, hown.cellAt (i * 2) (by omega)]; exact this.1
  · rw [Nat.zero_add, hown.cellAt (i * 2 + 1) (by omega)]; exact this.2

set_option maxHeartbeats 1000000 in
theorem cloneParams_some (ad : Addr) (cap : Nat) (ps : List (ByteArray × ByteArray)) (w : World) (hb : RP w (.slice (some ad) ps.length cap) ps) (hx : ps.length ≤ 1048576) :
    Calls Try.prog 8 #[.slice (some ad) ps.length cap] w fun e w' => ∃ v, e = .returned v ∧ RP w' v ps ∧ Loc v w.heap.size w'.heap.size ∧ Below w.heap.size w w' := by
  obtain ⟨n, hn⟩ : ∃ n, n = ps.length := ⟨_, rfl⟩
  have HN : Hid (n = ps.length) := hn
  obtain ⟨i0, hi, hz0, hz1, hz2⟩ := info_parts info36
  have hnil := eql_some 23 36 Try.underlying23 ad n cap
  obtain ⟨ad', cap', e, hc⟩ := hb
  cases e
  rw [← hn] at hx ⊢
  clear hn
  go_enter Try.func8, Try.ntmps8
  go_wp2_with (at_make; refine wpList_make_row rfl (.tmp 8) (.tmp 8) 23 rfl 36 i0 _ 2 Try.underlying23 hi hz0 hz1 _ _ n n rfl rfl rfl rfl (Nat.le_refl _) (by rw [hz2]; omega) (by unfold maxLen; omega) ?_; intro w1 zs hown hbel hsz; clear hi hz0 hz1 hz2)
  go_loopw [4] (fun i wr => ∃ (k : Nat) (zs : List Value), k ≤ n ∧ i = .int .i64 k ∧ wr.ownsRow 0 36 2 (.slice (some ⟨w.heap.size, 0, none⟩) n n) n zs ∧ Filled2 zs ps k ∧ Below w.heap.size w wr) (fun i _ => n - (intOf i).toNat)
  case atStart => exact ⟨0, zs, Nat.zero_le _, rfl, hown, fun j c hj => by omega, hbel⟩
  case round =>
    clear hown hbel hsz
    obtain ⟨k, zs, hk, rfl, hown, hfl, hbel⟩ := hrel
    by_cases hlt : k < n
    · obtain ⟨⟨s1, s2⟩, hp⟩ : ∃ p, ps[k]? = some p := ⟨_, List.getElem?_eq_getElem (by rw [← HN.out]; exact hlt)⟩
      obtain ⟨b1, o1, e1, h1, h2⟩ := hc k _ hp
      cases e1
      have hb1 : b1 < w.heap.size := World.block_lt_of_cell? w _ h1
      have h1' : wr.cell? ⟨b1, o1 + k * 2, none⟩ = some (.string s1) := (hbel.cell (p := ⟨b1, o1 + k * 2, none⟩) hb1).trans h1
      have h2' : wr.cell? ⟨b1, o1 + k * 2 + 1, none⟩ = some (.string s2) := (hbel.cell (p := ⟨b1, o1 + k * 2 + 1, none⟩) hb1).trans h2
      have hzl : zs.length = n * 2 := hown.1
      obtain ⟨z, hz⟩ : ∃ z, wr.cell? ⟨w.heap.size, k * 2, none⟩ = some z := by
        rw [hown.cellAt (k * 2) (by omega)]; exact ⟨_, List.getElem?_eq_getElem (by omega)⟩
      obtain ⟨z2, hz2⟩ : ∃ z, wr.cell? ⟨w.heap.size, k * 2 + 1, none⟩ = some z := by
        rw [hown.cellAt (k * 2 + 1) (by omega)]; exact ⟨_, List.getElem?_eq_getElem (by omega)⟩
      have hf := hown.frozenAt (k * 2)
      have hf2 := hown.frozenAt (k * 2 + 1)
      have HR1 := row_stored hown hbel (k * 2) (.string s1)
      have HR := hideH (row_stored HR1.1 HR1.2 (k * 2 + 1) (.string s2))
      have HF := hideH (hfl.step (by omega) hp)
      have hlt' : (k : Int) < (n : Int) := by omega
      clear hown hbel hfl hc hp h1 h2 hzl HR1
      go_wp2_with fail
      go_region
      go_wp2
      go_roundw
      case rel => exact ⟨k + 1, _, by omega, by go_num, HR.out.1, HF.out, HR.out.2.drew⟩
      case measure => simp [intOf]; omega
    · go_wp2
      go_ret
      have hkn : k = n := by omega
      subst hkn
      refine ⟨_, rfl, ?_, ?_, hbel⟩
      · rw [HN.out] at hown hfl ⊢
        exact Filled2.reads hown hfl
      · intro b hb
        have := World.ownsRow.lt hown b hb
        simp [Value.ownBlock] at hb
        omega

theorem cloneParams_any (b : Value) (ps : List (ByteArray × ByteArray)) (w : World) (hb : RP w b ps) (hx : ps.length ≤ 1048576) :
    Calls Try.prog 8 #[b] w fun e w' => ∃ v, e = .returned v ∧ RP w' v ps ∧ Loc v w.heap.size w'.heap.size ∧ Below w.heap.size w w' := by
  have hb' := hb
  obtain ⟨ad, cap, rfl, hc⟩ := hb
  cases ad with
  | some ad => exact cloneParams_some ad cap ps w hb' hx
  | none =>
    have h0 : ps = [] := by
      cases ps with
      | nil => rfl
      | cons c r =>
        obtain ⟨b, off, e, _⟩ := hc 0 c rfl
        cases e
    subst h0
    have hnil := eql_none 23 36 Try.underlying23 0 cap
    go_enter Try.func8, Try.ntmps8
    go_wp2
    go_ret
    exact ⟨_, rfl, ⟨none, 0, rfl, fun i p hi => by simp at hi⟩, fun k hk => by simp [Value.ownBlock] at hk, Below.refl _ _⟩

end Go.Proofs.Qxb6601522a
