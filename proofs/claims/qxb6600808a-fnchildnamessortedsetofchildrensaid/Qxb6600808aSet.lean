/-
  THE WALK over the law FnChildNamesSortedSetOfChildren (3). By an AI agent.
-/
import Derived.Test.Qxb6600808aKids
namespace Go.Proofs.Qxb6600808a
open Go.RowKit

theorem info4 : (Try.prog.info? 4).map (fun i => (i.zero, i.size, i.bytes)) = some (some (.bool false), 1, 1) := by kernel_rfl

theorem small_mem' {xs : List ByteArray} (h : Small xs xs.length) : ∀ s ∈ xs, s.size ≤ 1048576 := fun s hs => by
  obtain ⟨i, hi, rfl⟩ := List.mem_iff_getElem.1 hs
  exact h i _ hi (List.getElem?_eq_getElem hi)

theorem Srt.next {R : List ByteArray} (h : Srt R) {k : Nat} {a b : ByteArray} (ha : R[k]? = some a) (hb : R[k + 1]? = some b) : Op.bytesLess a.toList b.toList = true := by
  rw [less_is, decide_eq_true_eq]
  exact h k (k + 1) a b ha hb (Nat.lt_succ_self _)

/-- Of the flags zs those of the first k names are set. -/
def Seen (zs : List Value) (R xs : List ByteArray) (k : Nat) : Prop := ∀ (j i : Nat) (s : ByteArray), i < k → xs[i]? = some s → R[j]? = some s → zs[j]? = some (.bool true)

theorem Seen.step {zs : List Value} {R xs : List ByteArray} {k p : Nat} {s : ByteArray} (h : Seen zs R xs k) (hS : Srt R) (hs : xs[k]? = some s) (hp : R[p]? = some s) (hl : p < zs.length) : Seen (zs.set p (.bool true)) R xs (k + 1) := by
  intro j i t hi ht hj
  by_cases e : j = p
  · subst e
    simp [hl]
  · rw [List.getElem?_set_ne (by omega)]
    by_cases e2 : i = k
    · subst e2
      rw [hs] at ht
      cases ht
      rcases Nat.lt_trichotomy j p with h1 | h1 | h1
      · exact absurd (hS j p _ _ hj hp h1) (List.lt_irrefl _)
      · exact absurd h1 e
      · exact absurd (hS p j _ _ hp hj h1) (List.lt_irrefl _)
    · exact h j i t (by omega) ht hj

theorem Seen.all {zs : List Value} {R xs : List ByteArray} {k : Nat} (h : Seen zs R xs k) (hk : xs.length ≤ k) (hK : Kids R xs) {j : Nat} (hj : j < R.length) : zs[j]? = some (.bool true) := by
  have hm := (hK.mem R[j]).1 (List.getElem_mem _)
  obtain ⟨i, hi, e⟩ := List.mem_iff_getElem.1 hm
  exact h j i R[j] (by omega) (by rw [List.getElem?_eq_getElem hi, e]) (List.getElem?_eq_getElem hj)

set_option maxRecDepth 100000 in
set_option maxHeartbeats 1000000 in
theorem set_any (v : Value) (xs : List ByteArray) (w : World) (hv : RS w v xs) :
    Calls Try.prog 3 #[v] w fun e w' => e = .returned (.bool true) ∧ Below w.heap.size w w' := by
  obtain ⟨i0, hi, hz0, hz1, hz2⟩ := info_parts info4
  have HI := hideH (And.intro hi (And.intro hz0 (And.intro hz1 hz2)))
  clear hi hz0 hz1 hz2
  have HV := hideH hv
  obtain ⟨ad, cap, rfl, hc⟩ := hv
  clear hc
  obtain ⟨n, hn⟩ : ∃ n, n = xs.length := ⟨_, rfl⟩
  have HN := hideH hn
  rw [← hn] at HV ⊢
  clear hn
  go_enter Try.func3, Try.ntmps3
  go_wp2_with fail
  refine (bytesSet_any _ xs _ HV.out).mono ?_
  rintro e w' ⟨b, rfl, hsm, n1, rfl⟩
  cases b
  · clear hsm
    go_wp2_with fail
    go_ret
    exact ⟨rfl, below_drewN (Below.refl _ _) _⟩
  have HSM := hideH (hsm rfl)
  clear hsm
  go_wp2_with fail
  · go_ret
    exact ⟨rfl, below_drewN (Below.refl _ _) _⟩
  have hn16 : n ≤ 65536 := by omega
  go_loopw [3, 4] (fun z i wr => ∃ (k q : Nat) (zz : Int), k ≤ n ∧ z = .int .i64 zz ∧ i = .int .i64 k ∧ wr = w.drewN q) (fun _ i _ => n - (intOf i).toNat)
  case atStart => exact ⟨0, _, _, Nat.zero_le _, rfl, rfl, rfl⟩
  case round =>
    obtain ⟨k, q, zz, hk, rfl, rfl, rfl⟩ := hrel
    by_cases hlt : k < n
    · obtain ⟨s, hp⟩ : ∃ p, xs[k]? = some p := ⟨_, List.getElem?_eq_getElem (by rw [← HN.out]; exact hlt)⟩
      obtain ⟨b1, o1, rfl, h1⟩ := HV.out.item hp
      have hlt' : (k : Int) < (n : Int) := by omega
      clear hp
      go_wp2
      · go_ret
        exact ⟨rfl, below_drewN (Below.refl _ _) _⟩
      · go_roundw
        case rel => exact ⟨k + 1, q, _, by omega, rfl, by go_num, rfl⟩
        case measure => simp [intOf]; omega
    · have HX : Hid (xs.length ≤ 1048576) := HSM.out.1
      have HM := hideH (small_mem' HSM.out.2)
      go_wp2_with fail
      refine (copyNames_any _ xs (w.drewN q) HV.out HX.out).mono ?_
      rintro e W1 ⟨v1, rfl, hR, hL, hB⟩
      have HR1 := hideH hR
      have HB1 : Hid (Below w.heap.size w W1) := (below_drewN (Below.refl _ _) q).trans hB
      have HXl : Hid (xs.length ≤ 4194304) := by rw [← HN.out]; show _ ≤ _; omega
      clear hR hL hB HSM HV hlt hk
      have hsh := HR1.out
      obtain ⟨ad1, cap1, e, hcc⟩ := hsh
      subst e
      clear hcc
      rw [← HN.out] at HR1 ⊢
      go_wp2_with fail
      refine (node_any _ xs W1 HR1.out HXl.out HM.out).mono ?_
      rintro e Wa ⟨rfl, hN, hB⟩
      have HNa := hideH hN
      have HRa := hideH (HR1.out.below hB)
      have HBa : Hid (Below w.heap.size w Wa) := HB1.out.trans (hB.mono HB1.out.size)
      clear hN hB HR1 HB1
      go_wp2_with fail
      refine (door_any W1.heap.size xs Wa HNa.out HXl.out).mono ?_
      rintro e Wb ⟨g1, c1, R, rfl, hK, hR, hL, hB⟩
      have HK := hideH hK
      have HA := hideH hR
      have HRb := hideH (HRa.out.below hB)
      have HBb : Hid (Below w.heap.size w Wb) := HBa.out.trans (hB.mono HBa.out.size)
      clear hK hR hL hB HNa HRa HBa
      obtain ⟨m, hm⟩ : ∃ m, m = R.length := ⟨_, rfl⟩
      have HMM := hideH hm
      have hmn : m ≤ n := by have := HK.out.len; have := HN.out; omega
      rw [← hm] at HA ⊢
      clear hm
      have hnil := eql_some 22 9 Try.underlying22 ⟨g1, 0, none⟩ m c1
      go_wp2_with fail
      clear hnil
      go_loopw [6] (fun i wr => ∃ k q : Nat, (k ≤ m ∨ k = 1) ∧ 1 ≤ k ∧ i = .int .i64 k ∧ wr = Wb.drewN q) (fun i _ => m - (intOf i).toNat)
      case atStart => exact ⟨1, 0, Or.inr rfl, Nat.le_refl _, rfl, rfl⟩
      case round =>
        obtain ⟨k2, q2, hk2, hk1, rfl, rfl⟩ := hrel
        by_cases hlt2 : k2 < m
        · obtain ⟨k, rfl⟩ : ∃ k, k2 = k + 1 := ⟨k2 - 1, by omega⟩
          obtain ⟨s, hp⟩ : ∃ p, R[k]? = some p := ⟨_, List.getElem?_eq_getElem (by rw [← HMM.out]; omega)⟩
          obtain ⟨t, hq⟩ : ∃ p, R[k + 1]? = some p := ⟨_, List.getElem?_eq_getElem (by rw [← HMM.out]; omega)⟩
          obtain ⟨b1, o1, e1, h1⟩ := HA.out.item hp
          obtain ⟨b2, o2, e2, h2⟩ := HA.out.item hq
          cases e1
          cases e2
          rw [Nat.zero_add] at h1 h2
          have hl := HK.out.srt.next hp hq
          have hlt' : (k : Int) < (m : Int) := by omega
          have hlt'' : (k : Int) + 1 < (m : Int) := by omega
          clear hp hq
          go_wp2_with fail
          go_quiet (fail)
          go_wp2
          go_roundw
          case rel => exact ⟨k + 1 + 1, _, by omega, by omega, by go_num, rfl⟩
          case measure => simp [intOf]; omega
        · have hi := HI.out.1
          have hz0 := HI.out.2.1
          have hz1 := HI.out.2.2.1
          have hz2 := HI.out.2.2.2
          have HAq : Hid (RS (Wb.drewN q2) (.slice (some ⟨g1, 0, none⟩) m c1) R) := HA.out
          have HRq : Hid (RS (Wb.drewN q2) (.slice ad1 n cap1) xs) := HRb.out
          have HBq : Hid (Below w.heap.size w (Wb.drewN q2)) := below_drewN HBb.out _
          obtain ⟨Wc, hWc⟩ : ∃ Wc, Wc = Wb.drewN q2 := ⟨_, rfl⟩
          rw [← hWc] at HAq HRq HBq ⊢
          clear hWc HA HRb HBb
          go_wp2_with (at_make; refine wpList_make_row rfl (.tmp 65) (.tmp 65) 28 rfl 4 i0 (.bool false) 1 Try.underlying28 hi hz0 hz1 _ _ m m rfl rfl rfl rfl (Nat.le_refl _) (by rw [hz2]; omega) (by unfold maxLen; omega) ?_; intro W2 zs hown hbel hsz; have HO := hideH hown; have HB := hideH hbel; clear hi hz0 hz1 hz2 hown hbel hsz)
          go_loopw [8, 9] (fun i _x wr => ∃ (k : Nat) (zs : List Value), k ≤ n ∧ i = .int .i64 k ∧ Hid (wr.ownsRow Wc.heap.size 4 1 (.slice (some ⟨Wc.heap.size, 0, none⟩) m m) m zs) ∧ Hid (Seen zs R xs k) ∧ Hid (Below Wc.heap.size Wc wr)) (fun i _ _ => n - (intOf i).toNat)
          case atStart => exact ⟨0, zs, Nat.zero_le _, rfl, HO.out, (fun j i s h => by omega), HB.out⟩
          case round =>
            clear HO HB
            obtain ⟨k3, ys, hk3, rfl, HO, HS, HB⟩ := hrel
            by_cases hlt3 : k3 < n
            · obtain ⟨s, hp⟩ : ∃ p, xs[k3]? = some p := ⟨_, List.getElem?_eq_getElem (by rw [← HN.out]; omega)⟩
              obtain ⟨b1, o1, e1, h1⟩ := (HRq.out.below HB.out).item hp
              subst e1
              obtain ⟨p, hq⟩ : ∃ p, R[p]? = some s := List.mem_iff_getElem?.1 ((HK.out.mem s).2 (List.mem_of_getElem? hp))
              have hpm : p < m := by rw [HMM.out]; exact (List.getElem?_eq_some_iff.1 hq).1
              have hyl : ys.length = m := by simpa using HO.out.1
              have HQ := hideH hq
              have HS2 := hideH (HS.out.step HK.out.srt hp hq (by omega))
              have HA2 := hideH (HAq.out.below HB.out)
              have HRl : Hid (R.length ≤ 1048576) := by rw [← HMM.out]; show _ ≤ _; omega
              have hlt' : (k3 : Int) < (n : Int) := by omega
              clear hp hq
              go_wp2_with fail
              refine (index_any _ R s wr HA2.out HRl.out HK.out.srt p HQ.out).mono ?_
              rintro e W4 ⟨rfl, q4, hW4⟩
              have HO4 : Hid (W4.ownsRow Wc.heap.size 4 1 (.slice (some ⟨Wc.heap.size, 0, none⟩) m m) m ys) := by rw [hW4]; exact HO.out
              have HB4 : Hid (Below Wc.heap.size Wc W4) := by rw [hW4]; exact below_drewN HB.out _
              clear hW4 h1 HA2
              obtain ⟨z, hz⟩ : ∃ z, W4.cell? ⟨Wc.heap.size, p, none⟩ = some z := by
                rw [HO4.out.cellAt p (by omega)]; exact ⟨_, List.getElem?_eq_getElem (by omega)⟩
              have hf := HO4.out.frozenAt p
              have HR5 := hideH (row_stored HO4.out HB4.out p (.bool true))
              have hpm' : (p : Int) < (m : Int) := by omega
              clear HO4 HB4 HO HB HS
              go_wp2
              go_roundw
              case rel => exact ⟨k3 + 1, _, by omega, by go_num, HR5.out.1, HS2.out, HR5.out.2⟩
              case measure => simp [intOf]; omega
            · have HAll : Hid (∀ j, j < m → wr.cell? ⟨Wc.heap.size, j, none⟩ = some (.bool true)) := fun j hj => by
                have hyl : ys.length = m := by simpa using HO.out.1
                rw [HO.out.cellAt j (by omega)]
                exact HS.out.all (by rw [← HN.out]; omega) HK.out (by rw [← HMM.out]; exact hj)
              have HBz : Hid (Below w.heap.size w wr) := HBq.out.trans (HB.out.mono HBq.out.size)
              clear HO HS HB
              go_wp2_with fail
              go_loopw [10] (fun i w5 => ∃ k : Nat, k ≤ m ∧ i = .int .i64 k ∧ w5 = wr) (fun i _ => m - (intOf i).toNat)
              case atStart => exact ⟨0, Nat.zero_le _, rfl, rfl⟩
              case round =>
                obtain ⟨k4, hk4, rfl, rfl⟩ := hrel
                by_cases hlt4 : k4 < m
                · have h1 := HAll.out k4 hlt4
                  have hlt' : (k4 : Int) < (m : Int) := by omega
                  go_wp2
                  go_roundw
                  case rel => exact ⟨k4 + 1, by omega, by go_num, trivial⟩
                  case measure => simp [intOf]; omega
                · go_wp2
                  go_ret
                  exact ⟨rfl, HBz.out⟩

end Go.Proofs.Qxb6600808a
