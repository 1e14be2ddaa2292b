/-
  THE WALK over the law FnChildNamesOrderAndRepeatsFree (4). By an AI agent.
-/
import Derived.Test.Qxb6600808aKids
namespace Go.Proofs.Qxb6600808a
open Go.RowKit

theorem Srt.pairwise {R : List ByteArray} (h : Srt R) : R.Pairwise (fun a b => a.data.toList < b.data.toList) :=
  List.pairwise_iff_getElem.2 fun i j hi hj hij => h i j _ _ (List.getElem?_eq_getElem hi) (List.getElem?_eq_getElem hj) hij

theorem Srt.nodup {R : List ByteArray} (h : Srt R) : R.Nodup :=
  h.pairwise.imp fun hlt e => by rw [e] at hlt; exact List.lt_irrefl _ hlt

/-- Two strictly increasing lists with the same members are one. -/
theorem srt_unique {R S : List ByteArray} (hR : Srt R) (hS : Srt S) (h : ∀ s, s ∈ R ↔ s ∈ S) : R = S :=
  List.Perm.eq_of_pairwise (le := fun a b : ByteArray => a.data.toList < b.data.toList) (fun _ _ _ _ h1 h2 => absurd (List.lt_trans h1 h2) (List.lt_irrefl _)) hR.pairwise hS.pairwise
    ((List.perm_ext_iff_of_nodup hR.nodup hS.nodup).2 h)

theorem kids_unique {R S xs ys : List ByteArray} (hR : Kids R xs) (hS : Kids S ys) (h : ∀ s, s ∈ xs ↔ s ∈ ys) : R = S :=
  srt_unique hR.srt hS.srt fun s => by rw [hR.mem, hS.mem, h]

theorem small_mem {xs : List ByteArray} (h : Small xs xs.length) : ∀ s ∈ xs, s.size ≤ 1048576 := fun s hs => by
  obtain ⟨i, hi, rfl⟩ := List.mem_iff_getElem.1 hs
  exact h i _ hi (List.getElem?_eq_getElem hi)

/-- append of one string onto a slice of ours, in the walk: the string lies in a block of its own. -/
theorem wpList_str1 {w : World} {base : Nat} {ops : Array Oper} {rest : List Oper} {o : Oper} {a : Act} {Q : Exit → Act → World → Prop} (hgd : o.guard = none) (s x : Operand)
    (ho : o.op = .call { callee := .builtin .append, args := #[s, x], argTypes := #[22, 22] })
    (v : Value) (n : Nat) (xs : List Value) (hown : w.ownsRow base 9 1 v n xs) (hv : a.eval s = v) (c : ByteArray) (hx : a.eval x = .slice (some ⟨w.heap.size, 0, none⟩) 1 1)
    (hn : n ≤ 4294967296) (hbase : base ≤ w.heap.size)
    (h : ∀ v' w', w'.ownsRow base 9 1 v' (n + 1) (xs ++ [.string c]) → Below base w w' → wpList Try.prog ops Q rest (a.put o.dst v') w') : wpList Try.prog ops Q (o :: rest) a (w.alloc (.cells #[.string c] 9)) := by
  obtain ⟨i, hi, hz0, hz1, hz2⟩ := info_parts info9
  refine wpList_append_own _ hgd s x 22 ho base 9 i (.string ⟨#[]⟩) 1 16 Try.underlying22 hi hz0 hz1 hz2 rfl (by decide) v n xs hv (hown.alloc _) ⟨w.heap.size, 0, none⟩ 1 1 [.string c] hx rfl (cell_one_new w (.string c) 9) (fun u hu => by simp at hu; subst hu; rfl) (by unfold maxLen; omega) (by omega) (by simp; omega) ?_
  intro v' w' h1 h2 _
  refine h v' w' h1 ?_
  exact ((Below.refl _ _).alloc hbase _).grown h2 (by simp; omega) (fun j hj => (hown.lt j hj).1)

theorem drop_rev (xs : List ByteArray) {j : Nat} {s : ByteArray} (h : xs[j]? = some s) : ((xs.drop j).reverse.map Value.string) = ((xs.drop (j + 1)).reverse.map Value.string) ++ [.string s] := by
  obtain ⟨hj, e⟩ := List.getElem?_eq_some_iff.1 h
  rw [List.drop_eq_getElem_cons hj, e]
  simp

theorem take_str (xs : List ByteArray) {j : Nat} {s : ByteArray} (h : xs[j]? = some s) : xs.take (j + 1) = xs.take j ++ [s] := by
  obtain ⟨hj, e⟩ := List.getElem?_eq_some_iff.1 h
  rw [List.take_succ_eq_append_getElem hj, e]

set_option maxRecDepth 100000 in
set_option maxHeartbeats 1000000 in
theorem order_any (v : Value) (xs : List ByteArray) (w : World) (hv : RS w v xs) :
    Calls Try.prog 4 #[v] w fun e w' => e = .returned (.bool true) ∧ Below w.heap.size w w' := by
  obtain ⟨i0, hi, hz0, hz1, hz2⟩ := info_parts info9
  have HI := hideH (And.intro hi (And.intro hz0 (And.intro hz1 hz2)))
  clear hi hz0 hz1 hz2
  have HV := hideH hv
  obtain ⟨ad, cap, rfl, hc⟩ := hv
  clear hc
  obtain ⟨n, hn⟩ : ∃ n, n = xs.length := ⟨_, rfl⟩
  have HN := hideH hn
  rw [← hn] at HV ⊢
  clear hn
  go_enter Try.func4, Try.ntmps4
  go_wp2_with fail
  refine (bytesOrd_any _ xs _ HV.out).mono ?_
  rintro e w' ⟨b, rfl, hsm, n1, rfl⟩
  cases b
  · clear hsm
    go_wp2_with fail
    go_ret
    exact ⟨rfl, below_drewN (Below.refl _ _) _⟩
  have HSM := hideH (hsm rfl)
  clear hsm
  go_wp2_with fail
  · go_ret
    exact ⟨rfl, below_drewN (Below.refl _ _) _⟩
  have hn16 : n ≤ 65536 := by omega
  go_loopw [3, 4] (fun z i wr => ∃ (k q : Nat) (zz : Int), k ≤ n ∧ z = .int .i64 zz ∧ i = .int .i64 k ∧ wr = w.drewN q) (fun _ i _ => n - (intOf i).toNat)
  case atStart => exact ⟨0, _, _, Nat.zero_le _, rfl, rfl, rfl⟩
  case round =>
    obtain ⟨k, q, zz, hk, rfl, rfl, rfl⟩ := hrel
    by_cases hlt : k < n
    · obtain ⟨s, hp⟩ : ∃ p, xs[k]? = some p := ⟨_, List.getElem?_eq_getElem (by rw [← HN.out]; exact hlt)⟩
      obtain ⟨b1, o1, rfl, h1⟩ := HV.out.item hp
      have hlt' : (k : Int) < (n : Int) := by omega
      clear hp
      go_wp2
      · go_ret
        exact ⟨rfl, below_drewN (Below.refl _ _) _⟩
      · go_roundw
        case rel => exact ⟨k + 1, q, _, by omega, rfl, by go_num, rfl⟩
        case measure => simp [intOf]; omega
    · have HX : Hid (xs.length ≤ 1048576) := HSM.out.1
      have HM := hideH (small_mem HSM.out.2)
      go_wp2_with fail
      refine (copyNames_any _ xs (w.drewN q) HV.out HX.out).mono ?_
      rintro e W1 ⟨v1, rfl, hR, hL, hB⟩
      have HR1 := hideH hR
      have HL1 : Hid (Loc v1 w.heap.size W1.heap.size) := hL
      have HB1 : Hid (Below w.heap.size w W1) := (below_drewN (Below.refl _ _) q).trans hB
      have HZ1 : Hid (w.heap.size ≤ W1.heap.size) := hB.size
      clear hR hL hB HSM HV hlt hk
      have hsh := HR1.out
      obtain ⟨ad1, cap1, e, hcc⟩ := hsh
      subst e
      clear hcc
      rw [← HN.out] at HR1 HL1 ⊢
      have hi := HI.out.1
      have hz0 := HI.out.2.1
      have hz1 := HI.out.2.2.1
      have hz2 := HI.out.2.2.2
      go_wp2_with (at_make; refine wpList_make_own _ rfl _ _ 22 rfl W1.heap.size 9 i0 (.string ⟨#[]⟩) 1 Try.underlying22 hi hz0 hz1 _ _ _ (2 * n) rfl rfl (by omega) (by rw [hz2]; omega) (by unfold maxLen; omega) (Nat.le_refl _) ?_; intro W2 hrow hg; have HRow := hideH hrow; have HB2 := hideH ((Below.refl W1.heap.size W1).grown hg (Nat.le_refl _) (fun j hj => by cases hj)); clear hrow hg hi hz0 hz1 hz2)
      go_loopw [5, 6] (fun u i wr => ∃ k : Nat, k ≤ n ∧ i = .int .i64 ((k : Int) - 1) ∧ Hid (wr.ownsRow W1.heap.size 9 1 u (n - k) ((xs.drop k).reverse.map Value.string)) ∧ Hid (Below W1.heap.size W1 wr)) (fun _ i _ => (intOf i + 1).toNat)
      case atStart =>
        refine ⟨n, Nat.le_refl _, rfl, ?_, HB2.out⟩
        show W2.ownsRow _ _ _ _ _ _
        rw [List.drop_eq_nil_of_le (by rw [← HN.out]; exact Nat.le_refl _), Nat.sub_self]
        exact HRow.out
      case round =>
        clear HRow HB2
        obtain ⟨k2, hk2, rfl, HO, HB⟩ := hrel
        by_cases hlt : 0 < k2
        · obtain ⟨j, rfl⟩ : ∃ j, k2 = j + 1 := ⟨k2 - 1, by omega⟩
          obtain ⟨s, hp⟩ : ∃ p, xs[j]? = some p := ⟨_, List.getElem?_eq_getElem (by rw [← HN.out]; omega)⟩
          obtain ⟨b1, o1, e1, h1⟩ := (HR1.out.below HB.out).item hp
          subst e1
          have HD := hideH (drop_rev xs hp)
          have HS : Hid (W1.heap.size ≤ wr.heap.size) := HB.out.size
          have hlt' : (j : Int) < (n : Int) := by omega
          clear hp
          go_wp2_with (at_builtin; refine wpList_str1 (w := wr) (base := W1.heap.size) rfl (.tmp 48) (.tmp 53) rfl _ _ _ HO.out rfl s rfl (by omega) HS.out ?_; intro x2 y2 ho2 hb2; have HO2 := hideH ho2; have HB3 := hideH (HB.out.trans hb2); clear ho2 hb2)
          go_roundw
          case rel =>
            refine ⟨j, by omega, by go_num, ?_, HB3.out⟩
            show World.ownsRow _ _ _ _ _ _ _
            rw [HD.out, show n - j = n - (j + 1) + 1 by omega]
            exact HO2.out
          case measure => simp [intOf]
        · have HO3 : Hid (wr.ownsRow W1.heap.size 9 1 u5 n (xs.reverse.map Value.string)) := by
            have e : k2 = 0 := by omega
            have h2 := HO.out
            rw [e] at h2
            exact h2
          clear HO
          go_wp2_with fail
          go_loopw [5, 7] (fun u i wr => ∃ k : Nat, k ≤ n ∧ i = .int .i64 k ∧ Hid (wr.ownsRow W1.heap.size 9 1 u (n + k) ((xs.reverse ++ xs.take k).map Value.string)) ∧ Hid (Below W1.heap.size W1 wr)) (fun _ i _ => n - (intOf i).toNat)
          case atStart => exact ⟨0, Nat.zero_le _, rfl, by show World.ownsRow _ _ _ _ _ _ _; simpa using HO3.out, HB.out⟩
          case round =>
            clear HO3 HB
            obtain ⟨k3, hk3, rfl, HO, HB⟩ := hrel
            by_cases hlt : k3 < n
            · obtain ⟨s, hp⟩ : ∃ p, xs[k3]? = some p := ⟨_, List.getElem?_eq_getElem (by rw [← HN.out]; omega)⟩
              obtain ⟨b1, o1, e1, h1⟩ := (HR1.out.below HB.out).item hp
              subst e1
              have HD := hideH (take_str xs hp)
              have HS : Hid (W1.heap.size ≤ wr.heap.size) := HB.out.size
              have hlt' : (k3 : Int) < (n : Int) := by omega
              clear hp
              go_wp2_with (at_builtin; refine wpList_str1 (w := wr) (base := W1.heap.size) rfl (.tmp 61) (.tmp 66) rfl _ _ _ HO.out rfl s rfl (by omega) HS.out ?_; intro x2 y2 ho2 hb2; have HO2 := hideH ho2; have HB3 := hideH (HB.out.trans hb2); clear ho2 hb2)
              go_roundw
              case rel =>
                refine ⟨k3 + 1, by omega, by go_num, ?_, HB3.out⟩
                show World.ownsRow _ _ _ _ _ _ _
                have h2 := HO2.out
                rw [HD.out, ← List.append_assoc, List.map_append]
                exact h2
              case measure => simp [intOf]; omega
            · obtain ⟨O, hO⟩ : ∃ O, O = xs.reverse ++ xs := ⟨_, rfl⟩
              have HRo : Hid (RS wr u5 O) := by
                have h2 := HO.out
                have e : k3 = n := by omega
                rw [e, List.take_of_length_le (by rw [← HN.out]; exact Nat.le_refl _), ← hO] at h2
                refine rs_of_row (base := W1.heap.size) ?_
                rw [show O.length = n + n by rw [hO, List.length_append, List.length_reverse, ← HN.out]]
                exact h2
              have HOm : Hid (∀ s, s ∈ xs ↔ s ∈ O) := fun s => by rw [hO]; simp
              have HOl : Hid (O.length ≤ 4194304) := by show _ ≤ _; rw [hO, List.length_append, List.length_reverse, ← HN.out]; omega
              have HOz : Hid (∀ s ∈ O, s.size ≤ 1048576) := fun s hs => HM.out s ((HOm.out s).2 hs)
              have HXl : Hid (xs.length ≤ 4194304) := by rw [← HN.out]; show _ ≤ _; omega
              have HRv := hideH (HR1.out.below HB.out)
              have HBw : Hid (Below w.heap.size w wr) := HB1.out.trans (HB.out.mono HZ1.out)
              clear hO HO HB HR1 HB1 HL1
              go_wp2_with fail
              refine (node_any _ xs wr HRv.out HXl.out HM.out).mono ?_
              rintro e Wa ⟨rfl, hN, hB⟩
              have HNa := hideH hN
              have HRa := hideH (HRo.out.below hB)
              have HBa : Hid (Below w.heap.size w Wa) := HBw.out.trans (hB.mono HBw.out.size)
              clear hN hB HRo HBw HRv
              go_wp2_with fail
              refine (door_any wr.heap.size xs Wa HNa.out HXl.out).mono ?_
              rintro e Wb ⟨g1, c1, R1, rfl, hK, hR, hL, hB⟩
              have HK1 := hideH hK
              have HA1 := hideH hR
              have HRb := hideH (HRa.out.below hB)
              have HBb : Hid (Below w.heap.size w Wb) := HBa.out.trans (hB.mono HBa.out.size)
              clear hK hR hL hB HNa HRa HBa
              go_wp2_with fail
              refine (node_any _ O Wb HRb.out HOl.out HOz.out).mono ?_
              rintro e Wc ⟨rfl, hN, hB⟩
              have HNc := hideH hN
              have HA2 := hideH (HA1.out.below hB)
              have HBc : Hid (Below w.heap.size w Wc) := HBb.out.trans (hB.mono HBb.out.size)
              clear hN hB HA1 HRb HBb
              go_wp2_with fail
              refine (door_any Wb.heap.size O Wc HNc.out HOl.out).mono ?_
              rintro e Wd ⟨g2, c2, R2, rfl, hK, hR, hL, hB⟩
              have hE : R1 = R2 := kids_unique HK1.out hK HOm.out
              have HB2 := hideH hR
              have HA3 := hideH (HA2.out.below hB)
              have HBd : Hid (Below w.heap.size w Wd) := HBc.out.trans (hB.mono HBc.out.size)
              have HRl : Hid (R1.length ≤ 1048576) := by have := HK1.out.len; have := HN.out; show _ ≤ _; omega
              subst hE
              clear hK hR hL hB HNc HA2 HBc HK1 HOm HOl HOz
              obtain ⟨m, hm⟩ : ∃ m, m = R1.length := ⟨_, rfl⟩
              have HMM := hideH hm
              have hmb : m ≤ 1048576 := by rw [hm]; exact HRl.out
              rw [← hm] at HB2 HA3 ⊢
              clear hm
              go_wp2_with fail
              go_loopw [10] (fun i wr => ∃ k q : Nat, k ≤ m ∧ i = .int .i64 k ∧ wr = Wd.drewN q) (fun i _ => m - (intOf i).toNat)
              case atStart => exact ⟨0, 0, Nat.zero_le _, rfl, rfl⟩
              case round =>
                obtain ⟨k4, q4, hk4, rfl, rfl⟩ := hrel
                by_cases hlt4 : k4 < m
                · obtain ⟨s, hp⟩ : ∃ p, R1[k4]? = some p := ⟨_, List.getElem?_eq_getElem (by rw [← HMM.out]; exact hlt4)⟩
                  obtain ⟨b1, o1, e1, h1⟩ := HA3.out.item hp
                  obtain ⟨b2, o2, e2, h2⟩ := HB2.out.item hp
                  cases e1
                  cases e2
                  rw [Nat.zero_add] at h1 h2
                  have hlt' : (k4 : Int) < (m : Int) := by omega
                  clear hp
                  go_wp2_with fail
                  go_quiet (fail)
                  go_wp2
                  go_roundw
                  case rel => exact ⟨k4 + 1, _, by omega, by go_num, rfl⟩
                  case measure => simp [intOf]; omega
                · go_wp2
                  go_ret
                  exact ⟨rfl, below_drewN HBd.out _⟩

end Go.Proofs.Qxb6600808a
