/-
  THE WALK over the law FnVssStringToSignKeepsDst (4), inside its own guard. By an AI agent.
-/
import Derived.Test.Qxb6601522aKeeps
namespace Go.Proofs.Qxb6601522a
open Go.RowKit

theorem Loc.ne {u v : Value} {a b c d : Nat} (hu : Loc u a b) (hv : Loc v c d) (h : b ≤ c ∨ d ≤ a) : ∀ k, u.ownBlock = some k → v.ownBlock ≠ some k := fun k e1 e2 => by
  have := hu k e1
  have := hv k e2
  omega

theorem App.loc {w w' : World} {v v' : Value} {size lo : Nat} (h : App size w v w' v') (hv : ∀ k, v.ownBlock = some k → lo ≤ k) (hlo : lo ≤ w.heap.size) : Loc v' lo w'.heap.size := fun k hk => by
  have h1 := h.inb' k hk
  rcases h.place k hk with h2 | h2
  · exact ⟨hv k h2, h1⟩
  · exact ⟨by omega, h1⟩

theorem RB.item {w : World} {ad : Option Addr} {n cap k : Nat} {xs : List UInt8} {c : UInt8} (h : RB w (.slice ad n cap) xs) (hc : xs[k]? = some c) :
    ∃ b off, ad = some ⟨b, off, none⟩ ∧ w.cell? ⟨b, off + k, none⟩ = some (.int .u8 c.toNat) := by
  obtain ⟨ad', cap', e, hcc⟩ := h
  cases e
  exact hcc k c hc

theorem ret_true {b : Bool} (h : b = true) : Ending.returned (.bool b) = .returned (.bool true) := by rw [h]

theorem nil_none : ∀ k, (Value.slice none 0 0).ownBlock = some k → False := fun k hk => by simp [Value.ownBlock] at hk

/-- What the string to sign is, with nothing ahead of it. -/
def sts (m h p : ByteArray) (ps : List (ByteArray × ByteArray)) : List UInt8 := bs m ++ bs h ++ bs p ++ [63] ++ tl true ps

theorem sts_length (m h p : ByteArray) (ps : List (ByteArray × ByteArray)) : (sts m h p ps).length + (if ps.isEmpty then 0 else 1) = m.size + h.size + p.size + 1 + psum ps + 2 * ps.length := by
  have h1 := tl_length true ps
  have e1 := bs_length m
  have e2 := bs_length h
  have e3 := bs_length p
  unfold sts
  simp only [List.length_append, List.length_singleton, e1, e2, e3]
  cases hp : ps.isEmpty <;> simp [hp] at h1 ⊢ <;> omega

set_option maxRecDepth 100000 in
set_option maxHeartbeats 1000000 in
theorem keeps_in (dst : Value) (xs : List UInt8) (r : Nat) (m h p : ByteArray) (s : Value) (ps : List (ByteArray × ByteArray)) (w : World) (hd : RB w dst xs) (hs : RP w s ps)
    (b1 : xs.length ≤ 1048576) (b2 : m.size ≤ 1048576) (b3 : h.size ≤ 1048576) (b4 : p.size ≤ 1048576) (b5 : ps.length ≤ 1048576) (b6 : r ≤ 65536) :
    Calls Try.prog 4 #[dst, .int .i64 r, .string m, .string h, .string p, s] w fun e w' => e = .returned (.bool true) ∧ Below w.heap.size w w' := by
  have HD := hideH hd
  have HS := hideH hs
  obtain ⟨ad, cap, e, hcd⟩ := hd
  subst e
  obtain ⟨ads, caps, e, hcs⟩ := hs
  subst e
  clear hcd hcs
  obtain ⟨nd, hnd⟩ : ∃ n, n = xs.length := ⟨_, rfl⟩
  obtain ⟨ns, hns⟩ : ∃ n, n = ps.length := ⟨_, rfl⟩
  have HND := hideH hnd
  have HNS := hideH hns
  rw [← hnd] at b1 HD
  rw [← hns] at b5 HS
  rw [← hnd, ← hns]
  clear hnd hns
  go_enter Try.func4, Try.ntmps4
  go_wp2_with fail
  refine (bytesKeeps_any _ _ _ _ _ _ _ _ ps _ HS.out).mono ?_
  rintro e w' ⟨b, rfl, hsm, n, rfl⟩
  cases b
  · clear hsm
    go_wp2_with fail
    go_ret
    exact ⟨rfl, below_drewN (Below.refl _ _) _⟩
  have HSM := hideH (hsm rfl)
  clear hsm
  go_wp2_with fail
  refine (within_int ((nd : Int) + r + m.size + h.size + p.size) _ ps (w.drewN n) (HS.out.drewN n) (by omega) (by omega) (by rw [← HNS.out]; exact b5) HSM.out).mono ?_
  rintro e W0 ⟨b, rfl, hwi, n2, hw1⟩
  have HD0 : Hid (RB W0 (.slice ad nd cap) xs) := by rw [hw1]; exact HD.out
  have HS0 : Hid (RP W0 (.slice ads ns caps) ps) := by rw [hw1]; exact HS.out
  have HB0 : Hid (Below w.heap.size w W0) := by rw [hw1]; exact below_drewN (below_drewN (Below.refl _ _) _) _
  have HZ0 : Hid (W0.heap.size = w.heap.size) := by rw [hw1]; rfl
  clear hw1 HD HS
  cases b
  · clear hwi
    go_wp2_with fail
    go_ret
    exact ⟨rfl, HB0.out⟩
  have HF : Hid (nd + r + m.size + h.size + p.size + 32 * ps.length + psum ps ≤ 1048576) := by have := hwi rfl; show _ ≤ _; omega
  have HPS : Hid (psum ps ≤ 1048576) := by have := HF.out; show _ ≤ _; omega
  have HLB : Hid (xs.length + m.size + h.size + p.size + 1 + 2 * ps.length + psum ps ≤ 1099511627776) := by
    have := HF.out; have := HND.out; show _ ≤ _; omega
  have HLB0 : Hid (([] : List UInt8).length + m.size + h.size + p.size + 1 + 2 * ps.length + psum ps ≤ 1099511627776) := by
    have := HF.out; show _ ≤ _; simp only [List.length_nil]; omega
  have HN5 : Hid (ps.length ≤ 1048576) := by rw [← HNS.out]; exact b5
  have HX : Hid (xs.length ≤ 1099511627776) := by rw [← HND.out]; show _ ≤ _; omega
  clear hwi HSM
  -- dst = zzCloneBytes(dst)
  go_wp2_with fail
  refine (cloneBytes_any _ xs W0 HD0.out HX.out).mono ?_
  rintro e W1 ⟨d1, rfl, hO1, hL1, hB1⟩
  have HO1 := hideH hO1.reads
  have HL1 := hideH hL1
  have HS1 := hideH (HS0.out.below hB1)
  have HB1 := hideH (HB0.out.trans (hB1.mono (by rw [HZ0.out]; exact Nat.le_refl _)))
  have HZ1 := hideH hB1.size
  clear hO1 hL1 hB1 HD0 HS0
  -- sorted = zzCloneParams(sorted)
  go_wp2_with fail
  refine (cloneParams_any _ ps W1 HS1.out HN5.out).mono ?_
  rintro e W2 ⟨s1, rfl, hR2, hL2, hB2⟩
  have HS2 := hideH hR2
  have HL2 := hideH hL2
  have HO2 := hideH (HO1.out.below hB2)
  have HB2 := hideH (HB1.out.trans (hB2.mono (by have := HZ1.out; have := HZ0.out; omega)))
  have HZ2 := hideH hB2.size
  clear hR2 hL2 hB2 HO1 HS1
  -- keep
  go_wp2_with fail
  refine (cloneBytes_any d1 xs W2 HO2.out HX.out).mono ?_
  rintro e W3 ⟨kp, rfl, hK3, hL3, hB3⟩
  have HK3 := hideH hK3.reads
  have HL3 := hideH hL3
  have HO3 := hideH (HO2.out.below hB3)
  have HS3 := hideH (HS2.out.below hB3)
  have HB3 := hideH (HB2.out.trans (hB3.mono (by have := HZ2.out; have := HZ1.out; have := HZ0.out; omega)))
  have HZ3 := hideH hB3.size
  clear hK3 hL3 hB3 HO2 HS2
  -- buf
  go_wp2_with fail
  refine (cloneRoom_any d1 xs r W3 HO3.out HX.out (by omega)).mono ?_
  rintro e W4 ⟨bf, rfl, hF4, hL4, hB4⟩
  have HF4 := hideH hF4
  have HL4 := hideH hL4
  have HK4 := hideH (HK3.out.below hB4)
  have HS4 := hideH (HS3.out.below hB4)
  have HB4 := hideH (HB3.out.trans (hB4.mono (by have := HZ3.out; have := HZ2.out; have := HZ1.out; have := HZ0.out; omega)))
  have HZ4 := hideH hB4.size
  clear hF4 hL4 hB4 HK3 HS3 HO3
  -- params, alone
  go_wp2_with fail
  refine (toParams_no s1 ps ⟨#[]⟩ ⟨#[]⟩ W4 HS4.out HN5.out).mono ?_
  rintro e W5 ⟨p1, rfl, hP5, hL5, hB5⟩
  have HP5 := hideH hP5
  have HF5 := hideH (HF4.out.below hB5)
  have HK5 := hideH (HK4.out.below hB5)
  have HS5 := hideH (HS4.out.below hB5)
  have HB5 := hideH (HB4.out.trans (hB5.mono (by have := HZ4.out; have := HZ3.out; have := HZ2.out; have := HZ1.out; have := HZ0.out; omega)))
  have HZ5 := hideH hB5.size
  clear hP5 hL5 hB5 HF4 HK4 HS4
  go_wp2_with fail
  refine (door_any (.slice none 0 0) [] h p m p1 ps W5 (World.ownsRow_nil _ _ _ _) HP5.out (fun k _ e => nil_none k e) HLB0.out HN5.out (by have := HPS.out; omega)).mono ?_
  rintro e W6 ⟨al, rfl, hA6, hA⟩
  have hA6' : Own W6 al (sts m h p ps) := by unfold sts; simpa only [List.nil_append] using hA6
  have hB6 : Below W5.heap.size W5 W6 := hA.below (Nat.le_refl _) (fun k e => (nil_none k e).elim)
  have HA6 := hideH hA6'.reads
  have HL6 := hideH (hA.loc (lo := W5.heap.size) (fun k e => (nil_none k e).elim) (Nat.le_refl _))
  have HF6 := hideH (HF5.out.below hB6)
  have HK6 := hideH (HK5.out.below hB6)
  have HS6 := hideH (HS5.out.below hB6)
  have HB6 := hideH (HB5.out.trans (hB6.mono (by have := HZ5.out; have := HZ4.out; have := HZ3.out; have := HZ2.out; have := HZ1.out; have := HZ0.out; omega)))
  have HZ6 := hideH hB6.size
  clear hA6 hA hA6' hB6 HF5 HK5 HS5 HP5
  have HZZ : Hid (w.heap.size ≤ W3.heap.size ∧ W3.heap.size ≤ W4.heap.size ∧ W4.heap.size ≤ W5.heap.size ∧ W5.heap.size ≤ W6.heap.size ∧ W2.heap.size ≤ W3.heap.size) := by
    have := HZ6.out; have := HZ5.out; have := HZ4.out; have := HZ3.out; have := HZ2.out; have := HZ1.out; have := HZ0.out
    exact ⟨by omega, by omega, by omega, by omega, by omega⟩
  clear HZ6 HZ5 HZ4 HZ3 HZ2 HZ1 HZ0 HB0 HB1 HB2 HB3 HB4 HB5
  go_wp2_with fail
  refine (toParams_no s1 ps ⟨#[]⟩ ⟨#[]⟩ W6 HS6.out HN5.out).mono ?_
  rintro e W7 ⟨p2, rfl, hP7, hL7, hB7⟩
  have HP7 := hideH hP7
  have HLP7 := hideH hL7
  have HF7 := hideH (HF6.out.below hB7)
  have HK7 := hideH (HK6.out.below hB7)
  have HS7 := hideH (HS6.out.below hB7)
  have HA7 := hideH (HA6.out.below hB7)
  have HB7 := hideH (HB6.out.trans (hB7.mono (by have := HZZ.out; omega)))
  have HZ7 := hideH hB7.size
  clear hP7 hL7 hB7 HF6 HK6 HS6 HA6 HB6
  go_wp2_with fail
  refine (door_any bf xs h p m p2 ps W7 HF7.out HP7.out (HLP7.out.ne HL4.out (.inr (by have := HZZ.out; omega))) HLB.out HN5.out (by have := HPS.out; omega)).mono ?_
  rintro e W8 ⟨wd, rfl, hA8, hA⟩
  have hA8' : Own W8 wd (xs ++ sts m h p ps) := by unfold sts; simpa only [List.append_assoc] using hA8
  have HW8 := hideH hA8'.reads
  have HLW8 := hideH (hA.loc (lo := W3.heap.size) (fun k e => (HL4.out k e).1) (by have := HZZ.out; have := HZ7.out; omega))
  have HF8 := hideH (HF7.out.old hA)
  have HK8 := hideH (HK7.out.app hA (HL3.out.ne HL4.out (.inl (Nat.le_refl _))))
  have HS8 := hideH (HS7.out.app hA (HL2.out.ne HL4.out (.inl (by have := HZZ.out; omega))))
  have HA8 := hideH (HA7.out.app hA (HL6.out.ne HL4.out (.inr (by have := HZZ.out; omega))))
  have HB8 := hideH (HB7.out.trans (hA.below (by have := HZZ.out; have := HZ7.out; omega) (fun k e => by have := (HL4.out k e).1; have := HZZ.out; omega)))
  have HZ8 := hideH hA.grows
  clear hA8 hA8' hA HF7 HK7 HS7 HA7 HB7 HP7
  -- zzEqual(buf, keep)
  go_wp2_with fail
  refine (equal_same bf kp xs W8 HF8.out HK8.out HX.out).mono ?_
  rintro e w9 ⟨rfl, n9, hw9⟩
  obtain ⟨W9, hW9⟩ : ∃ W9, W9 = w9 := ⟨_, rfl⟩
  rw [← hW9] at hw9 ⊢
  clear hW9
  have HW9 : Hid (RB W9 wd (xs ++ sts m h p ps)) := by rw [hw9]; exact HW8.out
  have HK9 : Hid (RB W9 kp xs) := by rw [hw9]; exact HK8.out
  have HS9 : Hid (RP W9 s1 ps) := by rw [hw9]; exact HS8.out
  have HA9 : Hid (RB W9 al (sts m h p ps)) := by rw [hw9]; exact HA8.out
  have HB9 : Hid (Below w.heap.size w W9) := by rw [hw9]; exact below_drewN HB8.out _
  have HZ9 : Hid (W9.heap.size = W8.heap.size) := by rw [hw9]; rfl
  clear hw9 HW8 HF8 HK8 HS8 HA8 HB8
  -- want
  go_wp2_with fail
  refine (cloneBytes_any kp xs W9 HK9.out HX.out).mono ?_
  rintro e V0 ⟨wt, rfl, hT, hLT, hBT⟩
  have HT0 := hideH hT
  have HLT := hideH hLT
  have HWD := hideH (HW9.out.below hBT)
  have HS10 := hideH (HS9.out.below hBT)
  have HA10 := hideH (HA9.out.below hBT)
  have HZT : Hid (w.heap.size ≤ W9.heap.size ∧ W8.heap.size ≤ W9.heap.size ∧ W6.heap.size ≤ W9.heap.size ∧ W2.heap.size ≤ W9.heap.size) := by
    have := HZ9.out; have := HZ8.out; have := HZ7.out; have := HZZ.out
    exact ⟨by omega, by omega, by omega, by omega⟩
  have HB10 := hideH (HB9.out.trans (hBT.mono HZT.out.1))
  have HV0 : Hid (W9.heap.size ≤ V0.heap.size) := hBT.size
  clear hT hLT hBT HW9 HK9 HS9 HA9 HB9 HZ9 HZ8 HZ7 HZZ HLP7 HL3 HL4
  have HSL := hideH (sts_length m h p ps)
  obtain ⟨A, hA⟩ : ∃ A, A = sts m h p ps := ⟨_, rfl⟩
  rw [← hA] at HWD HA10 HSL
  clear hA
  have HAL : Hid (A.length ≤ 4194304) := by
    have h1 := HSL.out
    have h2 := HF.out
    show _ ≤ _
    split at h1 <;> omega
  have hal := HA10.out
  obtain ⟨ada, capa, e, hca⟩ := hal
  subst e
  clear hca
  obtain ⟨na, hna⟩ : ∃ n, n = A.length := ⟨_, rfl⟩
  have HNA := hideH hna
  have hnab : na ≤ 4194304 := by rw [hna]; exact HAL.out
  rw [← hna] at HA10 HL6 ⊢
  clear hna
  go_wp2_with fail
  go_loopw [17, 18] (fun u i wr => ∃ k : Nat, k ≤ na ∧ i = .int .i64 k ∧ Hid (Own wr u (xs ++ A.take k)) ∧ Hid (App 1 V0 wt wr u)) (fun _ i _ => na - (intOf i).toNat)
  case atStart => exact ⟨0, Nat.zero_le _, rfl, by show Own V0 wt (xs ++ A.take 0); simpa using HT0.out, App.refl HT0.out.inb⟩
  case round =>
    obtain ⟨k, hk, rfl, HO, HAp⟩ := hrel
    by_cases hlt : k < na
    · obtain ⟨c, hc⟩ : ∃ c, A[k]? = some c := ⟨_, List.getElem?_eq_getElem (by rw [← HNA.out]; exact hlt)⟩
      obtain ⟨ba, oa, e1, h1⟩ := (HA10.out.app HAp.out (HL6.out.ne HLT.out (.inl HZT.out.2.2.1))).item hc
      subst e1
      have HTK : Hid (A.take (k + 1) = A.take k ++ [c]) := by
        obtain ⟨hk', e⟩ := List.getElem?_eq_some_iff.1 hc
        show _ = _
        rw [List.take_succ_eq_append_getElem hk', e]
      have HL : Hid ((xs ++ A.take k).length + 1 ≤ 70368744177664) := by
        show _ ≤ _
        have := HX.out
        rw [List.length_append, List.length_take]
        omega
      have hlt' : (k : Int) < (na : Int) := by omega
      clear hc
      go_wp2_with (at_builtin; refine wpList_app1 (w := wr) rfl (.tmp 110) (.tmp 115) rfl u17 _ rfl HO.out c rfl HL.out ?_; intro x2 y2 ho2 ha2; have HO2 := hideH ho2; have HA2 := hideH (HAp.out.trans ha2); clear ho2 ha2)
      go_roundw
      case rel => exact ⟨k + 1, by omega, by go_num, by rw [HTK.out, ← List.append_assoc]; exact HO2.out, HA2.out⟩
      case measure => simp [intOf]; omega
    · have HO3 := hideH HO.out
      rw [List.take_of_length_le (by rw [← HNA.out]; omega)] at HO3
      have HWR := hideH (HWD.out.app HAp.out (HLW8.out.ne HLT.out (.inl HZT.out.2.1)))
      have HSR := hideH (HS10.out.app HAp.out (HL2.out.ne HLT.out (.inl HZT.out.2.2.2)))
      have HBR := hideH (HB10.out.trans (HAp.out.below (by have := HZT.out; have := HV0.out; omega) (fun k e => by have := (HLT.out k e).1; have := HZT.out; omega)))
      have HXA : Hid ((xs ++ A).length ≤ 1099511627776) := by
        show _ ≤ _
        rw [List.length_append]
        have := HAL.out; have := HND.out
        omega
      clear HO HAp HWD HS10 HB10 HT0
      go_wp2_with fail
      refine (equal_same wd _ (xs ++ A) wr HWR.out HO3.out.reads HXA.out).mono ?_
      rintro e w11 ⟨rfl, n11, hw11⟩
      have HS11 : Hid (RP w11 s1 ps) := by rw [hw11]; exact HSR.out
      have HB11 : Hid (Below w.heap.size w w11) := by rw [hw11]; exact below_drewN HBR.out _
      clear hw11 HWR HSR HBR HO3 HXA
      have hs1 := HS11.out
      obtain ⟨adp, capp, e, hcp⟩ := hs1
      subst e
      clear hcp
      rw [← HNS.out] at HS11 ⊢
      go_wp2_with fail
      have HPT := hideH (psum_take_le ps)
      go_loopw [19, 20] (fun t i wr => ∃ k q T : Nat, k ≤ ns ∧ i = .int .i64 k ∧ t = .int .i64 T ∧ Hid (T = m.size + h.size + p.size + 1 + k + psum (ps.take k)) ∧ wr = w11.drewN q) (fun _ i _ => ns - (intOf i).toNat)
      case atStart => exact ⟨0, 0, m.size + h.size + p.size + 1, Nat.zero_le _, rfl, by go_num, by show _ = _; simp [psum], rfl⟩
      case round =>
        obtain ⟨k2, q, T, hk2, rfl, rfl, HT, rfl⟩ := hrel
        have hT : T ≤ 8388608 := by
          have := HT.out; have := HPT.out k2; have := HPS.out
          omega
        by_cases hlt2 : k2 < ns
        · obtain ⟨⟨t1, t2⟩, hp⟩ : ∃ p, ps[k2]? = some p := ⟨_, List.getElem?_eq_getElem (by rw [← HNS.out]; exact hlt2)⟩
          obtain ⟨bp, op, e1, c1, c2⟩ := HS11.out.item hp
          subst e1
          have HP := hideH (psum_take hp)
          have hps : t1.size + t2.size ≤ 1048576 := by
            have h1 := HPT.out (k2 + 1)
            have h2 := HPS.out
            rw [HP.out] at h1
            simp only at h1
            omega
          have hlt2' : (k2 : Int) < (ns : Int) := by omega
          clear hp
          go_wp2_with fail
          go_quiet (fail)
          go_wp2
          go_roundw
          case rel => exact ⟨k2 + 1, _, T + (t1.size + 1 + t2.size), by omega, by go_num, by go_num, by show _ = _; rw [HP.out, HT.out]; omega, rfl⟩
          case measure => simp [intOf]; omega
        · have HTE : Hid (T = m.size + h.size + p.size + 1 + ns + psum ps) := by
            have h1 := HT.out
            rw [List.take_of_length_le (by rw [← HNS.out]; omega)] at h1
            show _ = _
            omega
          have HEM : Hid (ps.isEmpty = decide (ns = 0)) := by
            show _ = _
            rw [HNS.out]
            cases ps <;> simp
          clear HT HPT
          by_cases h0 : 0 < ns
          · have HR : Hid (na = T + (ns - 1)) := by
              have h1 := HSL.out
              have h2 := HTE.out
              have h3 := HNA.out
              have h4 := HNS.out
              rw [HEM.out] at h1
              have e0 : decide (ns = 0) = false := by simp; omega
              rw [e0] at h1
              show _ = _
              simp only [Bool.false_eq_true, if_false] at h1
              omega
            go_wp2
            go_ret
            refine ⟨ret_true (beq_iff_eq.2 ?_), below_drewN HB11.out _⟩
            have := HR.out
            omega
          · have HR : Hid (na = T) := by
              have h1 := HSL.out
              have h2 := HTE.out
              have h3 := HNA.out
              have h4 := HNS.out
              rw [HEM.out] at h1
              have e0 : decide (ns = 0) = true := by simp; omega
              rw [e0] at h1
              show _ = _
              simp only [if_true] at h1
              omega
            go_wp2
            go_ret
            refine ⟨ret_true (beq_iff_eq.2 ?_), below_drewN HB11.out _⟩
            have := HR.out
            omega

theorem keeps_any (dst : Value) (xs : List UInt8) (room : Int) (m h p : ByteArray) (s : Value) (ps : List (ByteArray × ByteArray)) (w : World) (hd : RB w dst xs) (hs : RP w s ps) :
    Calls Try.prog 4 #[dst, .int .i64 room, .string m, .string h, .string p, s] w fun e w' => e = .returned (.bool true) ∧ Below w.heap.size w w' := by
  by_cases hin : xs.length ≤ 1048576 ∧ m.size ≤ 1048576 ∧ h.size ≤ 1048576 ∧ p.size ≤ 1048576 ∧ ps.length ≤ 1048576 ∧ 0 ≤ room ∧ room ≤ 65536
  · obtain ⟨b1, b2, b3, b4, b5, b6, b7⟩ := hin
    obtain ⟨r, rfl⟩ := Int.eq_ofNat_of_zero_le b6
    exact keeps_in dst xs r m h p s ps w hd hs b1 b2 b3 b4 b5 (by omega)
  · exact keeps_out dst xs room m h p s ps w hd hs hin

end Go.Proofs.Qxb6601522a
