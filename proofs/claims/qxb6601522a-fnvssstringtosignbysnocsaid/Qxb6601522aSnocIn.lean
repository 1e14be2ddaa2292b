/-
  THE WALK over the law FnVssStringToSignBySnoc (3). By an AI agent.
-/
import Derived.Test.Qxb6601522aKeepsIn
namespace Go.Proofs.Qxb6601522a
open Go.RowKit

set_option maxRecDepth 100000 in
set_option maxHeartbeats 1000000 in
/-- Outside the law's own guard it answers true by itself. -/
theorem snoc_out (dst : Value) (xs : List UInt8) (room : Int) (m h p : ByteArray) (s : Value) (ps : List (ByteArray × ByteArray)) (nm vl : ByteArray) (w : World) (hd : RB w dst xs) (hs : RP w s ps)
    (hout : ¬ (xs.length ≤ 1048576 ∧ m.size ≤ 1048576 ∧ h.size ≤ 1048576 ∧ p.size ≤ 1048576 ∧ ps.length ≤ 1048576 ∧ nm.size ≤ 1048576 ∧ vl.size ≤ 1048576 ∧ 0 ≤ room ∧ room ≤ 65536)) :
    Calls Try.prog 3 #[dst, .int .i64 room, .string m, .string h, .string p, s, .string nm, .string vl] w fun e w' => e = .returned (.bool true) ∧ Below w.heap.size w w' := by
  obtain ⟨ad, cap, rfl, hcd⟩ := hd
  have HS := hideH hs
  obtain ⟨ads, caps, e, hcs⟩ := hs
  subst e
  clear hcd hcs
  obtain ⟨nd, hnd⟩ : ∃ n, n = xs.length := ⟨_, rfl⟩
  obtain ⟨ns, hns⟩ : ∃ n, n = ps.length := ⟨_, rfl⟩
  rw [← hnd, ← hns] at hout
  rw [← hns] at HS
  rw [← hnd, ← hns]
  clear hnd hns
  go_enter Try.func3, Try.ntmps3
  go_wp2_with fail
  refine (bytesSnoc_any _ _ _ _ _ _ _ _ _ _ ps _ HS.out).mono ?_
  rintro e w' ⟨b, rfl, hb, n, rfl⟩
  clear hb
  cases b
  · go_wp2_with fail
    go_ret
    exact ⟨rfl, below_drewN (Below.refl _ _) _⟩
  · go_wp2_with fail
    all_goals first
      | (go_ret; exact ⟨rfl, below_drewN (Below.refl _ _) _⟩)
      | (exfalso; omega)

/-- The head: what every string to sign begins with. -/
def hdl (xs : List UInt8) (m h p : ByteArray) : List UInt8 := xs ++ bs m ++ bs h ++ bs p ++ [63]

theorem hdl_length (xs : List UInt8) (m h p : ByteArray) : (hdl xs m h p).length = xs.length + m.size + h.size + p.size + 1 := by
  have e1 := bs_length m
  have e2 := bs_length h
  have e3 := bs_length p
  unfold hdl
  simp only [List.length_append, List.length_singleton, e1, e2, e3]

set_option maxRecDepth 100000 in
set_option maxHeartbeats 2000000 in
theorem snoc_in (dst : Value) (xs : List UInt8) (r : Nat) (m h p : ByteArray) (s : Value) (ps : List (ByteArray × ByteArray)) (nm vl : ByteArray) (w : World) (hd : RB w dst xs) (hs : RP w s ps)
    (b1 : xs.length ≤ 1048576) (b2 : m.size ≤ 1048576) (b3 : h.size ≤ 1048576) (b4 : p.size ≤ 1048576) (b5 : ps.length ≤ 1048576) (b6 : r ≤ 65536) (b7 : nm.size ≤ 1048576) (b8 : vl.size ≤ 1048576) :
    Calls Try.prog 3 #[dst, .int .i64 r, .string m, .string h, .string p, s, .string nm, .string vl] w fun e w' => e = .returned (.bool true) ∧ Below w.heap.size w w' := by
  have HD := hideH hd
  have HS := hideH hs
  obtain ⟨ad, cap, e, hcd⟩ := hd
  subst e
  obtain ⟨ads, caps, e, hcs⟩ := hs
  subst e
  clear hcd hcs
  obtain ⟨nd, hnd⟩ : ∃ n, n = xs.length := ⟨_, rfl⟩
  obtain ⟨ns, hns⟩ : ∃ n, n = ps.length := ⟨_, rfl⟩
  have HND := hideH hnd
  have HNS := hideH hns
  rw [← hnd] at b1 HD
  rw [← hns] at b5 HS
  rw [← hnd, ← hns]
  clear hnd hns
  go_enter Try.func3, Try.ntmps3
  go_wp2_with fail
  refine (bytesSnoc_any _ _ _ _ _ _ _ _ _ _ ps _ HS.out).mono ?_
  rintro e w' ⟨b, rfl, hsm, n, rfl⟩
  cases b
  · clear hsm
    go_wp2_with fail
    go_ret
    exact ⟨rfl, below_drewN (Below.refl _ _) _⟩
  have HSM := hideH (hsm rfl)
  clear hsm
  go_wp2_with fail
  refine (within_int ((nd : Int) + r + m.size + h.size + p.size + nm.size + vl.size) _ ps (w.drewN n) (HS.out.drewN n) (by omega) (by omega) (by rw [← HNS.out]; exact b5) HSM.out).mono ?_
  rintro e W0 ⟨b, rfl, hwi, n2, hw1⟩
  have HD0 : Hid (RB W0 (.slice ad nd cap) xs) := by rw [hw1]; exact HD.out
  have HS0 : Hid (RP W0 (.slice ads ns caps) ps) := by rw [hw1]; exact HS.out
  have HB0 : Hid (Below w.heap.size w W0) := by rw [hw1]; exact below_drewN (below_drewN (Below.refl _ _) _) _
  have HZ0 : Hid (w.heap.size ≤ W0.heap.size) := by rw [hw1]; exact Nat.le_refl _
  clear hw1 HD HS
  cases b
  · clear hwi
    go_wp2_with fail
    go_ret
    exact ⟨rfl, HB0.out⟩
  have HF : Hid (nd + r + m.size + h.size + p.size + nm.size + vl.size + 32 * ps.length + psum ps ≤ 1048576) := by have := hwi rfl; show _ ≤ _; omega
  have HPS : Hid (psum ps ≤ 1099511627776) := by have := HF.out; show _ ≤ _; omega
  have HPS2 : Hid (psum (ps ++ [(nm, vl)]) ≤ 1099511627776) := by have := HF.out; show _ ≤ _; rw [psum_append]; simp only [psum]; omega
  have HLB : Hid (xs.length + m.size + h.size + p.size + 1 + 2 * ps.length + psum ps ≤ 1099511627776) := by
    have := HF.out; have := HND.out; show _ ≤ _; omega
  have HLB2 : Hid (xs.length + m.size + h.size + p.size + 1 + 2 * (ps ++ [(nm, vl)]).length + psum (ps ++ [(nm, vl)]) ≤ 1099511627776) := by
    have := HF.out; have := HND.out; show _ ≤ _; rw [psum_append, List.length_append]; simp only [psum, List.length_singleton]; omega
  have HLB0 : Hid (xs.length + m.size + h.size + p.size + 1 + 2 * ([] : List (ByteArray × ByteArray)).length + psum [] ≤ 1099511627776) := by
    have := HF.out; have := HND.out; show _ ≤ _; simp only [List.length_nil, psum]; omega
  have HN5 : Hid (ps.length ≤ 1048576) := by rw [← HNS.out]; exact b5
  have HN6 : Hid ((ps ++ [(nm, vl)]).length ≤ 1048576) := by have := HF.out; show _ ≤ _; rw [List.length_append]; simp only [List.length_singleton]; omega
  have HX : Hid (xs.length ≤ 1099511627776) := by rw [← HND.out]; show _ ≤ _; omega
  clear hwi HSM
  -- dst = zzCloneBytes(dst)
  go_wp2_with fail
  refine (cloneBytes_any _ xs W0 HD0.out HX.out).mono ?_
  rintro e W1 ⟨d1, rfl, hO, hL, hB⟩
  have HRd_1 := hideH hO.reads
  have HLd := hideH hL
  have HPi_1 := hideH (HS0.out.below hB)
  have HB1 := hideH (HB0.out.trans (hB.mono HZ0.out))
  have HZ1 := hideH hB.size
  clear hO hL hB HD0 HS0 HB0
  -- sorted = zzCloneParams(sorted)
  go_wp2_with fail
  refine (cloneParams_any _ ps W1 HPi_1.out HN5.out).mono ?_
  rintro e W2 ⟨s1, rfl, hR, hL, hB⟩
  have HPs_2 := hideH hR
  have HLs := hideH hL
  have HRd_2 := hideH (HRd_1.out.below hB)
  have HB2 := hideH (HB1.out.trans (hB.mono (by have := HZ0.out; have := HZ1.out; omega)))
  have HZ2 := hideH hB.size
  clear hR hL hB HPi_1 HRd_1 HB1
  -- head := zzCloneBytes(dst)
  go_wp2_with fail
  refine (cloneBytes_any d1 xs W2 HRd_2.out HX.out).mono ?_
  rintro e W3 ⟨g0, rfl, hO, hL, hB⟩
  have HOg_3 := hideH hO
  have HLg := hideH hL
  have HRd_3 := hideH (HRd_2.out.below hB)
  have HPs_3 := hideH (HPs_2.out.below hB)
  have HB3 := hideH (HB2.out.trans (hB.mono (by have := HZ0.out; have := HZ1.out; have := HZ2.out; omega)))
  have HZ3 := hideH hB.size
  clear hO hL hB HRd_2 HPs_2 HB2
  have HGL1 : Hid (xs.length ≤ 1099511627776) := HX.out
  have HGL2 : Hid ((xs ++ bs m).length ≤ 1099511627776) := by have := HND.out; show _ ≤ _; rw [List.length_append, bs_length]; omega
  have HGL3 : Hid ((xs ++ bs m ++ bs h).length ≤ 1099511627776) := by have := HND.out; show _ ≤ _; rw [List.length_append, List.length_append, bs_length, bs_length]; omega
  have HGL4 : Hid ((xs ++ bs m ++ bs h ++ bs p).length + 1 ≤ 70368744177664) := by have := HND.out; show _ ≤ _; rw [List.length_append, List.length_append, List.length_append, bs_length, bs_length, bs_length]; omega
  go_wp2_with fail
  refine (appendString_any m g0 xs W3 HOg_3.out (by omega) HGL1.out).mono ?_
  rintro e W4 ⟨g1, rfl, hO, hA⟩
  have HOg_4 := hideH hO
  have HA4 := hideH hA
  clear hO hA
  go_wp2_with fail
  refine (appendString_any h g1 _ W4 HOg_4.out (by omega) HGL2.out).mono ?_
  rintro e W5 ⟨g2, rfl, hO, hA⟩
  have HOg_5 := hideH hO
  have HA5 := hideH (HA4.out.trans hA)
  clear hO hA HOg_4 HA4
  go_wp2_with fail
  refine (appendString_any p g2 _ W5 HOg_5.out (by omega) HGL3.out).mono ?_
  rintro e W6 ⟨g3, rfl, hO, hA⟩
  have HOg_6 := hideH hO
  have HA6 := hideH (HA5.out.trans hA)
  clear hO hA HOg_5 HA5
  go_wp2_with (at_builtin; refine wpList_app1 (w := W6) rfl (.tmp 110) (.tmp 111) rfl g3 _ rfl HOg_6.out 63 rfl HGL4.out ?_; intro g4 W7 hO hA; have HOh_7 := hideH hO; have HA7 := hideH (HA6.out.trans hA); clear hO hA)
  clear HOg_6 HA6 HGL1 HGL2 HGL3 HGL4 HOg_3
  have HRh_7 : Hid (RB W7 g4 (hdl xs m h p)) := HOh_7.out.reads
  have HLh := hideH (HA7.out.loc (lo := W2.heap.size) (fun k e => (HLg.out k e).1) (by have := HZ3.out; omega))
  have HRd_7 := hideH (HRd_3.out.app HA7.out (HLd.out.ne HLg.out (.inl (by have := HZ2.out; omega))))
  have HPs_7 := hideH (HPs_3.out.app HA7.out (HLs.out.ne HLg.out (.inl (Nat.le_refl _))))
  have HB7 := hideH (HB3.out.trans (HA7.out.below (by have := HZ0.out; have := HZ1.out; have := HZ2.out; have := HZ3.out; omega) (fun k e => by have := (HLg.out k e).1; have := HZ0.out; have := HZ1.out; have := HZ2.out; omega)))
  have HZ7 := hideH HA7.out.grows
  clear HOh_7 HA7 HRd_3 HPs_3 HB3 HLg
  have HHL : Hid ((hdl xs m h p).length ≤ 8388608) := by
    have := HND.out
    show _ ≤ _
    rw [hdl_length]; omega
  go_wp2_with fail
  refine (cloneRoom_any d1 xs r W7 HRd_7.out HX.out (by omega)).mono ?_
  rintro e W8 ⟨b1, rfl, hO, hL, hB⟩
  have HOb1_8 := hideH hO
  have HLb1 := hideH hL
  have HRd_8 := hideH (HRd_7.out.below hB)
  have HRh_8 := hideH (HRh_7.out.below hB)
  have HPs_8 := hideH (HPs_7.out.below hB)
  have HB8 := hideH (HB7.out.trans (hB.mono (by have := HZ0.out; have := HZ1.out; have := HZ2.out; have := HZ3.out; have := HZ7.out; omega)))
  have HZ8 := hideH hB.size
  clear hO hL hB HRd_7 HRh_7 HPs_7 HB7
  -- base
  go_wp2_with fail
  refine (door_any b1 xs h p m (.slice none 0 0) [] W8 HOb1_8.out ⟨none, 0, rfl, fun i c hi => by simp at hi⟩ (fun k e => (nil_none k e).elim) HLB0.out (Nat.zero_le _) (Nat.zero_le _)).mono ?_
  rintro e W9 ⟨ba, rfl, hO, hA⟩
  have HRba_9 : Hid (RB W9 ba (hdl xs m h p ++ tl true [])) := hO.reads
  have HLba := hideH (hA.loc (lo := W7.heap.size) (fun k e => (HLb1.out k e).1) (by have := HZ0.out; have := HZ1.out; have := HZ2.out; have := HZ3.out; have := HZ7.out; have := HZ8.out; omega))
  have HRd_9 := hideH (HRd_8.out.app hA (HLd.out.ne HLb1.out (.inl (by have := HZ0.out; have := HZ1.out; have := HZ2.out; have := HZ3.out; have := HZ7.out; have := HZ8.out; omega))))
  have HRh_9 := hideH (HRh_8.out.app hA (HLh.out.ne HLb1.out (.inl (by have := HZ0.out; have := HZ1.out; have := HZ2.out; have := HZ3.out; have := HZ7.out; have := HZ8.out; omega))))
  have HPs_9 := hideH (HPs_8.out.app hA (HLs.out.ne HLb1.out (.inl (by have := HZ0.out; have := HZ1.out; have := HZ2.out; have := HZ3.out; have := HZ7.out; have := HZ8.out; omega))))
  have HB9 := hideH (HB8.out.trans (hA.below (by have := HZ0.out; have := HZ1.out; have := HZ2.out; have := HZ3.out; have := HZ7.out; have := HZ8.out; omega) (fun k e => by have := (HLb1.out k e).1; have := HZ0.out; have := HZ1.out; have := HZ2.out; have := HZ3.out; have := HZ7.out; have := HZ8.out; omega)))
  have HZ9 := hideH hA.grows
  clear hO hA HOb1_8 HRd_8 HRh_8 HPs_8 HB8
  -- zzEqual(base, head)
  have HRbb : Hid (RB W9 ba (hdl xs m h p)) := by show RB _ _ _; have := HRba_9.out; simpa [tl] using this
  clear HRba_9
  go_wp2_with fail
  refine (equal_same ba g4 (hdl xs m h p) W9 HRbb.out HRh_9.out (by have := HHL.out; omega)).mono ?_
  rintro e W10 ⟨rfl, nq, hw⟩
  have HRd_10 : Hid (RB W10 d1 xs) := by rw [hw]; exact HRd_9.out
  have HRh_10 : Hid (RB W10 g4 (hdl xs m h p)) := by rw [hw]; exact HRh_9.out
  have HPs_10 : Hid (RP W10 s1 ps) := by rw [hw]; exact HPs_9.out
  have HB10 : Hid (Below w.heap.size w W10) := by rw [hw]; exact below_drewN HB9.out _
  have HZ10 : Hid (W9.heap.size ≤ W10.heap.size) := by rw [hw]; exact Nat.le_refl _
  clear hw HRd_9 HRh_9 HPs_9 HB9
  clear HRbb HLba
  go_wp2_with fail
  refine (cloneRoom_any d1 xs r W10 HRd_10.out HX.out (by omega)).mono ?_
  rintro e W11 ⟨b2, rfl, hO, hL, hB⟩
  have HOb2_11 := hideH hO
  have HLb2 := hideH hL
  have HRd_11 := hideH (HRd_10.out.below hB)
  have HRh_11 := hideH (HRh_10.out.below hB)
  have HPs_11 := hideH (HPs_10.out.below hB)
  have HB11 := hideH (HB10.out.trans (hB.mono (by have := HZ0.out; have := HZ1.out; have := HZ2.out; have := HZ3.out; have := HZ7.out; have := HZ8.out; have := HZ9.out; have := HZ10.out; omega)))
  have HZ11 := hideH hB.size
  clear hO hL hB HRd_10 HRh_10 HPs_10 HB10
  go_wp2_with fail
  refine (toParams_no s1 ps ⟨#[]⟩ ⟨#[]⟩ W11 HPs_11.out HN5.out).mono ?_
  rintro e W12 ⟨q1, rfl, hR, hL, hB⟩
  have HPq1_12 := hideH hR
  have HLq1 := hideH hL
  have HRd_12 := hideH (HRd_11.out.below hB)
  have HRh_12 := hideH (HRh_11.out.below hB)
  have HPs_12 := hideH (HPs_11.out.below hB)
  have HOb2_12 := hideH (HOb2_11.out.below hB)
  have HB12 := hideH (HB11.out.trans (hB.mono (by have := HZ0.out; have := HZ1.out; have := HZ2.out; have := HZ3.out; have := HZ7.out; have := HZ8.out; have := HZ9.out; have := HZ10.out; have := HZ11.out; omega)))
  have HZ12 := hideH hB.size
  clear hR hL hB HRd_11 HRh_11 HPs_11 HOb2_11 HB11
  go_wp2_with fail
  refine (door_any b2 xs h p m q1 ps W12 HOb2_12.out HPq1_12.out (HLq1.out.ne HLb2.out (.inr (Nat.le_refl _))) HLB.out HN5.out HPS.out).mono ?_
  rintro e W13 ⟨r1, rfl, hO, hA⟩
  have HRr1_13 : Hid (RB W13 r1 (hdl xs m h p ++ tl true ps)) := hO.reads
  have HLr1 := hideH (hA.loc (lo := W10.heap.size) (fun k e => (HLb2.out k e).1) (by have := HZ0.out; have := HZ1.out; have := HZ2.out; have := HZ3.out; have := HZ7.out; have := HZ8.out; have := HZ9.out; have := HZ10.out; have := HZ11.out; have := HZ12.out; omega))
  have HRd_13 := hideH (HRd_12.out.app hA (HLd.out.ne HLb2.out (.inl (by have := HZ0.out; have := HZ1.out; have := HZ2.out; have := HZ3.out; have := HZ7.out; have := HZ8.out; have := HZ9.out; have := HZ10.out; have := HZ11.out; have := HZ12.out; omega))))
  have HRh_13 := hideH (HRh_12.out.app hA (HLh.out.ne HLb2.out (.inl (by have := HZ0.out; have := HZ1.out; have := HZ2.out; have := HZ3.out; have := HZ7.out; have := HZ8.out; have := HZ9.out; have := HZ10.out; have := HZ11.out; have := HZ12.out; omega))))
  have HPs_13 := hideH (HPs_12.out.app hA (HLs.out.ne HLb2.out (.inl (by have := HZ0.out; have := HZ1.out; have := HZ2.out; have := HZ3.out; have := HZ7.out; have := HZ8.out; have := HZ9.out; have := HZ10.out; have := HZ11.out; have := HZ12.out; omega))))
  have HB13 := hideH (HB12.out.trans (hA.below (by have := HZ0.out; have := HZ1.out; have := HZ2.out; have := HZ3.out; have := HZ7.out; have := HZ8.out; have := HZ9.out; have := HZ10.out; have := HZ11.out; have := HZ12.out; omega) (fun k e => by have := (HLb2.out k e).1; have := HZ0.out; have := HZ1.out; have := HZ2.out; have := HZ3.out; have := HZ7.out; have := HZ8.out; have := HZ9.out; have := HZ10.out; have := HZ11.out; have := HZ12.out; omega)))
  have HZ13 := hideH hA.grows
  clear hO hA HOb2_12 HRd_12 HRh_12 HPs_12 HB12
  -- zzHasPrefix(r1, head)
  have HTL : Hid ((tl true ps).length ≤ 8388608) := by have h1 := tl_length_le true ps; have := HF.out; show _ ≤ _; omega
  go_wp2_with fail
  refine (hasPrefix_same r1 g4 (hdl xs m h p) (tl true ps) W13 HRr1_13.out HRh_13.out (by have := HHL.out; have := HTL.out; omega)).mono ?_
  rintro e W14 ⟨rfl, nq, hw⟩
  have HRd_14 : Hid (RB W14 d1 xs) := by rw [hw]; exact HRd_13.out
  have HRr1_14 : Hid (RB W14 r1 (hdl xs m h p ++ tl true ps)) := by rw [hw]; exact HRr1_13.out
  have HPs_14 : Hid (RP W14 s1 ps) := by rw [hw]; exact HPs_13.out
  have HB14 : Hid (Below w.heap.size w W14) := by rw [hw]; exact below_drewN HB13.out _
  have HZ14 : Hid (W13.heap.size ≤ W14.heap.size) := by rw [hw]; exact Nat.le_refl _
  clear hw HRd_13 HRr1_13 HPs_13 HB13
  clear HRh_13 HPq1_12 HLq1 HLb2
  go_wp2_with fail
  refine (cloneRoom_any d1 xs r W14 HRd_14.out HX.out (by omega)).mono ?_
  rintro e W15 ⟨b3, rfl, hO, hL, hB⟩
  have HOb3_15 := hideH hO
  have HLb3 := hideH hL
  have HRd_15 := hideH (HRd_14.out.below hB)
  have HRr1_15 := hideH (HRr1_14.out.below hB)
  have HPs_15 := hideH (HPs_14.out.below hB)
  have HB15 := hideH (HB14.out.trans (hB.mono (by have := HZ0.out; have := HZ1.out; have := HZ2.out; have := HZ3.out; have := HZ7.out; have := HZ8.out; have := HZ9.out; have := HZ10.out; have := HZ11.out; have := HZ12.out; have := HZ13.out; have := HZ14.out; omega)))
  have HZ15 := hideH hB.size
  clear hO hL hB HRd_14 HRr1_14 HPs_14 HB14
  go_wp2_with fail
  refine (toParams_yes s1 ps nm vl W15 HPs_15.out HN5.out).mono ?_
  rintro e W16 ⟨q2, rfl, hR, hL, hB⟩
  have HPq2_16 := hideH hR
  have HLq2 := hideH hL
  have HRr1_16 := hideH (HRr1_15.out.below hB)
  have HPs_16 := hideH (HPs_15.out.below hB)
  have HOb3_16 := hideH (HOb3_15.out.below hB)
  have HB16 := hideH (HB15.out.trans (hB.mono (by have := HZ0.out; have := HZ1.out; have := HZ2.out; have := HZ3.out; have := HZ7.out; have := HZ8.out; have := HZ9.out; have := HZ10.out; have := HZ11.out; have := HZ12.out; have := HZ13.out; have := HZ14.out; have := HZ15.out; omega)))
  have HZ16 := hideH hB.size
  clear hR hL hB HRr1_15 HPs_15 HOb3_15 HB15
  go_wp2_with fail
  refine (door_any b3 xs h p m q2 (ps ++ [(nm, vl)]) W16 HOb3_16.out HPq2_16.out (HLq2.out.ne HLb3.out (.inr (Nat.le_refl _))) HLB2.out HN6.out HPS2.out).mono ?_
  rintro e W17 ⟨r2, rfl, hO, hA⟩
  have HRr2_17 : Hid (RB W17 r2 (hdl xs m h p ++ tl true (ps ++ [(nm, vl)]))) := hO.reads
  have HLr2 := hideH (hA.loc (lo := W14.heap.size) (fun k e => (HLb3.out k e).1) (by have := HZ0.out; have := HZ1.out; have := HZ2.out; have := HZ3.out; have := HZ7.out; have := HZ8.out; have := HZ9.out; have := HZ10.out; have := HZ11.out; have := HZ12.out; have := HZ13.out; have := HZ14.out; have := HZ15.out; have := HZ16.out; omega))
  have HRr1_17 := hideH (HRr1_16.out.app hA (HLr1.out.ne HLb3.out (.inl (by have := HZ0.out; have := HZ1.out; have := HZ2.out; have := HZ3.out; have := HZ7.out; have := HZ8.out; have := HZ9.out; have := HZ10.out; have := HZ11.out; have := HZ12.out; have := HZ13.out; have := HZ14.out; have := HZ15.out; have := HZ16.out; omega))))
  have HPs_17 := hideH (HPs_16.out.app hA (HLs.out.ne HLb3.out (.inl (by have := HZ0.out; have := HZ1.out; have := HZ2.out; have := HZ3.out; have := HZ7.out; have := HZ8.out; have := HZ9.out; have := HZ10.out; have := HZ11.out; have := HZ12.out; have := HZ13.out; have := HZ14.out; have := HZ15.out; have := HZ16.out; omega))))
  have HB17 := hideH (HB16.out.trans (hA.below (by have := HZ0.out; have := HZ1.out; have := HZ2.out; have := HZ3.out; have := HZ7.out; have := HZ8.out; have := HZ9.out; have := HZ10.out; have := HZ11.out; have := HZ12.out; have := HZ13.out; have := HZ14.out; have := HZ15.out; have := HZ16.out; omega) (fun k e => by have := (HLb3.out k e).1; have := HZ0.out; have := HZ1.out; have := HZ2.out; have := HZ3.out; have := HZ7.out; have := HZ8.out; have := HZ9.out; have := HZ10.out; have := HZ11.out; have := HZ12.out; have := HZ13.out; have := HZ14.out; have := HZ15.out; have := HZ16.out; omega)))
  have HZ17 := hideH hA.grows
  clear hO hA HOb3_16 HRr1_16 HPs_16 HB16
  -- want := zzCloneBytes(r1)
  have HXL : Hid ((hdl xs m h p ++ tl true ps).length ≤ 16777216) := by
    have := HHL.out; have := HTL.out; show _ ≤ _; rw [List.length_append]; omega
  go_wp2_with fail
  refine (cloneBytes_any r1 (hdl xs m h p ++ tl true ps) W17 HRr1_17.out (by have := HXL.out; omega)).mono ?_
  rintro e W18 ⟨t0, rfl, hO, hL, hB⟩
  have HOt_18 := hideH hO
  have HLt := hideH hL
  have HRr2_18 := hideH (HRr2_17.out.below hB)
  have HPs_18 := hideH (HPs_17.out.below hB)
  have HB18 := hideH (HB17.out.trans (hB.mono (by have := HZ0.out; have := HZ1.out; have := HZ2.out; have := HZ3.out; have := HZ7.out; have := HZ8.out; have := HZ9.out; have := HZ10.out; have := HZ11.out; have := HZ12.out; have := HZ13.out; have := HZ14.out; have := HZ15.out; have := HZ16.out; have := HZ17.out; omega)))
  have HZ18 := hideH hB.size
  clear hO hL hB HRr1_17 HRr2_17 HPs_17 HB17
  have hsh := HPs_18.out
  obtain ⟨adp, capp, e, hcp⟩ := hsh
  subst e
  clear hcp
  rw [← HNS.out] at HPs_18 ⊢
  have HLt2 : Hid (W17.heap.size ≤ W18.heap.size) := HZ18.out
  have HLr : Hid (∀ k, r2.ownBlock = some k → t0.ownBlock ≠ some k) := HLr2.out.ne HLt.out (.inl (Nat.le_refl _))
  have HBt : Hid (w.heap.size ≤ W17.heap.size) := by show _ ≤ _; have := HZ0.out; have := HZ1.out; have := HZ2.out; have := HZ3.out; have := HZ7.out; have := HZ8.out; have := HZ9.out; have := HZ10.out; have := HZ11.out; have := HZ12.out; have := HZ13.out; have := HZ14.out; have := HZ15.out; have := HZ16.out; have := HZ17.out; have := HZ18.out; omega
  have HLtt : Hid (∀ k, t0.ownBlock = some k → w.heap.size ≤ k) := fun k e => by have := (HLt.out k e).1; have := HBt.out; omega
  obtain ⟨L, hL⟩ : ∃ L, L = hdl xs m h p ++ tl true ps := ⟨_, rfl⟩
  rw [← hL] at HOt_18 HXL
  have HLe : Hid (hdl xs m h p ++ tl true (ps ++ [(nm, vl)]) = L ++ ((if ps.isEmpty then [] else [38]) ++ bs nm ++ [61] ++ bs vl)) := by
    show _ = _
    rw [tl_snoc, hL, List.append_assoc]
    simp only [Bool.true_and, List.append_assoc]
  have HEM : Hid (ps.isEmpty = decide (ns = 0)) := by
    show _ = _
    rw [HNS.out]
    cases ps <;> simp
  clear hL HZ0 HZ1 HZ2 HZ3 HZ7 HZ8 HZ9 HZ10 HZ11 HZ12 HZ13 HZ14 HZ15 HZ16 HZ17 HZ18
  by_cases h0 : 0 < ns
  · have HC : Hid ((if ps.isEmpty then [] else [38]) = ([38] : List UInt8)) := by
      show _ = _
      rw [HEM.out]
      simp; omega
    have HL0 : Hid (L.length + 1 ≤ 70368744177664) := by have := HXL.out; show _ ≤ _; omega
    have HL1 : Hid ((L ++ [38]).length ≤ 1099511627776) := by have := HXL.out; show _ ≤ _; rw [List.length_append]; simp only [List.length_singleton]; omega
    have HL2 : Hid ((L ++ [38] ++ bs nm).length + 1 ≤ 70368744177664) := by have := HXL.out; show _ ≤ _; rw [List.length_append, List.length_append, bs_length]; simp only [List.length_singleton]; omega
    have HL3 : Hid ((L ++ [38] ++ bs nm ++ [61]).length ≤ 1099511627776) := by have := HXL.out; show _ ≤ _; rw [List.length_append, List.length_append, List.length_append, bs_length]; simp only [List.length_singleton]; omega
    have HL4 : Hid ((L ++ [38] ++ bs nm ++ [61] ++ bs vl).length ≤ 1099511627776) := by have := HXL.out; show _ ≤ _; rw [List.length_append, List.length_append, List.length_append, List.length_append, bs_length, bs_length]; simp only [List.length_singleton]; omega
    go_wp2_with (at_builtin; refine wpList_app1 (w := W18) rfl (.tmp 153) (.tmp 154) rfl t0 _ rfl HOt_18.out 38 rfl HL0.out ?_; intro t1 V1 hO hA; have HO1 := hideH hO; have HA1 := hideH hA; clear hO hA)
    refine (appendString_any nm t1 _ V1 HO1.out (by omega) HL1.out).mono ?_
    rintro e V2 ⟨t2, rfl, hO, hA⟩
    have HO2 := hideH hO
    have HA2 := hideH (HA1.out.trans hA)
    clear hO hA
    go_wp2_with (at_builtin; refine wpList_app1 (w := V2) rfl (.tmp 159) (.tmp 160) rfl t2 _ rfl HO2.out 61 rfl HL2.out ?_; intro t3 V3 hO hA; have HO3 := hideH hO; have HA3 := hideH (HA2.out.trans hA); clear hO hA)
    refine (appendString_any vl t3 _ V3 HO3.out (by omega) HL3.out).mono ?_
    rintro e V4 ⟨t4, rfl, hO, hA⟩
    have HO4 := hideH hO
    have HA4 := hideH (HA3.out.trans hA)
    clear hO hA
    have HR2 : Hid (RB V4 r2 (L ++ [38] ++ bs nm ++ [61] ++ bs vl)) := by
      show RB _ _ _
      have h1 := HRr2_18.out.app HA4.out HLr.out
      rw [HLe.out, HC.out] at h1
      simpa only [List.append_assoc] using h1
    have HB19 := hideH (HB18.out.trans (HA4.out.below (by have := HBt.out; have := HLt2.out; omega) HLtt.out))
    go_wp2_with fail
    refine (equal_same r2 t4 _ V4 HR2.out HO4.out.reads HL4.out).mono ?_
    rintro e V5 ⟨rfl, nq, hw⟩
    have HB20 : Hid (Below w.heap.size w V5) := by rw [hw]; exact below_drewN HB19.out _
    clear hw
    go_wp2
    go_ret
    exact ⟨rfl, HB20.out⟩
  · have HC : Hid ((if ps.isEmpty then [] else [38]) = ([] : List UInt8)) := by
      show _ = _
      rw [HEM.out]
      simp; omega
    have HL1 : Hid (L.length ≤ 1099511627776) := by have := HXL.out; show _ ≤ _; omega
    have HL2 : Hid ((L ++ bs nm).length + 1 ≤ 70368744177664) := by have := HXL.out; show _ ≤ _; rw [List.length_append, bs_length]; omega
    have HL3 : Hid ((L ++ bs nm ++ [61]).length ≤ 1099511627776) := by have := HXL.out; show _ ≤ _; rw [List.length_append, List.length_append, bs_length]; simp only [List.length_singleton]; omega
    have HL4 : Hid ((L ++ bs nm ++ [61] ++ bs vl).length ≤ 1099511627776) := by have := HXL.out; show _ ≤ _; rw [List.length_append, List.length_append, List.length_append, bs_length, bs_length]; simp only [List.length_singleton]; omega
    go_wp2_with fail
    refine (appendString_any nm t0 _ W18 HOt_18.out (by omega) HL1.out).mono ?_
    rintro e V2 ⟨t2, rfl, hO, hA⟩
    have HO2 := hideH hO
    have HA2 := hideH hA
    clear hO hA
    go_wp2_with (at_builtin; refine wpList_app1 (w := V2) rfl (.tmp 159) (.tmp 160) rfl t2 _ rfl HO2.out 61 rfl HL2.out ?_; intro t3 V3 hO hA; have HO3 := hideH hO; have HA3 := hideH (HA2.out.trans hA); clear hO hA)
    refine (appendString_any vl t3 _ V3 HO3.out (by omega) HL3.out).mono ?_
    rintro e V4 ⟨t4, rfl, hO, hA⟩
    have HO4 := hideH hO
    have HA4 := hideH (HA3.out.trans hA)
    clear hO hA
    have HR2 : Hid (RB V4 r2 (L ++ bs nm ++ [61] ++ bs vl)) := by
      show RB _ _ _
      have h1 := HRr2_18.out.app HA4.out HLr.out
      rw [HLe.out, HC.out] at h1
      simpa only [List.append_assoc, List.nil_append] using h1
    have HB19 := hideH (HB18.out.trans (HA4.out.below (by have := HBt.out; have := HLt2.out; omega) HLtt.out))
    go_wp2_with fail
    refine (equal_same r2 t4 _ V4 HR2.out HO4.out.reads HL4.out).mono ?_
    rintro e V5 ⟨rfl, nq, hw⟩
    have HB20 : Hid (Below w.heap.size w V5) := by rw [hw]; exact below_drewN HB19.out _
    clear hw
    go_wp2
    go_ret
    exact ⟨rfl, HB20.out⟩

theorem snoc_any (dst : Value) (xs : List UInt8) (room : Int) (m h p : ByteArray) (s : Value) (ps : List (ByteArray × ByteArray)) (nm vl : ByteArray) (w : World) (hd : RB w dst xs) (hs : RP w s ps) :
    Calls Try.prog 3 #[dst, .int .i64 room, .string m, .string h, .string p, s, .string nm, .string vl] w fun e w' => e = .returned (.bool true) ∧ Below w.heap.size w w' := by
  by_cases hin : xs.length ≤ 1048576 ∧ m.size ≤ 1048576 ∧ h.size ≤ 1048576 ∧ p.size ≤ 1048576 ∧ ps.length ≤ 1048576 ∧ nm.size ≤ 1048576 ∧ vl.size ≤ 1048576 ∧ 0 ≤ room ∧ room ≤ 65536
  · obtain ⟨b1, b2, b3, b4, b5, b7, b8, b6, b9⟩ := hin
    obtain ⟨r, rfl⟩ := Int.eq_ofNat_of_zero_le b6
    exact snoc_in dst xs r m h p s ps nm vl w hd hs b1 b2 b3 b4 b5 (by omega) b7 b8
  · exact snoc_out dst xs room m h p s ps nm vl w hd hs hin

end Go.Proofs.Qxb6601522a
