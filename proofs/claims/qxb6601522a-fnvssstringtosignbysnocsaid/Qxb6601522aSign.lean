/-
  THE WALK over vssAppendStringToSign (16) and its door (10). By an AI agent.
-/
import Derived.Test.Qxb6601522aTo
import Derived.Test.Qxb6601522aGrow
namespace Go.Proofs.Qxb6601522a
open Go.RowKit

abbrev bs (s : ByteArray) : List UInt8 := s.data.toList
theorem bs_length (s : ByteArray) : (bs s).length = s.size := Array.length_toList

/-- name=value of each, one '&' between neighbours. -/
def tl : Bool → List (ByteArray × ByteArray) → List UInt8
  | _, [] => []
  | first, p :: r => (if first then [] else [38]) ++ bs p.1 ++ [61] ++ bs p.2 ++ tl false r

theorem tl_snoc (f : Bool) (ps : List (ByteArray × ByteArray)) (q : ByteArray × ByteArray) : tl f (ps ++ [q]) = tl f ps ++ ((if f && ps.isEmpty then [] else [38]) ++ bs q.1 ++ [61] ++ bs q.2) := by
  induction ps generalizing f with
  | nil => cases f <;> simp [tl]
  | cons p r ih => simp [tl, ih, List.append_assoc]

theorem tl_length (f : Bool) (ps : List (ByteArray × ByteArray)) : (tl f ps).length + (if f && !ps.isEmpty then 1 else 0) = psum ps + 2 * ps.length := by
  induction ps generalizing f with
  | nil => cases f <;> simp [tl, psum]
  | cons p r ih =>
    have h := ih false
    simp only [Bool.false_and] at h
    cases f <;> simp [tl, psum] at h ⊢ <;> omega

theorem tl_length_le (f : Bool) (ps : List (ByteArray × ByteArray)) : (tl f ps).length ≤ psum ps + 2 * ps.length := by
  have := tl_length f ps
  split at this <;> omega

theorem psum_take_le (ps : List (ByteArray × ByteArray)) (k : Nat) : psum (ps.take k) ≤ psum ps := by
  have h := psum_append (ps.take k) (ps.drop k)
  rw [List.take_append_drop] at h
  omega

theorem RP.item {w : World} {ad : Option Addr} {n cap k : Nat} {ps : List (ByteArray × ByteArray)} {q : ByteArray × ByteArray} (h : RP w (.slice ad n cap) ps) (hq : ps[k]? = some q) :
    ∃ b off, ad = some ⟨b, off, none⟩ ∧ w.cell? ⟨b, off + k * 2, none⟩ = some (.string q.1) ∧ w.cell? ⟨b, off + k * 2 + 1, none⟩ = some (.string q.2) := by
  obtain ⟨ad', cap', e, hc⟩ := h
  cases e
  exact hc k q hq

/-- The request's box. -/
def Box (w : World) (q : Nat) (h p m : ByteArray) (s : Value) : Prop := w.heap[q]? = some (.cells #[.string ⟨#[]⟩, .string h, .string p, .string m, .slice none 0 0, s] 39 (0, 0))

theorem Box.cells {w : World} {q : Nat} {h p m : ByteArray} {s : Value} (hb : Box w q h p m s) :
    w.cell? ⟨q, 1, none⟩ = some (.string h) ∧ w.cell? ⟨q, 2, none⟩ = some (.string p) ∧ w.cell? ⟨q, 3, none⟩ = some (.string m) ∧ w.cell? ⟨q, 5, none⟩ = some s := by
  refine ⟨?_, ?_, ?_, ?_⟩ <;> (rw [cell_of_row w q _ _ 39 (0, 0) hb]; rfl)

theorem Box.app {w w' : World} {q : Nat} {h p m : ByteArray} {s u u' : Value} {size : Nat} (hb : Box w q h p m s) (ha : App size w u w' u') (hne : u.ownBlock ≠ some q) : Box w' q h p m s := by
  have hlt : q < w.heap.size := (Array.getElem?_eq_some_iff.1 hb).1
  unfold Box
  rw [ha.block q hlt (fun e => hne e.symm)]
  exact hb

/-- A pair's box. -/
def Two (w : World) (b : Nat) (s1 s2 : ByteArray) : Prop := w.cell? ⟨b, 0, none⟩ = some (.string s1) ∧ w.cell? ⟨b, 1, none⟩ = some (.string s2)

theorem Two.app {w w' : World} {b : Nat} {s1 s2 : ByteArray} {u u' : Value} {size : Nat} (ht : Two w b s1 s2) (ha : App size w u w' u') (hne : u.ownBlock ≠ some b) : Two w' b s1 s2 := by
  have hlt : b < w.heap.size := World.block_lt_of_cell? w _ ht.1
  have e := ha.block b hlt (fun e => hne e.symm)
  exact ⟨(World.cell?_of_block (a := ⟨b, 0, none⟩) e).trans ht.1, (World.cell?_of_block (a := ⟨b, 1, none⟩) e).trans ht.2⟩

theorem wpList_app1q {w : World} {ops : Array Oper} {rest : List Oper} {o : Oper} {a : Act} {Q : Exit → Act → World → Prop} (hgd : o.guard = none) (s x : Operand)
    (ho : o.op = .call { callee := .builtin .append, args := #[s, x], argTypes := #[22, 22] })
    (v : Value) (xs : List UInt8) (hv : a.eval s = v) (hown : Own w v xs) (c : UInt8) (q : Nat) (hq : w.heap.size = q) (hx : a.eval x = .slice (some ⟨q, 0, none⟩) 1 1)
    (hl : xs.length + 1 ≤ 70368744177664)
    (h : ∀ v' w', Own w' v' (xs ++ [c]) → App 1 w v w' v' → wpList Try.prog ops Q rest (a.put o.dst v') w') : wpList Try.prog ops Q (o :: rest) a (w.alloc (.cells #[.int .u8 c.toNat] 5)) := by
  subst hq
  exact wpList_app1 hgd s x ho v xs hv hown c hx hl h

/-- An append keeps out of a block that was there and was not its own. -/
theorem own_ne {w w' : World} {u u' : Value} {size b : Nat} (ha : App size w u w' u') (hne : u.ownBlock ≠ some b) (hb : b < w.heap.size) : u'.ownBlock ≠ some b := fun e => by
  rcases ha.place b e with h | h
  · exact hne h
  · omega

set_option maxHeartbeats 2000000 in
theorem sign_any (v : Value) (xs : List UInt8) (h p m : ByteArray) (s : Value) (ps : List (ByteArray × ByteArray)) (w : World) (hown : Own w v xs) (hs : RP w s ps) (hne : ∀ k, s.ownBlock = some k → v.ownBlock ≠ some k)
    (hb : xs.length + m.size + h.size + p.size + 1 + 2 * ps.length + psum ps ≤ 1099511627776) (hn : ps.length ≤ 1048576) (hpl : psum ps ≤ 1099511627776) :
    Calls Try.prog 16 #[v, .agg #[.string ⟨#[]⟩, .string h, .string p, .string m, .slice none 0 0, s]] w fun e w' => ∃ v', e = .returned v' ∧ Own w' v' (xs ++ bs m ++ bs h ++ bs p ++ [63] ++ tl true ps) ∧ App 1 w v w' v' := by
  obtain ⟨n, hnn⟩ : ∃ n, n = ps.length := ⟨_, rfl⟩
  have HN : Hid (n = ps.length) := hnn
  obtain ⟨w0, hw0⟩ : ∃ w0, w0 = w.alloc (.cells #[.string ⟨#[]⟩, .string h, .string p, .string m, .slice none 0 0, s] 39) := ⟨_, rfl⟩
  have HW0 := hideH hw0
  have HA0 : Hid (App 1 w v w0 v) := by rw [hw0]; exact (App.refl hown.inb).alloc _
  have HO0 : Hid (Own w0 v xs) := by rw [hw0]; exact hown.alloc _
  have HQ0 : Hid (Box w0 w.heap.size h p m s) := by rw [hw0]; exact heap_alloc_new w _
  have HS0 : Hid (RP w0 s ps) := hs.app HA0.out hne
  have HV : Hid (v.ownBlock ≠ some w.heap.size) := fun e => by have := hown.inb _ e; omega
  have HNE := hideH hne
  obtain ⟨ad, cap, rfl, hcc⟩ := hs
  clear hcc
  have hpt := psum_take_le ps
  have HPT := hideH hpt
  rw [← hnn] at hb hn ⊢
  have hlen : ((Value.slice ad ps.length cap) : Value) = .slice ad n cap := by rw [hnn]
  rw [hlen] at HS0 HNE HQ0 HW0
  clear hnn hw0 hlen hpt hown hne
  go_enter Try.func16, Try.ntmps16
  go_wp2_with fail
  go_loopw [5, 25] (fun t i wr => ∃ k T : Nat, k ≤ n ∧ i = .int .i64 k ∧ t = .int .i64 T ∧ Hid (T ≤ m.size + h.size + p.size + 1 + 2 * k + psum (ps.take k)) ∧ Hid (Own wr v xs) ∧ Hid (App 1 w0 v wr v)) (fun _ i _ => n - (intOf i).toNat)
  case atStart =>
    refine ⟨0, m.size + h.size + p.size + 1, Nat.zero_le _, rfl, by go_num, by show _ ≤ _; omega, ?_, ?_⟩
    · show Own _ v xs
      rw [← HW0.out]
      exact HO0.out
    · show App 1 w0 v _ v
      rw [← HW0.out]
      exact App.refl HO0.out.inb
  case round =>
    obtain ⟨k, T, hk, rfl, rfl, HT, HO, HA⟩ := hrel
    have hT : T ≤ 4398046511104 := by
      have := HT.out
      have := HPT.out k
      omega
    by_cases hlt : k < n
    · obtain ⟨⟨s1, s2⟩, hp⟩ : ∃ p, ps[k]? = some p := ⟨_, List.getElem?_eq_getElem (by rw [← HN.out]; exact hlt)⟩
      obtain ⟨b1, o1, e1, h1, h2⟩ := (HS0.out.app HA.out HNE.out).item hp
      subst e1
      have hb1 : b1 < wr.heap.size := World.block_lt_of_cell? wr _ h1
      have HP := hideH (psum_take hp)
      have hps : s1.size + s2.size ≤ 1099511627776 := by
        have := HPT.out (k + 1)
        rw [HP.out] at this
        simp only at this
        omega
      have hlt' : (k : Int) < (n : Int) := by omega
      clear hp
      go_wp2
      go_roundw
      case rel =>
        refine ⟨k + 1, T + (1 + s1.size + 1 + s2.size), by omega, by go_num, by go_num, ?_, HO.out.alloc _, HA.out.alloc _⟩
        · show _ ≤ _
          rw [HP.out]
          have := HT.out
          simp only
          omega
      case measure => simp [intOf]; omega
    · clear HT
      go_wp2_with fail
      refine (grow_any v xs T _ HO.out (by omega) (by omega)).mono ?_
      rintro e w2 ⟨v2, rfl, ho2, ha2⟩
      have HO2 := hideH ho2
      have HA2 := hideH (HA.out.trans ha2)
      obtain ⟨c1, c2, c3, c4⟩ := (HQ0.out.app HA2.out HV.out).cells
      clear ho2 ha2 HO HA HO0 HW0 hT
      have HL1 : Hid (xs.length + (bs m).length ≤ 70368744177664) := by show _ ≤ _; rw [bs_length]; omega
      have HL2 : Hid ((xs ++ bs m).length + (bs h).length ≤ 70368744177664) := by show _ ≤ _; rw [List.length_append, bs_length, bs_length]; omega
      have HL3 : Hid ((xs ++ bs m ++ bs h).length + (bs p).length ≤ 70368744177664) := by show _ ≤ _; rw [List.length_append, List.length_append, bs_length, bs_length, bs_length]; omega
      have HL4 : Hid ((xs ++ bs m ++ bs h ++ bs p).length + 1 ≤ 1099511627776) := by show _ ≤ _; rw [List.length_append, List.length_append, List.length_append, bs_length, bs_length, bs_length]; omega
      have HL5 : Hid ((xs ++ bs m ++ bs h ++ bs p).length + 1 ≤ 70368744177664) := by have := HL4.out; show _ ≤ _; omega
      go_wp2_with (first
        | (at_builtin; refine wpList_app rfl (.tmp 44) (.tmp 46) 9 rfl v2 xs rfl HO2.out _ (bs m) rfl (srcStr m _) HL1.out ?_; intro v3 w3 ho3 ha3; have HO3 := hideH ho3; have HA3 := hideH (HA2.out.trans ha3); clear ho3 ha3 c1 c2 c3 c4; obtain ⟨c1, c2, c3, c4⟩ := (HQ0.out.app HA3.out HV.out).cells)
        | (at_builtin; refine wpList_app rfl (.tmp 48) (.tmp 50) 9 rfl v3 _ rfl HO3.out _ (bs h) rfl (srcStr h _) HL2.out ?_; intro v4 w4 ho4 ha4; have HO4 := hideH ho4; have HA4 := hideH (HA3.out.trans ha4); clear ho4 ha4 c1 c2 c3 c4; obtain ⟨c1, c2, c3, c4⟩ := (HQ0.out.app HA4.out HV.out).cells)
        | (at_builtin; refine wpList_app rfl (.tmp 52) (.tmp 54) 9 rfl v4 _ rfl HO4.out _ (bs p) rfl (srcStr p _) HL3.out ?_; intro v5 w5 ho5 ha5; have HO5 := hideH ho5; have HA5 := hideH (HA4.out.trans ha5); clear ho5 ha5 c1 c2 c3 c4; obtain ⟨c1, c2, c3, c4⟩ := (HQ0.out.app HA5.out HV.out).cells)
        | (at_builtin; refine wpList_app1 (w := w5) rfl (.tmp 56) (.tmp 57) rfl v5 _ rfl HO5.out 63 rfl HL5.out ?_; intro v6 w6 ho6 ha6; have HO6 := hideH ho6; have HA6 := hideH (HA5.out.trans ha6); clear ho6 ha6 c1 c2 c3 c4; obtain ⟨c1, c2, c3, c4⟩ := (HQ0.out.app HA6.out HV.out).cells))
      obtain ⟨L0, hL0⟩ : ∃ L0, L0 = xs ++ bs m ++ bs h ++ bs p ++ [63] := ⟨_, rfl⟩
      have HL0 := hideH hL0
      have HLL : Hid (L0.length ≤ 1099511627776) := by
        show _ ≤ _
        rw [hL0, List.length_append]
        exact HL4.out
      rw [← hL0] at HO6
      clear hL0 c1 c2 c3 c4 HO2 HA2 HO3 HA3 HO4 HA4 HO5 HA5 HL1 HL2 HL3 HL4 HL5 hlt hk
      go_loopw [0, 62] (fun u i wr => ∃ k : Nat, k ≤ n ∧ i = .int .i64 k ∧ Hid (Own wr u (L0 ++ tl true (ps.take k))) ∧ Hid (App 1 w0 v wr u)) (fun _ i _ => n - (intOf i).toNat)
      case atStart => exact ⟨0, Nat.zero_le _, rfl, by show Own w6 v6 (L0 ++ tl true (ps.take 0)); simpa [tl] using HO6.out, HA6.out⟩
      case round =>
        clear HO6 HA6
        obtain ⟨k, hk, rfl, HO, HA⟩ := hrel
        by_cases hlt : k < n
        · obtain ⟨⟨s1, s2⟩, hp⟩ : ∃ p, ps[k]? = some p := ⟨_, List.getElem?_eq_getElem (by rw [← HN.out]; exact hlt)⟩
          obtain ⟨b1, o1, e1, h1, h2⟩ := (HS0.out.app HA.out HNE.out).item hp
          subst e1
          obtain ⟨L, hL⟩ : ∃ L, L = L0 ++ tl true (ps.take k) := ⟨_, rfl⟩
          have HP := hideH (psum_take hp)
          have hps : s1.size + s2.size ≤ 1099511627776 := by
            have := HPT.out (k + 1)
            rw [HP.out] at this
            simp only at this
            omega
          have hLl : L.length ≤ 4398046511104 := by
            rw [hL, List.length_append]
            have h3 := tl_length_le true (ps.take k)
            have h4 := HPT.out k
            have h5 := HLL.out
            have h6 : (ps.take k).length ≤ k := List.length_take_le _ _
            omega
          have HTL : Hid (L0 ++ tl true (ps.take (k + 1)) = L ++ ((if (ps.take k).isEmpty then [] else [38]) ++ bs s1 ++ [61] ++ bs s2)) := by
            show _ = _
            obtain ⟨hk', e⟩ := List.getElem?_eq_some_iff.1 hp
            rw [List.take_succ_eq_append_getElem hk', e, tl_snoc, hL]
            simp only [Bool.true_and, List.append_assoc]
          have HEM : Hid ((ps.take k).isEmpty = decide (k = 0)) := by
            show _ = _
            cases k with
            | zero => rfl
            | succ k => 
              have : ps ≠ [] := by intro e; rw [e] at hp; simp at hp
              simp [this]
          have HOL : Hid (Own wr u0 L) := by rw [hL]; exact HO.out
          have HU : Hid (u0.ownBlock ≠ some wr.heap.size) := fun e => by have := HO.out.inb _ e; omega
          have HTW : Hid (Two (wr.alloc (.cells #[.string s1, .string s2] 40)) wr.heap.size s1 s2) := by
            refine ⟨?_, ?_⟩ <;> (rw [cell_of_row _ wr.heap.size _ _ 40 (0, 0) (heap_alloc_new wr _)]; rfl)
          have hlt' : (k : Int) < (n : Int) := by omega
          have hb1 : b1 < wr.heap.size := World.block_lt_of_cell? wr _ h1
          clear hp hL HO HP
          by_cases hk0 : 0 < k
          · have HC : Hid ((if (ps.take k).isEmpty then [] else [38]) = ([38] : List UInt8)) := by
              show _ = _
              rw [HEM.out]
              simp; omega
            have HL0' : Hid (L.length + 1 ≤ 70368744177664) := by show _ ≤ _; omega
            have HL1 : Hid ((L ++ [38]).length + (bs s1).length ≤ 70368744177664) := by show _ ≤ _; rw [List.length_append, bs_length]; simp only [List.length_singleton]; omega
            have HL2 : Hid ((L ++ [38] ++ bs s1).length + 1 ≤ 70368744177664) := by show _ ≤ _; rw [List.length_append, List.length_append, bs_length]; simp only [List.length_singleton]; omega
            have HL3 : Hid ((L ++ [38] ++ bs s1 ++ [61]).length + (bs s2).length ≤ 70368744177664) := by show _ ≤ _; rw [List.length_append, List.length_append, List.length_append, bs_length, bs_length]; simp only [List.length_singleton]; omega
            clear hLl hps
            go_wp2_with (first
              | (at_builtin; refine wpList_app1q (w := wr.alloc (.cells #[.string s1, .string s2] 40)) rfl (.tmp 69) (.tmp 70) rfl u0 L rfl (HOL.out.alloc _) 38 (wr.heap.size + 1) (by simp) rfl HL0'.out ?_; intro x2 y2 ho2 ha2; have HO2 := hideH ho2; have HA2 := hideH ((HA.out.alloc _).trans ha2); have HT2 := hideH (HTW.out.app ha2 HU.out); have HU2 : Hid (x2.ownBlock ≠ some wr.heap.size) := hideH (own_ne ha2 HU.out (by simp)); clear ho2 ha2; obtain ⟨c1, c2⟩ := HT2.out)
              | (at_builtin; refine wpList_app rfl (.tmp 72) (.tmp 74) 9 rfl x2 _ rfl HO2.out _ (bs s1) rfl (srcStr s1 _) HL1.out ?_; intro x3 y3 ho3 ha3; have HO3 := hideH ho3; have HA3 := hideH (HA2.out.trans ha3); have HT3 := hideH (HT2.out.app ha3 HU2.out); have HU3 : Hid (x3.ownBlock ≠ some wr.heap.size) := hideH (own_ne ha3 HU2.out (World.block_lt_of_cell? _ _ HT2.out.1)); clear ho3 ha3 c1 c2; obtain ⟨c1, c2⟩ := HT3.out)
              | (at_builtin; refine wpList_app1 (w := y3) rfl (.tmp 76) (.tmp 77) rfl x3 _ rfl HO3.out 61 rfl HL2.out ?_; intro x4 y4 ho4 ha4; have HO4 := hideH ho4; have HA4 := hideH (HA3.out.trans ha4); have HT4 := hideH (HT3.out.app ha4 HU3.out); clear ho4 ha4 c1 c2; obtain ⟨c1, c2⟩ := HT4.out)
              | (at_builtin; refine wpList_app rfl (.tmp 79) (.tmp 81) 9 rfl x4 _ rfl HO4.out _ (bs s2) rfl (srcStr s2 _) HL3.out ?_; intro x5 y5 ho5 ha5; have HO5 := hideH ho5; have HA5 := hideH (HA4.out.trans ha5); clear ho5 ha5 c1 c2))
            go_roundw
            case rel =>
              refine ⟨k + 1, by omega, by go_num, ?_, HA5.out⟩
              have := HO5.out
              show Own _ _ _
              rw [HTL.out, HC.out]
              simpa only [List.append_assoc] using this
            case measure => simp [intOf]; omega
          · have HC : Hid ((if (ps.take k).isEmpty then [] else [38]) = ([] : List UInt8)) := by
              show _ = _
              rw [HEM.out]
              simp; omega
            have HL1 : Hid (L.length + (bs s1).length ≤ 70368744177664) := by show _ ≤ _; rw [bs_length]; omega
            have HL2 : Hid ((L ++ bs s1).length + 1 ≤ 70368744177664) := by show _ ≤ _; rw [List.length_append, bs_length]; omega
            have HL3 : Hid ((L ++ bs s1 ++ [61]).length + (bs s2).length ≤ 70368744177664) := by show _ ≤ _; rw [List.length_append, List.length_append, bs_length, bs_length]; simp only [List.length_singleton]; omega
            clear hLl hps
            go_wp2_with (first
              | (at_builtin; refine wpList_app rfl (.tmp 72) (.tmp 74) 9 rfl u0 L rfl (HOL.out.alloc _) _ (bs s1) rfl (srcStr s1 _) HL1.out ?_; intro x3 y3 ho3 ha3; have HO3 := hideH ho3; have HA3 := hideH ((HA.out.alloc _).trans ha3); have HT3 := hideH (HTW.out.app ha3 HU.out); have HU3 : Hid (x3.ownBlock ≠ some wr.heap.size) := hideH (own_ne ha3 HU.out (by simp)); clear ho3 ha3; obtain ⟨c1, c2⟩ := HT3.out)
              | (at_builtin; refine wpList_app1 (w := y3) rfl (.tmp 76) (.tmp 77) rfl x3 _ rfl HO3.out 61 rfl HL2.out ?_; intro x4 y4 ho4 ha4; have HO4 := hideH ho4; have HA4 := hideH (HA3.out.trans ha4); have HT4 := hideH (HT3.out.app ha4 HU3.out); clear ho4 ha4 c1 c2; obtain ⟨c1, c2⟩ := HT4.out)
              | (at_builtin; refine wpList_app rfl (.tmp 79) (.tmp 81) 9 rfl x4 _ rfl HO4.out _ (bs s2) rfl (srcStr s2 _) HL3.out ?_; intro x5 y5 ho5 ha5; have HO5 := hideH ho5; have HA5 := hideH (HA4.out.trans ha5); clear ho5 ha5 c1 c2))
            go_roundw
            case rel =>
              refine ⟨k + 1, by omega, by go_num, ?_, HA5.out⟩
              have := HO5.out
              show Own _ _ _
              rw [HTL.out, HC.out]
              simpa only [List.append_assoc, List.nil_append] using this
            case measure => simp [intOf]; omega
        · go_wp2
          go_ret
          refine ⟨_, rfl, ?_, HA0.out.trans HA.out⟩
          have := HO.out
          rw [List.take_of_length_le (by rw [← HN.out]; omega), HL0.out] at this
          exact this
end Go.Proofs.Qxb6601522a
