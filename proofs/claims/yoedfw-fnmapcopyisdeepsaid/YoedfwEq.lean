/-
  (*Int).Equals, (*String).Equals, (*Map).Equals BY CONTRACTS.
-/
import Derived.Test.YoedfwInts
import Derived.RegionTactic
import Derived.ChangeAlike
namespace Go.Proofs.Yoedfw
open Go.RowKit Go.Maps

/-! ### 't, ok := x.( *Int)' and its like: closed facts -/
theorem ta43_43 (a : Addr) (w : World) : (Instr.typeAssert (.iface 43 (.pointer (some a))) 37 43 true).run Edfg.prog w = .ok (.tuple #[.pointer (some a), .bool true]) w := by kernel_rfl
theorem ta50_43 (a : Addr) (w : World) : (Instr.typeAssert (.iface 50 (.pointer (some a))) 37 43 true).run Edfg.prog w = .ok (.tuple #[.pointer none, .bool false]) w := by kernel_rfl
theorem ta43_50 (a : Addr) (w : World) : (Instr.typeAssert (.iface 43 (.pointer (some a))) 37 50 true).run Edfg.prog w = .ok (.tuple #[.pointer none, .bool false]) w := by kernel_rfl
theorem ta29_29 (a : Addr) (w : World) : (Instr.typeAssert (.iface 29 (.pointer (some a))) 37 29 true).run Edfg.prog w = .ok (.tuple #[.pointer (some a), .bool true]) w := by kernel_rfl

set_option maxHeartbeats 400000 in
theorem int_eq (c1 c2 : Nat) (x1 x2 : Int) (w : World) (h1 : w.cell? ⟨c1, 0, none⟩ = some (.int .i64 x1)) (h2 : w.cell? ⟨c2, 0, none⟩ = some (.int .i64 x2)) :
    Calls Edfg.prog 49 #[.pointer (some ⟨c1, 0, none⟩), .iface 43 (.pointer (some ⟨c2, 0, none⟩))] w fun e w' => e = .returned (.bool (x1 == x2)) ∧ Below w.heap.size w w' := by
  have hta := ta43_43
  go_enter Edfg.func49, Edfg.ntmps49
  go_wp2
  go_region
  all_goals
    go_wp2
    go_ret
    exact ⟨rfl, (Below.refl _ _).drew⟩

set_option maxHeartbeats 400000 in
theorem int_str (c1 c2 : Nat) (w : World) :
    Calls Edfg.prog 49 #[.pointer (some ⟨c1, 0, none⟩), .iface 50 (.pointer (some ⟨c2, 0, none⟩))] w fun e w' => e = .returned (.bool false) ∧ Below w.heap.size w w' := by
  have hta := ta50_43
  go_enter Edfg.func49, Edfg.ntmps49
  go_wp2
  go_ret
  exact ⟨rfl, Below.refl _ _⟩

set_option maxHeartbeats 400000 in
theorem str_int (c1 c2 : Nat) (w : World) :
    Calls Edfg.prog 66 #[.pointer (some ⟨c1, 0, none⟩), .iface 43 (.pointer (some ⟨c2, 0, none⟩))] w fun e w' => e = .returned (.bool false) ∧ Below w.heap.size w w' := by
  have hta := ta43_50
  go_enter Edfg.func66, Edfg.ntmps66
  go_wp2
  go_ret
  exact ⟨rfl, Below.refl _ _⟩

/-! ### (*Map).Equals -/
/-- Maps of different sizes: false. -/
theorem eq_sizes {R1 R2 : Value → Option (DataW Unit × List MemPlace)} (s1 b1 n1 s2 b2 n2 : Nat) (D1 D2 : DataW Unit) (w : World) (hs1 : w.cell? ⟨s1, 0, none⟩ = some (.map (some b1))) (hs2 : w.cell? ⟨s2, 0, none⟩ = some (.map (some b2)))
    (own1 : w.ownsMap Edfg.prog 9 R1 b1 n1 D1) (own2 : w.ownsMap Edfg.prog 9 R2 b2 n2 D2) (hne : size D1 ≠ size D2) :
    Calls Edfg.prog 16 #[.pointer (some ⟨s1, 0, none⟩), .iface 29 (.pointer (some ⟨s2, 0, none⟩))] w fun e w' => e = .returned (.bool false) ∧ Below w.heap.size w w' := by
  have hta := ta29_29
  have hb : ((size D1 : Int) != (size D2 : Int)) = true := by simp; omega
  have l1 := fun ty => own1.len Edfg.underlying30 ty
  have l2 := fun ty => own2.len Edfg.underlying30 ty
  go_enter Edfg.func16, Edfg.ntmps16
  go_wp2
  go_ret
  exact ⟨rfl, Below.refl _ _⟩

/-- The function that 'v.Equals(..)' comes to, by v's dynamic type. -/
def eqFn : Nat → Nat
  | 43 => 49
  | 50 => 66
  | _ => 16

set_option maxHeartbeats 1600000 in
set_option maxRecDepth 100000 in
/-- MAPS OF ONE SIZE, EACH KEY OF THE FIRST IN THE SECOND: 'q' says of each key what the elements' own Equals answers: true just if q is true at every key. -/
theorem eq_any (TS2 : List Nat) (s1 b1 n1 s2 b2 n2 : Nat) (D1 D2 : DataW Unit) (w : World) (hs1 : w.cell? ⟨s1, 0, none⟩ = some (.map (some b1))) (hs2 : w.cell? ⟨s2, 0, none⟩ = some (.map (some b2)))
    (own1 : w.ownsMap Edfg.prog 9 (objElem [43, 50, 29]) b1 n1 D1) (own2 : w.ownsMap Edfg.prog 9 (objElem TS2) b2 n2 D2) (hsz : size D1 = size D2)
    (q : Lit → Bool) (y : Bool) (hyt : y = true → ∀ kl, has D1 kl = true → q kl = true) (hyf : y = false → ∃ kl, has D1 kl = true ∧ q kl = false)
    (helem : ∀ wr kl t1 c1, Below w.heap.size w wr → (∀ zd, D1.atKey kl zd = objD t1 c1) → ∃ t2 c2, (∀ zd, D2.atKey kl zd = objD t2 c2) ∧
      Calls Edfg.prog (eqFn t1) #[.pointer (some ⟨c1, 0, none⟩), .iface t2 (.pointer (some ⟨c2, 0, none⟩))] wr fun e w' => e = .returned (.bool (q kl)) ∧ Below wr.heap.size wr w') :
    Calls Edfg.prog 16 #[.pointer (some ⟨s1, 0, none⟩), .iface 29 (.pointer (some ⟨s2, 0, none⟩))] w fun e w' => e = .returned (.bool y) ∧ Below w.heap.size w w' := by
  have hta := ta29_29
  have hm1 := mEquals43
  have hm2 := mEquals50
  have hm3 := mEquals29
  obtain ⟨z, hz⟩ : ∃ z : Int, z = (size D2 : Int) := ⟨_, rfl⟩
  have l1 : ∀ ty, (Builtin.len_ #[30] ty #[.map (some b1)]).run Edfg.prog w = .ok (.int .i64 z) w := fun ty => by rw [hz, ← hsz]; exact own1.len Edfg.underlying30 ty
  have l2 : ∀ ty, (Builtin.len_ #[30] ty #[.map (some b2)]).run Edfg.prog w = .ok (.int .i64 z) w := fun ty => by rw [hz]; exact own2.len Edfg.underlying30 ty
  have HSZ : Hid (size D1 = size D2) := hsz
  have HYT : Hid (y = true → ∀ kl, has D1 kl = true → q kl = true) := hyt
  have HYF : Hid (y = false → ∃ kl, has D1 kl = true ∧ q kl = false) := hyf
  have HE : Hid (∀ wr kl t1 c1, Below w.heap.size w wr → (∀ zd, D1.atKey kl zd = objD t1 c1) → ∃ t2 c2, (∀ zd, D2.atKey kl zd = objD t2 c2) ∧
      Calls Edfg.prog (eqFn t1) #[.pointer (some ⟨c1, 0, none⟩), .iface t2 (.pointer (some ⟨c2, 0, none⟩))] wr fun e w' => e = .returned (.bool (q kl)) ∧ Below wr.heap.size wr w') := helem
  clear hsz hyt hyf helem hz
  go_enter Edfg.func16, Edfg.ntmps16
  go_wp2_with (first
    | (at_range; refine wpList_range_own _ rfl _ 30 rfl 9 37 law9 Edfg.underlying30 _ b1 n1 D1 rfl own1 ?_; intro w0 hrg0 hg0 hs0)
    | go_in)
  go_frame
  go_loopw [9] (fun _ wr => ∃ (left : Lit → Bool) (cnt : Nat), wr.ranges Edfg.prog 9 (objElem [43, 50, 29]) b1 w.heap.size n1 D1 left cnt ∧ (y = false → ∃ kl, left kl = true ∧ q kl = false) ∧ Below w.heap.size w wr)
    (fun _ wr => wr.rangeLeft b1 w.heap.size)
  case atStart => exact ⟨_, _, hrg0, HYF.out, grown_below hg0⟩
  case round =>
    obtain ⟨left, cnt, hrg, hlf, hnx⟩ := hrel
    have HLF : Hid (y = false → ∃ kl, left kl = true ∧ q kl = false) := hlf
    clear hlf
    go_wp2_with (first
      | (at_next; refine next_obj _ rfl _ rfl [43, 50, 29] b1 w.heap.size n1 _ _ _ rfl hrg ?_ ?_)
      | go_in)
    · -- NOTHING IS LEFT
      intro hc0 hl0
      have hy : y = true := by
        cases hy : y
        · obtain ⟨kl, h1, _⟩ := HLF.out hy
          rw [hl0] at h1
          cases h1
        · rfl
      subst hy
      go_wp2
      go_ret
      exact ⟨rfl, hnx⟩
    · -- AN ENTRY HAS COME
      intro x t1 c1 w1 cnt1 ht hx hlx hat hrg1 hlt hg1 hs1' hen
      have hw1 : Below w.heap.size w w1 := hnx.grown hg1 hnx.size (fun j hj => by cases hj; exact Nat.le_refl _)
      have hD : has D1 (keyL x) = true := Maps.has_true_of_atKey hat
      obtain ⟨t2, c2, hat2, hcall⟩ := HE.out w1 (keyL x) t1 c1 hw1 hat
      have own2' := own_below own2 hw1
      have ht' : t1 = 43 ∨ t1 = 50 ∨ t1 = 29 := by simpa using ht
      clear ht
      rcases ht' with rfl | rfl | rfl
      · clear hm2 hm3
        cases hq : q (keyL x)
        · have hcall' : Calls Edfg.prog 49 #[.pointer (some ⟨c1, 0, none⟩), .iface t2 (.pointer (some ⟨c2, 0, none⟩))] w1 fun e w' => e = .returned (.bool false) ∧ Below w1.heap.size w1 w' := by rw [← hq]; exact hcall
          have hy : y = false := by
            cases hy : y
            · rfl
            · rw [HYT.out hy _ hD] at hq
              cases hq
          have HE2 : Hid (Calls Edfg.prog 49 #[.pointer (some ⟨c1, 0, none⟩), .iface t2 (.pointer (some ⟨c2, 0, none⟩))] w1 fun e w' => e = .returned (.bool false) ∧ Below w1.heap.size w1 w') := hcall'
          clear hcall hcall' hq
          subst hy
          go_wp2_with (first
            | (at_lookup; refine lookup_obj _ rfl _ _ rfl TS2 b2 n2 D2 rfl own2' x rfl hx t2 c2 hat2 ?_)
            | (go_at_call 49; refine HE2.out.mono ?_; rintro e w2 ⟨rfl, hb2⟩)
            | go_in)
          go_ret
          exact ⟨rfl, below_then hw1 hb2 hw1.size⟩
        · have hcall' : Calls Edfg.prog 49 #[.pointer (some ⟨c1, 0, none⟩), .iface t2 (.pointer (some ⟨c2, 0, none⟩))] w1 fun e w' => e = .returned (.bool true) ∧ Below w1.heap.size w1 w' := by rw [← hq]; exact hcall
          have HE2 : Hid (Calls Edfg.prog 49 #[.pointer (some ⟨c1, 0, none⟩), .iface t2 (.pointer (some ⟨c2, 0, none⟩))] w1 fun e w' => e = .returned (.bool true) ∧ Below w1.heap.size w1 w') := hcall'
          have HQ : Hid (q (keyL x) = true) := hq
          clear hcall hcall' hq
          go_wp2_with (first
            | (at_lookup; refine lookup_obj _ rfl _ _ rfl TS2 b2 n2 D2 rfl own2' x rfl hx t2 c2 hat2 ?_)
            | (go_at_call 49; refine HE2.out.mono ?_; rintro e w2 ⟨rfl, hb2⟩)
            | go_in)
          have hrg2 := ranges_below hrg1 hb2
          go_roundw
          case rel =>
            refine ⟨_, cnt1, hrg2, fun hy => ?_, below_then hw1 hb2 hw1.size⟩
            obtain ⟨kl, h1, h2⟩ := HLF.out hy
            refine ⟨kl, ?_, h2⟩
            have hne : kl ≠ keyL x := fun e => by
              rw [e, HQ.out] at h2
              cases h2
            rw [h1, sameKey_ne hne]
            rfl
          case measure => rw [hrg2.left_eq, hrg.left_eq]; exact hlt
      · clear hm1 hm3
        cases hq : q (keyL x)
        · have hcall' : Calls Edfg.prog 66 #[.pointer (some ⟨c1, 0, none⟩), .iface t2 (.pointer (some ⟨c2, 0, none⟩))] w1 fun e w' => e = .returned (.bool false) ∧ Below w1.heap.size w1 w' := by rw [← hq]; exact hcall
          have hy : y = false := by
            cases hy : y
            · rfl
            · rw [HYT.out hy _ hD] at hq
              cases hq
          have HE2 : Hid (Calls Edfg.prog 66 #[.pointer (some ⟨c1, 0, none⟩), .iface t2 (.pointer (some ⟨c2, 0, none⟩))] w1 fun e w' => e = .returned (.bool false) ∧ Below w1.heap.size w1 w') := hcall'
          clear hcall hcall' hq
          subst hy
          go_wp2_with (first
            | (at_lookup; refine lookup_obj _ rfl _ _ rfl TS2 b2 n2 D2 rfl own2' x rfl hx t2 c2 hat2 ?_)
            | (go_at_call 66; refine HE2.out.mono ?_; rintro e w2 ⟨rfl, hb2⟩)
            | go_in)
          go_ret
          exact ⟨rfl, below_then hw1 hb2 hw1.size⟩
        · have hcall' : Calls Edfg.prog 66 #[.pointer (some ⟨c1, 0, none⟩), .iface t2 (.pointer (some ⟨c2, 0, none⟩))] w1 fun e w' => e = .returned (.bool true) ∧ Below w1.heap.size w1 w' := by rw [← hq]; exact hcall
          have HE2 : Hid (Calls Edfg.prog 66 #[.pointer (some ⟨c1, 0, none⟩), .iface t2 (.pointer (some ⟨c2, 0, none⟩))] w1 fun e w' => e = .returned (.bool true) ∧ Below w1.heap.size w1 w') := hcall'
          have HQ : Hid (q (keyL x) = true) := hq
          clear hcall hcall' hq
          go_wp2_with (first
            | (at_lookup; refine lookup_obj _ rfl _ _ rfl TS2 b2 n2 D2 rfl own2' x rfl hx t2 c2 hat2 ?_)
            | (go_at_call 66; refine HE2.out.mono ?_; rintro e w2 ⟨rfl, hb2⟩)
            | go_in)
          have hrg2 := ranges_below hrg1 hb2
          go_roundw
          case rel =>
            refine ⟨_, cnt1, hrg2, fun hy => ?_, below_then hw1 hb2 hw1.size⟩
            obtain ⟨kl, h1, h2⟩ := HLF.out hy
            refine ⟨kl, ?_, h2⟩
            have hne : kl ≠ keyL x := fun e => by
              rw [e, HQ.out] at h2
              cases h2
            rw [h1, sameKey_ne hne]
            rfl
          case measure => rw [hrg2.left_eq, hrg.left_eq]; exact hlt
      · clear hm1 hm2
        cases hq : q (keyL x)
        · have hcall' : Calls Edfg.prog 16 #[.pointer (some ⟨c1, 0, none⟩), .iface t2 (.pointer (some ⟨c2, 0, none⟩))] w1 fun e w' => e = .returned (.bool false) ∧ Below w1.heap.size w1 w' := by rw [← hq]; exact hcall
          have hy : y = false := by
            cases hy : y
            · rfl
            · rw [HYT.out hy _ hD] at hq
              cases hq
          have HE2 : Hid (Calls Edfg.prog 16 #[.pointer (some ⟨c1, 0, none⟩), .iface t2 (.pointer (some ⟨c2, 0, none⟩))] w1 fun e w' => e = .returned (.bool false) ∧ Below w1.heap.size w1 w') := hcall'
          clear hcall hcall' hq
          subst hy
          go_wp2_with (first
            | (at_lookup; refine lookup_obj _ rfl _ _ rfl TS2 b2 n2 D2 rfl own2' x rfl hx t2 c2 hat2 ?_)
            | (go_at_call 16; refine HE2.out.mono ?_; rintro e w2 ⟨rfl, hb2⟩)
            | go_in)
          go_ret
          exact ⟨rfl, below_then hw1 hb2 hw1.size⟩
        · have hcall' : Calls Edfg.prog 16 #[.pointer (some ⟨c1, 0, none⟩), .iface t2 (.pointer (some ⟨c2, 0, none⟩))] w1 fun e w' => e = .returned (.bool true) ∧ Below w1.heap.size w1 w' := by rw [← hq]; exact hcall
          have HE2 : Hid (Calls Edfg.prog 16 #[.pointer (some ⟨c1, 0, none⟩), .iface t2 (.pointer (some ⟨c2, 0, none⟩))] w1 fun e w' => e = .returned (.bool true) ∧ Below w1.heap.size w1 w') := hcall'
          have HQ : Hid (q (keyL x) = true) := hq
          clear hcall hcall' hq
          go_wp2_with (first
            | (at_lookup; refine lookup_obj _ rfl _ _ rfl TS2 b2 n2 D2 rfl own2' x rfl hx t2 c2 hat2 ?_)
            | (go_at_call 16; refine HE2.out.mono ?_; rintro e w2 ⟨rfl, hb2⟩)
            | go_in)
          have hrg2 := ranges_below hrg1 hb2
          go_roundw
          case rel =>
            refine ⟨_, cnt1, hrg2, fun hy => ?_, below_then hw1 hb2 hw1.size⟩
            obtain ⟨kl, h1, h2⟩ := HLF.out hy
            refine ⟨kl, ?_, h2⟩
            have hne : kl ≠ keyL x := fun e => by
              rw [e, HQ.out] at h2
              cases h2
            rw [h1, sameKey_ne hne]
            rfl
          case measure => rw [hrg2.left_eq, hrg.left_eq]; exact hlt

end Go.Proofs.Yoedfw
