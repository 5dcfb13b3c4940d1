/-
  zzCloneStrings, zzCloneInt64s, zzCloneBools, EACH BY A CONTRACT: a row of the call's own that holds the same; nil stays nil.
-/
import Derived.Test.YoedfwSmall
namespace Go.Proofs.Yoedfw
open Go.RowKit Go.Maps

/-! ### zzCloneStrings -/
theorem info9 : (Edfg.prog.info? 9).map (fun i => (i.zero, i.size, i.bytes)) = some (some (.string ByteArray.empty), 1, 16) := by kernel_rfl

set_option maxHeartbeats 800000 in
set_option maxRecDepth 100000 in
theorem clone11 (a : Option Addr) (n cap : Nat) (ss : List ByteArray) (w : World) (hn : n ≤ 65536) (hz : ss.length = n) (hnil : a = none → n = 0) (hc : SlAt Value.string w a ss) :
    Calls Edfg.prog 11 #[.slice a n cap] w fun e w' => ∃ a' cap', e = .returned (.slice a' n cap') ∧ SlAt Value.string w' a' ss ∧ Below w.heap.size w w' := by
  have hnl := fun (W : World) (x : Option Addr) (p q : Nat) => Lib.run_eql_slice_nil (P := Edfg.prog) W 22 9 x p q 0 0 Edfg.underlying22
  obtain ⟨i0, hi, hz0, hz1, hz2⟩ := info_parts info9
  cases a with
  | none =>
    have h0 := hnil rfl
    clear hnil hc
    have HZ : Hid (ss.length = n) := hz
    clear hz hn
    subst h0
    go_enter Edfg.func11, Edfg.ntmps11
    go_wp2
    go_ret
    exact ⟨none, 0, rfl, fun h => by have := HZ.out; omega, Below.refl _ _⟩
  | some a0 =>
    clear hnil
    by_cases h0 : n = 0
    · have HZ : Hid (ss.length = n) := hz
      clear hc hz hn
      subst h0
      go_enter Edfg.func11, Edfg.ntmps11
      go_wp2_with (first
        | (at_make; refine wpList_make_full _ rfl _ _ 22 rfl w.heap.size 9 i0 (.string ByteArray.empty) 1 Edfg.underlying22 hi hz0 hz1 .i64 .i64 _ _ 0 rfl rfl rfl rfl (by omega) (by unfold maxLen; omega) (Nat.le_refl _) ?_; intro w1 hown hg)
        | go_in)
      refine wp_loop_rounds 1 ?_
      rw [rounds_succ]
      go_wp2
      go_ret
      exact ⟨_, _, rfl, fun h => by have := HZ.out; omega, grown_below hg⟩
    · obtain ⟨b, off, ea, hd⟩ := hc (by omega)
      cases ea
      clear hc
      have hbl : b < w.heap.size := World.block_lt_of_cell? w _ (hd 0 (by omega))
      have HZ : Hid (ss.length = n) := hz
      clear hz h0
      go_enter Edfg.func11, Edfg.ntmps11
      go_wp2_with (first
        | (at_make; refine wpList_make_full _ rfl _ _ 22 rfl w.heap.size 9 i0 (.string ByteArray.empty) 1 Edfg.underlying22 hi hz0 hz1 .i64 .i64 _ _ n rfl rfl rfl rfl (by rw [hz2]; omega) (by unfold maxLen; omega) (Nat.le_refl _) ?_; intro w1 hown hg)
        | go_in)
      go_loopw [4] (fun i wr => ∃ (k : Nat) (xs : List Value), k ≤ n ∧ i = .int .i64 k ∧ wr.ownsRow w.heap.size 9 1 (.slice (some ⟨w.heap.size, 0, none⟩) n n) n xs ∧ (∀ j (h : j < ss.length), j < k → xs[j]? = some (Value.string ss[j])) ∧ Below w.heap.size w wr)
        (fun i _ => n - (intOf i).toNat)
      case atStart => exact ⟨0, _, Nat.zero_le _, rfl, hown, fun j _ hj => by omega, grown_below hg⟩
      case round =>
        obtain ⟨k, xs, hk, rfl, hown, hxs, hnx⟩ := hrel
        by_cases hlt : k < n
        · obtain ⟨s, hs⟩ : ∃ s : ByteArray, s = ss[k]'(by rw [HZ.out]; exact hlt) := ⟨_, rfl⟩
          have hcell : wr.cell? ⟨b, off + k, none⟩ = some (Value.string s) := by rw [hs]; exact (hnx.cell (by exact hbl)).trans (hd k (by rw [HZ.out]; exact hlt))
          have HS : Hid (s = ss[k]'(by rw [HZ.out]; exact hlt)) := hs
          have hxl : xs.length = n := by have := hown.1; omega
          have hfz := hown.frozenAt k
          obtain ⟨v3, hv3⟩ : ∃ v3, wr.cell? ⟨w.heap.size, k, none⟩ = some v3 := ⟨_, (hown.cellAt k (by omega)).trans (List.getElem?_eq_getElem (by omega))⟩
          clear hs hd
          go_wp2
          go_roundw
          case rel =>
            refine ⟨k + 1, xs.set k (Value.string s), by omega, by go_num, (hown.stored k _).1, fun j hj hjk => ?_, hnx.setCell (by simp) _⟩
            by_cases hjk' : j = k
            · subst hjk'
              rw [List.getElem?_set_self (by omega), HS.out]
            · rw [List.getElem?_set_ne (by omega)]
              exact hxs j hj (by omega)
          case measure => simp [intOf]; omega
        · have hkn : k = n := by omega
          subst hkn
          go_wp2
          go_ret
          refine ⟨_, _, rfl, fun _ => ⟨_, 0, rfl, fun j hj => ?_⟩, hnx⟩
          have hjk : j < k := by rw [← HZ.out]; exact hj
          rw [Nat.zero_add, hown.cellAt j (by omega)]
          exact hxs j hj hjk

/-! ### zzCloneInt64s -/
theorem info2 : (Edfg.prog.info? 2).map (fun i => (i.zero, i.size, i.bytes)) = some (some (.int .i64 0), 1, 8) := by kernel_rfl

set_option maxHeartbeats 800000 in
set_option maxRecDepth 100000 in
theorem clone12 (a : Option Addr) (n cap : Nat) (ss : List Int) (w : World) (hn : n ≤ 65536) (hz : ss.length = n) (hnil : a = none → n = 0) (hc : SlAt (Value.int .i64) w a ss) :
    Calls Edfg.prog 12 #[.slice a n cap] w fun e w' => ∃ a' cap', e = .returned (.slice a' n cap') ∧ SlAt (Value.int .i64) w' a' ss ∧ Below w.heap.size w w' := by
  have hnl := fun (W : World) (x : Option Addr) (p q : Nat) => Lib.run_eql_slice_nil (P := Edfg.prog) W 23 2 x p q 0 0 Edfg.underlying23
  obtain ⟨i0, hi, hz0, hz1, hz2⟩ := info_parts info2
  cases a with
  | none =>
    have h0 := hnil rfl
    clear hnil hc
    have HZ : Hid (ss.length = n) := hz
    clear hz hn
    subst h0
    go_enter Edfg.func12, Edfg.ntmps12
    go_wp2
    go_ret
    exact ⟨none, 0, rfl, fun h => by have := HZ.out; omega, Below.refl _ _⟩
  | some a0 =>
    clear hnil
    by_cases h0 : n = 0
    · have HZ : Hid (ss.length = n) := hz
      clear hc hz hn
      subst h0
      go_enter Edfg.func12, Edfg.ntmps12
      go_wp2_with (first
        | (at_make; refine wpList_make_full _ rfl _ _ 23 rfl w.heap.size 2 i0 (.int .i64 0) 1 Edfg.underlying23 hi hz0 hz1 .i64 .i64 _ _ 0 rfl rfl rfl rfl (by omega) (by unfold maxLen; omega) (Nat.le_refl _) ?_; intro w1 hown hg)
        | go_in)
      refine wp_loop_rounds 1 ?_
      rw [rounds_succ]
      go_wp2
      go_ret
      exact ⟨_, _, rfl, fun h => by have := HZ.out; omega, grown_below hg⟩
    · obtain ⟨b, off, ea, hd⟩ := hc (by omega)
      cases ea
      clear hc
      have hbl : b < w.heap.size := World.block_lt_of_cell? w _ (hd 0 (by omega))
      have HZ : Hid (ss.length = n) := hz
      clear hz h0
      go_enter Edfg.func12, Edfg.ntmps12
      go_wp2_with (first
        | (at_make; refine wpList_make_full _ rfl _ _ 23 rfl w.heap.size 2 i0 (.int .i64 0) 1 Edfg.underlying23 hi hz0 hz1 .i64 .i64 _ _ n rfl rfl rfl rfl (by rw [hz2]; omega) (by unfold maxLen; omega) (Nat.le_refl _) ?_; intro w1 hown hg)
        | go_in)
      go_loopw [4] (fun i wr => ∃ (k : Nat) (xs : List Value), k ≤ n ∧ i = .int .i64 k ∧ wr.ownsRow w.heap.size 2 1 (.slice (some ⟨w.heap.size, 0, none⟩) n n) n xs ∧ (∀ j (h : j < ss.length), j < k → xs[j]? = some ((Value.int .i64) ss[j])) ∧ Below w.heap.size w wr)
        (fun i _ => n - (intOf i).toNat)
      case atStart => exact ⟨0, _, Nat.zero_le _, rfl, hown, fun j _ hj => by omega, grown_below hg⟩
      case round =>
        obtain ⟨k, xs, hk, rfl, hown, hxs, hnx⟩ := hrel
        by_cases hlt : k < n
        · obtain ⟨s, hs⟩ : ∃ s : Int, s = ss[k]'(by rw [HZ.out]; exact hlt) := ⟨_, rfl⟩
          have hcell : wr.cell? ⟨b, off + k, none⟩ = some ((Value.int .i64) s) := by rw [hs]; exact (hnx.cell (by exact hbl)).trans (hd k (by rw [HZ.out]; exact hlt))
          have HS : Hid (s = ss[k]'(by rw [HZ.out]; exact hlt)) := hs
          have hxl : xs.length = n := by have := hown.1; omega
          have hfz := hown.frozenAt k
          obtain ⟨v3, hv3⟩ : ∃ v3, wr.cell? ⟨w.heap.size, k, none⟩ = some v3 := ⟨_, (hown.cellAt k (by omega)).trans (List.getElem?_eq_getElem (by omega))⟩
          clear hs hd
          go_wp2
          go_roundw
          case rel =>
            refine ⟨k + 1, xs.set k ((Value.int .i64) s), by omega, by go_num, (hown.stored k _).1, fun j hj hjk => ?_, hnx.setCell (by simp) _⟩
            by_cases hjk' : j = k
            · subst hjk'
              rw [List.getElem?_set_self (by omega), HS.out]
            · rw [List.getElem?_set_ne (by omega)]
              exact hxs j hj (by omega)
          case measure => simp [intOf]; omega
        · have hkn : k = n := by omega
          subst hkn
          go_wp2
          go_ret
          refine ⟨_, _, rfl, fun _ => ⟨_, 0, rfl, fun j hj => ?_⟩, hnx⟩
          have hjk : j < k := by rw [← HZ.out]; exact hj
          rw [Nat.zero_add, hown.cellAt j (by omega)]
          exact hxs j hj hjk

/-! ### zzCloneBools -/
theorem info4 : (Edfg.prog.info? 4).map (fun i => (i.zero, i.size, i.bytes)) = some (some (.bool false), 1, 1) := by kernel_rfl

set_option maxHeartbeats 800000 in
set_option maxRecDepth 100000 in
theorem clone27 (a : Option Addr) (n cap : Nat) (ss : List Bool) (w : World) (hn : n ≤ 65536) (hz : ss.length = n) (hnil : a = none → n = 0) (hc : SlAt Value.bool w a ss) :
    Calls Edfg.prog 27 #[.slice a n cap] w fun e w' => ∃ a' cap', e = .returned (.slice a' n cap') ∧ SlAt Value.bool w' a' ss ∧ Below w.heap.size w w' := by
  have hnl := fun (W : World) (x : Option Addr) (p q : Nat) => Lib.run_eql_slice_nil (P := Edfg.prog) W 54 4 x p q 0 0 Edfg.underlying54
  obtain ⟨i0, hi, hz0, hz1, hz2⟩ := info_parts info4
  cases a with
  | none =>
    have h0 := hnil rfl
    clear hnil hc
    have HZ : Hid (ss.length = n) := hz
    clear hz hn
    subst h0
    go_enter Edfg.func27, Edfg.ntmps27
    go_wp2
    go_ret
    exact ⟨none, 0, rfl, fun h => by have := HZ.out; omega, Below.refl _ _⟩
  | some a0 =>
    clear hnil
    by_cases h0 : n = 0
    · have HZ : Hid (ss.length = n) := hz
      clear hc hz hn
      subst h0
      go_enter Edfg.func27, Edfg.ntmps27
      go_wp2_with (first
        | (at_make; refine wpList_make_full _ rfl _ _ 54 rfl w.heap.size 4 i0 (.bool false) 1 Edfg.underlying54 hi hz0 hz1 .i64 .i64 _ _ 0 rfl rfl rfl rfl (by omega) (by unfold maxLen; omega) (Nat.le_refl _) ?_; intro w1 hown hg)
        | go_in)
      refine wp_loop_rounds 1 ?_
      rw [rounds_succ]
      go_wp2
      go_ret
      exact ⟨_, _, rfl, fun h => by have := HZ.out; omega, grown_below hg⟩
    · obtain ⟨b, off, ea, hd⟩ := hc (by omega)
      cases ea
      clear hc
      have hbl : b < w.heap.size := World.block_lt_of_cell? w _ (hd 0 (by omega))
      have HZ : Hid (ss.length = n) := hz
      clear hz h0
      go_enter Edfg.func27, Edfg.ntmps27
      go_wp2_with (first
        | (at_make; refine wpList_make_full _ rfl _ _ 54 rfl w.heap.size 4 i0 (.bool false) 1 Edfg.underlying54 hi hz0 hz1 .i64 .i64 _ _ n rfl rfl rfl rfl (by rw [hz2]; omega) (by unfold maxLen; omega) (Nat.le_refl _) ?_; intro w1 hown hg)
        | go_in)
      go_loopw [4] (fun i wr => ∃ (k : Nat) (xs : List Value), k ≤ n ∧ i = .int .i64 k ∧ wr.ownsRow w.heap.size 4 1 (.slice (some ⟨w.heap.size, 0, none⟩) n n) n xs ∧ (∀ j (h : j < ss.length), j < k → xs[j]? = some (Value.bool ss[j])) ∧ Below w.heap.size w wr)
        (fun i _ => n - (intOf i).toNat)
      case atStart => exact ⟨0, _, Nat.zero_le _, rfl, hown, fun j _ hj => by omega, grown_below hg⟩
      case round =>
        obtain ⟨k, xs, hk, rfl, hown, hxs, hnx⟩ := hrel
        by_cases hlt : k < n
        · obtain ⟨s, hs⟩ : ∃ s : Bool, s = ss[k]'(by rw [HZ.out]; exact hlt) := ⟨_, rfl⟩
          have hcell : wr.cell? ⟨b, off + k, none⟩ = some (Value.bool s) := by rw [hs]; exact (hnx.cell (by exact hbl)).trans (hd k (by rw [HZ.out]; exact hlt))
          have HS : Hid (s = ss[k]'(by rw [HZ.out]; exact hlt)) := hs
          have hxl : xs.length = n := by have := hown.1; omega
          have hfz := hown.frozenAt k
          obtain ⟨v3, hv3⟩ : ∃ v3, wr.cell? ⟨w.heap.size, k, none⟩ = some v3 := ⟨_, (hown.cellAt k (by omega)).trans (List.getElem?_eq_getElem (by omega))⟩
          clear hs hd
          go_wp2
          go_roundw
          case rel =>
            refine ⟨k + 1, xs.set k (Value.bool s), by omega, by go_num, (hown.stored k _).1, fun j hj hjk => ?_, hnx.setCell (by simp) _⟩
            by_cases hjk' : j = k
            · subst hjk'
              rw [List.getElem?_set_self (by omega), HS.out]
            · rw [List.getElem?_set_ne (by omega)]
              exact hxs j hj (by omega)
          case measure => simp [intOf]; omega
        · have hkn : k = n := by omega
          subst hkn
          go_wp2
          go_ret
          refine ⟨_, _, rfl, fun _ => ⟨_, 0, rfl, fun j hj => ?_⟩, hnx⟩
          have hjk : j < k := by rw [← HZ.out]; exact hj
          rw [Nat.zero_add, hown.cellAt j (by omega)]
          exact hxs j hj hjk

end Go.Proofs.Yoedfw
