/-
  FnMapIsFalsyExactlyWhenEmpty: zzDistinct BY A CONTRACT (nought just if there is no key), AND THE WALK.
-/
import Derived.Test.YoedfwTracks
import Derived.Test.YoedfwBuild
import Derived.Test.YoedfwBytes
namespace Go.Proofs.Yoedfw
open Go.RowKit Go.Maps

set_option maxHeartbeats 400000 in
theorem distinct_none (a : Option Addr) (n1 cap : Nat) (w : World) :
    Calls Edfg.prog 17 #[.slice a n1 cap, .int .i64 0] w fun e w' => e = .returned (.int .i64 0) ∧ Below w.heap.size w w' := by
  have hmm := @run_makeMap Edfg.prog
  go_enter Edfg.func17, Edfg.ntmps17
  go_wp2
  refine wp_loop_rounds 1 ?_
  rw [rounds_succ]
  go_wp2
  go_ret
  exact ⟨rfl, (Below.refl _ _).alloc (Nat.le_refl _) _⟩

set_option maxHeartbeats 800000 in
set_option maxRecDepth 100000 in
theorem distinct_some (b1 o1 n1 c1 n : Nat) (ss : List ByteArray) (w : World) (h0 : 0 < n) (hn : n ≤ 65536) (hl1 : ss.length = n1) (hn1 : n ≤ n1)
    (hc1 : ∀ j (h : j < ss.length), w.cell? ⟨b1, o1 + j, none⟩ = some (.string ss[j])) (hss : ∀ s ∈ ss, s.size ≤ maxLen) :
    Calls Edfg.prog 17 #[.slice (some ⟨b1, o1, none⟩) n1 c1, .int .i64 n] w fun e w' => ∃ d : Int, e = .returned (.int .i64 d) ∧ 0 < d ∧ Below w.heap.size w w' := by
  have hmm := @run_makeMap Edfg.prog
  have HL1 : Hid (ss.length = n1) := hl1
  have HC1 : Hid (∀ j (h : j < ss.length), w.cell? ⟨b1, o1 + j, none⟩ = some (.string ss[j])) := hc1
  have HS : Hid (∀ s ∈ ss, s.size ≤ maxLen) := hss
  clear hl1 hc1 hss
  go_enter Edfg.func17, Edfg.ntmps17
  go_wp2
  go_loopw [6, 7] (fun d i wr => ∃ (k : Nat) (z : Int) (D : DataW Unit), k ≤ n ∧ i = .int .i64 k ∧ d = .int .i64 z ∧ 0 ≤ z ∧ z ≤ k ∧ (0 < k → 0 < z) ∧ (k = 0 → ∀ kl, has D kl = false) ∧ wr.ownsMap Edfg.prog 9 trueElem w.heap.size k D ∧ Below w.heap.size w wr)
    (fun _ i _ => n - (intOf i).toNat)
  case atStart => exact ⟨0, 0, .map [], Nat.zero_le _, rfl, rfl, by omega, by omega, by omega, fun _ _ => rfl, World.ownsMap_made _ _ _ _, (Below.refl _ _).alloc (Nat.le_refl _) _⟩
  case round =>
    obtain ⟨k, z, D, hk, rfl, rfl, hz0, hzk, hpos, hemp, hown, hnx⟩ := hrel
    by_cases hlt : k < n
    · have hk1 : k < ss.length := by rw [HL1.out]; omega
      obtain ⟨s, hs⟩ : ∃ s : ByteArray, s = ss[k] := ⟨_, rfl⟩
      have hcs : wr.cell? ⟨b1, o1 + k, none⟩ = some (.string s) := by rw [hs]; exact cells_below hnx _ _ (HC1.out k hk1)
      have hsl : s.size ≤ maxLen := by rw [hs]; exact HS.out _ (List.getElem_mem _)
      have i1 : (k : Int) < (n1 : Int) := by omega
      have hkey := key_ok hsl
      have HSL : Hid (s.size ≤ maxLen) := hsl
      have HPOS : Hid (0 < k → 0 < z) := hpos
      have HEMP : Hid (k = 0 → ∀ kl, has D kl = false) := hemp
      clear hs hsl hk1 hpos hemp
      cases hp : has D (keyL s)
      · have HP : Hid (has D (keyL s) = false) := hp
        clear hp
        go_wp2_with (first
          | (at_lookup; refine lookup_true _ rfl _ _ rfl w.heap.size k D rfl hown s rfl HSL.out false HP.out ?_)
          | (at_mapUpdate; refine wpList_mapUpdate_own _ rfl _ _ _ 57 rfl 9 4 law9 Edfg.underlying57 trueElem w.heap.size k D rfl hown (by unfold maxLen; omega) _ _ _ rfl rfl hkey _ [] trueElem_mk ?_; intro w3 hm3 hg3)
          | go_in)
        go_roundw
        case rel => exact ⟨k + 1, z + 1, _, by omega, by go_num, rfl, by omega, by omega, by omega, by omega, hm3, hnx.grown hg3 hnx.size (fun j hj => by cases hj; exact Nat.le_refl _)⟩
        case measure => simp [intOf]; omega
      · have HP : Hid (has D (keyL s) = true) := hp
        have hk0 : 0 < k := by
          rcases Nat.eq_zero_or_pos k with e | e
          · have := HEMP.out e (keyL s)
            rw [hp] at this
            cases this
          · exact e
        clear hp
        go_wp2_with (first
          | (at_lookup; refine lookup_true _ rfl _ _ rfl w.heap.size k D rfl hown s rfl HSL.out true HP.out ?_)
          | go_in)
        go_roundw
        case rel => exact ⟨k + 1, z, D, by omega, by go_num, rfl, by omega, by omega, (fun _ => HPOS.out hk0), by omega, hown.mono (Nat.le_succ _), hnx⟩
        case measure => simp [intOf]; omega
    · have hkn : k = n := by omega
      subst hkn
      go_wp2
      go_ret
      exact ⟨z, rfl, hpos h0, hnx⟩

/-- zzDistinct: nought just if there is no key. -/
theorem distinct_any (a : Option Addr) (n1 c1 n : Nat) (ss : List ByteArray) (w : World) (hn : n ≤ 65536) (hl1 : ss.length = n1) (hn1 : n ≤ n1) (hc1 : SlAt Value.string w a ss) (hss : ∀ s ∈ ss, s.size ≤ maxLen) :
    Calls Edfg.prog 17 #[.slice a n1 c1, .int .i64 n] w fun e w' => ∃ d : Int, e = .returned (.int .i64 d) ∧ (d == 0) = (n == 0) ∧ Below w.heap.size w w' := by
  by_cases h0 : n = 0
  · subst h0
    refine (distinct_none a n1 c1 w).mono ?_
    rintro e w' ⟨rfl, hb⟩
    exact ⟨0, rfl, rfl, hb⟩
  · obtain ⟨b1, o1, e1, h1⟩ := hc1 (by omega)
    subst e1
    refine (distinct_some b1 o1 n1 c1 n ss w (by omega) hn hl1 hn1 h1 hss).mono ?_
    rintro e w' ⟨d, rfl, hd, hb⟩
    refine ⟨d, rfl, ?_, hb⟩
    have e1 : (d == 0) = false := by simp; omega
    have e2 : (n == 0) = false := by simp; omega
    rw [e1, e2]

theorem falsy_is {R : Value → Option (DataW Unit × List MemPlace)} (s b n : Nat) (D : DataW Unit) (y : Bool) (w : World) (hs : w.cell? ⟨s, 0, none⟩ = some (.map (some b))) (hown : w.ownsMap Edfg.prog 9 R b n D) (hy : ((size D : Int) == 0) = y) :
    Calls Edfg.prog 25 #[.pointer (some ⟨s, 0, none⟩)] w fun e w' => e = .returned (.bool y) ∧ w' = w := by
  subst hy
  exact falsy_any s b n D w hs hown

/-- THE WORLD BEHIND '&Map{Value: v}'. -/
def W1 (w : World) (v : Value) : World := w.alloc (.cells #[v] 35)
theorem W1_cell (w : World) (v : Value) : (W1 w v).cell? ⟨w.heap.size, 0, none⟩ = some v := by simp [W1, World.cell?_alloc_at]
theorem W1_below (w : World) (v : Value) : Below w.heap.size w (W1 w v) := (Below.refl _ _).alloc (Nat.le_refl _) _

set_option maxHeartbeats 800000 in
set_option maxRecDepth 100000 in
theorem empty_large (a a' : Option Addr) (n cap n' cap' : Nat) (nm : Bool) (ss : List ByteArray) (w : World) (hn : n ≤ maxLen) (hn' : n' ≤ maxLen) (hz : ss.length = n)
    (hc : SlAt Value.string w a ss) (hb1 : 65536 < n ∨ 65536 < n') :
    Calls Edfg.prog 7 #[.slice a n cap, .slice a' n' cap', .bool nm] w fun e w' => e = .returned (.bool true) ∧ Below w.heap.size w w' := by
  have HC : Hid (SlAt Value.string w a ss) := hc
  have HZ : Hid (ss.length = n) := hz
  clear hc hz
  unfold maxLen at hn hn'
  have hp : (65536 < n) ∨ (¬ 65536 < n ∧ 65536 < n') := by omega
  rcases hp with hp | ⟨hp, hp'⟩
  all_goals
    clear hb1
    go_enter Edfg.func7, Edfg.ntmps7
    go_wp2_with (first
      | (go_at_call 24; refine (bytes24 a a' n cap n' cap' nm ss w (by unfold maxLen; omega) HZ.out HC.out).mono ?_; rintro e w' ⟨⟨z, rfl⟩, hw⟩; obtain rfl := hw.symm)
      | go_in)
    all_goals
      go_ret
      exact ⟨rfl, Below.refl _ _⟩

set_option maxHeartbeats 1600000 in
set_option maxRecDepth 100000 in
theorem empty_walk (a a' : Option Addr) (n cap n' cap' : Nat) (nm : Bool) (ss : List ByteArray) (zs : List Int) (w : World) (hn : n ≤ 65536) (hn' : n' ≤ 65536) (hz : ss.length = n) (hz' : zs.length = n') (hnil : a = none → n = 0) (hnil' : a' = none → n' = 0)
    (hc : SlAt Value.string w a ss) (hc' : SlAt (Value.int .i64) w a' zs) (hss : ∀ s ∈ ss, s.size ≤ maxLen) :
    Calls Edfg.prog 7 #[.slice a n cap, .slice a' n' cap', .bool nm] w fun e w' => e = .returned (.bool true) ∧ Below w.heap.size w w' := by
  have HC : Hid (SlAt Value.string w a ss) := hc
  have HC' : Hid (SlAt (Value.int .i64) w a' zs) := hc'
  have HZ : Hid (ss.length = n) := hz
  have HZ' : Hid (zs.length = n') := hz'
  have HN : Hid (a = none → n = 0) := hnil
  have HN' : Hid (a' = none → n' = 0) := hnil'
  have HS : Hid (∀ s ∈ ss, s.size ≤ maxLen) := hss
  obtain ⟨m, hm⟩ : ∃ m, m = min n n' := ⟨_, rfl⟩
  have hmn : m ≤ n := by omega
  have hmn' : m ≤ n' := by omega
  have hmi : Hid (∀ W, Calls Edfg.prog 13 #[.int .i64 n, .int .i64 n'] W fun e w' => e = .returned (.int .i64 (m : Nat)) ∧ w' = W) := by rw [hm]; exact fun W => min_any n n' W
  clear hc hc' hz hz' hnil hnil' hss hm
  by_cases hnm : m = 0 ∧ nm = true
  · obtain ⟨rfl, rfl⟩ := hnm
    go_enter Edfg.func7, Edfg.ntmps7
    go_wp2_with (first
      | (go_at_call 24; refine (bytes24 a a' n cap n' cap' true ss w (by unfold maxLen; omega) HZ.out HC.out).mono ?_; rintro e w' ⟨⟨z, rfl⟩, hw⟩; obtain rfl := hw.symm)
      | (go_at_call 10; refine (size_any a n cap ss _ _ w (by unfold maxLen; omega) HZ.out HC.out).mono ?_; rintro e w' ⟨⟨z2, rfl⟩, hw⟩; obtain rfl := hw.symm)
      | (go_at_call 11; refine (clone11 a n cap ss w hn HZ.out HN.out HC.out).mono ?_; rintro e w1 ⟨a1, c1, rfl, hsl1, hbw1⟩; have HSL1 : Hid (SlAt Value.string w1 a1 ss) := hsl1; clear hsl1)
      | (go_at_call 12; refine (clone12 a' n' cap' zs w1 hn' HZ'.out HN'.out (HC'.out.kept (cells_below hbw1))).mono ?_; rintro e w2 ⟨a2, c2, rfl, hsl2, hbw2⟩; have HSL2 : Hid (SlAt (Value.int .i64) w2 a2 zs) := hsl2; clear hsl2)
      | (go_at_call 13; refine (hmi.out w2).mono ?_; rintro e w' ⟨rfl, hw⟩; obtain rfl := hw.symm)
      | (go_at_call 14; refine (build_nil a1 a2 n c1 n' c2 w2).mono ?_; rintro e w' ⟨rfl, hw⟩; obtain rfl := hw.symm)
      | (go_at_call 25; refine (falsy_nil w2.heap.size (W1 w2 (.map none)) (W1_cell _ _)).mono ?_; rintro e w' ⟨rfl, hw⟩; obtain rfl := hw.symm)
      | (go_at_call 17; refine (distinct_none a1 n c1 (W1 w2 (.map none))).mono ?_; rintro e w4 ⟨rfl, hbw4⟩)
      | go_in)
    · go_ret
      exact ⟨rfl, Below.refl _ _⟩
    · go_ret
      exact ⟨rfl, Below.refl _ _⟩
    · go_ret
      have h2 : w.heap.size ≤ w2.heap.size := Nat.le_trans hbw1.size hbw2.size
      have hw3 : Below w.heap.size w (W1 w2 (.map none)) := below_then (below_then hbw1 hbw2 hbw1.size) (W1_below w2 _) h2
      exact ⟨rfl, below_then hw3 hbw4 hw3.size⟩
  · have HNM : Hid (m = 0 → nm = false) := fun e => by cases nm with | false => rfl | true => exact absurd ⟨e, rfl⟩ hnm
    obtain ⟨y, hy⟩ : ∃ y : Bool, y = (m == 0) := ⟨_, rfl⟩
    have HY : Hid (y = (m == 0)) := hy
    clear hnm hy
    go_enter Edfg.func7, Edfg.ntmps7
    go_wp2_with (first
      | (go_at_call 24; refine (bytes24 a a' n cap n' cap' nm ss w (by unfold maxLen; omega) HZ.out HC.out).mono ?_; rintro e w' ⟨⟨z, rfl⟩, hw⟩; obtain rfl := hw.symm)
      | (go_at_call 10; refine (size_any a n cap ss _ _ w (by unfold maxLen; omega) HZ.out HC.out).mono ?_; rintro e w' ⟨⟨z2, rfl⟩, hw⟩; obtain rfl := hw.symm)
      | (go_at_call 11; refine (clone11 a n cap ss w hn HZ.out HN.out HC.out).mono ?_; rintro e w1 ⟨a1, c1, rfl, hsl1, hbw1⟩; have HSL1 : Hid (SlAt Value.string w1 a1 ss) := hsl1; clear hsl1)
      | (go_at_call 12; refine (clone12 a' n' cap' zs w1 hn' HZ'.out HN'.out (HC'.out.kept (cells_below hbw1))).mono ?_; rintro e w2 ⟨a2, c2, rfl, hsl2, hbw2⟩; have HSL2 : Hid (SlAt (Value.int .i64) w2 a2 zs) := hsl2; clear hsl2)
      | (go_at_call 13; refine (hmi.out w2).mono ?_; rintro e w' ⟨rfl, hw⟩; obtain rfl := hw.symm)
      | (go_at_call 14; refine (build_any a1 a2 n c1 n' c2 m nm ss zs w2 (by omega) HZ.out HZ'.out hmn hmn' (HSL1.out.kept (cells_below hbw2)) HSL2.out HS.out HNM.out).mono ?_; rintro e w3 ⟨bm, rfl, hbm, ⟨D, hown, hI⟩, hbw3⟩; have hown1 := hown.alloc (.cells #[.map (some bm)] 35); have HD : Hid (((size D : Int) == 0) = y) := (size_of_bld hown hI).trans HY.out.symm; have HSL3 : Hid (SlAt Value.string (W1 w3 (.map (some bm))) a1 ss) := ((HSL1.out.kept (cells_below hbw2)).kept (cells_below hbw3)).kept (cells_below (W1_below _ _)))
      | (go_at_call 25; refine (falsy_is w3.heap.size bm m D y (W1 w3 (.map (some bm))) (W1_cell _ _) hown1 HD.out).mono ?_; rintro e w' ⟨rfl, hw⟩; obtain rfl := hw.symm)
      | (go_at_call 17; refine (distinct_any a1 n c1 m ss (W1 w3 (.map (some bm))) (by omega) HZ.out hmn HSL3.out HS.out).mono ?_; rintro e w4 ⟨d, rfl, hd, hbw4⟩; rw [← HY.out] at hd)
      | go_in)
    · go_ret
      exact ⟨rfl, Below.refl _ _⟩
    · go_ret
      exact ⟨rfl, Below.refl _ _⟩
    · go_ret
      have h2 : w.heap.size ≤ w2.heap.size := Nat.le_trans hbw1.size hbw2.size
      have h3 : w.heap.size ≤ w3.heap.size := Nat.le_trans h2 hbw3.size
      have hw3 : Below w.heap.size w w3 := below_then (below_then hbw1 hbw2 hbw1.size) hbw3 h2
      have hw4 : Below w.heap.size w (W1 w3 (.map (some bm))) := below_then hw3 (W1_below w3 _) h3
      exact ⟨rfl, below_then hw4 hbw4 hw4.size⟩

end Go.Proofs.Yoedfw
