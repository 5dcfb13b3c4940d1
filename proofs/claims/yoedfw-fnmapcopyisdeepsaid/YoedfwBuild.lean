/-
  zzBuild BY A CONTRACT: a fresh map of *Int objects that holds 'bld ss zs n': the first n pairs, a later one over an earlier one.
-/
import Derived.Test.YoedfwInts
import Derived.RegionTactic
import Derived.ChangeAlike
namespace Go.Proofs.Yoedfw
open Go.RowKit Go.Maps

/-- WHAT THE FIRST k PAIRS LAY DOWN. -/
def bld (ss : List ByteArray) (zs : List Int) : Nat → Lit → Option Int
  | 0 => fun _ => none
  | k + 1 => upd (bld ss zs k) (keyL (ss.getD k ByteArray.empty)) (zs.getD k 0)

set_option maxHeartbeats 400000 in
theorem build_nil (a a' : Option Addr) (n' cap m' cap' : Nat) (w : World) :
    Calls Edfg.prog 14 #[.slice a n' cap, .slice a' m' cap', .int .i64 0, .bool true] w fun e w' => e = .returned (.map none) ∧ w' = w := by
  go_enter Edfg.func14, Edfg.ntmps14
  go_wp2
  go_ret
  exact ⟨rfl, rfl⟩

set_option maxHeartbeats 400000 in
theorem build_none (a a' : Option Addr) (n' cap m' cap' : Nat) (ss : List ByteArray) (zs : List Int) (w : World) :
    Calls Edfg.prog 14 #[.slice a n' cap, .slice a' m' cap', .int .i64 0, .bool false] w fun e w' => ∃ b, e = .returned (.map (some b)) ∧ w.heap.size ≤ b ∧ IntMap w' b 0 (bld ss zs 0) ∧ Below w.heap.size w w' := by
  have hmm := @run_makeMap Edfg.prog
  go_enter Edfg.func14, Edfg.ntmps14
  go_wp2
  refine wp_loop_rounds 1 ?_
  rw [rounds_succ]
  go_wp2
  go_ret
  exact ⟨_, rfl, Nat.le_refl _, ⟨_, World.ownsMap_made _ _ _ _, ints_start _⟩, (Below.refl _ _).alloc (Nat.le_refl _) _⟩

set_option maxHeartbeats 800000 in
set_option maxRecDepth 100000 in
theorem build_some (b1 o1 n1 c1 b2 o2 n2 c2 n : Nat) (nm : Bool) (ss : List ByteArray) (zs : List Int) (w : World) (h0 : 0 < n) (hn : n ≤ 65536) (hl1 : ss.length = n1) (hl2 : zs.length = n2) (hn1 : n ≤ n1) (hn2 : n ≤ n2)
    (hc1 : ∀ j (h : j < ss.length), w.cell? ⟨b1, o1 + j, none⟩ = some (.string ss[j])) (hc2 : ∀ j (h : j < zs.length), w.cell? ⟨b2, o2 + j, none⟩ = some (.int .i64 zs[j])) (hss : ∀ s ∈ ss, s.size ≤ maxLen) :
    Calls Edfg.prog 14 #[.slice (some ⟨b1, o1, none⟩) n1 c1, .slice (some ⟨b2, o2, none⟩) n2 c2, .int .i64 n, .bool nm] w fun e w' => ∃ b, e = .returned (.map (some b)) ∧ w.heap.size ≤ b ∧ IntMap w' b n (bld ss zs n) ∧ Below w.heap.size w w' := by
  have hmm := @run_makeMap Edfg.prog
  have hne : ((n : Int) == 0) = false := by simp; omega
  have HL1 : Hid (ss.length = n1) := hl1
  have HL2 : Hid (zs.length = n2) := hl2
  have HC1 : Hid (∀ j (h : j < ss.length), w.cell? ⟨b1, o1 + j, none⟩ = some (.string ss[j])) := hc1
  have HC2 : Hid (∀ j (h : j < zs.length), w.cell? ⟨b2, o2 + j, none⟩ = some (.int .i64 zs[j])) := hc2
  have HS : Hid (∀ s ∈ ss, s.size ≤ maxLen) := hss
  clear hl1 hl2 hc1 hc2 hss
  go_enter Edfg.func14, Edfg.ntmps14
  go_wp2
  all_goals
    go_loopw [10] (fun i wr => ∃ (k : Nat) (D : DataW Unit), k ≤ n ∧ i = .int .i64 k ∧ wr.ownsMap Edfg.prog 9 (objElem [43]) w.heap.size k D ∧ IntsAre wr D (bld ss zs k) ∧ Below w.heap.size w wr)
      (fun i _ => n - (intOf i).toNat)
    case atStart => exact ⟨0, _, Nat.zero_le _, rfl, World.ownsMap_made _ _ _ _, ints_start _, (Below.refl _ _).alloc (Nat.le_refl _) _⟩
    case round =>
      obtain ⟨k, D, hk, rfl, hown, hI, hnx⟩ := hrel
      by_cases hlt : k < n
      · have hk1 : k < ss.length := by rw [HL1.out]; omega
        have hk2 : k < zs.length := by rw [HL2.out]; omega
        obtain ⟨s, hs⟩ : ∃ s : ByteArray, s = ss[k] := ⟨_, rfl⟩
        obtain ⟨x, hx⟩ : ∃ x : Int, x = zs[k] := ⟨_, rfl⟩
        have hcs : wr.cell? ⟨b1, o1 + k, none⟩ = some (.string s) := by rw [hs]; exact cells_below hnx _ _ (HC1.out k hk1)
        have hcx : wr.cell? ⟨b2, o2 + k, none⟩ = some (.int .i64 x) := by rw [hx]; exact cells_below hnx _ _ (HC2.out k hk2)
        have hbs := World.block_lt_of_cell? wr _ hcs
        have hbx := World.block_lt_of_cell? wr _ hcx
        have hsl : s.size ≤ maxLen := by rw [hs]; exact HS.out _ (List.getElem_mem _)
        have i1 : (k : Int) < (n1 : Int) := by omega
        have i2 : (k : Int) < (n2 : Int) := by omega
        obtain ⟨w3, hrun, hm3, hg3⟩ := World.ownsMap.update (w := (wr.alloc (.cells #[.int .i64 x] 45)).drew) (t := 30) (e := 37) (hown.alloc _).drew law9 Edfg.underlying30 (by unfold maxLen; omega) (key_ok hsl) (objElem_mk (TS := [43]) (t := 43) (by simp) wr.heap.size)
        have Hs : Hid (s = ss[k]) := hs
        have Hx : Hid (x = zs[k]) := hx
        clear hs hx
        go_wp2
        go_region
        go_wp2
        have hle : w.heap.size ≤ wr.heap.size := hnx.size
        have hcc : Cells wr w3 := (show Cells wr (wr.alloc (.cells #[.int .i64 x] 45)).drew from cells_alloc wr _).trans (cells_grown_own hg3 (hown.alloc _).drew)
        have hcn : w3.cell? ⟨wr.heap.size, 0, none⟩ = some (.int .i64 x) := cells_grown_own hg3 (hown.alloc _).drew _ _ (show (wr.alloc (.cells #[.int .i64 x] 45)).cell? ⟨wr.heap.size, 0, none⟩ = _ by simp [World.cell?_alloc_at])
        have hI' : IntsAre w3 (D.put (keyL s) (objD 43 wr.heap.size)) (bld ss zs (k + 1)) := by
          have e1 : ss.getD k ByteArray.empty = s := by rw [Hs.out]; simp [hk1]
          have e2 : zs.getD k 0 = x := by rw [Hx.out]; simp [hk2]
          show IntsAre w3 _ (upd (bld ss zs k) (keyL (ss.getD k ByteArray.empty)) (zs.getD k 0))
          rw [e1, e2]
          exact ints_put hI hown.isMap (keyL_isKey s) hcc hcn
        have hb' : Below w.heap.size w w3 := ((hnx.alloc hle (.cells #[.int .i64 x] 45)).drew).grown hg3 (by simp; omega) (fun j hj => by cases hj; exact Nat.le_refl _)
        go_roundw
        case rel => exact ⟨k + 1, _, by omega, by go_num, hm3, hI', hb'⟩
        case measure => simp [intOf]; omega
      · have hkn : k = n := by omega
        subst hkn
        go_wp2
        go_ret
        exact ⟨_, rfl, Nat.le_refl _, ⟨D, hown, hI⟩, hnx⟩

/-- ALL OF IT BUT THE nil MAP. -/
theorem build_any (a a' : Option Addr) (n1 c1 n2 c2 n : Nat) (nm : Bool) (ss : List ByteArray) (zs : List Int) (w : World) (hn : n ≤ 65536) (hl1 : ss.length = n1) (hl2 : zs.length = n2) (hn1 : n ≤ n1) (hn2 : n ≤ n2)
    (hc1 : SlAt Value.string w a ss) (hc2 : SlAt (Value.int .i64) w a' zs) (hss : ∀ s ∈ ss, s.size ≤ maxLen) (hnm : n = 0 → nm = false) :
    Calls Edfg.prog 14 #[.slice a n1 c1, .slice a' n2 c2, .int .i64 n, .bool nm] w fun e w' => ∃ b, e = .returned (.map (some b)) ∧ w.heap.size ≤ b ∧ IntMap w' b n (bld ss zs n) ∧ Below w.heap.size w w' := by
  by_cases h0 : n = 0
  · rw [hnm h0]
    subst h0
    exact build_none a a' n1 c1 n2 c2 ss zs w
  · obtain ⟨b1, o1, e1, h1⟩ := hc1 (by omega)
    obtain ⟨b2, o2, e2, h2⟩ := hc2 (by omega)
    subst e1 e2
    exact build_some b1 o1 n1 c1 b2 o2 n2 c2 n nm ss zs w (by omega) hn hl1 hl2 hn1 hn2 h1 h2 hss

theorem size_pos {D : DataW Unit} {kl : Lit} (h : has D kl = true) : 0 < size D := by
  cases D with
  | map es =>
    obtain ⟨p, hp, _⟩ := List.any_eq_true.1 h
    exact List.length_pos_of_mem hp
  | _ => cases h

theorem size_of_bld {w : World} {D : DataW Unit} {b n : Nat} {ss : List ByteArray} {zs : List Int} (h : w.ownsMap Edfg.prog 9 (objElem [43]) b n D) (hI : IntsAre w D (bld ss zs n)) : ((size D : Int) == 0) = (n == 0) := by
  cases n with
  | zero =>
    have := size_eq_of_has (h.canon law9) canon_empty (fun kl => (hI kl).1)
    rw [this]
    rfl
  | succ k =>
    have h1 : has D (keyL (ss.getD k ByteArray.empty)) = true := by
      rw [(hI _).1]
      simp [bld, upd, WideAt.sameKey_self (keyL_isKey _)]
    have h2 := size_pos h1
    have e1 : ((size D : Int) == 0) = false := by simp; omega
    rw [e1]
    rfl

end Go.Proofs.Yoedfw
