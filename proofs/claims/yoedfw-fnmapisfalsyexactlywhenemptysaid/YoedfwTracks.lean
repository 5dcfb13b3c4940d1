/-
  FnMapIsFalsyTracksInsertsAndDeletes: THE WALK.
-/
import Derived.Test.YoedfwInts
namespace Go.Proofs.Yoedfw
open Go.RowKit Go.Maps

/-! ### a set as a map to true -/
/-- HOW AN ELEMENT READS OF WHICH NOTHING BUT 'true' IS EVER LAID DOWN. -/
def trueElem : Value → Option (DataW Unit × List MemPlace)
  | .bool true => some (.lit (.bool true), [])
  | _ => none
theorem trueElem_mk : trueElem (.bool true) = some (.lit (.bool true), []) := rfl
theorem trueElem_inv {v : Value} {z : DataW Unit × List MemPlace} (h : trueElem v = some z) : v = .bool true := by
  unfold trueElem at h
  split at h
  · rfl
  · cases h

/-- 'seen[k]'. -/
theorem lookup_true (w : World) {ops : Array Oper} {rest : List Oper} {o : Oper} {a : Act} {Q : Exit → Act → World → Prop}
    (hg : o.guard = none) (m x : Operand) (hop : o.op = Op.lookup 57 m x false) (b n : Nat) (D : DataW Unit)
    (hm : a.eval m = .map (some b)) (hown : w.ownsMap Edfg.prog 9 trueElem b n D) (s : ByteArray) (hx : a.eval x = .string s) (hs : s.size ≤ maxLen) (y : Bool) (hy : has D (keyL s) = y)
    (hK : wpList Edfg.prog ops Q rest (a.put o.dst (.bool y)) w) :
    wpList Edfg.prog ops Q (o :: rest) a w := by
  refine wpList_plain hg fun K' hK' => ?_
  subst hy
  obtain ⟨es, clock, hb, F, _, rfl⟩ := hown
  have hz : (zeroValue 4).run Edfg.prog w = .ok (.bool false) w := by kernel_rfl
  rcases Maps.fit_look false law9 Edfg.underlying57 hz hb F (key_ok hs) with ⟨hrun, _, hat'⟩ | ⟨e0, y, _, _, hrun, hRv, hat', _⟩
  · rw [has_false_of_atKey hat'] at hK
    unfold Oper.wp
    simp [execOp, hop, hm, hx, hrun, Result.andThen]
    exact hK' _ _ hK
  · rw [has_true_of_atKey hat'] at hK
    rw [trueElem_inv hRv] at hrun
    unfold Oper.wp
    simp [execOp, hop, hm, hx, hrun, Result.andThen]
    exact hK' _ _ hK

theorem falsy_as {R : Value → Option (DataW Unit × List MemPlace)} (s b n : Nat) (D : DataW Unit) (z : Int) (w : World) (hs : w.cell? ⟨s, 0, none⟩ = some (.map (some b))) (hown : w.ownsMap Edfg.prog 9 R b n D) (hz : (size D : Int) = z) :
    Calls Edfg.prog 25 #[.pointer (some ⟨s, 0, none⟩)] w fun e w' => e = .returned (.bool (z == 0)) ∧ w' = w := by
  subst hz
  exact falsy_any s b n D w hs hown

/-- THE WORLD AS THE LOOP BEGINS: the map, the Map that holds it, the set. -/
def W3 (w : World) : World := ((w.alloc (.map #[] 0)).alloc (.cells #[.map (some w.heap.size)] 35)).alloc (.map #[] 0)
theorem W3_size (w : World) : (W3 w).heap.size = w.heap.size + 3 := by simp [W3]
theorem W3_cell (w : World) : (W3 w).cell? ⟨w.heap.size + 1, 0, none⟩ = some (.map (some w.heap.size)) := by
  have h1 : ((w.alloc (.map #[] 0)).alloc (.cells #[.map (some w.heap.size)] 35)).cell? ⟨(w.alloc (.map #[] 0)).heap.size, 0, none⟩ = some (.map (some w.heap.size)) := by simp [World.cell?_alloc_at]
  have e : (w.alloc (.map #[] 0)).heap.size = w.heap.size + 1 := by simp
  rw [e] at h1
  exact cells_alloc _ _ _ _ h1
theorem W3_map (w : World) : (W3 w).ownsMap Edfg.prog 9 (objElem [43]) w.heap.size 0 (.map []) := ((World.ownsMap_made _ _ _ _).alloc _).alloc _
theorem W3_set (w : World) : (W3 w).ownsMap Edfg.prog 9 trueElem (w.heap.size + 1 + 1) 0 (.map []) := by
  have h := World.ownsMap_made ((w.alloc (.map #[] 0)).alloc (.cells #[.map (some w.heap.size)] 35)) Edfg.prog 9 trueElem
  have e : ((w.alloc (.map #[] 0)).alloc (.cells #[.map (some w.heap.size)] 35)).heap.size = w.heap.size + 1 + 1 := by simp
  rw [e] at h
  exact h
theorem W3_below (w : World) : Below w.heap.size w (W3 w) := (((Below.refl _ _).alloc (Nat.le_refl _) _).alloc (by simp) _).alloc (by simp; omega) _

set_option maxHeartbeats 800000 in
set_option maxRecDepth 100000 in
theorem tracks_large (a a' : Option Addr) (n cap n' cap' : Nat) (ss : List ByteArray) (w : World) (hn : n ≤ maxLen) (hn' : n' ≤ maxLen) (hz : ss.length = n)
    (hc : SlAt Value.string w a ss) (hb1 : 65536 < n ∨ 65536 < n') :
    Calls Edfg.prog 8 #[.slice a n cap, .slice a' n' cap'] w fun e w' => e = .returned (.bool true) ∧ Below w.heap.size w w' := by
  have HC : Hid (SlAt Value.string w a ss) := hc
  have HZ : Hid (ss.length = n) := hz
  clear hc hz
  unfold maxLen at hn hn'
  have hp : (65536 < n) ∨ (¬ 65536 < n ∧ 65536 < n') := by omega
  rcases hp with hp | ⟨hp, hp'⟩
  all_goals
    clear hb1
    go_enter Edfg.func8, Edfg.ntmps8
    go_wp2_with (first
      | (go_at_call 26; refine (bytes26 a a' n cap n' cap' ss w (by unfold maxLen; omega) HZ.out HC.out).mono ?_; rintro e w' ⟨⟨z, rfl⟩, hw⟩; obtain rfl := hw.symm)
      | go_in)
    all_goals
      go_ret
      exact ⟨rfl, Below.refl _ _⟩

set_option maxHeartbeats 800000 in
set_option maxRecDepth 100000 in
theorem tracks_none (a a' : Option Addr) (n cap n' cap' : Nat) (ss : List ByteArray) (bs : List Bool) (w : World) (hn : n ≤ maxLen) (hn' : n' ≤ maxLen) (hz : ss.length = n) (hz' : bs.length = n') (hnil : a = none → n = 0) (hnil' : a' = none → n' = 0)
    (hc : SlAt Value.string w a ss) (hc' : SlAt Value.bool w a' bs) (hm : n = 0 ∨ n' = 0) :
    Calls Edfg.prog 8 #[.slice a n cap, .slice a' n' cap'] w fun e w' => e = .returned (.bool true) ∧ Below w.heap.size w w' := by
  have hmm := @run_makeMap Edfg.prog
  have hme := mFalsy29
  have HC : Hid (SlAt Value.string w a ss) := hc
  have HC' : Hid (SlAt Value.bool w a' bs) := hc'
  have HZ : Hid (ss.length = n) := hz
  have HZ' : Hid (bs.length = n') := hz'
  have HN : Hid (a = none → n = 0) := hnil
  have HN' : Hid (a' = none → n' = 0) := hnil'
  have hmin : min n n' = 0 := by omega
  clear hc hc' hz hz' hnil hnil' hm
  unfold maxLen at hn hn'
  by_cases hb1 : 65536 < n ∨ 65536 < n'
  · exact tracks_large a a' n cap n' cap' ss w (by unfold maxLen; omega) (by unfold maxLen; omega) HZ.out HC.out hb1
  · have hp : ¬ 65536 < n := by omega
    have hp' : ¬ 65536 < n' := by omega
    clear hb1
    go_enter Edfg.func8, Edfg.ntmps8
    go_wp2_with (first
      | (go_at_call 26; refine (bytes26 a a' n cap n' cap' ss w (by unfold maxLen; omega) HZ.out HC.out).mono ?_; rintro e w' ⟨⟨z, rfl⟩, hw⟩; obtain rfl := hw.symm)
      | (go_at_call 10; refine (size_any a n cap ss _ _ w (by unfold maxLen; omega) HZ.out HC.out).mono ?_; rintro e w' ⟨⟨z2, rfl⟩, hw⟩; obtain rfl := hw.symm)
      | (go_at_call 11; refine (clone11 a n cap ss w (by omega) HZ.out HN.out HC.out).mono ?_; rintro e w1 ⟨a1, c1, rfl, hsl1, hbw1⟩; have HSL1 : Hid (SlAt Value.string w1 a1 ss) := hsl1; clear hsl1)
      | (go_at_call 27; refine (clone27 a' n' cap' bs w1 (by omega) HZ'.out HN'.out (HC'.out.kept (cells_below hbw1))).mono ?_; rintro e w2 ⟨a2, c2, rfl, hsl2, hbw2⟩; have HSL2 : Hid (SlAt Value.bool w2 a2 bs) := hsl2; clear hsl2)
      | (go_at_call 13; refine (min_any n n' w2).mono ?_; rintro e w' ⟨rfl, hw⟩; obtain rfl := hw.symm)
      | (go_at_call 25; refine (falsy_as (w2.heap.size + 1) w2.heap.size 0 (.map []) 0 (W3 w2) (W3_cell w2) (W3_map w2) rfl).mono ?_; rintro e w' ⟨rfl, hw⟩; obtain rfl := hw.symm)
      | go_in)
    · go_ret
      exact ⟨rfl, Below.refl _ _⟩
    · go_ret
      exact ⟨rfl, Below.refl _ _⟩
    · refine wp_loop_rounds 1 ?_
      rw [rounds_succ]
      go_wp2_with (first
        | (go_at_call 15; refine (copy_ints (w2.heap.size + 1) w2.heap.size 0 _ (W3 w2) (W3_cell w2) ⟨_, W3_map w2, ints_start _⟩ (by unfold maxLen; omega)).mono ?_; rintro e w4 ⟨s', b', rfl, hs4, hb4, hc4, ⟨D4, hown4, hI4⟩, hbw4⟩; have hz4 : (size D4 : Int) = 0 := by rw [size_eq_of_has (hown4.canon law9) canon_empty (fun kl => (hI4 kl).1)]; rfl)
        | (go_at_call 25; refine (falsy_as s' b' 0 D4 0 w4 hc4 hown4 hz4).mono ?_; rintro e w' ⟨rfl, hw⟩; obtain rfl := hw.symm)
        | go_in)
      go_ret
      exact ⟨rfl, below_then (below_then (below_then hbw1 hbw2 hbw1.size) (W3_below w2) (Nat.le_trans hbw1.size hbw2.size)) hbw4 (Nat.le_trans (Nat.le_trans hbw1.size hbw2.size) (W3_below w2).size)⟩

/-- zzCloneStrings OF AT LEAST ONE: the address written out. -/
theorem clone11_pos (a : Option Addr) (n cap : Nat) (ss : List ByteArray) (w : World) (hn : n ≤ 65536) (hz : ss.length = n) (hnil : a = none → n = 0) (hc : SlAt Value.string w a ss) (h0 : 0 < n) :
    Calls Edfg.prog 11 #[.slice a n cap] w fun e w' => ∃ b off cap', e = .returned (.slice (some ⟨b, off, none⟩) n cap') ∧ (∀ j (h : j < ss.length), w'.cell? ⟨b, off + j, none⟩ = some (.string ss[j])) ∧ Below w.heap.size w w' := by
  refine (clone11 a n cap ss w hn hz hnil hc).mono ?_
  rintro e w' ⟨a', cap', rfl, hs, hb⟩
  obtain ⟨b, off, rfl, h⟩ := hs (by omega)
  exact ⟨b, off, cap', rfl, h, hb⟩
theorem clone27_pos (a : Option Addr) (n cap : Nat) (ss : List Bool) (w : World) (hn : n ≤ 65536) (hz : ss.length = n) (hnil : a = none → n = 0) (hc : SlAt Value.bool w a ss) (h0 : 0 < n) :
    Calls Edfg.prog 27 #[.slice a n cap] w fun e w' => ∃ b off cap', e = .returned (.slice (some ⟨b, off, none⟩) n cap') ∧ (∀ j (h : j < ss.length), w'.cell? ⟨b, off + j, none⟩ = some (.bool ss[j])) ∧ Below w.heap.size w w' := by
  refine (clone27 a n cap ss w hn hz hnil hc).mono ?_
  rintro e w' ⟨a', cap', rfl, hs, hb⟩
  obtain ⟨b, off, rfl, h⟩ := hs (by omega)
  exact ⟨b, off, cap', rfl, h, hb⟩

/-- WHAT HOLDS AT EVERY ROUND's HEAD: B: the map's block. -/
structure Track (B : Nat) (w0 wr : World) (k : Nat) (z : Int) (D Dp : DataW Unit) (f : Lit → Option Int) : Prop where
  map : wr.ownsMap Edfg.prog 9 (objElem [43]) B k D
  ints : IntsAre wr D f
  set : wr.ownsMap Edfg.prog 9 trueElem (B + 1 + 1) k Dp
  same : ∀ kl, has D kl = has Dp kl
  count : z = (size Dp : Int)
  steady : Steady (fun i => i = B ∨ i = B + 1 + 1) w0 wr
  below : Below B w0 wr

theorem Track.sizes {B : Nat} {w0 wr : World} {k : Nat} {z : Int} {D Dp : DataW Unit} {f : Lit → Option Int} (h : Track B w0 wr k z D Dp f) : (size D : Int) = z := by
  rw [h.count, size_eq_of_has (h.map.canon law9) (h.set.canon law9) h.same]

section
variable {B : Nat} {w0 wr : World} {k : Nat} {z : Int} {D Dp : DataW Unit} {f : Lit → Option Int} {kl : Lit}

theorem Track.cell (h : Track B w0 wr k z D Dp f) (h0 : w0.cell? ⟨B + 1, 0, none⟩ = some (.map (some B))) : wr.cell? ⟨B + 1, 0, none⟩ = some (.map (some B)) := h.steady.1 _ _ h0

/-- A KEY THAT IS THERE IS TAKEN AWAY. -/
theorem Track.del_has (h : Track B w0 wr k z D Dp f) (hkl : WideAt.IsKeyLit kl) (hp : has Dp kl = true) (hB : B ≤ w0.heap.size) {w1 w2 : World} (m1 : w1.ownsMap Edfg.prog 9 (objElem [43]) B k (D.del kl)) (t1 : wr.grownBy w1 (some B))
    (m2 : w2.ownsMap Edfg.prog 9 trueElem (B + 1 + 1) k (Dp.del kl)) (t2 : w1.grownBy w2 (some (B + 1 + 1))) (hset : w1.ownsMap Edfg.prog 9 trueElem (B + 1 + 1) k Dp) : Track B w0 w2 (k + 1) (z - 1) (D.del kl) (Dp.del kl) (del f kl) := by
  have st1 : Steady (fun i => i = B ∨ i = B + 1 + 1) wr w1 := steady_grown_own _ (Or.inl rfl) t1 h.map
  have st2 : Steady (fun i => i = B ∨ i = B + 1 + 1) w1 w2 := steady_grown_own _ (Or.inr rfl) t2 hset
  have hsz : B ≤ wr.heap.size := Nat.le_trans hB h.below.size
  refine ⟨(m1.kept t2 (fun e => by have := Option.some.inj e; omega)).mono (Nat.le_succ _), (ints_del h.ints hkl).kept (st1.1.trans st2.1), m2.mono (Nat.le_succ _), fun k' => ?_, ?_, (h.steady.trans st1).trans st2,
    (h.below.grown t1 hsz (fun j hj => by cases hj; exact Nat.le_refl _)).grown t2 (Nat.le_trans hsz t1.size) (fun j hj => by cases hj; omega)⟩
  · by_cases e : k' = kl
    · rw [e, has_del_same, has_del_same]
    · rw [has_del_other e, has_del_other e, h.same]
  · have := size_del (k := kl) (h.set.tidy law9)
    rw [hp] at this
    simp at this
    have := h.count
    omega

/-- A KEY THAT IS NOT THERE IS TAKEN AWAY. -/
theorem Track.del_not (h : Track B w0 wr k z D Dp f) (hkl : WideAt.IsKeyLit kl) (hp : has Dp kl = false) (hB : B ≤ w0.heap.size) {w1 : World} (m1 : w1.ownsMap Edfg.prog 9 (objElem [43]) B k (D.del kl)) (t1 : wr.grownBy w1 (some B)) :
    Track B w0 w1 (k + 1) z (D.del kl) Dp (del f kl) := by
  have st1 : Steady (fun i => i = B ∨ i = B + 1 + 1) wr w1 := steady_grown_own _ (Or.inl rfl) t1 h.map
  have hsz : B ≤ wr.heap.size := Nat.le_trans hB h.below.size
  refine ⟨m1.mono (Nat.le_succ _), (ints_del h.ints hkl).kept st1.1, (h.set.kept t1 (fun e => by have := Option.some.inj e; omega)).mono (Nat.le_succ _), fun k' => ?_, h.count, h.steady.trans st1,
    h.below.grown t1 hsz (fun j hj => by cases hj; exact Nat.le_refl _)⟩
  by_cases e : k' = kl
  · rw [e, has_del_same, hp]
  · rw [has_del_other e, h.same]

/-- A KEY THAT IS THERE IS LAID DOWN AGAIN. -/
theorem Track.put_has (h : Track B w0 wr k z D Dp f) (hkl : WideAt.IsKeyLit kl) (hp : has Dp kl = true) (hB : B ≤ w0.heap.size) {w1 : World} {x : Int} (m1 : w1.ownsMap Edfg.prog 9 (objElem [43]) B (k + 1) (D.put kl (objD 43 wr.heap.size)))
    (t1 : (wr.alloc (.cells #[.int .i64 x] 45)).grownBy w1 (some B)) : Track B w0 w1 (k + 1) z (D.put kl (objD 43 wr.heap.size)) Dp (upd f kl x) := by
  have st0 : Steady (fun i => i = B ∨ i = B + 1 + 1) wr (wr.alloc (.cells #[.int .i64 x] 45)) := steady_below _ ((Below.refl _ _).alloc (Nat.le_refl _) _)
  have st1 : Steady (fun i => i = B ∨ i = B + 1 + 1) (wr.alloc (.cells #[.int .i64 x] 45)) w1 := steady_grown_own _ (Or.inl rfl) t1 (h.map.alloc _)
  have hsz : B ≤ wr.heap.size := Nat.le_trans hB h.below.size
  have hc : w1.cell? ⟨wr.heap.size, 0, none⟩ = some (.int .i64 x) := st1.1 _ _ (by simp [World.cell?_alloc_at])
  refine ⟨m1, ints_put h.ints h.map.isMap hkl (st0.1.trans st1.1) hc, ((h.set.alloc _).kept t1 (fun e => by have := Option.some.inj e; omega)).mono (Nat.le_succ _), fun k' => ?_, h.count, (h.steady.trans st0).trans st1,
    (h.below.alloc hsz _).grown t1 (by simp; omega) (fun j hj => by cases hj; exact Nat.le_refl _)⟩
  by_cases e : k' = kl
  · rw [e, has_put_same h.map.isMap hkl, hp]
  · rw [has_put_other e, h.same]

/-- A NEW KEY IS LAID DOWN. -/
theorem Track.put_not (h : Track B w0 wr k z D Dp f) (hkl : WideAt.IsKeyLit kl) (hp : has Dp kl = false) (hB : B ≤ w0.heap.size) {w1 w2 : World} {x : Int} (m1 : w1.ownsMap Edfg.prog 9 (objElem [43]) B (k + 1) (D.put kl (objD 43 wr.heap.size)))
    (t1 : (wr.alloc (.cells #[.int .i64 x] 45)).grownBy w1 (some B)) (m2 : w2.ownsMap Edfg.prog 9 trueElem (B + 1 + 1) (k + 1) (Dp.put kl (.lit (.bool true)))) (t2 : w1.grownBy w2 (some (B + 1 + 1))) (hset : w1.ownsMap Edfg.prog 9 trueElem (B + 1 + 1) k Dp) :
    Track B w0 w2 (k + 1) (z + 1) (D.put kl (objD 43 wr.heap.size)) (Dp.put kl (.lit (.bool true))) (upd f kl x) := by
  have st0 : Steady (fun i => i = B ∨ i = B + 1 + 1) wr (wr.alloc (.cells #[.int .i64 x] 45)) := steady_below _ ((Below.refl _ _).alloc (Nat.le_refl _) _)
  have st1 : Steady (fun i => i = B ∨ i = B + 1 + 1) (wr.alloc (.cells #[.int .i64 x] 45)) w1 := steady_grown_own _ (Or.inl rfl) t1 (h.map.alloc _)
  have st2 : Steady (fun i => i = B ∨ i = B + 1 + 1) w1 w2 := steady_grown_own _ (Or.inr rfl) t2 hset
  have hsz : B ≤ wr.heap.size := Nat.le_trans hB h.below.size
  have hsz1 : B ≤ w1.heap.size := by have := t1.size; simp at this; omega
  have hc : w2.cell? ⟨wr.heap.size, 0, none⟩ = some (.int .i64 x) := st2.1 _ _ (st1.1 _ _ (by simp [World.cell?_alloc_at]))
  refine ⟨m1.kept t2 (fun e => by have := Option.some.inj e; omega), ints_put h.ints h.map.isMap hkl ((st0.1.trans st1.1).trans st2.1) hc, m2, fun k' => ?_, ?_, ((h.steady.trans st0).trans st1).trans st2,
    ((h.below.alloc hsz _).grown t1 (by simp; omega) (fun j hj => by cases hj; exact Nat.le_refl _)).grown t2 hsz1 (fun j hj => by cases hj; omega)⟩
  · by_cases e : k' = kl
    · rw [e, has_put_same h.map.isMap hkl, has_put_same h.set.isMap hkl]
    · rw [has_put_other e, has_put_other e, h.same]
  · have := size_put (k := kl) (h.set.tidy law9) (.lit (.bool true))
    rw [hp] at this
    simp at this
    have := h.count
    omega

end

set_option maxHeartbeats 1600000 in
set_option maxRecDepth 100000 in
theorem tracks_some (a a' : Option Addr) (n cap n' cap' : Nat) (ss : List ByteArray) (bs : List Bool) (w : World) (hn : n ≤ 65536) (hn' : n' ≤ 65536) (hz : ss.length = n) (hz' : bs.length = n') (hnil : a = none → n = 0) (hnil' : a' = none → n' = 0)
    (hc : SlAt Value.string w a ss) (hc' : SlAt Value.bool w a' bs) (hss : ∀ s ∈ ss, s.size ≤ maxLen) (h0 : 0 < n) (h0' : 0 < n') :
    Calls Edfg.prog 8 #[.slice a n cap, .slice a' n' cap'] w fun e w' => e = .returned (.bool true) ∧ Below w.heap.size w w' := by
  have hmm := @run_makeMap Edfg.prog
  have hme := mFalsy29
  have HC : Hid (SlAt Value.string w a ss) := hc
  have HC' : Hid (SlAt Value.bool w a' bs) := hc'
  have HZ : Hid (ss.length = n) := hz
  have HZ' : Hid (bs.length = n') := hz'
  have HN : Hid (a = none → n = 0) := hnil
  have HN' : Hid (a' = none → n' = 0) := hnil'
  have HS : Hid (∀ s ∈ ss, s.size ≤ maxLen) := hss
  obtain ⟨m, hm⟩ : ∃ m, m = min n n' := ⟨_, rfl⟩
  have HM : Hid (m = min n n') := hm
  have hmn : m ≤ n := by omega
  have hmn' : m ≤ n' := by omega
  have hmi := fun W => min_any n n' W
  rw [← hm] at hmi
  clear hc hc' hz hz' hnil hnil' hss hm
  go_enter Edfg.func8, Edfg.ntmps8
  go_wp2_with (first
    | (go_at_call 26; refine (bytes26 a a' n cap n' cap' ss w (by unfold maxLen; omega) HZ.out HC.out).mono ?_; rintro e w' ⟨⟨z, rfl⟩, hw⟩; obtain rfl := hw.symm)
    | (go_at_call 10; refine (size_any a n cap ss _ _ w (by unfold maxLen; omega) HZ.out HC.out).mono ?_; rintro e w' ⟨⟨z2, rfl⟩, hw⟩; obtain rfl := hw.symm)
    | (go_at_call 11; refine (clone11_pos a n cap ss w hn HZ.out HN.out HC.out h0).mono ?_; rintro e w1 ⟨b1, o1, c1, rfl, hsl1, hbw1⟩; have HSL1 : Hid (∀ j (h : j < ss.length), w1.cell? ⟨b1, o1 + j, none⟩ = some (.string ss[j])) := hsl1; clear hsl1)
    | (go_at_call 27; refine (clone27_pos a' n' cap' bs w1 hn' HZ'.out HN'.out (HC'.out.kept (cells_below hbw1)) h0').mono ?_; rintro e w2 ⟨b2, o2, c2, rfl, hsl2, hbw2⟩; have HSL2 : Hid (∀ j (h : j < bs.length), w2.cell? ⟨b2, o2 + j, none⟩ = some (.bool bs[j])) := hsl2; clear hsl2)
    | (go_at_call 13; refine (hmi w2).mono ?_; rintro e w' ⟨rfl, hw⟩; obtain rfl := hw.symm)
    | (go_at_call 25; refine (falsy_as (w2.heap.size + 1) w2.heap.size 0 (.map []) 0 (W3 w2) (W3_cell w2) (W3_map w2) rfl).mono ?_; rintro e w' ⟨rfl, hw⟩; obtain rfl := hw.symm)
    | go_in)
  · go_ret
    exact ⟨rfl, Below.refl _ _⟩
  · go_ret
    exact ⟨rfl, Below.refl _ _⟩
  · clear hmi
    go_loopw [9, 10, 11] (fun c i _ wr => ∃ (k : Nat) (z : Int) (D Dp : DataW Unit) (f : Lit → Option Int), k ≤ m ∧ i = .int .i64 k ∧ c = .int .i64 z ∧ Track w2.heap.size (W3 w2) wr k z D Dp f)
      (fun _ i _ _ => m - (intOf i).toNat)
    case atStart => exact ⟨0, 0, .map [], .map [], fun _ => none, Nat.zero_le _, rfl, rfl, ⟨W3_map w2, ints_start _, W3_set w2, fun _ => rfl, rfl, Steady.refl _ _, Below.refl _ _⟩⟩
    case round =>
      obtain ⟨k, z, D, Dp, f, hk, rfl, rfl, T⟩ := hrel
      have hmap := T.map
      have hset := T.set
      have hB : w2.heap.size ≤ (W3 w2).heap.size := by rw [W3_size]; omega
      have hBB : w2.heap.size + 1 + 1 < wr.heap.size := hset.lt
      have hzl : z ≤ 65536 := by have h1 := T.count; have h2 := T.set.size_le; omega
      have hz0 : 0 ≤ z := by have h1 := T.count; omega
      by_cases hlt : k < m
      · obtain ⟨s, hs⟩ : ∃ s : ByteArray, s = ss[k]'(by rw [HZ.out]; omega) := ⟨_, rfl⟩
        obtain ⟨d, hd⟩ : ∃ d : Bool, d = bs[k]'(by rw [HZ'.out]; omega) := ⟨_, rfl⟩
        have cw2 : Cells w2 wr := (cells_below (W3_below w2)).trans T.steady.1
        have hcs : wr.cell? ⟨b1, o1 + k, none⟩ = some (.string s) := by rw [hs]; exact cw2 _ _ (cells_below hbw2 _ _ (HSL1.out k (by rw [HZ.out]; omega)))
        have hcd : wr.cell? ⟨b2, o2 + k, none⟩ = some (.bool d) := by rw [hd]; exact cw2 _ _ (HSL2.out k (by rw [HZ'.out]; omega))
        have hsl : s.size ≤ maxLen := by rw [hs]; exact HS.out _ (List.getElem_mem _)
        have hkey := key_ok hsl
        have HSL : Hid (s.size ≤ maxLen) := hsl
        clear hs hd cw2 hsl
        cases d
        · -- del[i] is false: an insert
          cases hp : has Dp (keyL s)
          · have tok1 : True := trivial
            have HP : Hid (has Dp (keyL s) = false) := hp
            clear hp
            go_wp2_with (first
              | (at_mapUpdate; have _t := tok1; refine wpList_mapUpdate_own _ rfl _ _ _ 30 rfl 9 37 law9 Edfg.underlying30 (objElem [43]) w2.heap.size k D rfl (hmap.alloc _) (by unfold maxLen; omega) _ _ _ rfl rfl hkey _ [] (objElem_mk (by simp) wr.heap.size) ?_; intro w3 hm3 ht3; clear tok1; have hset3 := (hset.alloc _).kept ht3 (fun e => by have := Option.some.inj e; omega))
              | (at_lookup; refine lookup_true _ rfl _ _ rfl (w2.heap.size + 1 + 1) k Dp rfl hset3 s rfl HSL.out false HP.out ?_)
              | (at_mapUpdate; refine wpList_mapUpdate_own _ rfl _ _ _ 57 rfl 9 4 law9 Edfg.underlying57 trueElem (w2.heap.size + 1 + 1) k Dp rfl hset3 (by unfold maxLen; omega) _ _ _ rfl rfl hkey _ [] trueElem_mk ?_; intro w4 hp4 ht4; have T' := T.put_not (keyL_isKey s) HP.out hB hm3 ht3 hp4 ht4 hset3)
              | (go_at_call 25; refine (falsy_as (w2.heap.size + 1) w2.heap.size (k + 1) _ (z + 1) w4 (T'.cell (W3_cell w2)) T'.map T'.sizes).mono ?_; rintro e w' ⟨rfl, hw⟩; obtain rfl := hw.symm)
              | go_in)
            go_roundw
            case rel => exact ⟨k + 1, _, _, _, _, by omega, by go_num, rfl, T'⟩
            case measure => simp [intOf]; omega
          · have tok1 : True := trivial
            have HP : Hid (has Dp (keyL s) = true) := hp
            clear hp
            go_wp2_with (first
              | (at_mapUpdate; have _t := tok1; refine wpList_mapUpdate_own _ rfl _ _ _ 30 rfl 9 37 law9 Edfg.underlying30 (objElem [43]) w2.heap.size k D rfl (hmap.alloc _) (by unfold maxLen; omega) _ _ _ rfl rfl hkey _ [] (objElem_mk (by simp) wr.heap.size) ?_; intro w3 hm3 ht3; clear tok1; have hset3 := (hset.alloc _).kept ht3 (fun e => by have := Option.some.inj e; omega); have T' := T.put_has (keyL_isKey s) HP.out hB hm3 ht3)
              | (at_lookup; refine lookup_true _ rfl _ _ rfl (w2.heap.size + 1 + 1) k Dp rfl hset3 s rfl HSL.out true HP.out ?_)
              | (go_at_call 25; refine (falsy_as (w2.heap.size + 1) w2.heap.size (k + 1) _ z w3 (T'.cell (W3_cell w2)) T'.map T'.sizes).mono ?_; rintro e w' ⟨rfl, hw⟩; obtain rfl := hw.symm)
              | go_in)
            go_roundw
            case rel => exact ⟨k + 1, _, _, _, _, by omega, by go_num, rfl, T'⟩
            case measure => simp [intOf]; omega
        · -- a delete
          cases hp : has Dp (keyL s)
          · have HP : Hid (has Dp (keyL s) = false) := hp
            clear hp
            go_wp2_with (first
              | (at_delete; refine wpList_delete_own _ rfl _ _ 30 9 rfl 37 law9 Edfg.underlying30 (objElem [43]) w2.heap.size k D rfl hmap _ _ rfl hkey ?_; intro w3 hm3 ht3; have hset3 := hset.kept ht3.grown (fun e => by have := Option.some.inj e; omega); have T' := T.del_not (keyL_isKey s) HP.out hB hm3 ht3.grown)
              | (at_lookup; refine lookup_true _ rfl _ _ rfl (w2.heap.size + 1 + 1) k Dp rfl hset3 s rfl HSL.out false HP.out ?_)
              | (go_at_call 25; refine (falsy_as (w2.heap.size + 1) w2.heap.size (k + 1) _ z w3 (T'.cell (W3_cell w2)) T'.map T'.sizes).mono ?_; rintro e w' ⟨rfl, hw⟩; obtain rfl := hw.symm)
              | go_in)
            go_roundw
            case rel => exact ⟨k + 1, _, _, _, _, by omega, by go_num, rfl, T'⟩
            case measure => simp [intOf]; omega
          · have tok1 : True := trivial
            have HP : Hid (has Dp (keyL s) = true) := hp
            clear hp
            go_wp2_with (first
              | (at_delete; have _t := tok1; refine wpList_delete_own _ rfl _ _ 30 9 rfl 37 law9 Edfg.underlying30 (objElem [43]) w2.heap.size k D rfl hmap _ _ rfl hkey ?_; intro w3 hm3 ht3; clear tok1; have hset3 := hset.kept ht3.grown (fun e => by have := Option.some.inj e; omega))
              | (at_lookup; refine lookup_true _ rfl _ _ rfl (w2.heap.size + 1 + 1) k Dp rfl hset3 s rfl HSL.out true HP.out ?_)
              | (at_delete; refine wpList_delete_own _ rfl _ _ 57 9 rfl 4 law9 Edfg.underlying57 trueElem (w2.heap.size + 1 + 1) k Dp rfl hset3 _ _ rfl hkey ?_; intro w4 hp4 ht4; have T' := T.del_has (keyL_isKey s) HP.out hB hm3 ht3.grown hp4 ht4.grown hset3)
              | (go_at_call 25; refine (falsy_as (w2.heap.size + 1) w2.heap.size (k + 1) _ (z - 1) w4 (T'.cell (W3_cell w2)) T'.map T'.sizes).mono ?_; rintro e w' ⟨rfl, hw⟩; obtain rfl := hw.symm)
              | go_in)
            go_roundw
            case rel => exact ⟨k + 1, _, _, _, _, by omega, by go_num, rfl, T'⟩
            case measure => simp [intOf]; omega
      · -- the loop is done: the copy
        have hkl : k < maxLen := by unfold maxLen; omega
        go_wp2_with (first
          | (go_at_call 15; refine (copy_ints (w2.heap.size + 1) w2.heap.size k f wr (T.cell (W3_cell w2)) ⟨D, T.map, T.ints⟩ hkl).mono ?_; rintro e w4 ⟨s', b', rfl, hs4, hb4, hc4, ⟨D4, hown4, hI4⟩, hbw4⟩; have hz4 : (size D4 : Int) = z := (by rw [size_eq_of_has (hown4.canon law9) (T.map.canon law9) (fun kl => (hI4 kl).1.trans (T.ints kl).1.symm)]; exact T.sizes))
          | (go_at_call 25; refine (falsy_as s' b' k D4 z w4 hc4 hown4 hz4).mono ?_; rintro e w' ⟨rfl, hw⟩; obtain rfl := hw.symm)
          | go_in)
        go_ret
        have h2 : w.heap.size ≤ w2.heap.size := Nat.le_trans hbw1.size hbw2.size
        have hw3 : Below w.heap.size w (W3 w2) := below_then (below_then hbw1 hbw2 hbw1.size) (W3_below w2) h2
        exact ⟨rfl, below_then (hw3.trans (T.below.mono h2)) hbw4 (Nat.le_trans hw3.size T.below.size)⟩

end Go.Proofs.Yoedfw
