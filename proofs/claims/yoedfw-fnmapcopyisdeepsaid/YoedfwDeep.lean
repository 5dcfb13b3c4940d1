/-
  FnMapCopyIsDeep: THE WALK.
-/
import Derived.Test.YoedfwDeepParts
import Derived.Test.YoedfwBytes
namespace Go.Proofs.Yoedfw
open Go.RowKit Go.Maps

/-! ### the law's memory behind the copy -/
/-- so, bo: the outer Map and its map; si, bi: the inner ones; sc, bc, ic, bic: the copy's. -/
structure Deep (w : World) (so bo si bi sc bc ic bic m : Nat) (f : Lit → Option Int) : Prop where
  outer : OuterAt w so bo si
  icell : w.cell? ⟨si, 0, none⟩ = some (.map (some bi))
  copy : OuterAt w sc bc ic
  ccell : w.cell? ⟨ic, 0, none⟩ = some (.map (some bic))
  cmap : IntMap w bic m f
  ne1 : bo ≠ bi
  ne2 : bc ≠ bi
  ne3 : bic ≠ bi

section
variable {w : World} {so bo si bi sc bc ic bic m : Nat} {f : Lit → Option Int}

theorem Deep.kept {S : Nat → Prop} {w' : World} (h : Deep w so bo si bi sc bc ic bic m f) (hs : Steady S w w') (h1 : ¬ S bo) (h2 : ¬ S bc) (h3 : ¬ S bic) : Deep w' so bo si bi sc bc ic bic m f :=
  ⟨h.outer.kept hs h1, hs.1 _ _ h.icell, h.copy.kept hs h2, hs.1 _ _ h.ccell, h.cmap.kept hs h3, h.ne1, h.ne2, h.ne3⟩
theorem Deep.below {w' : World} (h : Deep w so bo si bi sc bc ic bic m f) (hb : Below w.heap.size w w') : Deep w' so bo si bi sc bc ic bic m f :=
  h.kept (steady_below (fun _ => False) hb) (fun h => h) (fun h => h) (fun h => h)
theorem IntMap.below {b n : Nat} {w' : World} (h : IntMap w b n f) (hb : Below w.heap.size w w') : IntMap w' b n f := h.kept (steady_below (fun _ => False) hb) (fun h => h)
theorem MixMap.below {b n : Nat} {kx : Lit} {w' : World} (h : MixMap w b n f kx) (hb : Below w.heap.size w w') : MixMap w' b n f kx := h.kept (steady_below (fun _ => False) hb) (fun h => h)
theorem OuterAt.below {s b i : Nat} {w' : World} (h : OuterAt w s b i) (hb : Below w.heap.size w w') : OuterAt w' s b i := h.kept (steady_below (fun _ => False) hb) (fun h => h)

theorem Deep.eq1 (h : Deep w so bo si bi sc bc ic bic m f) (hi : IntMap w bi m f) :
    Calls Edfg.prog 16 #[.pointer (some ⟨sc, 0, none⟩), .iface 29 (.pointer (some ⟨so, 0, none⟩))] w fun e w' => e = .returned (.bool true) ∧ Below w.heap.size w w' :=
  eq_outer sc bc ic so bo si true w h.copy h.outer (fun wr hb => eq_ints ic bic m si bi m f wr (cells_below hb _ _ h.ccell) (cells_below hb _ _ h.icell) (h.cmap.below hb) (hi.below hb))
theorem Deep.eq2 {n : Nat} {kx : Lit} (h : Deep w so bo si bi sc bc ic bic m f) (hi : MixMap w bi n f kx) (hk : WideAt.IsKeyLit kx) :
    Calls Edfg.prog 16 #[.pointer (some ⟨sc, 0, none⟩), .iface 29 (.pointer (some ⟨so, 0, none⟩))] w fun e w' => e = .returned (.bool false) ∧ Below w.heap.size w w' :=
  eq_outer sc bc ic so bo si false w h.copy h.outer (fun wr hb => eq_int_mix ic bic m si bi n f kx wr hk (cells_below hb _ _ h.ccell) (cells_below hb _ _ h.icell) (h.cmap.below hb) (hi.below hb))
theorem Deep.eq3 {n : Nat} {kx : Lit} (h : Deep w so bo si bi sc bc ic bic m f) (hi : MixMap w bi n f kx) (hk : WideAt.IsKeyLit kx) :
    Calls Edfg.prog 16 #[.pointer (some ⟨so, 0, none⟩), .iface 29 (.pointer (some ⟨sc, 0, none⟩))] w fun e w' => e = .returned (.bool false) ∧ Below w.heap.size w w' :=
  eq_outer so bo si sc bc ic false w h.outer h.copy (fun wr hb => eq_mix_int si bi n ic bic m f kx wr hk (cells_below hb _ _ h.icell) (cells_below hb _ _ h.ccell) (hi.below hb) (h.cmap.below hb))
theorem Deep.eq4 {sw bw siw bwi : Nat} (h : Deep w so bo si bi sc bc ic bic m f) (ho : OuterAt w sw bw siw) (hc : w.cell? ⟨siw, 0, none⟩ = some (.map (some bwi))) (hm : IntMap w bwi m f) :
    Calls Edfg.prog 16 #[.pointer (some ⟨sc, 0, none⟩), .iface 29 (.pointer (some ⟨sw, 0, none⟩))] w fun e w' => e = .returned (.bool true) ∧ Below w.heap.size w w' :=
  eq_outer sc bc ic sw bw siw true w h.copy ho (fun wr hb => eq_ints ic bic m siw bwi m f wr (cells_below hb _ _ h.ccell) (cells_below hb _ _ hc) (h.cmap.below hb) (hm.below hb))
end

theorem inL_isKey : WideAt.IsKeyLit inL := keyL_isKey inS
/-- A MAP WITH ONE ENTRY, at 'in'. -/
theorem outer_one {w : World} {s b si : Nat} (hs : w.cell? ⟨s, 0, none⟩ = some (.map (some b))) (h : w.ownsMap Edfg.prog 9 (objElem [29]) b 1 ((DataW.map []).put inL (objD 29 si))) : OuterAt w s b si := by
  refine ⟨hs, _, h, fun kl => ?_, fun zd => atKey_put_same isMap_empty inL_isKey _ zd⟩
  by_cases e : kl = inL
  · rw [e, has_put_same isMap_empty inL_isKey]
    exact (WideAt.sameKey_self inL_isKey).symm
  · rw [has_put_other e, sameKey_ne e]
    rfl

theorem in_ok : keyOf Edfg.prog 9 (.string inS) = some inL := key_ok (by unfold inS maxLen; decide)

/-- THE WORLD BEHIND '&Map{Value: v}'. -/
def Wm (w : World) (v : Value) : World := w.alloc (.cells #[v] 35)
theorem Wm_cell (w : World) (v : Value) : (Wm w v).cell? ⟨w.heap.size, 0, none⟩ = some v := by simp [Wm, World.cell?_alloc_at]
theorem Wm_below (w : World) (v : Value) : Below w.heap.size w (Wm w v) := (Below.refl _ _).alloc (Nat.le_refl _) _
theorem Wm_size (w : World) (v : Value) : (Wm w v).heap.size = w.heap.size + 1 := by simp [Wm]

theorem made_after (w : World) (v : Value) : ((w.alloc (.cells #[v] 35)).alloc (.map #[] 0)).ownsMap Edfg.prog 9 (objElem [29]) (w.heap.size + 1) 0 (.map []) := by
  have h := World.ownsMap_made (w.alloc (.cells #[v] 35)) Edfg.prog 9 (objElem [29])
  have e : (w.alloc (.cells #[v] 35)).heap.size = w.heap.size + 1 := by simp
  rw [e] at h
  exact h

/-- THE OUTER MAP IS MADE: what is known ahead of its Copy. -/
theorem start_ok {w3 w6 : World} {bi m : Nat} {f : Lit → Option Int} (hI : IntMap w3 bi m f) (h6 : w6.ownsMap Edfg.prog 9 (objElem [29]) (w3.heap.size + 1) (0 + 1) ((DataW.map []).put inL (objD 29 w3.heap.size)))
    (g6 : ((w3.alloc (.cells #[.map (some bi)] 35)).alloc (.map #[] 0)).grownBy w6 (some (w3.heap.size + 1))) :
    OuterAt (Wm w6 (.map (some (w3.heap.size + 1)))) w6.heap.size (w3.heap.size + 1) w3.heap.size ∧ (Wm w6 (.map (some (w3.heap.size + 1)))).cell? ⟨w3.heap.size, 0, none⟩ = some (.map (some bi)) ∧
      IntMap (Wm w6 (.map (some (w3.heap.size + 1)))) bi m f ∧ Below w3.heap.size w3 (Wm w6 (.map (some (w3.heap.size + 1)))) := by
  have b4 : Below w3.heap.size w3 (w3.alloc (.cells #[.map (some bi)] 35)) := (Below.refl _ _).alloc (Nat.le_refl _) _
  have b5 : Below w3.heap.size w3 ((w3.alloc (.cells #[.map (some bi)] 35)).alloc (.map #[] 0)) := b4.alloc b4.size _
  have b6 : Below w3.heap.size w3 w6 := b5.grown g6 b5.size (fun j hj => by cases hj; exact Nat.le_succ _)
  have b7 := below_then b6 (Wm_below w6 (.map (some (w3.heap.size + 1)))) b6.size
  have st6 : Cells ((w3.alloc (.cells #[.map (some bi)] 35)).alloc (.map #[] 0)) w6 := cells_grown_own g6 (made_after w3 _)
  have hc : (w3.alloc (.cells #[.map (some bi)] 35)).cell? ⟨w3.heap.size, 0, none⟩ = some (.map (some bi)) := by simp [World.cell?_alloc_at]
  refine ⟨outer_one (Wm_cell _ _) (own_below h6 (Wm_below _ _)), cells_below (Wm_below _ _) _ _ (st6 _ _ (cells_alloc _ _ _ _ hc)), hI.below b7, b7⟩

theorem OuterAt.lt {w : World} {s b i : Nat} (h : OuterAt w s b i) : b < w.heap.size := by
  obtain ⟨_, D, h2, _⟩ := h
  exact h2.lt
theorem IntMap.lt {w : World} {b n : Nat} {f : Lit → Option Int} (h : IntMap w b n f) : b < w.heap.size := by
  obtain ⟨D, h2, _⟩ := h
  exact h2.lt

/-- A *String HAS BEEN LAID INTO THE INNER MAP. -/
theorem store_ok {w9 w11 : World} {so bo si bi sc bc ic bic m : Nat} {f : Lit → Option Int} {D9 : DataW Unit} {kx : Lit} {o : Obj} (h : Deep w9 so bo si bi sc bc ic bic m f) (o9 : w9.ownsMap Edfg.prog 9 (objElem [43]) bi m D9) (i9 : IntsAre w9 D9 f)
    (h11 : w11.ownsMap Edfg.prog 9 (objElem [43, 50]) bi (m + 1) (D9.put kx (objD 50 w9.heap.size))) (g11 : (w9.alloc o).grownBy w11 (some bi)) :
    Deep w11 so bo si bi sc bc ic bic m f ∧ MixMap w11 bi (m + 1) f kx ∧ Cells w9 w11 ∧ w9.heap.size ≤ w11.heap.size := by
  have b10 : Below w9.heap.size w9 (w9.alloc o) := (Below.refl _ _).alloc (Nat.le_refl _) _
  have st : Steady (fun i => i = bi) (w9.alloc o) w11 := steady_grown_own _ rfl g11 (o9.alloc o)
  have hc : Cells w9 w11 := (cells_below b10).trans st.1
  exact ⟨(h.below b10).kept st h.ne1 h.ne2 h.ne3, ⟨D9, _, h11, i9.kept hc, o9.canon law9⟩, hc, Nat.le_trans b10.size g11.size⟩

/-- THE WANTED MAP IS MADE. -/
theorem want_ok {w13 w15 w17 : World} {so bo si bi sc bc ic bic m bwi : Nat} {f : Lit → Option Int} (h : Deep w13 so bo si bi sc bc ic bic m f) (hb15 : Below (w13.alloc (.map #[] 0)).heap.size (w13.alloc (.map #[] 0)) w15) (hI : IntMap w15 bwi m f) (hne : w13.heap.size < bwi)
    (h17 : w17.ownsMap Edfg.prog 9 (objElem [29]) w13.heap.size (0 + 1) ((DataW.map []).put inL (objD 29 w15.heap.size))) (g17 : (w15.alloc (.cells #[.map (some bwi)] 35)).grownBy w17 (some w13.heap.size)) :
    Deep (Wm w17 (.map (some w13.heap.size))) so bo si bi sc bc ic bic m f ∧ OuterAt (Wm w17 (.map (some w13.heap.size))) w17.heap.size w13.heap.size w15.heap.size ∧ (Wm w17 (.map (some w13.heap.size))).cell? ⟨w15.heap.size, 0, none⟩ = some (.map (some bwi)) ∧
      IntMap (Wm w17 (.map (some w13.heap.size))) bwi m f ∧ Below w13.heap.size w13 (Wm w17 (.map (some w13.heap.size))) := by
  have b14 : Below w13.heap.size w13 (w13.alloc (.map #[] 0)) := (Below.refl _ _).alloc (Nat.le_refl _) _
  have b15 := below_then b14 hb15 b14.size
  have c16 : Below w15.heap.size w15 (w15.alloc (.cells #[.map (some bwi)] 35)) := (Below.refl _ _).alloc (Nat.le_refl _) _
  have b16 := below_then b15 c16 b15.size
  have b17 := b16.grown g17 b16.size (fun j hj => by cases hj; exact Nat.le_refl _)
  have b18 := below_then b17 (Wm_below w17 (.map (some w13.heap.size))) b17.size
  have ho : (w15.alloc (.cells #[.map (some bwi)] 35)).ownsMap Edfg.prog 9 (objElem [29]) w13.heap.size 0 (.map []) := (own_below (World.ownsMap_made w13 Edfg.prog 9 (objElem [29])) hb15).alloc _
  have st : Steady (fun i => i = w13.heap.size) (w15.alloc (.cells #[.map (some bwi)] 35)) w17 := steady_grown_own _ rfl g17 ho
  have l1 := h.outer.lt
  have l2 := h.copy.lt
  have l3 := h.cmap.lt
  have hc : (w15.alloc (.cells #[.map (some bwi)] 35)).cell? ⟨w15.heap.size, 0, none⟩ = some (.map (some bwi)) := by simp [World.cell?_alloc_at]
  exact ⟨((h.below b16).kept st (by omega) (by omega) (by omega)).below (Wm_below _ _), outer_one (Wm_cell _ _) (own_below h17 (Wm_below _ _)), cells_below (Wm_below _ _) _ _ (st.1 _ _ hc),
    ((hI.below c16).kept st (by omega)).below (Wm_below _ _), b18⟩

set_option maxHeartbeats 800000 in
set_option maxRecDepth 100000 in
theorem deep_large (a a' : Option Addr) (n cap n' cap' : Nat) (x : ByteArray) (ss : List ByteArray) (w : World) (hn : n ≤ maxLen) (hn' : n' ≤ maxLen) (hx : x.size ≤ maxLen) (hz : ss.length = n)
    (hc : SlAt Value.string w a ss) (hb1 : 65536 < n ∨ 65536 < n' ∨ 65536 < x.size) :
    Calls Edfg.prog 6 #[.slice a n cap, .slice a' n' cap', .string x] w fun e w' => e = .returned (.bool true) ∧ Below w.heap.size w w' := by
  have HC : Hid (SlAt Value.string w a ss) := hc
  have HZ : Hid (ss.length = n) := hz
  clear hc hz
  unfold maxLen at hn hn' hx
  have hp : (65536 < n) ∨ (¬ 65536 < n ∧ 65536 < n') ∨ (¬ 65536 < n ∧ ¬ 65536 < n' ∧ 65536 < x.size) := by omega
  rcases hp with hp | ⟨hp, hp'⟩ | ⟨hp, hp', hp''⟩
  all_goals
    clear hb1
    go_enter Edfg.func6, Edfg.ntmps6
    go_wp2_with (first
      | (go_at_call 23; refine (bytes23 a a' n cap n' cap' x ss w (by unfold maxLen; omega) HZ.out HC.out).mono ?_; rintro e w' ⟨⟨z, rfl⟩, hw⟩; obtain rfl := hw.symm)
      | go_in)
    all_goals
      go_ret
      exact ⟨rfl, Below.refl _ _⟩

set_option maxHeartbeats 1600000 in
set_option maxRecDepth 100000 in
theorem deep_walk (a a' : Option Addr) (n cap n' cap' : Nat) (x : ByteArray) (ss : List ByteArray) (zs : List Int) (w : World) (hn : n ≤ 65536) (hn' : n' ≤ 65536) (hx : x.size ≤ 65536) (hz : ss.length = n) (hz' : zs.length = n') (hnil : a = none → n = 0) (hnil' : a' = none → n' = 0)
    (hc : SlAt Value.string w a ss) (hc' : SlAt (Value.int .i64) w a' zs) (hss : ∀ s ∈ ss, s.size ≤ maxLen) :
    Calls Edfg.prog 6 #[.slice a n cap, .slice a' n' cap', .string x] w fun e w' => e = .returned (.bool true) ∧ Below w.heap.size w w' := by
  have hmm := @run_makeMap Edfg.prog
  have hme := mEquals29
  have HC : Hid (SlAt Value.string w a ss) := hc
  have HC' : Hid (SlAt (Value.int .i64) w a' zs) := hc'
  have HZ : Hid (ss.length = n) := hz
  have HZ' : Hid (zs.length = n') := hz'
  have HN : Hid (a = none → n = 0) := hnil
  have HN' : Hid (a' = none → n' = 0) := hnil'
  have HS : Hid (∀ s ∈ ss, s.size ≤ maxLen) := hss
  have HX : Hid (x.size ≤ maxLen) := by show x.size ≤ maxLen; unfold maxLen; omega
  obtain ⟨m, hm⟩ : ∃ m, m = min n n' := ⟨_, rfl⟩
  have hmn : m ≤ n := by omega
  have hmn' : m ≤ n' := by omega
  have hmi : Hid (∀ W, Calls Edfg.prog 13 #[.int .i64 n, .int .i64 n'] W fun e w' => e = .returned (.int .i64 (m : Nat)) ∧ w' = W) := by rw [hm]; exact fun W => min_any n n' W
  have tok1 : True := trivial
  clear hc hc' hz hz' hnil hnil' hss hm
  go_enter Edfg.func6, Edfg.ntmps6
  go_wp2_with (first
    | (go_at_call 23; refine (bytes23 a a' n cap n' cap' x ss w (by unfold maxLen; omega) HZ.out HC.out).mono ?_; rintro e w' ⟨⟨z, rfl⟩, hw⟩; obtain rfl := hw.symm)
    | (go_at_call 10; refine (size_any a n cap ss _ _ w (by unfold maxLen; omega) HZ.out HC.out).mono ?_; rintro e w' ⟨⟨z2, rfl⟩, hw⟩; obtain rfl := hw.symm)
    | (go_at_call 11; refine (clone11 a n cap ss w hn HZ.out HN.out HC.out).mono ?_; rintro e w1 ⟨a1, c1, rfl, hsl1, hbw1⟩; have HSL1 : Hid (SlAt Value.string w1 a1 ss) := hsl1; clear hsl1)
    | (go_at_call 12; refine (clone12 a' n' cap' zs w1 hn' HZ'.out HN'.out (HC'.out.kept (cells_below hbw1))).mono ?_; rintro e w2 ⟨a2, c2, rfl, hsl2, hbw2⟩; have HSL2 : Hid (SlAt (Value.int .i64) w2 a2 zs) := hsl2; clear hsl2)
    | (go_at_call 13; refine (hmi.out w2).mono ?_; rintro e w' ⟨rfl, hw⟩; obtain rfl := hw.symm)
    | (go_at_call 14; have _t := tok1; refine (build_any a1 a2 n c1 n' c2 m false ss zs w2 (by omega) HZ.out HZ'.out hmn hmn' (HSL1.out.kept (cells_below hbw2)) HSL2.out HS.out (fun _ => rfl)).mono ?_; rintro e w3 ⟨bi, rfl, hbi, hI3, hbw3⟩; clear tok1)
    | (at_mapUpdate; refine wpList_mapUpdate_own _ rfl _ _ _ 30 rfl 9 37 law9 Edfg.underlying30 (objElem [29]) (w3.heap.size + 1) 0 (.map []) rfl (made_after w3 _) (by unfold maxLen; omega) (.string inS) _ inL rfl rfl in_ok _ [] (objElem_mk (t := 29) (by simp) w3.heap.size) ?_; intro w6 hm6 hg6; obtain ⟨k1, k2, k3, k4⟩ := start_ok hI3 hm6 hg6)
    | (go_at_call 15; refine (copy_outer w6.heap.size (w3.heap.size + 1) w3.heap.size bi m (bld ss zs m) (Wm w6 (.map (some (w3.heap.size + 1)))) k1 k2 k3 (by unfold maxLen; omega)).mono ?_; rintro e w8 ⟨sc, bc, ic, bic, rfl, hoc, hbc, hcc, hcm, hbic, hbw8⟩))
  · go_ret
    exact ⟨rfl, Below.refl _ _⟩
  · go_ret
    exact ⟨rfl, Below.refl _ _⟩
  · have l3 := hI3.lt
    have k4s := k4.size
    have DP : Deep w8 w6.heap.size (w3.heap.size + 1) w3.heap.size bi sc bc ic bic m (bld ss zs m) := ⟨k1.below hbw8, cells_below hbw8 _ _ k2, hoc, hcc, hcm, by omega, by omega, by omega⟩
    have hI8 := k3.below hbw8
    have h2 : w.heap.size ≤ w2.heap.size := Nat.le_trans hbw1.size hbw2.size
    have B3 : Below w.heap.size w w3 := below_then (below_then hbw1 hbw2 hbw1.size) hbw3 h2
    have B7 := below_then B3 k4 B3.size
    have B8 := below_then B7 hbw8 B7.size
    have C2 : Cells w2 w8 := (cells_below hbw3).trans ((cells_below k4).trans (cells_below hbw8))
    have HSA : Hid (SlAt Value.string w8 a1 ss) := (HSL1.out.kept (cells_below hbw2)).kept C2
    have HSB : Hid (SlAt (Value.int .i64) w8 a2 zs) := HSL2.out.kept C2
    clear hbw1 hbw2 hbw3 hm6 hg6 k1 k2 k3 k4 hoc hbc hcc hcm hbic hbw8 hI3 B3 B7 C2 k4s HSL1 HSL2
    refine (DP.eq1 hI8).mono ?_
    rintro e w9 ⟨rfl, hb9⟩
    have DP9 := DP.below hb9
    have B9 := below_then B8 hb9 B8.size
    obtain ⟨D9, o9, i9⟩ := hI8.below hb9
    have ci9 := DP9.icell
    have o9w := (own_widen (TS' := [43, 50]) o9 (by simp)).alloc (.cells #[.string x, .slice none 0 0] 53)
    go_wp2_with (first
      | (at_mapUpdate; refine wpList_mapUpdate_own _ rfl _ _ _ 30 rfl 9 37 law9 Edfg.underlying30 (objElem [43, 50]) bi m D9 rfl o9w (by unfold maxLen; omega) _ _ _ rfl rfl (key_ok HX.out) _ [] (objElem_mk (t := 50) (by simp) w9.heap.size) ?_; intro w11 hm11 hg11))
    obtain ⟨DP11, MX11, C11, S11⟩ := store_ok DP9 o9 i9 hm11 hg11
    have B11 : Below w.heap.size w w11 := (B9.alloc B9.size _).grown hg11 (Nat.le_trans B9.size (by simp)) (fun j hj => by cases hj; omega)
    have C8 : Cells w8 w11 := (cells_below hb9).trans C11
    clear DP hI8 hm11 hg11 o9w o9 i9 ci9 DP9 C11 S11
    refine (DP11.eq2 MX11 (keyL_isKey x)).mono ?_
    rintro e w12 ⟨rfl, hb12⟩
    have DP12 := DP11.below hb12
    have MX12 := MX11.below hb12
    have B12 := below_then B11 hb12 B11.size
    clear DP11 MX11
    go_wp2_with fail
    refine (DP12.eq3 MX12 (keyL_isKey x)).mono ?_
    rintro e w13 ⟨rfl, hb13⟩
    have DP13 := DP12.below hb13
    have B13 := below_then B12 hb13 B12.size
    have C13 : Cells w8 (w13.alloc (.map #[] 0)) := ((C8.trans (cells_below hb12)).trans (cells_below hb13)).trans (cells_alloc _ _)
    have e14 : (w13.alloc (.map #[] 0)).heap.size = w13.heap.size + 1 := by simp
    have E14 : Hid ((w13.alloc (.map #[] 0)).heap.size = w13.heap.size + 1) := e14
    clear DP12 MX12 e14
    go_wp2_with (first
      | (go_at_call 14; refine (build_any a1 a2 n c1 n' c2 m false ss zs (w13.alloc (.map #[] 0)) (by omega) HZ.out HZ'.out hmn hmn' (HSA.out.kept C13) (HSB.out.kept C13) HS.out (fun _ => rfl)).mono ?_; rintro e w15 ⟨bwi, rfl, hbwi, hI15, hb15⟩; have ho15 := own_below (World.ownsMap_made w13 Edfg.prog 9 (objElem [29])) hb15)
      | (at_mapUpdate; refine wpList_mapUpdate_own _ rfl _ _ _ 30 rfl 9 37 law9 Edfg.underlying30 (objElem [29]) w13.heap.size 0 (.map []) rfl (ho15.alloc _) (by unfold maxLen; omega) (.string inS) _ inL rfl rfl in_ok _ [] (objElem_mk (t := 29) (by simp) w15.heap.size) ?_; intro w17 hm17 hg17; obtain ⟨DP18, ho18, hc18, hI18, hb18⟩ := want_ok DP13 hb15 hI15 (by have := E14.out; omega) hm17 hg17))
    refine (DP18.eq4 ho18 hc18 hI18).mono ?_
    rintro e w19 ⟨rfl, hb19⟩
    have B18 := below_then B13 hb18 B13.size
    go_wp2
    go_ret
    exact ⟨rfl, below_then B18 hb19 B18.size⟩

end Go.Proofs.Yoedfw
