/-
  (*Map).Copy BY A CONTRACT: of a map whose elements are all of one dynamic type (43: *Int; 29: *Map): a new map at the same keys; of each element what the element's own Copy gives ('Good').
-/
import Derived.Test.YoedfwObj
namespace Go.Proofs.Yoedfw
open Go.RowKit Go.Maps

set_option maxHeartbeats 400000 in
set_option maxRecDepth 100000 in
theorem copy43 (s b n : Nat) (D : DataW Unit) (w : World) (hs : w.cell? ⟨s, 0, none⟩ = some (.map (some b))) (hown : w.ownsMap Edfg.prog 9 (objElem [43]) b n D) (hn : n < maxLen)
    (Good : World → Lit → Nat → Prop)
    (stable : ∀ wa wb kl c, Good wa kl c → Steady (fun i => i = w.heap.size) wa wb → Good wb kl c)
    (helem : ∀ wr kl c, Below w.heap.size w wr → w.heap.size < wr.heap.size → (∀ zd, D.atKey kl zd = objD 43 c) →
      Calls Edfg.prog 48 #[.pointer (some ⟨c, 0, none⟩)] wr fun e w' => ∃ c', e = .returned (.iface 43 (.pointer (some ⟨c', 0, none⟩))) ∧ Good w' kl c' ∧ Below wr.heap.size wr w') :
    Calls Edfg.prog 15 #[.pointer (some ⟨s, 0, none⟩)] w fun e w' => ∃ s' b' D', e = .returned (.iface 29 (.pointer (some ⟨s', 0, none⟩))) ∧ w.heap.size ≤ s' ∧ w.heap.size ≤ b' ∧ w'.cell? ⟨s', 0, none⟩ = some (.map (some b')) ∧
      w'.ownsMap Edfg.prog 9 (objElem [43]) b' n D' ∧ (∀ kl, has D' kl = has D kl) ∧ (∀ kl, has D kl = true → ∃ c', (∀ zd, D'.atKey kl zd = objD 43 c') ∧ Good w' kl c') ∧ Below w.heap.size w w' := by
  have hmm := @run_makeMap Edfg.prog
  have hme := mCopy43
  have hbl := hown.lt
  have hsl : s < w.heap.size := World.block_lt_of_cell? w _ hs
  have e1 : (w.alloc (.map #[] 0)).heap.size = w.heap.size + 1 := by simp
  go_enter Edfg.func15, Edfg.ntmps15
  go_wp2_with (first
    | (at_range; refine wpList_range_own _ rfl _ 30 rfl 9 37 law9 Edfg.underlying30 _ b n _ rfl (hown.alloc _) ?_; intro w0 hrg0 hg0 hs0)
    | go_in)
  go_frame
  rw [e1] at hrg0 hs0 ⊢
  go_loopw [4] (fun _ wr => ∃ (left : Lit → Bool) (cnt : Nat) (Dout : DataW Unit), wr.ranges Edfg.prog 9 (objElem [43]) b (w.heap.size + 1) n D left cnt ∧ cnt ≤ n ∧ wr.ownsMap Edfg.prog 9 (objElem [43]) w.heap.size (n - cnt) Dout ∧
      (∀ kl, has Dout kl = (has D kl && !left kl)) ∧ (∀ kl, has Dout kl = true → ∃ c', (∀ zd, Dout.atKey kl zd = objD 43 c') ∧ Good wr kl c') ∧ Below w.heap.size w wr)
    (fun _ wr => wr.rangeLeft b (w.heap.size + 1))
  case atStart =>
    exact ⟨_, _, .map [], hrg0, hown.size_le, ((World.ownsMap_made _ _ _ _).kept hg0 (by simp)).mono (Nat.zero_le _), (fun kl => by cases has D kl <;> rfl), (fun kl h => absurd h (by simp [has])),
      ((Below.refl _ _).alloc (Nat.le_refl _) _).grown hg0 (by simp) (fun j hj => by cases hj)⟩
  case round =>
    obtain ⟨left, cnt, Dout, hrg, hcs, hout, hA, hG, hnx⟩ := hrel
    go_wp2_with (first
      | (at_next; refine next_obj1 _ rfl _ rfl 43 b (w.heap.size + 1) n _ _ _ rfl hrg ?_ ?_)
      | go_in)
    · -- NOTHING IS LEFT
      intro hc0 hl0
      have hsz := hout.lt
      go_wp2
      go_ret
      subst hc0
      refine ⟨_, w.heap.size, Dout, rfl, hnx.size, Nat.le_refl _, ?_, hout.alloc _, fun kl => by rw [hA, hl0]; simp, fun kl hkl => ?_, hnx.alloc hnx.size _⟩
      · simp [World.cell?_alloc_at]
      · obtain ⟨c', h1, h2⟩ := hG kl (by rw [hA, hl0, hkl]; rfl)
        exact ⟨c', h1, stable _ _ _ _ h2 (steady_below _ ((Below.refl _ _).alloc (Nat.le_refl _) _))⟩
    · -- AN ENTRY HAS COME
      intro x c w1 cnt1 hx hlx hat hrg1 hlt hg1 hs1 hen
      have hw1 : Below w.heap.size w w1 := hnx.grown hg1 hnx.size (fun j hj => by cases hj; exact Nat.le_succ _)
      have hD : has D (keyL x) = true := Maps.has_true_of_atKey hat
      have hout1 := hout.kept hg1 (by simp)
      go_wp2_with (first
        | (go_at_call 48; refine (helem w1 (keyL x) c hw1 hout1.lt hat).mono ?_; rintro e w2 ⟨c', rfl, hGo, hb2⟩; have hout2 := own_below hout1 hb2)
        | (at_mapUpdate; refine wpList_mapUpdate_own _ rfl _ _ _ 30 rfl 9 37 law9 Edfg.underlying30 (objElem [43]) w.heap.size (n - cnt) Dout rfl hout2 (by omega) _ _ _ rfl rfl (key_ok hx) _ [] (objElem_mk (by simp) c') ?_; intro w3 hout3 hg3; go_frame)
        | go_in)
      have hrg3 := (ranges_below hrg1 hb2).kept hg3 (fun e => by have := Option.some.inj e; omega) (fun e => by have := Option.some.inj e; omega)
      have st3 : Steady (fun i => i = w.heap.size) w2 w3 := steady_grown_own _ rfl hg3 hout2
      have st : Steady (fun i => i = w.heap.size) wr w3 := ((steady_grown_iter _ hg1 hrg).trans (steady_below _ hb2)).trans st3
      have hle2 : w.heap.size ≤ w2.heap.size := Nat.le_trans hw1.size hb2.size
      go_roundw
      case rel =>
        refine ⟨_, cnt1, _, hrg3, by omega, hout3.mono (by omega), fun kl => ?_, fun kl hkl => ?_, (below_then hw1 hb2 hw1.size).grown hg3 hle2 (fun j hj => by cases hj; exact Nat.le_refl _)⟩
        · by_cases e : kl = keyL x
          · subst e
            rw [has_put_same hout.isMap (keyL_isKey x), hD, WideAt.sameKey_self (keyL_isKey x)]
            simp
          · rw [has_put_other e, hA, sameKey_ne e]
            simp
        · by_cases e : kl = keyL x
          · subst e
            exact ⟨c', fun zd => atKey_put_same hout.isMap (keyL_isKey x) _ zd, stable _ _ _ _ hGo st3⟩
          · rw [has_put_other e] at hkl
            obtain ⟨c0, h1, h2⟩ := hG kl hkl
            exact ⟨c0, fun zd => by rw [atKey_put_other e]; exact h1 zd, stable _ _ _ _ h2 st⟩
      case measure => rw [hrg3.left_eq, hrg.left_eq]; exact hlt

set_option maxHeartbeats 400000 in
set_option maxRecDepth 100000 in
theorem copy29 (s b n : Nat) (D : DataW Unit) (w : World) (hs : w.cell? ⟨s, 0, none⟩ = some (.map (some b))) (hown : w.ownsMap Edfg.prog 9 (objElem [29]) b n D) (hn : n < maxLen)
    (Good : World → Lit → Nat → Prop)
    (stable : ∀ wa wb kl c, Good wa kl c → Steady (fun i => i = w.heap.size) wa wb → Good wb kl c)
    (helem : ∀ wr kl c, Below w.heap.size w wr → w.heap.size < wr.heap.size → (∀ zd, D.atKey kl zd = objD 29 c) →
      Calls Edfg.prog 15 #[.pointer (some ⟨c, 0, none⟩)] wr fun e w' => ∃ c', e = .returned (.iface 29 (.pointer (some ⟨c', 0, none⟩))) ∧ Good w' kl c' ∧ Below wr.heap.size wr w') :
    Calls Edfg.prog 15 #[.pointer (some ⟨s, 0, none⟩)] w fun e w' => ∃ s' b' D', e = .returned (.iface 29 (.pointer (some ⟨s', 0, none⟩))) ∧ w.heap.size ≤ s' ∧ w.heap.size ≤ b' ∧ w'.cell? ⟨s', 0, none⟩ = some (.map (some b')) ∧
      w'.ownsMap Edfg.prog 9 (objElem [29]) b' n D' ∧ (∀ kl, has D' kl = has D kl) ∧ (∀ kl, has D kl = true → ∃ c', (∀ zd, D'.atKey kl zd = objD 29 c') ∧ Good w' kl c') ∧ Below w.heap.size w w' := by
  have hmm := @run_makeMap Edfg.prog
  have hme := mCopy29
  have hbl := hown.lt
  have hsl : s < w.heap.size := World.block_lt_of_cell? w _ hs
  have e1 : (w.alloc (.map #[] 0)).heap.size = w.heap.size + 1 := by simp
  go_enter Edfg.func15, Edfg.ntmps15
  go_wp2_with (first
    | (at_range; refine wpList_range_own _ rfl _ 30 rfl 9 37 law9 Edfg.underlying30 _ b n _ rfl (hown.alloc _) ?_; intro w0 hrg0 hg0 hs0)
    | go_in)
  go_frame
  rw [e1] at hrg0 hs0 ⊢
  go_loopw [4] (fun _ wr => ∃ (left : Lit → Bool) (cnt : Nat) (Dout : DataW Unit), wr.ranges Edfg.prog 9 (objElem [29]) b (w.heap.size + 1) n D left cnt ∧ cnt ≤ n ∧ wr.ownsMap Edfg.prog 9 (objElem [29]) w.heap.size (n - cnt) Dout ∧
      (∀ kl, has Dout kl = (has D kl && !left kl)) ∧ (∀ kl, has Dout kl = true → ∃ c', (∀ zd, Dout.atKey kl zd = objD 29 c') ∧ Good wr kl c') ∧ Below w.heap.size w wr)
    (fun _ wr => wr.rangeLeft b (w.heap.size + 1))
  case atStart =>
    exact ⟨_, _, .map [], hrg0, hown.size_le, ((World.ownsMap_made _ _ _ _).kept hg0 (by simp)).mono (Nat.zero_le _), (fun kl => by cases has D kl <;> rfl), (fun kl h => absurd h (by simp [has])),
      ((Below.refl _ _).alloc (Nat.le_refl _) _).grown hg0 (by simp) (fun j hj => by cases hj)⟩
  case round =>
    obtain ⟨left, cnt, Dout, hrg, hcs, hout, hA, hG, hnx⟩ := hrel
    go_wp2_with (first
      | (at_next; refine next_obj1 _ rfl _ rfl 29 b (w.heap.size + 1) n _ _ _ rfl hrg ?_ ?_)
      | go_in)
    · -- NOTHING IS LEFT
      intro hc0 hl0
      have hsz := hout.lt
      go_wp2
      go_ret
      subst hc0
      refine ⟨_, w.heap.size, Dout, rfl, hnx.size, Nat.le_refl _, ?_, hout.alloc _, fun kl => by rw [hA, hl0]; simp, fun kl hkl => ?_, hnx.alloc hnx.size _⟩
      · simp [World.cell?_alloc_at]
      · obtain ⟨c', h1, h2⟩ := hG kl (by rw [hA, hl0, hkl]; rfl)
        exact ⟨c', h1, stable _ _ _ _ h2 (steady_below _ ((Below.refl _ _).alloc (Nat.le_refl _) _))⟩
    · -- AN ENTRY HAS COME
      intro x c w1 cnt1 hx hlx hat hrg1 hlt hg1 hs1 hen
      have hw1 : Below w.heap.size w w1 := hnx.grown hg1 hnx.size (fun j hj => by cases hj; exact Nat.le_succ _)
      have hD : has D (keyL x) = true := Maps.has_true_of_atKey hat
      have hout1 := hout.kept hg1 (by simp)
      go_wp2_with (first
        | (go_at_call 15; refine (helem w1 (keyL x) c hw1 hout1.lt hat).mono ?_; rintro e w2 ⟨c', rfl, hGo, hb2⟩; have hout2 := own_below hout1 hb2)
        | (at_mapUpdate; refine wpList_mapUpdate_own _ rfl _ _ _ 30 rfl 9 37 law9 Edfg.underlying30 (objElem [29]) w.heap.size (n - cnt) Dout rfl hout2 (by omega) _ _ _ rfl rfl (key_ok hx) _ [] (objElem_mk (by simp) c') ?_; intro w3 hout3 hg3; go_frame)
        | go_in)
      have hrg3 := (ranges_below hrg1 hb2).kept hg3 (fun e => by have := Option.some.inj e; omega) (fun e => by have := Option.some.inj e; omega)
      have st3 : Steady (fun i => i = w.heap.size) w2 w3 := steady_grown_own _ rfl hg3 hout2
      have st : Steady (fun i => i = w.heap.size) wr w3 := ((steady_grown_iter _ hg1 hrg).trans (steady_below _ hb2)).trans st3
      have hle2 : w.heap.size ≤ w2.heap.size := Nat.le_trans hw1.size hb2.size
      go_roundw
      case rel =>
        refine ⟨_, cnt1, _, hrg3, by omega, hout3.mono (by omega), fun kl => ?_, fun kl hkl => ?_, (below_then hw1 hb2 hw1.size).grown hg3 hle2 (fun j hj => by cases hj; exact Nat.le_refl _)⟩
        · by_cases e : kl = keyL x
          · subst e
            rw [has_put_same hout.isMap (keyL_isKey x), hD, WideAt.sameKey_self (keyL_isKey x)]
            simp
          · rw [has_put_other e, hA, sameKey_ne e]
            simp
        · by_cases e : kl = keyL x
          · subst e
            exact ⟨c', fun zd => atKey_put_same hout.isMap (keyL_isKey x) _ zd, stable _ _ _ _ hGo st3⟩
          · rw [has_put_other e] at hkl
            obtain ⟨c0, h1, h2⟩ := hG kl hkl
            exact ⟨c0, fun zd => by rw [atKey_put_other e]; exact h1 zd, stable _ _ _ _ h2 st⟩
      case measure => rw [hrg3.left_eq, hrg.left_eq]; exact hlt

end Go.Proofs.Yoedfw
