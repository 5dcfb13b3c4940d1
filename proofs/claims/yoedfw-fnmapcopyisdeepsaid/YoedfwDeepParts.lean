/-
  FnMapCopyIsDeep: Equals AND Copy AT THE MAPS THAT THE LAW MAKES: of two maps of *Int objects; of one and another with a *String laid into it; of maps that hold one map.
-/
import Derived.Test.YoedfwEq
import Derived.Test.YoedfwBuild
namespace Go.Proofs.Yoedfw
open Go.RowKit Go.Maps

theorem Canon.tidy' {D : DataW Unit} (h : Canon D) : Tidy D := by
  obtain ⟨es, rfl, hr, _⟩ := h
  exact ⟨es, rfl, apart_of_rising hr⟩
theorem Canon.isMap' {D : DataW Unit} (h : Canon D) : IsMap D := by
  obtain ⟨es, rfl, _, _⟩ := h
  exact ⟨es, rfl⟩

/-- What an entry of a map of *Int objects is. -/
theorem ints_at {w : World} {D : DataW Unit} {f : Lit → Option Int} {kl : Lit} {t c : Nat} (h : IntsAre w D f) (hat : ∀ zd, D.atKey kl zd = objD t c) : t = 43 ∧ ∃ x, f kl = some x ∧ w.cell? ⟨c, 0, none⟩ = some (.int .i64 x) := by
  have hk : (f kl).isSome = true := by rw [← (h kl).1]; exact has_true_of_atKey hat
  obtain ⟨x, hx⟩ := Option.isSome_iff_exists.1 hk
  obtain ⟨c0, h1, h2⟩ := (h kl).2 x hx
  obtain ⟨rfl, rfl⟩ := objD_inj ((h1 .nil).symm.trans (hat .nil))
  exact ⟨rfl, x, hx, h2⟩

/-! ### two maps of the same *Int objects are equal -/
theorem eq_ints (s1 b1 n1 s2 b2 n2 : Nat) (f : Lit → Option Int) (w : World) (hs1 : w.cell? ⟨s1, 0, none⟩ = some (.map (some b1))) (hs2 : w.cell? ⟨s2, 0, none⟩ = some (.map (some b2))) (m1 : IntMap w b1 n1 f) (m2 : IntMap w b2 n2 f) :
    Calls Edfg.prog 16 #[.pointer (some ⟨s1, 0, none⟩), .iface 29 (.pointer (some ⟨s2, 0, none⟩))] w fun e w' => e = .returned (.bool true) ∧ Below w.heap.size w w' := by
  obtain ⟨D1, o1, i1⟩ := m1
  obtain ⟨D2, o2, i2⟩ := m2
  refine eq_any [43] s1 b1 n1 s2 b2 n2 D1 D2 w hs1 hs2 (own_widen o1 (by simp)) o2 (size_eq_of_has (o1.canon law9) (o2.canon law9) (fun kl => (i1 kl).1.trans (i2 kl).1.symm)) (fun _ => true) true (fun _ _ _ => rfl) (fun h => by cases h) ?_
  intro wr kl t1 c1 hb hat
  obtain ⟨rfl, x, hx, hc⟩ := ints_at i1 hat
  obtain ⟨c2, h1, h2⟩ := (i2 kl).2 x hx
  refine ⟨43, c2, h1, ?_⟩
  refine (int_eq c1 c2 x x wr (cells_below hb _ _ hc) (cells_below hb _ _ h2)).mono ?_
  rintro e w' ⟨rfl, hb'⟩
  exact ⟨by simp, hb'⟩

/-! ### a map of *Int objects with a *String laid into it -/
/-- BLOCK b: the *Int objects f, and at the key kx a *String. -/
def MixMap (w : World) (b n : Nat) (f : Lit → Option Int) (kx : Lit) : Prop :=
  ∃ D c, w.ownsMap Edfg.prog 9 (objElem [43, 50]) b n (D.put kx (objD 50 c)) ∧ IntsAre w D f ∧ Canon D
theorem MixMap.kept {S : Nat → Prop} {w w' : World} {b n : Nat} {f : Lit → Option Int} {kx : Lit} (h : MixMap w b n f kx) (hs : Steady S w w') (hb : ¬ S b) : MixMap w' b n f kx := by
  obtain ⟨D, c, h1, h2, h3⟩ := h
  exact ⟨D, c, own_steady h1 hs hb, h2.kept hs.1, h3⟩

/-- What an entry of such a map is. -/
theorem mix_at {w : World} {D : DataW Unit} {f : Lit → Option Int} {kx kl : Lit} {t c cx : Nat} (hD : Canon D) (hk : WideAt.IsKeyLit kx) (h : IntsAre w D f) (hat : ∀ zd, (D.put kx (objD 50 cx)).atKey kl zd = objD t c) :
    (kl = kx ∧ t = 50) ∨ (kl ≠ kx ∧ t = 43 ∧ ∃ x, f kl = some x ∧ w.cell? ⟨c, 0, none⟩ = some (.int .i64 x)) := by
  by_cases e : kl = kx
  · subst e
    have := hat .nil
    rw [atKey_put_same (Canon.isMap' hD) hk] at this
    exact Or.inl ⟨rfl, (objD_inj this).1.symm⟩
  · exact Or.inr ⟨e, ints_at h (fun zd => by rw [← atKey_put_other e]; exact hat zd)⟩

theorem eq_int_mix (s1 b1 n1 s2 b2 n2 : Nat) (f : Lit → Option Int) (kx : Lit) (w : World) (hk : WideAt.IsKeyLit kx) (hs1 : w.cell? ⟨s1, 0, none⟩ = some (.map (some b1))) (hs2 : w.cell? ⟨s2, 0, none⟩ = some (.map (some b2))) (m1 : IntMap w b1 n1 f) (m2 : MixMap w b2 n2 f kx) :
    Calls Edfg.prog 16 #[.pointer (some ⟨s1, 0, none⟩), .iface 29 (.pointer (some ⟨s2, 0, none⟩))] w fun e w' => e = .returned (.bool false) ∧ Below w.heap.size w w' := by
  obtain ⟨D1, o1, i1⟩ := m1
  obtain ⟨D, cx, o2, i2, hD⟩ := m2
  have e0 : size D1 = size D := size_eq_of_has (o1.canon law9) hD (fun kl => (i1 kl).1.trans (i2 kl).1.symm)
  have e1 := size_put (k := kx) (Canon.tidy' hD) (objD 50 cx)
  cases hx : has D kx
  · rw [hx] at e1
    simp at e1
    exact eq_sizes s1 b1 n1 s2 b2 n2 D1 _ w hs1 hs2 o1 o2 (by omega)
  · rw [hx] at e1
    simp at e1
    have hx1 : has D1 kx = true := by rw [(i1 kx).1, ← (i2 kx).1, hx]
    refine eq_any [43, 50] s1 b1 n1 s2 b2 n2 D1 _ w hs1 hs2 (own_widen o1 (by simp)) o2 (by omega) (fun kl => !kl.sameKey kx) false (fun h => by cases h) (fun _ => ⟨kx, hx1, by simp [WideAt.sameKey_self hk]⟩) ?_
    intro wr kl t1 c1 hb hat
    obtain ⟨rfl, x, hfx, hc⟩ := ints_at i1 hat
    by_cases e : kl = kx
    · subst e
      refine ⟨50, cx, fun zd => atKey_put_same (Canon.isMap' hD) hk _ zd, ?_⟩
      refine (int_str c1 cx wr).mono ?_
      rintro e w' ⟨rfl, hb'⟩
      exact ⟨by simp [WideAt.sameKey_self hk], hb'⟩
    · obtain ⟨c2, h1, h2⟩ := (i2 kl).2 x hfx
      refine ⟨43, c2, fun zd => by rw [atKey_put_other e]; exact h1 zd, ?_⟩
      refine (int_eq c1 c2 x x wr (cells_below hb _ _ hc) (cells_below hb _ _ h2)).mono ?_
      rintro e' w' ⟨rfl, hb'⟩
      exact ⟨by simp [sameKey_ne e], hb'⟩

theorem eq_mix_int (s1 b1 n1 s2 b2 n2 : Nat) (f : Lit → Option Int) (kx : Lit) (w : World) (hk : WideAt.IsKeyLit kx) (hs1 : w.cell? ⟨s1, 0, none⟩ = some (.map (some b1))) (hs2 : w.cell? ⟨s2, 0, none⟩ = some (.map (some b2))) (m1 : MixMap w b1 n1 f kx) (m2 : IntMap w b2 n2 f) :
    Calls Edfg.prog 16 #[.pointer (some ⟨s1, 0, none⟩), .iface 29 (.pointer (some ⟨s2, 0, none⟩))] w fun e w' => e = .returned (.bool false) ∧ Below w.heap.size w w' := by
  obtain ⟨D, cx, o1, i1, hD⟩ := m1
  obtain ⟨D2, o2, i2⟩ := m2
  have e0 : size D = size D2 := size_eq_of_has hD (o2.canon law9) (fun kl => (i1 kl).1.trans (i2 kl).1.symm)
  have e1 := size_put (k := kx) (Canon.tidy' hD) (objD 50 cx)
  cases hx : has D kx
  · rw [hx] at e1
    simp at e1
    exact eq_sizes s1 b1 n1 s2 b2 n2 _ D2 w hs1 hs2 o1 o2 (by omega)
  · rw [hx] at e1
    simp at e1
    have hx2 : (f kx).isSome = true := by rw [← (i1 kx).1, hx]
    refine eq_any [43] s1 b1 n1 s2 b2 n2 _ D2 w hs1 hs2 (own_widen o1 (by simp)) o2 (by omega) (fun kl => !kl.sameKey kx) false (fun h => by cases h) (fun _ => ⟨kx, has_put_same (Canon.isMap' hD) hk _, by simp [WideAt.sameKey_self hk]⟩) ?_
    intro wr kl t1 c1 hb hat
    rcases mix_at hD hk i1 hat with ⟨rfl, rfl⟩ | ⟨e, rfl, x, hfx, hc⟩
    · obtain ⟨x, hfx⟩ := Option.isSome_iff_exists.1 hx2
      obtain ⟨c2, h1, h2⟩ := (i2 kl).2 x hfx
      refine ⟨43, c2, h1, ?_⟩
      refine (str_int c1 c2 wr).mono ?_
      rintro e w' ⟨rfl, hb'⟩
      exact ⟨by simp [WideAt.sameKey_self hk], hb'⟩
    · obtain ⟨c2, h1, h2⟩ := (i2 kl).2 x hfx
      refine ⟨43, c2, h1, ?_⟩
      refine (int_eq c1 c2 x x wr (cells_below hb _ _ hc) (cells_below hb _ _ h2)).mono ?_
      rintro e' w' ⟨rfl, hb'⟩
      exact ⟨by simp [sameKey_ne e], hb'⟩

/-! ### a map that holds one map, at the key 'in' -/
/-- THE KEY. -/
def inS : ByteArray := { data := #[105, 110] }
def inL : Lit := keyL inS
/-- THE Map IN BLOCK s HOLDS, IN ITS MAP IN BLOCK b, ONE ENTRY: the Map in block si. -/
def OuterAt (w : World) (s b si : Nat) : Prop :=
  w.cell? ⟨s, 0, none⟩ = some (.map (some b)) ∧ ∃ D, w.ownsMap Edfg.prog 9 (objElem [29]) b 1 D ∧ (∀ kl, has D kl = kl.sameKey inL) ∧ ∀ zd, D.atKey inL zd = objD 29 si
theorem OuterAt.kept {S : Nat → Prop} {w w' : World} {s b si : Nat} (h : OuterAt w s b si) (hs : Steady S w w') (hb : ¬ S b) : OuterAt w' s b si := by
  obtain ⟨h1, D, h2, h3, h4⟩ := h
  exact ⟨hs.1 _ _ h1, D, own_steady h2 hs hb, h3, h4⟩
theorem outer_at {D : DataW Unit} {kl : Lit} {si t c : Nat} (h1 : ∀ kl, has D kl = kl.sameKey inL) (h2 : ∀ zd, D.atKey inL zd = objD 29 si) (hat : ∀ zd, D.atKey kl zd = objD t c) : kl = inL ∧ t = 29 ∧ c = si := by
  have hk : kl.sameKey inL = true := by rw [← h1]; exact has_true_of_atKey hat
  have e := WideAt.sameKey_eq hk
  subst e
  obtain ⟨rfl, rfl⟩ := objD_inj ((h2 .nil).symm.trans (hat .nil))
  exact ⟨rfl, rfl, rfl⟩

/-- WHAT THE INNER MAPS' Equals ANSWERS, THE OUTER ONES' ANSWERS. -/
theorem eq_outer (s1 b1 i1 s2 b2 i2 : Nat) (y : Bool) (w : World) (h1 : OuterAt w s1 b1 i1) (h2 : OuterAt w s2 b2 i2)
    (hin : ∀ wr, Below w.heap.size w wr → Calls Edfg.prog 16 #[.pointer (some ⟨i1, 0, none⟩), .iface 29 (.pointer (some ⟨i2, 0, none⟩))] wr fun e w' => e = .returned (.bool y) ∧ Below wr.heap.size wr w') :
    Calls Edfg.prog 16 #[.pointer (some ⟨s1, 0, none⟩), .iface 29 (.pointer (some ⟨s2, 0, none⟩))] w fun e w' => e = .returned (.bool y) ∧ Below w.heap.size w w' := by
  obtain ⟨c1, D1, o1, k1, a1⟩ := h1
  obtain ⟨c2, D2, o2, k2, a2⟩ := h2
  refine eq_any [29] s1 b1 1 s2 b2 1 D1 D2 w c1 c2 (own_widen o1 (by simp)) o2 (size_eq_of_has (o1.canon law9) (o2.canon law9) (fun kl => (k1 kl).trans (k2 kl).symm)) (fun _ => y) y (fun h _ _ => h) (fun h => ⟨inL, has_true_of_atKey a1, h⟩) ?_
  intro wr kl t c hb hat
  obtain ⟨rfl, rfl, rfl⟩ := outer_at k1 a1 hat
  exact ⟨29, i2, a2, hin wr hb⟩

/-- THE OUTER MAP's Copy: a new outer map that holds a new map of the same numbers. -/
theorem copy_outer (s b si bi n : Nat) (f : Lit → Option Int) (w : World) (h : OuterAt w s b si) (hs : w.cell? ⟨si, 0, none⟩ = some (.map (some bi))) (hm : IntMap w bi n f) (hn : n < maxLen) :
    Calls Edfg.prog 15 #[.pointer (some ⟨s, 0, none⟩)] w fun e w' => ∃ s' b' si' bi', e = .returned (.iface 29 (.pointer (some ⟨s', 0, none⟩))) ∧ OuterAt w' s' b' si' ∧ w.heap.size ≤ b' ∧ w'.cell? ⟨si', 0, none⟩ = some (.map (some bi')) ∧ IntMap w' bi' n f ∧ w.heap.size ≤ bi' ∧
      Below w.heap.size w w' := by
  obtain ⟨c1, D, o1, k1, a1⟩ := h
  refine (copy29 s b 1 D w c1 o1 (by unfold maxLen; omega) (fun wa _ c => ∃ bi', wa.cell? ⟨c, 0, none⟩ = some (.map (some bi')) ∧ IntMap wa bi' n f ∧ w.heap.size < bi') ?_ ?_).mono ?_
  · rintro wa wb kl c ⟨bi', g1, g2, g3⟩ st
    exact ⟨bi', st.1 _ _ g1, g2.kept st (by omega), g3⟩
  · intro wr kl c hb hlt hat
    obtain ⟨rfl, _, rfl⟩ := outer_at k1 a1 hat
    refine (copy_ints c bi n f wr (cells_below hb _ _ hs) (hm.kept (steady_below (fun _ => False) hb) (fun h => h)) hn).mono ?_
    rintro e w' ⟨s', b', rfl, h1, h2, h3, h4, h5⟩
    exact ⟨s', rfl, ⟨b', h3, h4, by omega⟩, h5⟩
  · rintro e w' ⟨s', b', D', rfl, h1, h2, h3, h4, h5, h6, h7⟩
    obtain ⟨c', g1, bi', g2, g3, g4⟩ := h6 inL (has_true_of_atKey a1)
    exact ⟨s', b', c', bi', rfl, ⟨h3, D', h4, fun kl => (h5 kl).trans (k1 kl), g1⟩, h2, g2, g3, Nat.le_of_lt g4, h7⟩

end Go.Proofs.Yoedfw
