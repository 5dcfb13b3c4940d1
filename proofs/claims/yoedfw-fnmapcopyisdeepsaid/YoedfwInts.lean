/-
  A MAP OF *Int OBJECTS AS A PLAIN FUNCTION FROM KEYS TO NUMBERS ('IntMap'); its Copy.
-/
import Derived.Test.YoedfwCopy
namespace Go.Proofs.Yoedfw
open Go.RowKit Go.Maps

/-! ### two maps with the same keys are of one size -/
theorem length_le_of_keys : ∀ (es es' : List (Lit × DataW Unit)), es.Pairwise (fun p q => p.1 ≠ q.1) → (∀ p ∈ es, WideAt.IsKeyLit p.1) → (∀ p ∈ es, ∃ q ∈ es', q.1 = p.1) → es.length ≤ es'.length
  | [], _, _, _, _ => Nat.zero_le _
  | p :: r, es', hp, hk, hm => by
    obtain ⟨h1, h2⟩ := List.pairwise_cons.1 hp
    obtain ⟨q, hq, e⟩ := hm p (by simp)
    have hlt : (es'.filter (fun x => !x.1.sameKey p.1)).length < es'.length := by
      rw [List.length_filter_lt_length_iff_exists]
      exact ⟨q, hq, by rw [e, WideAt.sameKey_self (hk p (by simp))]; simp⟩
    have := length_le_of_keys r (es'.filter (fun x => !x.1.sameKey p.1)) h2 (fun x hx => hk x (by simp [hx])) (fun x hx => by
      obtain ⟨q', hq', e'⟩ := hm x (by simp [hx])
      refine ⟨q', List.mem_filter.2 ⟨hq', ?_⟩, e'⟩
      rw [e', sameKey_ne (fun h => h1 x hx h.symm)]
      rfl)
    simp only [List.length_cons]
    omega

theorem size_le_of_has {D D' : DataW Unit} (c : Canon D) (c' : Canon D') (h : ∀ kl, has D kl = true → has D' kl = true) : size D ≤ size D' := by
  obtain ⟨es, rfl, hr, hk⟩ := c
  obtain ⟨es', rfl, _, _⟩ := c'
  refine length_le_of_keys es es' (apart_of_rising hr) hk (fun p hp => ?_)
  have h1 : has (.map es) p.1 = true := List.any_eq_true.2 ⟨p, hp, WideAt.sameKey_self (hk p hp)⟩
  obtain ⟨q, hq, hs⟩ := List.any_eq_true.1 (h p.1 h1)
  exact ⟨q, hq, WideAt.sameKey_eq hs⟩

theorem size_eq_of_has {D D' : DataW Unit} (c : Canon D) (c' : Canon D') (h : ∀ kl, has D kl = has D' kl) : size D = size D' :=
  Nat.le_antisymm (size_le_of_has c c' (fun kl hk => by rw [← h]; exact hk)) (size_le_of_has c' c (fun kl hk => by rw [h]; exact hk))

/-! ### a map of *Int objects -/
/-- THE ENTRIES OF D ARE *Int OBJECTS THAT HOLD THE NUMBERS f. -/
def IntsAre (w : World) (D : DataW Unit) (f : Lit → Option Int) : Prop :=
  ∀ kl, has D kl = (f kl).isSome ∧ ∀ x, f kl = some x → ∃ c, (∀ zd, D.atKey kl zd = objD 43 c) ∧ w.cell? ⟨c, 0, none⟩ = some (.int .i64 x)

theorem IntsAre.kept {w w' : World} {D : DataW Unit} {f : Lit → Option Int} (h : IntsAre w D f) (hc : Cells w w') : IntsAre w' D f := fun kl =>
  ⟨(h kl).1, fun x hx => by
    obtain ⟨c, h1, h2⟩ := (h kl).2 x hx
    exact ⟨c, h1, hc _ _ h2⟩⟩

/-- BLOCK b IS A MAP OF *Int OBJECTS THAT HOLD THE NUMBERS f. -/
def IntMap (w : World) (b n : Nat) (f : Lit → Option Int) : Prop := ∃ D, w.ownsMap Edfg.prog 9 (objElem [43]) b n D ∧ IntsAre w D f

theorem IntMap.kept {S : Nat → Prop} {w w' : World} {b n : Nat} {f : Lit → Option Int} (h : IntMap w b n f) (hs : Steady S w w') (hb : ¬ S b) : IntMap w' b n f := by
  obtain ⟨D, h1, h2⟩ := h
  exact ⟨D, own_steady h1 hs hb, h2.kept hs.1⟩

theorem ints_start (w : World) : IntsAre w (.map []) (fun _ => none) := fun kl => ⟨rfl, fun x hx => by cases hx⟩

/-- ONE STORE MORE. -/
def upd (f : Lit → Option Int) (k : Lit) (x : Int) : Lit → Option Int := fun kl => if kl.sameKey k then some x else f kl
theorem ints_put {w w' : World} {D : DataW Unit} {f : Lit → Option Int} {k : Lit} {c : Nat} {x : Int} (h : IntsAre w D f) (hm : IsMap D) (hk : WideAt.IsKeyLit k) (hc : Cells w w') (hx : w'.cell? ⟨c, 0, none⟩ = some (.int .i64 x)) :
    IntsAre w' (D.put k (objD 43 c)) (upd f k x) := fun kl => by
  by_cases e : kl = k
  · subst e
    have e1 : upd f kl x kl = some x := by simp [upd, WideAt.sameKey_self hk]
    refine ⟨by rw [has_put_same hm hk, e1]; rfl, fun y hy => ?_⟩
    rw [e1] at hy
    cases hy
    exact ⟨c, fun zd => atKey_put_same hm hk _ zd, hx⟩
  · have e1 : upd f k x kl = f kl := by simp [upd, sameKey_ne e]
    rw [e1, has_put_other e]
    refine ⟨(h kl).1, fun y hy => ?_⟩
    obtain ⟨c0, h1, h2⟩ := (h kl).2 y hy
    exact ⟨c0, fun zd => by rw [atKey_put_other e]; exact h1 zd, hc _ _ h2⟩
/-- ONE KEY LESS. -/
def del (f : Lit → Option Int) (k : Lit) : Lit → Option Int := fun kl => if kl.sameKey k then none else f kl
theorem ints_del {w : World} {D : DataW Unit} {f : Lit → Option Int} {k : Lit} (h : IntsAre w D f) (hk : WideAt.IsKeyLit k) : IntsAre w (D.del k) (del f k) := fun kl => by
  by_cases e : kl = k
  · subst e
    have e1 : del f kl kl = none := by simp [del, WideAt.sameKey_self hk]
    rw [e1, has_del_same]
    exact ⟨rfl, fun y hy => by cases hy⟩
  · have e1 : del f k kl = f kl := by simp [del, sameKey_ne e]
    rw [e1, has_del_other e]
    refine ⟨(h kl).1, fun y hy => ?_⟩
    obtain ⟨c0, h1, h2⟩ := (h kl).2 y hy
    exact ⟨c0, fun zd => by rw [atKey_del_other e]; exact h1 zd, h2⟩

/-! ### its Copy -/
theorem copy_ints (s b n : Nat) (f : Lit → Option Int) (w : World) (hs : w.cell? ⟨s, 0, none⟩ = some (.map (some b))) (hm : IntMap w b n f) (hn : n < maxLen) :
    Calls Edfg.prog 15 #[.pointer (some ⟨s, 0, none⟩)] w fun e w' => ∃ s' b', e = .returned (.iface 29 (.pointer (some ⟨s', 0, none⟩))) ∧ w.heap.size ≤ s' ∧ w.heap.size ≤ b' ∧ w'.cell? ⟨s', 0, none⟩ = some (.map (some b')) ∧
      IntMap w' b' n f ∧ Below w.heap.size w w' := by
  obtain ⟨D, hown, hI⟩ := hm
  refine (copy43 s b n D w hs hown hn (fun wa kl c => ∀ x, f kl = some x → wa.cell? ⟨c, 0, none⟩ = some (.int .i64 x)) (fun wa wb kl c h st x hx => st.1 _ _ (h x hx)) (fun wr kl c hb _ hat => ?_)).mono ?_
  · have hk : (f kl).isSome = true := by rw [← (hI kl).1]; exact has_true_of_atKey hat
    obtain ⟨x, hx⟩ := Option.isSome_iff_exists.1 hk
    obtain ⟨c0, h1, h2⟩ := (hI kl).2 x hx
    obtain ⟨_, rfl⟩ := objD_inj ((h1 .nil).symm.trans (hat .nil))
    refine (int_copy c0 x wr (cells_below hb _ _ h2)).mono ?_
    rintro e w' ⟨rfl, rfl⟩
    refine ⟨_, rfl, fun y hy => ?_, (Below.refl _ _).alloc (Nat.le_refl _) _⟩
    rw [hx] at hy
    cases hy
    simp [World.cell?_alloc_at]
  · rintro e w' ⟨s', b', D', rfl, h1, h2, h3, h4, h5, h6, h7⟩
    refine ⟨s', b', rfl, h1, h2, h3, ⟨D', h4, fun kl => ⟨by rw [h5]; exact (hI kl).1, fun x hx => ?_⟩⟩, h7⟩
    obtain ⟨c', g1, g2⟩ := h6 kl (by rw [(hI kl).1, hx]; rfl)
    exact ⟨c', g1, g2 x hx⟩

end Go.Proofs.Yoedfw
