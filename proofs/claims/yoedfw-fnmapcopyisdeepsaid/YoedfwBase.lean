/-
  WORDS AND LAWS THAT ALL WALKS OF THIS SEAT SHARE; NO FUNCTION OF THE PROGRAM IS WALKED HERE.
  'SlAt mk w a xs': the slice at address a holds xs. 'Cells w w'': every cell that could be read reads as it did. 'objElem T': how an element of 'map[string]Object' reads: a pointer of dynamic type T to a block: by the block's number.
-/
import Derived.Test.YoedfwRows
import Derived.WalkKit
import Derived.WalkSpells
import Derived.WalkLawsBesides
import Derived.Maps.RangeWalk
import Derived.Maps.Ext
namespace Go.Proofs.Yoedfw
open Go.RowKit Go.Maps

/-! ### worlds -/
/-- EVERY CELL THAT COULD BE READ READS AS IT DID. -/
def Cells (w w' : World) : Prop := ∀ a v, w.cell? a = some v → w'.cell? a = some v

theorem Cells.refl (w : World) : Cells w w := fun _ _ h => h
theorem Cells.trans {a b c : World} (h : Cells a b) (k : Cells b c) : Cells a c := fun x v hx => k x v (h x v hx)
theorem cells_below {w w' : World} (h : Below w.heap.size w w') : Cells w w' := fun a _ hv => (h.cell (World.block_lt_of_cell? w a hv)).trans hv
theorem cells_grown_none {w w' : World} (h : w.grownBy w' none) : Cells w w' := fun _ _ hv => h.cell hv (by simp)
theorem cells_alloc (w : World) (o : Obj) : Cells w (w.alloc o) := cells_grown_none (World.grownBy_alloc w o none)
theorem cells_grown_map {w w' : World} {b : Nat} {es : Array MapEntry} {clock : Nat} (h : w.grownBy w' (some b)) (hb : w.heap[b]? = some (.map es clock)) : Cells w w' := fun a v hv =>
  h.cell hv (fun e => by
    have e1 := Option.some.inj e
    simp [World.cell?, e1, hb] at hv)
theorem cells_grown_own {H : Type} {P : Program} {k : TypeId} {R : Value → Option (DataW H × List MemPlace)} {w w' : World} {b n : Nat} {D : DataW H} (h : w.grownBy w' (some b)) (ho : w.ownsMap P k R b n D) : Cells w w' := by
  obtain ⟨es, clock, hb, _⟩ := ho
  exact cells_grown_map h hb
theorem cells_grown_iter {H : Type} {P : Program} {k : TypeId} {R : Value → Option (DataW H × List MemPlace)} {w w' : World} {b r n : Nat} {D : DataW H} {left : Lit → Bool} {cnt : Nat} (h : w.grownBy w' (some r)) (ho : w.ranges P k R b r n D left cnt) : Cells w w' := by
  obtain ⟨es, clock, since, seen, c0, _, _, _, _, hr, _⟩ := ho
  exact fun a v hv => h.cell hv (fun e => by
    have e1 := Option.some.inj e
    simp [World.cell?, e1, hr] at hv)

theorem own_below {H : Type} {P : Program} {k : TypeId} {R : Value → Option (DataW H × List MemPlace)} {w w' : World} {b n : Nat} {D : DataW H} (h : w.ownsMap P k R b n D) (hb : Below w.heap.size w w') : w'.ownsMap P k R b n D := by
  have hlt := h.lt
  obtain ⟨es, clock, hm, r⟩ := h
  exact ⟨es, clock, (hb.block b hlt).trans hm, r⟩
theorem ranges_below {H : Type} {P : Program} {k : TypeId} {R : Value → Option (DataW H × List MemPlace)} {w w' : World} {b r n : Nat} {D : DataW H} {left : Lit → Bool} {cnt : Nat} (h : w.ranges P k R b r n D left cnt) (hb : Below w.heap.size w w') : w'.ranges P k R b r n D left cnt := by
  have h1 := h.owns.lt
  have h2 := h.lt
  obtain ⟨es, clock, since, seen, c0, hm, F, hs, hD, hr, rest⟩ := h
  exact ⟨es, clock, since, seen, c0, (hb.block b h1).trans hm, F, hs, hD, (hb.block r h2).trans hr, rest⟩
theorem below_then {B : Nat} {a w w' : World} (h : Below B a w) (k : Below w.heap.size w w') (hB : B ≤ w.heap.size) : Below B a w' := h.trans (k.mono hB)
theorem grown_below {w w' : World} (h : w.grownBy w' none) : Below w.heap.size w w' := ⟨h.os, h.tape, h.output, h.size, fun k hk => h.block k hk (by simp)⟩

/-- EVERY CELL, AND EVERY MAP BUT THOSE IN S, READS AS IT DID. -/
def Steady (S : Nat → Prop) (w w' : World) : Prop := Cells w w' ∧ ∀ (i : Nat) (es : Array MapEntry) (clock : Nat), ¬ S i → w.heap[i]? = some (.map es clock) → w'.heap[i]? = some (.map es clock)

theorem Steady.refl (S : Nat → Prop) (w : World) : Steady S w w := ⟨Cells.refl w, fun _ _ _ _ h => h⟩
theorem Steady.trans {S : Nat → Prop} {a b c : World} (h : Steady S a b) (k : Steady S b c) : Steady S a c := ⟨h.1.trans k.1, fun i es clock hi hm => k.2 i es clock hi (h.2 i es clock hi hm)⟩
theorem Steady.mono {S S' : Nat → Prop} {w w' : World} (h : Steady S w w') (hs : ∀ i, S i → S' i) : Steady S' w w' := ⟨h.1, fun i es clock hi hm => h.2 i es clock (fun q => hi (hs i q)) hm⟩
theorem steady_below (S : Nat → Prop) {w w' : World} (h : Below w.heap.size w w') : Steady S w w' := ⟨cells_below h, fun i _ _ _ hm => (h.block i (Array.getElem?_eq_some_iff.1 hm).1).trans hm⟩
theorem steady_grown_own {H : Type} {P : Program} {k : TypeId} {R : Value → Option (DataW H × List MemPlace)} {w w' : World} {b n : Nat} {D : DataW H} (S : Nat → Prop) (hS : S b) (h : w.grownBy w' (some b)) (ho : w.ownsMap P k R b n D) : Steady S w w' :=
  ⟨cells_grown_own h ho, fun i _ _ hi hm => (h.block i (Array.getElem?_eq_some_iff.1 hm).1 (fun e => hi (by cases e; exact hS))).trans hm⟩
theorem steady_grown_iter {H : Type} {P : Program} {k : TypeId} {R : Value → Option (DataW H × List MemPlace)} {w w' : World} {b r n : Nat} {D : DataW H} {left : Lit → Bool} {cnt : Nat} (S : Nat → Prop) (h : w.grownBy w' (some r)) (ho : w.ranges P k R b r n D left cnt) : Steady S w w' := by
  refine ⟨cells_grown_iter h ho, fun i es clock _ hm => (h.block i (Array.getElem?_eq_some_iff.1 hm).1 (fun e => ?_)).trans hm⟩
  obtain ⟨es', clock', since, seen, c0, _, _, _, _, hr, _⟩ := ho
  cases e
  rw [hm] at hr
  cases hr
theorem own_steady {H : Type} {P : Program} {k : TypeId} {R : Value → Option (DataW H × List MemPlace)} {S : Nat → Prop} {w w' : World} {b n : Nat} {D : DataW H} (h : w.ownsMap P k R b n D) (hs : Steady S w w') (hb : ¬ S b) : w'.ownsMap P k R b n D := by
  obtain ⟨es, clock, hm, r⟩ := h
  exact ⟨es, clock, hs.2 b es clock hb hm, r⟩

/-! ### slices -/
/-- THE SLICE AT ADDRESS a HOLDS xs, each in one cell (of an empty one nothing is known). -/
def SlAt {α : Type} (mk : α → Value) (w : World) (a : Option Addr) (xs : List α) : Prop :=
  0 < xs.length → ∃ b off, a = some ⟨b, off, none⟩ ∧ ∀ j (h : j < xs.length), w.cell? ⟨b, off + j, none⟩ = some (mk xs[j])

theorem SlAt.kept {α : Type} {mk : α → Value} {w w' : World} {a : Option Addr} {xs : List α} (h : SlAt mk w a xs) (hc : Cells w w') : SlAt mk w' a xs := fun h0 => by
  obtain ⟨b, off, e, hx⟩ := h h0
  exact ⟨b, off, e, fun j hj => hc _ _ (hx j hj)⟩

/-! ### maps of objects -/
/-- THE OBJECT's DATUM: its dynamic type's and its block's number. -/
def objD (t c : Nat) : DataW Unit := .agg [.lit (.int .i64 t), .lit (.int .i64 c)]
theorem objD_inj {t a u b : Nat} (h : objD t a = objD u b) : t = u ∧ a = b := by
  simp only [objD, DataW.agg.injEq, List.cons.injEq, DataW.lit.injEq, Lit.int.injEq, true_and, and_true] at h
  omega
/-- HOW AN ELEMENT OF 'map[string]Object' READS WHERE ALL ARE POINTERS OF THE DYNAMIC TYPES TS. -/
def objElem (TS : List Nat) : Value → Option (DataW Unit × List MemPlace)
  | .iface t (.pointer (some ⟨c, 0, none⟩)) => if t ∈ TS then some (objD t c, []) else none
  | _ => none
theorem objElem_mk {TS : List Nat} {t : Nat} (h : t ∈ TS) (c : Nat) : objElem TS (.iface t (.pointer (some ⟨c, 0, none⟩))) = some (objD t c, []) := by simp [objElem, h]
theorem objElem_inv {TS : List Nat} {v : Value} {z : DataW Unit × List MemPlace} (h : objElem TS v = some z) : ∃ t c, t ∈ TS ∧ v = .iface t (.pointer (some ⟨c, 0, none⟩)) ∧ z = (objD t c, []) := by
  unfold objElem at h
  split at h
  · split at h
    · rename_i e
      cases h
      exact ⟨_, _, e, rfl, rfl⟩
    · cases h
  · cases h
theorem own_widen {TS TS' : List Nat} {w : World} {b n : Nat} {D : DataW Unit} {P : Program} {k : TypeId} (h : w.ownsMap P k (objElem TS) b n D) (hs : ∀ t ∈ TS, t ∈ TS') : w.ownsMap P k (objElem TS') b n D := by
  obtain ⟨es, clock, hb, F, hn, hD⟩ := h
  obtain ⟨F1, hmap, _⟩ := F.stay (R' := objElem TS') (fun x _ z hz => by
    obtain ⟨t, c, ht, e, rfl⟩ := objElem_inv hz
    rw [e]
    exact objElem_mk (hs t ht) c)
  exact ⟨es, clock, hb, F1, hn, by rw [hmap]; exact hD⟩

theorem law9 : Keyed Edfg.prog 9 := string_keyed Edfg.underlying9
/-- WHAT A STRING KEY READS AS. -/
def keyL (s : ByteArray) : Lit := .string s.data.toList
theorem key_ok {s : ByteArray} (h : s.size ≤ maxLen) : keyOf Edfg.prog 9 (.string s) = some (keyL s) := WideMaps.keyOf_string_mk Edfg.underlying9 h
theorem keyL_isKey (s : ByteArray) : WideAt.IsKeyLit (keyL s) := trivial
theorem keyOf_string_inv {key : Value} {kl : Lit} (h : keyOf Edfg.prog 9 key = some kl) : ∃ s : ByteArray, key = .string s ∧ kl = keyL s ∧ s.size ≤ maxLen := by
  cases key <;> simp [keyOf, Edfg.underlying9, mapKey] at h
  obtain ⟨h1, rfl⟩ := h
  exact ⟨_, rfl, rfl, h1⟩

section
variable (w : World) {ops : Array Oper} {rest : List Oper} {o : Oper} {a : Act} {Q : Exit → Act → World → Prop}

/-- A RANGE's STEP OVER A MAP OF OBJECTS. -/
theorem next_obj (hg : o.guard = none) (it : Operand) (hop : o.op = Op.next it false) (TS : List Nat) (b r n : Nat) (D : DataW Unit) (left : Lit → Bool) (cnt : Nat)
    (hit : a.eval it = .pointer (some ⟨r, 0, none⟩)) (h : w.ranges Edfg.prog 9 (objElem TS) b r n D left cnt)
    (hDone : cnt = 0 → (∀ kl, left kl = false) → wpList Edfg.prog ops Q rest (a.put o.dst (.tuple #[.bool false])) w)
    (hMore : ∀ (x : ByteArray) (t c : Nat) (w' : World) (cnt' : Nat), t ∈ TS → x.size ≤ maxLen → left (keyL x) = true → (∀ zd, D.atKey (keyL x) zd = objD t c) → w'.ranges Edfg.prog 9 (objElem TS) b r n D (fun z => left z && !z.sameKey (keyL x)) cnt' → cnt' < cnt →
      w.grownBy w' (some r) → w'.heap.size = w.heap.size → (Instr.entry (.pointer (some ⟨r, 0, none⟩))).run Edfg.prog w' = .ok (.tuple #[.string x, .iface t (.pointer (some ⟨c, 0, none⟩))]) w' →
      wpList Edfg.prog ops Q rest (a.put o.dst (.tuple #[.bool true, .string x, .iface t (.pointer (some ⟨c, 0, none⟩))])) w') :
    wpList Edfg.prog ops Q (o :: rest) a w := by
  refine wpList_plain hg fun K' hK' => ?_
  unfold Oper.wp
  rcases h.next law9 o.type with ⟨h0, hl, hrun⟩ | ⟨key, v, kl, y, w', cnt', hkey, hlk, hv, hat, hrun, hrg, hlt, hgr, hsz, hen⟩
  · simp [execOp, hop, hit, hrun, Result.andThen]
    exact hK' _ _ (hDone h0 hl)
  · obtain ⟨x, rfl, rfl, hx⟩ := keyOf_string_inv hkey
    obtain ⟨t, c, ht, rfl, rfl⟩ := objElem_inv hv
    simp [execOp, hop, hit, hrun, Result.andThen]
    exact hK' _ _ (hMore x t c w' cnt' ht hx hlk hat hrg hlt hgr hsz hen)

/-- .. WHERE ALL ARE OF ONE TYPE. -/
theorem next_obj1 (hg : o.guard = none) (it : Operand) (hop : o.op = Op.next it false) (T : Nat) (b r n : Nat) (D : DataW Unit) (left : Lit → Bool) (cnt : Nat)
    (hit : a.eval it = .pointer (some ⟨r, 0, none⟩)) (h : w.ranges Edfg.prog 9 (objElem [T]) b r n D left cnt)
    (hDone : cnt = 0 → (∀ kl, left kl = false) → wpList Edfg.prog ops Q rest (a.put o.dst (.tuple #[.bool false])) w)
    (hMore : ∀ (x : ByteArray) (c : Nat) (w' : World) (cnt' : Nat), x.size ≤ maxLen → left (keyL x) = true → (∀ zd, D.atKey (keyL x) zd = objD T c) → w'.ranges Edfg.prog 9 (objElem [T]) b r n D (fun z => left z && !z.sameKey (keyL x)) cnt' → cnt' < cnt →
      w.grownBy w' (some r) → w'.heap.size = w.heap.size → (Instr.entry (.pointer (some ⟨r, 0, none⟩))).run Edfg.prog w' = .ok (.tuple #[.string x, .iface T (.pointer (some ⟨c, 0, none⟩))]) w' →
      wpList Edfg.prog ops Q rest (a.put o.dst (.tuple #[.bool true, .string x, .iface T (.pointer (some ⟨c, 0, none⟩))])) w') :
    wpList Edfg.prog ops Q (o :: rest) a w :=
  next_obj w hg it hop [T] b r n D left cnt hit h hDone (fun x t c w' cnt' ht => by
    obtain rfl : t = T := by simpa using ht
    exact hMore x c w' cnt')

/-- 'm[k]' OF A MAP OF OBJECTS, THE KEY THERE. -/
theorem lookup_obj (hg : o.guard = none) (m x : Operand) (hop : o.op = Op.lookup 30 m x false) (TS : List Nat) (b n : Nat) (D : DataW Unit)
    (hm : a.eval m = .map (some b)) (hown : w.ownsMap Edfg.prog 9 (objElem TS) b n D) (s : ByteArray) (hx : a.eval x = .string s) (hs : s.size ≤ maxLen) (t c : Nat) (hat : ∀ zd, D.atKey (keyL s) zd = objD t c)
    (hK : wpList Edfg.prog ops Q rest (a.put o.dst (.iface t (.pointer (some ⟨c, 0, none⟩)))) w) :
    wpList Edfg.prog ops Q (o :: rest) a w := by
  refine wpList_plain hg fun K' hK' => ?_
  obtain ⟨es, clock, hb, F, _, rfl⟩ := hown
  have hz : (zeroValue 37).run Edfg.prog w = .ok .nilIface w := by kernel_rfl
  have hrun : (Instr.lookup 30 (.map (some b)) (.string s) false).run Edfg.prog w = .ok (.iface t (.pointer (some ⟨c, 0, none⟩))) w := by
    rcases Maps.fit_look false law9 Edfg.underlying30 hz hb F (key_ok hs) with ⟨_, _, hat'⟩ | ⟨e0, y, _, _, hrun, hRv, hat', _⟩
    · have := hat .nil
      rw [hat' .nil] at this
      cases this
    · obtain ⟨t', c', _, e, rfl⟩ := objElem_inv hRv
      obtain ⟨rfl, rfl⟩ := objD_inj ((hat' .nil).symm.trans (hat .nil))
      rw [e] at hrun
      exact hrun
  unfold Oper.wp
  simp [execOp, hop, hm, hx, hrun, Result.andThen]
  exact hK' _ _ hK

end

end Go.Proofs.Yoedfw
