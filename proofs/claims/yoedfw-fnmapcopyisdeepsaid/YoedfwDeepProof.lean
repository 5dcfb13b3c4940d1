/-
  'Rows.FnMapCopyIsDeepSaid', PROVED.
-/
import Derived.Test.YoedfwDeep
import Derived.Test.YoedfwOpen
namespace Go.Proofs.Yoedfw
open Go.ChangeShapes Go.WideShapes Go.ChangeAt Go.RowKit
open Go.ChangeMaps (open_string shut_string)

theorem deep_all (a a' : Option Addr) (n cap n' cap' : Nat) (x : ByteArray) (ss : List ByteArray) (zs : List Int) (w : World) (hn : n ≤ maxLen) (hn' : n' ≤ maxLen) (hx : x.size ≤ maxLen) (hz : ss.length = n) (hz' : zs.length = n') (hnil : a = none → n = 0) (hnil' : a' = none → n' = 0)
    (hc : SlAt Value.string w a ss) (hc' : SlAt (Value.int .i64) w a' zs) (hss : ∀ s ∈ ss, s.size ≤ maxLen) :
    Calls Edfg.prog 6 #[.slice a n cap, .slice a' n' cap', .string x] w fun e w' => e = .returned (.bool true) ∧ Below w.heap.size w w' := by
  by_cases hg : 65536 < n ∨ 65536 < n' ∨ 65536 < x.size
  · exact deep_large a a' n cap n' cap' x ss w hn hn' hx hz hc hg
  · exact deep_walk a a' n cap n' cap' x ss zs w (by omega) (by omega) (by omega) hz hz' hnil hnil' hc hc' hss

set_option maxRecDepth 100000 in
theorem deep_lifted (os : Os) (started : os.Started) (H : Type) (enc : TypeId × Value → H) :
    ReturnsInHanded {} Edfg.checked os 6 .any (Rows.fnMapCopyIsDeepSpec.pre6 enc Edfg.prog Edfg.f6 Rows.fnMapCopyIsDeepRow.domain false) (Rows.fnMapCopyIsDeepSpec.post enc Edfg.prog Edfg.f6 false true false false) := by
  refine returnsInHanded_of_change (C := Edfg.checked) own started (by kernel_rfl) Edfg.func6
    (ChangeSpec.witness6 (enc := enc) (C := Edfg.checked) false ⟨#[], #[.slice none 0 0, .slice none 0 0, .string ByteArray.empty], []⟩ 8 (by kernel_rfl) (by kernel_rfl) (by kernel_rfl) (by kernel_rfl)) ?_
  intro W base args ds gs before hval0 hW _ _
  have hval : ∀ (j : Nat) t v, Edfg.f6.params[j]? = some t → args[j]? = some v → Value.okWide Edfg.prog W .any base t v := hval0
  have hW' := hW
  obtain ⟨p, q, hA0, hV, rfl, _, _⟩ := hW
  have hA : DataW.TrodAll enc Edfg.prog W 0 (fun _ => true) true Edfg.f6.params.toList args.toList ds p := hA0
  rw [Edfg.params6] at hA hval
  obtain ⟨v0, v1, v2, d0, d1, d2, p0, p1, p2, rfl, rfl, rfl, h0, h1, h2⟩ := trodAll_three hA
  obtain ⟨rfl, rfl⟩ := trodVars_none hV
  obtain ⟨a0, len0, cap0, rfl⟩ := okWide_slice Edfg.underlying22 (hval 0 22 v0 rfl rfl)
  obtain ⟨a1, len1, cap1, rfl⟩ := okWide_slice Edfg.underlying23 (hval 1 23 v1 rfl rfl)
  obtain ⟨x, rfl, rfl, rfl, hx⟩ := open_string Edfg.underlying9 (hval 2 9 v2 rfl rfl) h2
  have k0 := h0
  have k1 := h1
  have lt0 : ∀ x ∈ p0, x.block < W.heap.size := by obtain ⟨m, hm⟩ := k0; exact DataW.trod_lt m _ _ _ hm
  have lt1 : ∀ x ∈ p1, x.block < W.heap.size := by obtain ⟨m, hm⟩ := k1; exact DataW.trod_lt m _ _ _ hm
  obtain ⟨f0, hf0⟩ := h0
  obtain ⟨f1, hf1⟩ := h1
  obtain ⟨ss, e0, m0, n0, s0, g0⟩ := view_strings hf0
  obtain ⟨zs, e1, m1, n1, s1, _⟩ := view_ints hf1
  clear hA0 hval0
  refine (deep_all a0 a1 len0 cap0 len1 cap1 x ss zs W m0 m1 hx e0 e1 n0 n1 s0 s1 g0).mono fun e W' ⟨he, bel⟩ => ?_
  subst he
  exact ⟨_, rfl, _, _, _, [], _, [], hW', trodAll_mk1 (shut_bool Edfg.underlying4 _),
    trodAll_mk3 (Below.trod laidOut (by kernel_rfl) (of_decide_eq_true (by kernel_rfl)) k0 bel lt0) (Below.trod laidOut (by kernel_rfl) (of_decide_eq_true (by kernel_rfl)) k1 bel lt1) (shut_string Edfg.underlying9 hx), rfl, bel.frame _, fun h => by cases h⟩

/-- THE STATEMENT. -/
theorem deep_holds : Rows.FnMapCopyIsDeepSaid :=
  OpenClaim.holds_of_wide 6 Edfg.f6 rfl rfl rfl rfl rfl rfl rfl ⟨rfl, rfl, rfl, rfl, rfl⟩ rfl rfl rfl rfl rfl (by kernel_rfl) Edfg.func6 (by kernel_rfl)
    (of_decide_eq_true (by kernel_rfl)) (by unfold Func.isWrapper; first | (rw [if_pos (by decide +kernel)]; kernel_rfl) | (rw [if_neg (by decide +kernel)]; exact ⟨rfl, rfl⟩))
    (fun os started H enc _ => deep_lifted os started H enc)

end Go.Proofs.Yoedfw
