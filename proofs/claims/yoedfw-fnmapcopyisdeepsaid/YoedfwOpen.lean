/-
  WHAT A LAW IS TOLD OF ITS SLICES: FROM THE READING TO 'SlAt'.
-/
import Derived.Test.YoedfwBase
import Derived.ProofKit
import Derived.SliceStrings
import Derived.ShutString
import Derived.ChangeOld
import Derived.Below
import Derived.Deep.Grids
namespace Go.Proofs.Yoedfw
open Go.ChangeShapes Go.WideShapes Go.ChangeAt Go.RowKit
open Go.ChangeMaps (open_string shut_string)

theorem own : ownKnob Edfg.prog.godebug = none := by kernel_rfl
theorem laidOut : laidOutB Edfg.prog = true := by kernel_rfl
theorem cells9 : Edfg.prog.cellsOf 9 = 1 := by kernel_rfl
theorem cells2 : Edfg.prog.cellsOf 2 = 1 := by kernel_rfl
theorem cells4 : Edfg.prog.cellsOf 4 = 1 := by kernel_rfl

theorem slAt_of {α : Type} {mk : α → Value} {W : World} {x : Addr} {xs : List α} (h : ∀ j (h : j < xs.length), W.cell? (x.add j) = some (mk xs[j])) : SlAt mk W (some x) xs := fun h0 => by
  obtain ⟨b, off, spot⟩ := x
  have hspot : spot = none := by simpa [Addr.add] using World.cell?_spot (h 0 h0)
  subst hspot
  exact ⟨b, off, rfl, fun j hj => by rw [← add_plain]; exact h j hj⟩

section
variable {H : Type} {enc : TypeId × Value → H} {W : World} {a : Option Addr} {len cap fuel : Nat} {x : DataW H × List MemPlace}

theorem view_strings (h : DataW.trod enc Edfg.prog W 0 (fun _ => true) true fuel 22 (Value.slice a len cap).cells.toList = some x) :
    ∃ ss : List ByteArray, ss.length = len ∧ len ≤ maxLen ∧ (a = none → len = 0) ∧ SlAt Value.string W a ss ∧ ∀ s ∈ ss, s.size ≤ maxLen := by
  rcases open_strings Edfg.underlying22 Edfg.underlying9 cells9 h with ⟨hcs, _⟩ | ⟨x, l, c, ss, hcs, _, hl, hm, hz, _, hcell, hws⟩
  · simp [Value.cells] at hcs
    obtain ⟨rfl, rfl, rfl⟩ := hcs
    exact ⟨[], rfl, Nat.zero_le _, fun _ => rfl, fun h => absurd h (by simp), by simp⟩
  · simp [Value.cells] at hcs
    obtain ⟨rfl, rfl, rfl⟩ := hcs
    simp only [if_true] at hz
    refine ⟨ss.take len, by simp; omega, by omega, (fun e => by cases e), slAt_of (fun j hj => ?_), fun s hs => hws s (List.mem_of_mem_take hs)⟩
    have hj' : j < ss.length := by simp at hj; omega
    rw [hcell j hj']
    simp [hj']

theorem view_ints (h : DataW.trod enc Edfg.prog W 0 (fun _ => true) true fuel 23 (Value.slice a len cap).cells.toList = some x) :
    ∃ zs : List Int, zs.length = len ∧ len ≤ maxLen ∧ (a = none → len = 0) ∧ SlAt (Value.int .i64) W a zs ∧ ∀ z ∈ zs, (Lit.int .i64 z).wf = true := by
  rcases open_ints Edfg.underlying23 Edfg.underlying2 cells2 h with ⟨hcs, _⟩ | ⟨x, l, c, ss, hcs, _, hl, hm, hz, _, hcell, hws⟩
  · simp [Value.cells] at hcs
    obtain ⟨rfl, rfl, rfl⟩ := hcs
    exact ⟨[], rfl, Nat.zero_le _, fun _ => rfl, fun h => absurd h (by simp), by simp⟩
  · simp [Value.cells] at hcs
    obtain ⟨rfl, rfl, rfl⟩ := hcs
    simp only [if_true] at hz
    refine ⟨ss.take len, by simp; omega, by omega, (fun e => by cases e), slAt_of (fun j hj => ?_), fun s hs => hws s (List.mem_of_mem_take hs)⟩
    have hj' : j < ss.length := by simp at hj; omega
    rw [hcell j hj']
    simp [hj']

theorem view_bools (h : DataW.trod enc Edfg.prog W 0 (fun _ => true) true fuel 54 (Value.slice a len cap).cells.toList = some x) :
    ∃ bs : List Bool, bs.length = len ∧ len ≤ maxLen ∧ (a = none → len = 0) ∧ SlAt Value.bool W a bs := by
  rcases Deep.open_bools Edfg.underlying54 Edfg.underlying4 cells4 h with ⟨hcs, _⟩ | ⟨x, l, c, B, hcs, _, hl, hm, _, hcell⟩
  · simp [Value.cells] at hcs
    obtain ⟨rfl, rfl, rfl⟩ := hcs
    exact ⟨[], rfl, Nat.zero_le _, fun _ => rfl, fun h => absurd h (by simp)⟩
  · simp [Value.cells] at hcs
    obtain ⟨rfl, rfl, rfl⟩ := hcs
    refine ⟨(List.range len).map B, by simp, by omega, (fun e => by cases e), slAt_of (fun j hj => ?_)⟩
    have hj' : j < len := by simpa using hj
    rw [hcell j (by omega)]
    simp

end

end Go.Proofs.Yoedfw
