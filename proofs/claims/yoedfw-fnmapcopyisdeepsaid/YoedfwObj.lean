/-
  (*Map).IsFalsy, (*Int).Copy, EACH BY A CONTRACT; what a call of a method through an interface comes to (closed facts over the program's tables).
-/
import Derived.Test.YoedfwClone
namespace Go.Proofs.Yoedfw
open Go.RowKit Go.Maps

/-! ### (*Map).IsFalsy -/
set_option maxHeartbeats 400000 in
theorem falsy_any {R : Value → Option (DataW Unit × List MemPlace)} (s b n : Nat) (D : DataW Unit) (w : World) (hs : w.cell? ⟨s, 0, none⟩ = some (.map (some b))) (hown : w.ownsMap Edfg.prog 9 R b n D) :
    Calls Edfg.prog 25 #[.pointer (some ⟨s, 0, none⟩)] w fun e w' => e = .returned (.bool ((size D : Int) == 0)) ∧ w' = w := by
  go_enter Edfg.func25, Edfg.ntmps25
  go_wp2_with (first
    | (at_len; refine wpList_len_own _ rfl _ 30 rfl 9 37 Edfg.underlying30 R b n D rfl hown ?_)
    | go_in)
  go_ret
  exact ⟨rfl, rfl⟩

set_option maxHeartbeats 400000 in
theorem falsy_nil (s : Nat) (w : World) (hs : w.cell? ⟨s, 0, none⟩ = some (.map none)) :
    Calls Edfg.prog 25 #[.pointer (some ⟨s, 0, none⟩)] w fun e w' => e = .returned (.bool true) ∧ w' = w := by
  have hln := fun ty => Maps.len_nil (P := Edfg.prog) (w := w) Edfg.underlying30 ty
  go_enter Edfg.func25, Edfg.ntmps25
  go_wp2
  go_ret
  exact ⟨rfl, rfl⟩

/-! ### (*Int).Copy -/
set_option maxHeartbeats 400000 in
theorem int_copy (c : Nat) (x : Int) (w : World) (hc : w.cell? ⟨c, 0, none⟩ = some (.int .i64 x)) :
    Calls Edfg.prog 48 #[.pointer (some ⟨c, 0, none⟩)] w fun e w' => e = .returned (.iface 43 (.pointer (some ⟨w.heap.size, 0, none⟩))) ∧ w' = w.alloc (.cells #[.int .i64 x] 45) := by
  go_enter Edfg.func48, Edfg.ntmps48
  go_wp2
  go_ret
  exact ⟨rfl, rfl⟩

/-! ### a method called through an interface: closed facts -/
theorem mCopy43 (a : Addr) (w : World) : (method 198 43 (.pointer (some a)) "Copy").run Edfg.prog w = .ok (48, .pointer (some a)) w := by kernel_rfl
theorem mCopy29 (a : Addr) (w : World) : (method 198 29 (.pointer (some a)) "Copy").run Edfg.prog w = .ok (15, .pointer (some a)) w := by kernel_rfl
theorem mEquals43 (a : Addr) (w : World) : (method 198 43 (.pointer (some a)) "Equals").run Edfg.prog w = .ok (49, .pointer (some a)) w := by kernel_rfl
theorem mEquals50 (a : Addr) (w : World) : (method 198 50 (.pointer (some a)) "Equals").run Edfg.prog w = .ok (66, .pointer (some a)) w := by kernel_rfl
theorem mEquals29 (a : Addr) (w : World) : (method 198 29 (.pointer (some a)) "Equals").run Edfg.prog w = .ok (16, .pointer (some a)) w := by kernel_rfl
theorem mFalsy29 (a : Addr) (w : World) : (method 198 29 (.pointer (some a)) "IsFalsy").run Edfg.prog w = .ok (25, .pointer (some a)) w := by kernel_rfl

end Go.Proofs.Yoedfw
