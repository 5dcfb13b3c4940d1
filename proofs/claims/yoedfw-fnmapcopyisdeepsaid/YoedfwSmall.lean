/-
  THE SMALL CALLEES OF THE LAWS, EACH BY A CONTRACT: zzMin, zzSize, zzBytes_.. (they only read); zzCloneStrings, zzCloneInt64s, zzCloneBools (they make a row of their own).
-/
import Derived.Test.YoedfwBase
namespace Go.Proofs.Yoedfw
open Go.RowKit Go.Maps

/-- THE CALL RETURNS A BOOL, whichever. -/
def RetB (e : Ending) : Prop := ∃ z : Bool, e = .returned (.bool z)

/-! ### zzMin -/
set_option maxHeartbeats 400000 in
theorem min_any (a b : Nat) (w : World) :
    Calls Edfg.prog 13 #[.int .i64 a, .int .i64 b] w fun e w' => e = .returned (.int .i64 (min a b : Nat)) ∧ w' = w := by
  by_cases h : a < b
  · rw [Nat.min_eq_left (by omega)]
    go_enter Edfg.func13, Edfg.ntmps13
    go_wp2
    go_ret
    exact ⟨rfl, rfl⟩
  · rw [Nat.min_eq_right (by omega)]
    go_enter Edfg.func13, Edfg.ntmps13
    go_wp2
    go_ret
    exact ⟨rfl, rfl⟩

/-! ### zzSize -/
set_option maxHeartbeats 400000 in
theorem size_any (a : Option Addr) (n cap : Nat) (ss : List ByteArray) (x y : Int) (w : World) (hn : n ≤ maxLen) (hz : ss.length = n) (hc : SlAt Value.string w a ss) :
    Calls Edfg.prog 10 #[.slice a n cap, .int .i64 x, .int .i64 y] w fun e w' => (∃ z, e = .returned (.int .i64 z)) ∧ w' = w := by
  unfold maxLen at hn
  by_cases h0 : n = 0
  · clear hc hz hn
    subst h0
    go_enter Edfg.func10, Edfg.ntmps10
    go_wp2
    · go_ret
      exact ⟨⟨_, rfl⟩, rfl⟩
    · refine wp_loop_rounds 1 ?_
      rw [rounds_succ]
      go_wp2
      go_ret
      exact ⟨⟨_, rfl⟩, rfl⟩
  · obtain ⟨b, off, ea, hd⟩ := hc (by omega)
    subst ea
    clear hc
    have HZ : Hid (ss.length = n) := hz
    clear hz h0
    go_enter Edfg.func10, Edfg.ntmps10
    go_wp2
    · go_ret
      exact ⟨⟨_, rfl⟩, rfl⟩
    · go_loop [7, 8] (fun t i => ∃ (k : Nat) (z : Int), k ≤ n ∧ i = .int .i64 k ∧ t = .int .i64 z) (fun _ i => n - (intOf i).toNat)
      case atStart => exact ⟨0, _, Nat.zero_le _, rfl, rfl⟩
      case round =>
        obtain ⟨k, z, hk, rfl, rfl⟩ := hrel
        by_cases hlt : k < n
        · obtain ⟨s, hcell⟩ : ∃ s : ByteArray, w.cell? ⟨b, off + k, none⟩ = some (.string s) := ⟨_, hd k (by rw [HZ.out]; exact hlt)⟩
          clear hd
          go_wp2
          · go_ret
            exact ⟨⟨_, rfl⟩, rfl⟩
          · go_round
            case rel => exact ⟨k + 1, _, by omega, by go_num, rfl⟩
            case measure => simp [intOf]; omega
        · go_wp2
          go_ret
          exact ⟨⟨_, rfl⟩, rfl⟩

/-! ### zzBytes_FnMapIsFalsyTracksInsertsAndDeletes -/
set_option maxHeartbeats 800000 in
theorem bytes26 (a a' : Option Addr) (n cap n' cap' : Nat) (ss : List ByteArray) (w : World) (hn : n ≤ maxLen) (hz : ss.length = n) (hc : SlAt Value.string w a ss) :
    Calls Edfg.prog 26 #[.slice a n cap, .slice a' n' cap'] w fun e w' => RetB e ∧ w' = w := by
  unfold maxLen at hn
  by_cases h0 : n = 0
  · clear hc hz hn
    subst h0
    go_enter Edfg.func26, Edfg.ntmps26
    go_wp2
    refine wp_loop_rounds 1 ?_
    rw [rounds_succ]
    go_wp2
    all_goals
      go_ret
      exact ⟨⟨_, rfl⟩, rfl⟩
  · obtain ⟨b, off, ea, hd⟩ := hc (by omega)
    subst ea
    clear hc
    have HZ : Hid (ss.length = n) := hz
    clear hz h0
    by_cases hbig : 1048576 < n
    · go_enter Edfg.func26, Edfg.ntmps26
      go_wp2
      go_ret
      exact ⟨⟨_, rfl⟩, rfl⟩
    · go_enter Edfg.func26, Edfg.ntmps26
      go_wp2
      go_loop [5, 6] (fun t i => ∃ (k : Nat) (z : Int), k ≤ n ∧ i = .int .i64 k ∧ t = .int .i64 z) (fun _ i => n - (intOf i).toNat)
      case atStart => exact ⟨0, _, Nat.zero_le _, rfl, rfl⟩
      case round =>
        obtain ⟨k, z, hk, rfl, rfl⟩ := hrel
        by_cases hlt : k < n
        · obtain ⟨s, hcell⟩ : ∃ s : ByteArray, w.cell? ⟨b, off + k, none⟩ = some (.string s) := ⟨_, hd k (by rw [HZ.out]; exact hlt)⟩
          clear hd
          go_wp2
          · go_ret
            exact ⟨⟨_, rfl⟩, rfl⟩
          · go_ret
            exact ⟨⟨_, rfl⟩, rfl⟩
          · go_round
            case rel => exact ⟨k + 1, _, by omega, by go_num, rfl⟩
            case measure => simp [intOf]; omega
        · go_wp2
          all_goals
            go_ret
            exact ⟨⟨_, rfl⟩, rfl⟩

end Go.Proofs.Yoedfw
