/-
  zzBytes_FnMapIsFalsyExactlyWhenEmpty, zzBytes_FnMapCopyIsDeep, EACH BY A CONTRACT (they only read).
-/
import Derived.Test.YoedfwSmall
namespace Go.Proofs.Yoedfw
open Go.RowKit Go.Maps

/-! ### zzBytes_FnMapIsFalsyExactlyWhenEmpty -/
set_option maxHeartbeats 800000 in
theorem bytes24 (a a' : Option Addr) (n cap n' cap' : Nat) (nm : Bool) (ss : List ByteArray) (w : World) (hn : n ≤ maxLen) (hz : ss.length = n) (hc : SlAt Value.string w a ss) :
    Calls Edfg.prog 24 #[.slice a n cap, .slice a' n' cap', .bool nm] w fun e w' => RetB e ∧ w' = w := by
  unfold maxLen at hn
  by_cases h0 : n = 0
  · clear hc hz hn
    subst h0
    go_enter Edfg.func24, Edfg.ntmps24
    go_wp2
    refine wp_loop_rounds 1 ?_
    rw [rounds_succ]
    go_wp2
    all_goals
      go_ret
      exact ⟨⟨_, rfl⟩, rfl⟩
  · obtain ⟨b, off, ea, hd⟩ := hc (by omega)
    subst ea
    clear hc
    have HZ : Hid (ss.length = n) := hz
    clear hz h0
    by_cases hbig : 1048576 < n
    · go_enter Edfg.func24, Edfg.ntmps24
      go_wp2
      go_ret
      exact ⟨⟨_, rfl⟩, rfl⟩
    · go_enter Edfg.func24, Edfg.ntmps24
      go_wp2
      go_loop [7, 8] (fun t i => ∃ (k : Nat) (z : Int), k ≤ n ∧ i = .int .i64 k ∧ t = .int .i64 z) (fun _ i => n - (intOf i).toNat)
      case atStart => exact ⟨0, _, Nat.zero_le _, rfl, rfl⟩
      case round =>
        obtain ⟨k, z, hk, rfl, rfl⟩ := hrel
        by_cases hlt : k < n
        · obtain ⟨s, hcell⟩ : ∃ s : ByteArray, w.cell? ⟨b, off + k, none⟩ = some (.string s) := ⟨_, hd k (by rw [HZ.out]; exact hlt)⟩
          clear hd
          go_wp2
          · go_ret
            exact ⟨⟨_, rfl⟩, rfl⟩
          · go_ret
            exact ⟨⟨_, rfl⟩, rfl⟩
          · go_round
            case rel => exact ⟨k + 1, _, by omega, by go_num, rfl⟩
            case measure => simp [intOf]; omega
        · go_wp2
          all_goals
            go_ret
            exact ⟨⟨_, rfl⟩, rfl⟩


/-! ### zzBytes_FnMapCopyIsDeep -/
set_option maxHeartbeats 800000 in
theorem bytes23 (a a' : Option Addr) (n cap n' cap' : Nat) (x : ByteArray) (ss : List ByteArray) (w : World) (hn : n ≤ maxLen) (hz : ss.length = n) (hc : SlAt Value.string w a ss) :
    Calls Edfg.prog 23 #[.slice a n cap, .slice a' n' cap', .string x] w fun e w' => RetB e ∧ w' = w := by
  unfold maxLen at hn
  by_cases h0 : n = 0
  · clear hc hz hn
    subst h0
    go_enter Edfg.func23, Edfg.ntmps23
    go_wp2
    refine wp_loop_rounds 1 ?_
    rw [rounds_succ]
    go_wp2
    all_goals
      go_ret
      exact ⟨⟨_, rfl⟩, rfl⟩
  · obtain ⟨b, off, ea, hd⟩ := hc (by omega)
    subst ea
    clear hc
    have HZ : Hid (ss.length = n) := hz
    clear hz h0
    by_cases hbig : 1048576 < n
    · go_enter Edfg.func23, Edfg.ntmps23
      go_wp2
      go_ret
      exact ⟨⟨_, rfl⟩, rfl⟩
    · go_enter Edfg.func23, Edfg.ntmps23
      go_wp2
      go_loop [7, 8] (fun t i => ∃ (k : Nat) (z : Int), k ≤ n ∧ i = .int .i64 k ∧ t = .int .i64 z) (fun _ i => n - (intOf i).toNat)
      case atStart => exact ⟨0, _, Nat.zero_le _, rfl, rfl⟩
      case round =>
        obtain ⟨k, z, hk, rfl, rfl⟩ := hrel
        by_cases hlt : k < n
        · obtain ⟨s, hcell⟩ : ∃ s : ByteArray, w.cell? ⟨b, off + k, none⟩ = some (.string s) := ⟨_, hd k (by rw [HZ.out]; exact hlt)⟩
          clear hd
          go_wp2
          · go_ret
            exact ⟨⟨_, rfl⟩, rfl⟩
          · go_ret
            exact ⟨⟨_, rfl⟩, rfl⟩
          · go_round
            case rel => exact ⟨k + 1, _, by omega, by go_num, rfl⟩
            case measure => simp [intOf]; omega
        · go_wp2
          all_goals
            go_ret
            exact ⟨⟨_, rfl⟩, rfl⟩


end Go.Proofs.Yoedfw
