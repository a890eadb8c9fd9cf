/- What impl.Sizes tells at each of the eight kinds: the digest's size and the block's. For every world. -/
import Derived.Test.YtpobghhmpeioiaaSzB
namespace Go.Proofs.Ytpobghhmpeioiaa
open Go.RowKit

theorem blockMd5 (v : Value) (w : World) : Calls Try.prog 37 #[v] w fun e w' => e = .returned (.int .i64 64) ∧ w = w' := by
  go_enter Try.func37, Try.ntmps37
  go_wp2
  go_ret
  exact ⟨rfl, rfl⟩
theorem sizeMd5 (v : Value) (w : World) : Calls Try.prog 39 #[v] w fun e w' => e = .returned (.int .i64 16) ∧ w = w' := by
  go_enter Try.func39, Try.ntmps39
  go_wp2
  go_ret
  exact ⟨rfl, rfl⟩
theorem blockSha1 (v : Value) (w : World) : Calls Try.prog 44 #[v] w fun e w' => e = .returned (.int .i64 64) ∧ w = w' := by
  go_enter Try.func44, Try.ntmps44
  go_wp2
  go_ret
  exact ⟨rfl, rfl⟩
theorem sizeSha1 (v : Value) (w : World) : Calls Try.prog 46 #[v] w fun e w' => e = .returned (.int .i64 20) ∧ w = w' := by
  go_enter Try.func46, Try.ntmps46
  go_wp2
  go_ret
  exact ⟨rfl, rfl⟩
theorem blockSha256 (v : Value) (w : World) : Calls Try.prog 51 #[v] w fun e w' => e = .returned (.int .i64 64) ∧ w = w' := by
  go_enter Try.func51, Try.ntmps51
  go_wp2
  go_ret
  exact ⟨rfl, rfl⟩
theorem sizeSha256 (b : Nat) (w : World) (h : w.cell? ⟨b, 74, none⟩ = some (.bool false)) : Calls Try.prog 53 #[.pointer (some ⟨b, 0, none⟩)] w fun e w' => e = .returned (.int .i64 32) ∧ w = w' := by
  go_enter Try.func53, Try.ntmps53
  go_wp2
  go_ret
  exact ⟨rfl, rfl⟩
theorem sizeSha224 (b : Nat) (w : World) (h : w.cell? ⟨b, 74, none⟩ = some (.bool true)) : Calls Try.prog 53 #[.pointer (some ⟨b, 0, none⟩)] w fun e w' => e = .returned (.int .i64 28) ∧ w = w' := by
  go_enter Try.func53, Try.ntmps53
  go_wp2
  go_ret
  exact ⟨rfl, rfl⟩
theorem blockSha512 (v : Value) (w : World) : Calls Try.prog 58 #[v] w fun e w' => e = .returned (.int .i64 128) ∧ w = w' := by
  go_enter Try.func58, Try.ntmps58
  go_wp2
  go_ret
  exact ⟨rfl, rfl⟩
theorem sizeSha512 (n : Int) (b : Nat) (w : World) (h : w.cell? ⟨b, 138, none⟩ = some (.int .i64 n)) : Calls Try.prog 60 #[.pointer (some ⟨b, 0, none⟩)] w fun e w' => e = .returned (.int .i64 n) ∧ w = w' := by
  go_enter Try.func60, Try.ntmps60
  go_wp2
  go_ret
  exact ⟨rfl, rfl⟩
set_option maxHeartbeats 400000 in
theorem of0 (w : World) : Calls Try.prog 7 #[.int .i64 0] w fun e w' => e = .returned (.iface 31 (.pointer (some ⟨w.heap.size, 0, none⟩))) ∧ Grown w w' := by
  have hn := new8 w
  go_enter Try.func7, Try.ntmps7
  go_wp2_with (go_at_call 8; refine hn.mono ?_; rintro e w' ⟨rfl, hg⟩)
  go_ret
  exact ⟨rfl, hg⟩
set_option maxHeartbeats 400000 in
theorem sizes0 (w : World) : Calls Try.prog 4 #[.int .i64 0] w fun e w' => e = .returned (.tuple #[.int .i64 16, .int .i64 64]) ∧ Grown w w' := by
  have hn := of0 w
  go_enter Try.func4, Try.ntmps4
  go_wp2_with (first
    | (go_at_call 7; refine hn.mono ?_; rintro e w' ⟨rfl, hg⟩; clear hn)
    | (go_at_call 39; refine (sizeMd5 _ _).mono ?_; rintro e w' ⟨rfl, rfl⟩)
    | (go_at_call 37; refine (blockMd5 _ _).mono ?_; rintro e w' ⟨rfl, rfl⟩))
  go_ret2
  exact ⟨rfl, hg⟩
set_option maxHeartbeats 400000 in
theorem of1 (w : World) : Calls Try.prog 7 #[.int .i64 1] w fun e w' => e = .returned (.iface 33 (.pointer (some ⟨w.heap.size, 0, none⟩))) ∧ Grown w w' := by
  have hn := new9 w
  go_enter Try.func7, Try.ntmps7
  go_wp2_with (go_at_call 9; refine hn.mono ?_; rintro e w' ⟨rfl, hg⟩)
  go_ret
  exact ⟨rfl, hg⟩
set_option maxHeartbeats 400000 in
theorem sizes1 (w : World) : Calls Try.prog 4 #[.int .i64 1] w fun e w' => e = .returned (.tuple #[.int .i64 20, .int .i64 64]) ∧ Grown w w' := by
  have hn := of1 w
  go_enter Try.func4, Try.ntmps4
  go_wp2_with (first
    | (go_at_call 7; refine hn.mono ?_; rintro e w' ⟨rfl, hg⟩; clear hn)
    | (go_at_call 46; refine (sizeSha1 _ _).mono ?_; rintro e w' ⟨rfl, rfl⟩)
    | (go_at_call 44; refine (blockSha1 _ _).mono ?_; rintro e w' ⟨rfl, rfl⟩))
  go_ret2
  exact ⟨rfl, hg⟩
set_option maxHeartbeats 400000 in
theorem of2 (w : World) : Calls Try.prog 7 #[.int .i64 2] w fun e w' => e = .returned (.iface 35 (.pointer (some ⟨w.heap.size, 0, none⟩))) ∧ Grown w w' ∧ w'.cell? ⟨w.heap.size, 74, none⟩ = some (.bool true) := by
  have hn := new10 w
  go_enter Try.func7, Try.ntmps7
  go_wp2_with (go_at_call 10; refine hn.mono ?_; rintro e w' ⟨rfl, hg, hc⟩)
  go_ret
  exact ⟨rfl, hg, hc⟩
set_option maxHeartbeats 400000 in
theorem sizes2 (w : World) : Calls Try.prog 4 #[.int .i64 2] w fun e w' => e = .returned (.tuple #[.int .i64 28, .int .i64 64]) ∧ Grown w w' := by
  have hn := of2 w
  go_enter Try.func4, Try.ntmps4
  go_wp2_with (first
    | (go_at_call 7; refine hn.mono ?_; rintro e w' ⟨rfl, hg, hc⟩; clear hn)
    | (go_at_call 53; refine (sizeSha224 _ _ hc).mono ?_; rintro e w' ⟨rfl, rfl⟩)
    | (go_at_call 51; refine (blockSha256 _ _).mono ?_; rintro e w' ⟨rfl, rfl⟩))
  go_ret2
  exact ⟨rfl, hg⟩
set_option maxHeartbeats 400000 in
theorem of3 (w : World) : Calls Try.prog 7 #[.int .i64 3] w fun e w' => e = .returned (.iface 35 (.pointer (some ⟨w.heap.size, 0, none⟩))) ∧ Grown w w' ∧ w'.cell? ⟨w.heap.size, 74, none⟩ = some (.bool false) := by
  have hn := new11 w
  go_enter Try.func7, Try.ntmps7
  go_wp2_with (go_at_call 11; refine hn.mono ?_; rintro e w' ⟨rfl, hg, hc⟩)
  go_ret
  exact ⟨rfl, hg, hc⟩
set_option maxHeartbeats 400000 in
theorem sizes3 (w : World) : Calls Try.prog 4 #[.int .i64 3] w fun e w' => e = .returned (.tuple #[.int .i64 32, .int .i64 64]) ∧ Grown w w' := by
  have hn := of3 w
  go_enter Try.func4, Try.ntmps4
  go_wp2_with (first
    | (go_at_call 7; refine hn.mono ?_; rintro e w' ⟨rfl, hg, hc⟩; clear hn)
    | (go_at_call 53; refine (sizeSha256 _ _ hc).mono ?_; rintro e w' ⟨rfl, rfl⟩)
    | (go_at_call 51; refine (blockSha256 _ _).mono ?_; rintro e w' ⟨rfl, rfl⟩))
  go_ret2
  exact ⟨rfl, hg⟩
set_option maxHeartbeats 400000 in
theorem of4 (w : World) : Calls Try.prog 7 #[.int .i64 4] w fun e w' => e = .returned (.iface 37 (.pointer (some ⟨w.heap.size, 0, none⟩))) ∧ Grown w w' ∧ w'.cell? ⟨w.heap.size, 138, none⟩ = some (.int .i64 48) := by
  have hn := new12 w
  go_enter Try.func7, Try.ntmps7
  go_wp2_with (go_at_call 12; refine hn.mono ?_; rintro e w' ⟨rfl, hg, hc⟩)
  go_ret
  exact ⟨rfl, hg, hc⟩
set_option maxHeartbeats 400000 in
theorem sizes4 (w : World) : Calls Try.prog 4 #[.int .i64 4] w fun e w' => e = .returned (.tuple #[.int .i64 48, .int .i64 128]) ∧ Grown w w' := by
  have hn := of4 w
  go_enter Try.func4, Try.ntmps4
  go_wp2_with (first
    | (go_at_call 7; refine hn.mono ?_; rintro e w' ⟨rfl, hg, hc⟩; clear hn)
    | (go_at_call 60; refine (sizeSha512 _ _ _ hc).mono ?_; rintro e w' ⟨rfl, rfl⟩)
    | (go_at_call 58; refine (blockSha512 _ _).mono ?_; rintro e w' ⟨rfl, rfl⟩))
  go_ret2
  exact ⟨rfl, hg⟩
set_option maxHeartbeats 400000 in
theorem of5 (w : World) : Calls Try.prog 7 #[.int .i64 5] w fun e w' => e = .returned (.iface 37 (.pointer (some ⟨w.heap.size, 0, none⟩))) ∧ Grown w w' ∧ w'.cell? ⟨w.heap.size, 138, none⟩ = some (.int .i64 64) := by
  have hn := new13 w
  go_enter Try.func7, Try.ntmps7
  go_wp2_with (go_at_call 13; refine hn.mono ?_; rintro e w' ⟨rfl, hg, hc⟩)
  go_ret
  exact ⟨rfl, hg, hc⟩
set_option maxHeartbeats 400000 in
theorem sizes5 (w : World) : Calls Try.prog 4 #[.int .i64 5] w fun e w' => e = .returned (.tuple #[.int .i64 64, .int .i64 128]) ∧ Grown w w' := by
  have hn := of5 w
  go_enter Try.func4, Try.ntmps4
  go_wp2_with (first
    | (go_at_call 7; refine hn.mono ?_; rintro e w' ⟨rfl, hg, hc⟩; clear hn)
    | (go_at_call 60; refine (sizeSha512 _ _ _ hc).mono ?_; rintro e w' ⟨rfl, rfl⟩)
    | (go_at_call 58; refine (blockSha512 _ _).mono ?_; rintro e w' ⟨rfl, rfl⟩))
  go_ret2
  exact ⟨rfl, hg⟩
set_option maxHeartbeats 400000 in
theorem of6 (w : World) : Calls Try.prog 7 #[.int .i64 6] w fun e w' => e = .returned (.iface 37 (.pointer (some ⟨w.heap.size, 0, none⟩))) ∧ Grown w w' ∧ w'.cell? ⟨w.heap.size, 138, none⟩ = some (.int .i64 28) := by
  have hn := new14 w
  go_enter Try.func7, Try.ntmps7
  go_wp2_with (go_at_call 14; refine hn.mono ?_; rintro e w' ⟨rfl, hg, hc⟩)
  go_ret
  exact ⟨rfl, hg, hc⟩
set_option maxHeartbeats 400000 in
theorem sizes6 (w : World) : Calls Try.prog 4 #[.int .i64 6] w fun e w' => e = .returned (.tuple #[.int .i64 28, .int .i64 128]) ∧ Grown w w' := by
  have hn := of6 w
  go_enter Try.func4, Try.ntmps4
  go_wp2_with (first
    | (go_at_call 7; refine hn.mono ?_; rintro e w' ⟨rfl, hg, hc⟩; clear hn)
    | (go_at_call 60; refine (sizeSha512 _ _ _ hc).mono ?_; rintro e w' ⟨rfl, rfl⟩)
    | (go_at_call 58; refine (blockSha512 _ _).mono ?_; rintro e w' ⟨rfl, rfl⟩))
  go_ret2
  exact ⟨rfl, hg⟩
set_option maxHeartbeats 400000 in
theorem of7 (w : World) : Calls Try.prog 7 #[.int .i64 7] w fun e w' => e = .returned (.iface 37 (.pointer (some ⟨w.heap.size, 0, none⟩))) ∧ Grown w w' ∧ w'.cell? ⟨w.heap.size, 138, none⟩ = some (.int .i64 32) := by
  have hn := new15 w
  go_enter Try.func7, Try.ntmps7
  go_wp2_with (go_at_call 15; refine hn.mono ?_; rintro e w' ⟨rfl, hg, hc⟩)
  go_ret
  exact ⟨rfl, hg, hc⟩
set_option maxHeartbeats 400000 in
theorem sizes7 (w : World) : Calls Try.prog 4 #[.int .i64 7] w fun e w' => e = .returned (.tuple #[.int .i64 32, .int .i64 128]) ∧ Grown w w' := by
  have hn := of7 w
  go_enter Try.func4, Try.ntmps4
  go_wp2_with (first
    | (go_at_call 7; refine hn.mono ?_; rintro e w' ⟨rfl, hg, hc⟩; clear hn)
    | (go_at_call 60; refine (sizeSha512 _ _ _ hc).mono ?_; rintro e w' ⟨rfl, rfl⟩)
    | (go_at_call 58; refine (blockSha512 _ _).mono ?_; rintro e w' ⟨rfl, rfl⟩))
  go_ret2
  exact ⟨rfl, hg⟩
end Go.Proofs.Ytpobghhmpeioiaa
