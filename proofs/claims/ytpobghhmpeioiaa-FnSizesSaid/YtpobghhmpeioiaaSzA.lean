/- What each of the four Reset methods does to its digest: it returns, and it has written nothing but cells of that digest's own block. For every world in which that block's cells can be read and written. -/
import Derived.Test.YtpobghhmpeioiaaRows
import Derived.WalkKit
import Derived.ProofKit
import Derived.Handy
namespace Go.Proofs.Ytpobghhmpeioiaa
open Go.RowKit

/-- Only block b has been written, and not its cell k. -/
def Kept (b k : Nat) (w w' : World) : Prop := (∀ W, Grown W w → W.heap.size ≤ b → Grown W w') ∧ w'.cell? ⟨b, k, none⟩ = w.cell? ⟨b, k, none⟩
theorem Kept.refl (b k : Nat) (w : World) : Kept b k w w := ⟨fun _ h _ => h, rfl⟩
theorem Kept.set {b k : Nat} {w w' : World} (h : Kept b k w w') {i : Nat} (hi : i ≠ k) (v : Value) : Kept b k w (w'.setCell ⟨b, i, none⟩ v) :=
  ⟨fun W g hb => (h.1 W g hb).setCell hb v, by rw [World.cell?_setCell_other _ _ _ _ (by intro e; injection e; contradiction)]; exact h.2⟩

set_option maxRecDepth 100000 in
set_option maxHeartbeats 1000000 in
theorem resetMd5 (w : World) (b : Nat) (h0 : (w.cell? ⟨b, 0, none⟩).isSome = true) (h1 : (w.cell? ⟨b, 1, none⟩).isSome = true) (h2 : (w.cell? ⟨b, 2, none⟩).isSome = true) (h3 : (w.cell? ⟨b, 3, none⟩).isSome = true) (h68 : (w.cell? ⟨b, 68, none⟩).isSome = true) (h69 : (w.cell? ⟨b, 69, none⟩).isSome = true)  (hf : ∀ i, w.frozen? ⟨b, i, none⟩ = false) :
    Calls Try.prog 16 #[.pointer (some ⟨b, 0, none⟩)] w fun e w' => e = .returned (.tuple #[]) ∧ Kept b 70 w w' := by
  obtain ⟨v0, g0⟩ := Option.isSome_iff_exists.1 h0; clear h0
  obtain ⟨v1, g1⟩ := Option.isSome_iff_exists.1 h1; clear h1
  obtain ⟨v2, g2⟩ := Option.isSome_iff_exists.1 h2; clear h2
  obtain ⟨v3, g3⟩ := Option.isSome_iff_exists.1 h3; clear h3
  obtain ⟨v68, g68⟩ := Option.isSome_iff_exists.1 h68; clear h68
  obtain ⟨v69, g69⟩ := Option.isSome_iff_exists.1 h69; clear h69
  go_enter Try.func16, Try.ntmps16
  go_wp2
  go_end0
  exact ⟨rfl, ((((((Kept.refl _ _ _).set (by decide) _).set (by decide) _).set (by decide) _).set (by decide) _).set (by decide) _).set (by decide) _⟩
set_option maxRecDepth 100000 in
set_option maxHeartbeats 1000000 in
theorem resetSha1 (w : World) (b : Nat) (h0 : (w.cell? ⟨b, 0, none⟩).isSome = true) (h1 : (w.cell? ⟨b, 1, none⟩).isSome = true) (h2 : (w.cell? ⟨b, 2, none⟩).isSome = true) (h3 : (w.cell? ⟨b, 3, none⟩).isSome = true) (h4 : (w.cell? ⟨b, 4, none⟩).isSome = true) (h69 : (w.cell? ⟨b, 69, none⟩).isSome = true) (h70 : (w.cell? ⟨b, 70, none⟩).isSome = true)  (hf : ∀ i, w.frozen? ⟨b, i, none⟩ = false) :
    Calls Try.prog 17 #[.pointer (some ⟨b, 0, none⟩)] w fun e w' => e = .returned (.tuple #[]) ∧ Kept b 71 w w' := by
  obtain ⟨v0, g0⟩ := Option.isSome_iff_exists.1 h0; clear h0
  obtain ⟨v1, g1⟩ := Option.isSome_iff_exists.1 h1; clear h1
  obtain ⟨v2, g2⟩ := Option.isSome_iff_exists.1 h2; clear h2
  obtain ⟨v3, g3⟩ := Option.isSome_iff_exists.1 h3; clear h3
  obtain ⟨v4, g4⟩ := Option.isSome_iff_exists.1 h4; clear h4
  obtain ⟨v69, g69⟩ := Option.isSome_iff_exists.1 h69; clear h69
  obtain ⟨v70, g70⟩ := Option.isSome_iff_exists.1 h70; clear h70
  go_enter Try.func17, Try.ntmps17
  go_wp2
  go_end0
  exact ⟨rfl, (((((((Kept.refl _ _ _).set (by decide) _).set (by decide) _).set (by decide) _).set (by decide) _).set (by decide) _).set (by decide) _).set (by decide) _⟩
set_option maxRecDepth 100000 in
set_option maxHeartbeats 1000000 in
theorem resetSha256 (w : World) (b : Nat) (h0 : (w.cell? ⟨b, 0, none⟩).isSome = true) (h1 : (w.cell? ⟨b, 1, none⟩).isSome = true) (h2 : (w.cell? ⟨b, 2, none⟩).isSome = true) (h3 : (w.cell? ⟨b, 3, none⟩).isSome = true) (h4 : (w.cell? ⟨b, 4, none⟩).isSome = true) (h5 : (w.cell? ⟨b, 5, none⟩).isSome = true) (h6 : (w.cell? ⟨b, 6, none⟩).isSome = true) (h7 : (w.cell? ⟨b, 7, none⟩).isSome = true) (h72 : (w.cell? ⟨b, 72, none⟩).isSome = true) (h73 : (w.cell? ⟨b, 73, none⟩).isSome = true) (hk : w.cell? ⟨b, 74, none⟩ = some (.bool false)) (hf : ∀ i, w.frozen? ⟨b, i, none⟩ = false) :
    Calls Try.prog 18 #[.pointer (some ⟨b, 0, none⟩)] w fun e w' => e = .returned (.tuple #[]) ∧ Kept b 74 w w' := by
  obtain ⟨v0, g0⟩ := Option.isSome_iff_exists.1 h0; clear h0
  obtain ⟨v1, g1⟩ := Option.isSome_iff_exists.1 h1; clear h1
  obtain ⟨v2, g2⟩ := Option.isSome_iff_exists.1 h2; clear h2
  obtain ⟨v3, g3⟩ := Option.isSome_iff_exists.1 h3; clear h3
  obtain ⟨v4, g4⟩ := Option.isSome_iff_exists.1 h4; clear h4
  obtain ⟨v5, g5⟩ := Option.isSome_iff_exists.1 h5; clear h5
  obtain ⟨v6, g6⟩ := Option.isSome_iff_exists.1 h6; clear h6
  obtain ⟨v7, g7⟩ := Option.isSome_iff_exists.1 h7; clear h7
  obtain ⟨v72, g72⟩ := Option.isSome_iff_exists.1 h72; clear h72
  obtain ⟨v73, g73⟩ := Option.isSome_iff_exists.1 h73; clear h73
  go_enter Try.func18, Try.ntmps18
  go_wp2
  go_end0
  exact ⟨rfl, ((((((((((Kept.refl _ _ _).set (by decide) _).set (by decide) _).set (by decide) _).set (by decide) _).set (by decide) _).set (by decide) _).set (by decide) _).set (by decide) _).set (by decide) _).set (by decide) _⟩
set_option maxRecDepth 100000 in
set_option maxHeartbeats 1000000 in
theorem resetSha224 (w : World) (b : Nat) (h0 : (w.cell? ⟨b, 0, none⟩).isSome = true) (h1 : (w.cell? ⟨b, 1, none⟩).isSome = true) (h2 : (w.cell? ⟨b, 2, none⟩).isSome = true) (h3 : (w.cell? ⟨b, 3, none⟩).isSome = true) (h4 : (w.cell? ⟨b, 4, none⟩).isSome = true) (h5 : (w.cell? ⟨b, 5, none⟩).isSome = true) (h6 : (w.cell? ⟨b, 6, none⟩).isSome = true) (h7 : (w.cell? ⟨b, 7, none⟩).isSome = true) (h72 : (w.cell? ⟨b, 72, none⟩).isSome = true) (h73 : (w.cell? ⟨b, 73, none⟩).isSome = true) (hk : w.cell? ⟨b, 74, none⟩ = some (.bool true)) (hf : ∀ i, w.frozen? ⟨b, i, none⟩ = false) :
    Calls Try.prog 18 #[.pointer (some ⟨b, 0, none⟩)] w fun e w' => e = .returned (.tuple #[]) ∧ Kept b 74 w w' := by
  obtain ⟨v0, g0⟩ := Option.isSome_iff_exists.1 h0; clear h0
  obtain ⟨v1, g1⟩ := Option.isSome_iff_exists.1 h1; clear h1
  obtain ⟨v2, g2⟩ := Option.isSome_iff_exists.1 h2; clear h2
  obtain ⟨v3, g3⟩ := Option.isSome_iff_exists.1 h3; clear h3
  obtain ⟨v4, g4⟩ := Option.isSome_iff_exists.1 h4; clear h4
  obtain ⟨v5, g5⟩ := Option.isSome_iff_exists.1 h5; clear h5
  obtain ⟨v6, g6⟩ := Option.isSome_iff_exists.1 h6; clear h6
  obtain ⟨v7, g7⟩ := Option.isSome_iff_exists.1 h7; clear h7
  obtain ⟨v72, g72⟩ := Option.isSome_iff_exists.1 h72; clear h72
  obtain ⟨v73, g73⟩ := Option.isSome_iff_exists.1 h73; clear h73
  go_enter Try.func18, Try.ntmps18
  go_wp2
  go_end0
  exact ⟨rfl, ((((((((((Kept.refl _ _ _).set (by decide) _).set (by decide) _).set (by decide) _).set (by decide) _).set (by decide) _).set (by decide) _).set (by decide) _).set (by decide) _).set (by decide) _).set (by decide) _⟩
set_option maxRecDepth 100000 in
set_option maxHeartbeats 1000000 in
theorem resetSha384 (w : World) (b : Nat) (h0 : (w.cell? ⟨b, 0, none⟩).isSome = true) (h1 : (w.cell? ⟨b, 1, none⟩).isSome = true) (h2 : (w.cell? ⟨b, 2, none⟩).isSome = true) (h3 : (w.cell? ⟨b, 3, none⟩).isSome = true) (h4 : (w.cell? ⟨b, 4, none⟩).isSome = true) (h5 : (w.cell? ⟨b, 5, none⟩).isSome = true) (h6 : (w.cell? ⟨b, 6, none⟩).isSome = true) (h7 : (w.cell? ⟨b, 7, none⟩).isSome = true) (h136 : (w.cell? ⟨b, 136, none⟩).isSome = true) (h137 : (w.cell? ⟨b, 137, none⟩).isSome = true) (hk : w.cell? ⟨b, 138, none⟩ = some (.int .i64 48)) (hf : ∀ i, w.frozen? ⟨b, i, none⟩ = false) :
    Calls Try.prog 19 #[.pointer (some ⟨b, 0, none⟩)] w fun e w' => e = .returned (.tuple #[]) ∧ Kept b 138 w w' := by
  obtain ⟨v0, g0⟩ := Option.isSome_iff_exists.1 h0; clear h0
  obtain ⟨v1, g1⟩ := Option.isSome_iff_exists.1 h1; clear h1
  obtain ⟨v2, g2⟩ := Option.isSome_iff_exists.1 h2; clear h2
  obtain ⟨v3, g3⟩ := Option.isSome_iff_exists.1 h3; clear h3
  obtain ⟨v4, g4⟩ := Option.isSome_iff_exists.1 h4; clear h4
  obtain ⟨v5, g5⟩ := Option.isSome_iff_exists.1 h5; clear h5
  obtain ⟨v6, g6⟩ := Option.isSome_iff_exists.1 h6; clear h6
  obtain ⟨v7, g7⟩ := Option.isSome_iff_exists.1 h7; clear h7
  obtain ⟨v136, g136⟩ := Option.isSome_iff_exists.1 h136; clear h136
  obtain ⟨v137, g137⟩ := Option.isSome_iff_exists.1 h137; clear h137
  go_enter Try.func19, Try.ntmps19
  go_wp2
  go_end0
  exact ⟨rfl, ((((((((((Kept.refl _ _ _).set (by decide) _).set (by decide) _).set (by decide) _).set (by decide) _).set (by decide) _).set (by decide) _).set (by decide) _).set (by decide) _).set (by decide) _).set (by decide) _⟩
set_option maxRecDepth 100000 in
set_option maxHeartbeats 1000000 in
theorem resetSha512 (w : World) (b : Nat) (h0 : (w.cell? ⟨b, 0, none⟩).isSome = true) (h1 : (w.cell? ⟨b, 1, none⟩).isSome = true) (h2 : (w.cell? ⟨b, 2, none⟩).isSome = true) (h3 : (w.cell? ⟨b, 3, none⟩).isSome = true) (h4 : (w.cell? ⟨b, 4, none⟩).isSome = true) (h5 : (w.cell? ⟨b, 5, none⟩).isSome = true) (h6 : (w.cell? ⟨b, 6, none⟩).isSome = true) (h7 : (w.cell? ⟨b, 7, none⟩).isSome = true) (h136 : (w.cell? ⟨b, 136, none⟩).isSome = true) (h137 : (w.cell? ⟨b, 137, none⟩).isSome = true) (hk : w.cell? ⟨b, 138, none⟩ = some (.int .i64 64)) (hf : ∀ i, w.frozen? ⟨b, i, none⟩ = false) :
    Calls Try.prog 19 #[.pointer (some ⟨b, 0, none⟩)] w fun e w' => e = .returned (.tuple #[]) ∧ Kept b 138 w w' := by
  obtain ⟨v0, g0⟩ := Option.isSome_iff_exists.1 h0; clear h0
  obtain ⟨v1, g1⟩ := Option.isSome_iff_exists.1 h1; clear h1
  obtain ⟨v2, g2⟩ := Option.isSome_iff_exists.1 h2; clear h2
  obtain ⟨v3, g3⟩ := Option.isSome_iff_exists.1 h3; clear h3
  obtain ⟨v4, g4⟩ := Option.isSome_iff_exists.1 h4; clear h4
  obtain ⟨v5, g5⟩ := Option.isSome_iff_exists.1 h5; clear h5
  obtain ⟨v6, g6⟩ := Option.isSome_iff_exists.1 h6; clear h6
  obtain ⟨v7, g7⟩ := Option.isSome_iff_exists.1 h7; clear h7
  obtain ⟨v136, g136⟩ := Option.isSome_iff_exists.1 h136; clear h136
  obtain ⟨v137, g137⟩ := Option.isSome_iff_exists.1 h137; clear h137
  go_enter Try.func19, Try.ntmps19
  go_wp2
  go_end0
  exact ⟨rfl, ((((((((((Kept.refl _ _ _).set (by decide) _).set (by decide) _).set (by decide) _).set (by decide) _).set (by decide) _).set (by decide) _).set (by decide) _).set (by decide) _).set (by decide) _).set (by decide) _⟩
set_option maxRecDepth 100000 in
set_option maxHeartbeats 1000000 in
theorem resetSha512a (w : World) (b : Nat) (h0 : (w.cell? ⟨b, 0, none⟩).isSome = true) (h1 : (w.cell? ⟨b, 1, none⟩).isSome = true) (h2 : (w.cell? ⟨b, 2, none⟩).isSome = true) (h3 : (w.cell? ⟨b, 3, none⟩).isSome = true) (h4 : (w.cell? ⟨b, 4, none⟩).isSome = true) (h5 : (w.cell? ⟨b, 5, none⟩).isSome = true) (h6 : (w.cell? ⟨b, 6, none⟩).isSome = true) (h7 : (w.cell? ⟨b, 7, none⟩).isSome = true) (h136 : (w.cell? ⟨b, 136, none⟩).isSome = true) (h137 : (w.cell? ⟨b, 137, none⟩).isSome = true) (hk : w.cell? ⟨b, 138, none⟩ = some (.int .i64 28)) (hf : ∀ i, w.frozen? ⟨b, i, none⟩ = false) :
    Calls Try.prog 19 #[.pointer (some ⟨b, 0, none⟩)] w fun e w' => e = .returned (.tuple #[]) ∧ Kept b 138 w w' := by
  obtain ⟨v0, g0⟩ := Option.isSome_iff_exists.1 h0; clear h0
  obtain ⟨v1, g1⟩ := Option.isSome_iff_exists.1 h1; clear h1
  obtain ⟨v2, g2⟩ := Option.isSome_iff_exists.1 h2; clear h2
  obtain ⟨v3, g3⟩ := Option.isSome_iff_exists.1 h3; clear h3
  obtain ⟨v4, g4⟩ := Option.isSome_iff_exists.1 h4; clear h4
  obtain ⟨v5, g5⟩ := Option.isSome_iff_exists.1 h5; clear h5
  obtain ⟨v6, g6⟩ := Option.isSome_iff_exists.1 h6; clear h6
  obtain ⟨v7, g7⟩ := Option.isSome_iff_exists.1 h7; clear h7
  obtain ⟨v136, g136⟩ := Option.isSome_iff_exists.1 h136; clear h136
  obtain ⟨v137, g137⟩ := Option.isSome_iff_exists.1 h137; clear h137
  go_enter Try.func19, Try.ntmps19
  go_wp2
  go_end0
  exact ⟨rfl, ((((((((((Kept.refl _ _ _).set (by decide) _).set (by decide) _).set (by decide) _).set (by decide) _).set (by decide) _).set (by decide) _).set (by decide) _).set (by decide) _).set (by decide) _).set (by decide) _⟩
set_option maxRecDepth 100000 in
set_option maxHeartbeats 1000000 in
theorem resetSha512b (w : World) (b : Nat) (h0 : (w.cell? ⟨b, 0, none⟩).isSome = true) (h1 : (w.cell? ⟨b, 1, none⟩).isSome = true) (h2 : (w.cell? ⟨b, 2, none⟩).isSome = true) (h3 : (w.cell? ⟨b, 3, none⟩).isSome = true) (h4 : (w.cell? ⟨b, 4, none⟩).isSome = true) (h5 : (w.cell? ⟨b, 5, none⟩).isSome = true) (h6 : (w.cell? ⟨b, 6, none⟩).isSome = true) (h7 : (w.cell? ⟨b, 7, none⟩).isSome = true) (h136 : (w.cell? ⟨b, 136, none⟩).isSome = true) (h137 : (w.cell? ⟨b, 137, none⟩).isSome = true) (hk : w.cell? ⟨b, 138, none⟩ = some (.int .i64 32)) (hf : ∀ i, w.frozen? ⟨b, i, none⟩ = false) :
    Calls Try.prog 19 #[.pointer (some ⟨b, 0, none⟩)] w fun e w' => e = .returned (.tuple #[]) ∧ Kept b 138 w w' := by
  obtain ⟨v0, g0⟩ := Option.isSome_iff_exists.1 h0; clear h0
  obtain ⟨v1, g1⟩ := Option.isSome_iff_exists.1 h1; clear h1
  obtain ⟨v2, g2⟩ := Option.isSome_iff_exists.1 h2; clear h2
  obtain ⟨v3, g3⟩ := Option.isSome_iff_exists.1 h3; clear h3
  obtain ⟨v4, g4⟩ := Option.isSome_iff_exists.1 h4; clear h4
  obtain ⟨v5, g5⟩ := Option.isSome_iff_exists.1 h5; clear h5
  obtain ⟨v6, g6⟩ := Option.isSome_iff_exists.1 h6; clear h6
  obtain ⟨v7, g7⟩ := Option.isSome_iff_exists.1 h7; clear h7
  obtain ⟨v136, g136⟩ := Option.isSome_iff_exists.1 h136; clear h136
  obtain ⟨v137, g137⟩ := Option.isSome_iff_exists.1 h137; clear h137
  go_enter Try.func19, Try.ntmps19
  go_wp2
  go_end0
  exact ⟨rfl, ((((((((((Kept.refl _ _ _).set (by decide) _).set (by decide) _).set (by decide) _).set (by decide) _).set (by decide) _).set (by decide) _).set (by decide) _).set (by decide) _).set (by decide) _).set (by decide) _⟩
end Go.Proofs.Ytpobghhmpeioiaa
