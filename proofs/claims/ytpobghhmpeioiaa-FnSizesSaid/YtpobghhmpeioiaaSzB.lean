/- What each constructor of a digest does: it returns the address of one new block, whose mark (SHA-224) or size (SHA-512's family) stands in its cell; nothing that was there turns. For every world. -/
import Derived.Test.YtpobghhmpeioiaaSzA
namespace Go.Proofs.Ytpobghhmpeioiaa
open Go.RowKit

/-- The cells of the zero value of a type. -/
noncomputable def zeros (t : TypeId) : Array Value := match (Try.prog.info? t).bind (·.zero) with | some (.agg c) => c | _ => #[]
theorem zero44 (w : World) : (zeroValue 44).run Try.prog w = .ok (.agg (zeros 44)) w := by kernel_rfl
theorem at44_0 : ((zeros 44)[0]?).isSome = true := by kernel_rfl
theorem at44_1 : ((zeros 44)[1]?).isSome = true := by kernel_rfl
theorem at44_2 : ((zeros 44)[2]?).isSome = true := by kernel_rfl
theorem at44_3 : ((zeros 44)[3]?).isSome = true := by kernel_rfl
theorem at44_68 : ((zeros 44)[68]?).isSome = true := by kernel_rfl
theorem at44_69 : ((zeros 44)[69]?).isSome = true := by kernel_rfl
theorem zero47 (w : World) : (zeroValue 47).run Try.prog w = .ok (.agg (zeros 47)) w := by kernel_rfl
theorem at47_0 : ((zeros 47)[0]?).isSome = true := by kernel_rfl
theorem at47_1 : ((zeros 47)[1]?).isSome = true := by kernel_rfl
theorem at47_2 : ((zeros 47)[2]?).isSome = true := by kernel_rfl
theorem at47_3 : ((zeros 47)[3]?).isSome = true := by kernel_rfl
theorem at47_4 : ((zeros 47)[4]?).isSome = true := by kernel_rfl
theorem at47_69 : ((zeros 47)[69]?).isSome = true := by kernel_rfl
theorem at47_70 : ((zeros 47)[70]?).isSome = true := by kernel_rfl
theorem zero50 (w : World) : (zeroValue 50).run Try.prog w = .ok (.agg (zeros 50)) w := by kernel_rfl
theorem at50_0 : ((zeros 50)[0]?).isSome = true := by kernel_rfl
theorem at50_1 : ((zeros 50)[1]?).isSome = true := by kernel_rfl
theorem at50_2 : ((zeros 50)[2]?).isSome = true := by kernel_rfl
theorem at50_3 : ((zeros 50)[3]?).isSome = true := by kernel_rfl
theorem at50_4 : ((zeros 50)[4]?).isSome = true := by kernel_rfl
theorem at50_5 : ((zeros 50)[5]?).isSome = true := by kernel_rfl
theorem at50_6 : ((zeros 50)[6]?).isSome = true := by kernel_rfl
theorem at50_7 : ((zeros 50)[7]?).isSome = true := by kernel_rfl
theorem at50_72 : ((zeros 50)[72]?).isSome = true := by kernel_rfl
theorem at50_73 : ((zeros 50)[73]?).isSome = true := by kernel_rfl
theorem is50 : (zeros 50)[74]? = some (.bool false) := by kernel_rfl
theorem zero54 (w : World) : (zeroValue 54).run Try.prog w = .ok (.agg (zeros 54)) w := by kernel_rfl
theorem at54_0 : ((zeros 54)[0]?).isSome = true := by kernel_rfl
theorem at54_1 : ((zeros 54)[1]?).isSome = true := by kernel_rfl
theorem at54_2 : ((zeros 54)[2]?).isSome = true := by kernel_rfl
theorem at54_3 : ((zeros 54)[3]?).isSome = true := by kernel_rfl
theorem at54_4 : ((zeros 54)[4]?).isSome = true := by kernel_rfl
theorem at54_5 : ((zeros 54)[5]?).isSome = true := by kernel_rfl
theorem at54_6 : ((zeros 54)[6]?).isSome = true := by kernel_rfl
theorem at54_7 : ((zeros 54)[7]?).isSome = true := by kernel_rfl
theorem at54_136 : ((zeros 54)[136]?).isSome = true := by kernel_rfl
theorem at54_137 : ((zeros 54)[137]?).isSome = true := by kernel_rfl
set_option maxRecDepth 100000 in
set_option maxHeartbeats 800000 in
theorem new8 (w : World) : Calls Try.prog 8 #[] w fun e w' => e = .returned (.pointer (some ⟨w.heap.size, 0, none⟩)) ∧ Grown w w' := by
  have hz := zero44
  have hr := resetMd5 (w.alloc (.cells (zeros 44) 44)) w.heap.size (by rw [World.cell?_alloc_new]; exact at44_0) (by rw [World.cell?_alloc_new]; exact at44_1) (by rw [World.cell?_alloc_new]; exact at44_2) (by rw [World.cell?_alloc_new]; exact at44_3) (by rw [World.cell?_alloc_new]; exact at44_68) (by rw [World.cell?_alloc_new]; exact at44_69)  (fun i => World.frozen?_alloc_new w (zeros 44) 44 i)
  go_enter Try.func8, Try.ntmps8
  go_wp2_with (go_at_call 16; refine hr.mono ?_; rintro e w' ⟨rfl, hk1, hk2⟩)
  go_ret
  exact ⟨rfl, hk1 _ ((Grown.refl _).alloc _ _) (Nat.le_refl _)⟩
set_option maxRecDepth 100000 in
set_option maxHeartbeats 800000 in
theorem new9 (w : World) : Calls Try.prog 9 #[] w fun e w' => e = .returned (.pointer (some ⟨w.heap.size, 0, none⟩)) ∧ Grown w w' := by
  have hz := zero47
  have hr := resetSha1 (w.alloc (.cells (zeros 47) 47)) w.heap.size (by rw [World.cell?_alloc_new]; exact at47_0) (by rw [World.cell?_alloc_new]; exact at47_1) (by rw [World.cell?_alloc_new]; exact at47_2) (by rw [World.cell?_alloc_new]; exact at47_3) (by rw [World.cell?_alloc_new]; exact at47_4) (by rw [World.cell?_alloc_new]; exact at47_69) (by rw [World.cell?_alloc_new]; exact at47_70)  (fun i => World.frozen?_alloc_new w (zeros 47) 47 i)
  go_enter Try.func9, Try.ntmps9
  go_wp2_with (go_at_call 17; refine hr.mono ?_; rintro e w' ⟨rfl, hk1, hk2⟩)
  go_ret
  exact ⟨rfl, hk1 _ ((Grown.refl _).alloc _ _) (Nat.le_refl _)⟩
set_option maxRecDepth 100000 in
set_option maxHeartbeats 800000 in
theorem new11 (w : World) : Calls Try.prog 11 #[] w fun e w' => e = .returned (.pointer (some ⟨w.heap.size, 0, none⟩)) ∧ Grown w w' ∧ w'.cell? ⟨w.heap.size, 74, none⟩ = some (.bool false) := by
  have hz := zero50
  have hr := resetSha256 (w.alloc (.cells (zeros 50) 50)) w.heap.size (by rw [World.cell?_alloc_new]; exact at50_0) (by rw [World.cell?_alloc_new]; exact at50_1) (by rw [World.cell?_alloc_new]; exact at50_2) (by rw [World.cell?_alloc_new]; exact at50_3) (by rw [World.cell?_alloc_new]; exact at50_4) (by rw [World.cell?_alloc_new]; exact at50_5) (by rw [World.cell?_alloc_new]; exact at50_6) (by rw [World.cell?_alloc_new]; exact at50_7) (by rw [World.cell?_alloc_new]; exact at50_72) (by rw [World.cell?_alloc_new]; exact at50_73) (by rw [World.cell?_alloc_new]; exact is50) (fun i => World.frozen?_alloc_new w (zeros 50) 50 i)
  go_enter Try.func11, Try.ntmps11
  go_wp2_with (go_at_call 18; refine hr.mono ?_; rintro e w' ⟨rfl, hk1, hk2⟩)
  go_ret
  exact ⟨rfl, hk1 _ ((Grown.refl _).alloc _ _) (Nat.le_refl _), by rw [hk2, World.cell?_alloc_new]; exact is50⟩
noncomputable def zeros224 : Array Value := (zeros 50).setIfInBounds 74 (.bool true)
noncomputable def built (n : Int) : Array Value := (zeros 54).setIfInBounds 138 (.int .i64 n)
theorem is224 : zeros224[74]? = some (.bool true) := by kernel_rfl
theorem isBuilt (n : Int) : (built n)[138]? = some (.int .i64 n) := by kernel_rfl
theorem size54 : (zeros 54).size = 139 := by kernel_rfl
theorem at224_0 : (zeros224[0]?).isSome = true := by kernel_rfl
theorem at224_1 : (zeros224[1]?).isSome = true := by kernel_rfl
theorem at224_2 : (zeros224[2]?).isSome = true := by kernel_rfl
theorem at224_3 : (zeros224[3]?).isSome = true := by kernel_rfl
theorem at224_4 : (zeros224[4]?).isSome = true := by kernel_rfl
theorem at224_5 : (zeros224[5]?).isSome = true := by kernel_rfl
theorem at224_6 : (zeros224[6]?).isSome = true := by kernel_rfl
theorem at224_7 : (zeros224[7]?).isSome = true := by kernel_rfl
theorem at224_72 : (zeros224[72]?).isSome = true := by kernel_rfl
theorem at224_73 : (zeros224[73]?).isSome = true := by kernel_rfl
theorem atB_0 (n : Int) : ((built n)[0]?).isSome = true := by kernel_rfl
theorem atB_1 (n : Int) : ((built n)[1]?).isSome = true := by kernel_rfl
theorem atB_2 (n : Int) : ((built n)[2]?).isSome = true := by kernel_rfl
theorem atB_3 (n : Int) : ((built n)[3]?).isSome = true := by kernel_rfl
theorem atB_4 (n : Int) : ((built n)[4]?).isSome = true := by kernel_rfl
theorem atB_5 (n : Int) : ((built n)[5]?).isSome = true := by kernel_rfl
theorem atB_6 (n : Int) : ((built n)[6]?).isSome = true := by kernel_rfl
theorem atB_7 (n : Int) : ((built n)[7]?).isSome = true := by kernel_rfl
theorem atB_136 (n : Int) : ((built n)[136]?).isSome = true := by kernel_rfl
theorem atB_137 (n : Int) : ((built n)[137]?).isSome = true := by kernel_rfl
set_option maxRecDepth 100000 in
set_option maxHeartbeats 800000 in
theorem new10 (w : World) : Calls Try.prog 10 #[] w fun e w' => e = .returned (.pointer (some ⟨w.heap.size, 0, none⟩)) ∧ Grown w w' ∧ w'.cell? ⟨w.heap.size, 74, none⟩ = some (.bool true) := by
  have hz := zero50
  have i50 := is50
  have hr := resetSha224 (w.alloc (.cells zeros224 50)) w.heap.size (by rw [World.cell?_alloc_new]; exact at224_0) (by rw [World.cell?_alloc_new]; exact at224_1) (by rw [World.cell?_alloc_new]; exact at224_2) (by rw [World.cell?_alloc_new]; exact at224_3) (by rw [World.cell?_alloc_new]; exact at224_4) (by rw [World.cell?_alloc_new]; exact at224_5) (by rw [World.cell?_alloc_new]; exact at224_6) (by rw [World.cell?_alloc_new]; exact at224_7) (by rw [World.cell?_alloc_new]; exact at224_72) (by rw [World.cell?_alloc_new]; exact at224_73) (by rw [World.cell?_alloc_new]; exact is224) (fun i => World.frozen?_alloc_new w zeros224 50 i)
  unfold zeros224 at hr
  go_enter Try.func10, Try.ntmps10
  go_wp2_with (go_at_call 18; refine hr.mono ?_; rintro e w' ⟨rfl, hk1, hk2⟩)
  go_ret
  exact ⟨rfl, hk1 _ ((Grown.refl _).alloc _ _) (Nat.le_refl _), by rw [hk2, World.cell?_alloc_new]; exact is224⟩
set_option maxRecDepth 100000 in
set_option maxHeartbeats 800000 in
theorem new12 (w : World) : Calls Try.prog 12 #[] w fun e w' => e = .returned (.pointer (some ⟨w.heap.size, 0, none⟩)) ∧ Grown w w' ∧ w'.cell? ⟨w.heap.size, 138, none⟩ = some (.int .i64 48) := by
  have hz := zero54
  have hs := size54
  have hr := resetSha384 (w.alloc (.cells (built 48) 54)) w.heap.size (by rw [World.cell?_alloc_new]; exact atB_0 _) (by rw [World.cell?_alloc_new]; exact atB_1 _) (by rw [World.cell?_alloc_new]; exact atB_2 _) (by rw [World.cell?_alloc_new]; exact atB_3 _) (by rw [World.cell?_alloc_new]; exact atB_4 _) (by rw [World.cell?_alloc_new]; exact atB_5 _) (by rw [World.cell?_alloc_new]; exact atB_6 _) (by rw [World.cell?_alloc_new]; exact atB_7 _) (by rw [World.cell?_alloc_new]; exact atB_136 _) (by rw [World.cell?_alloc_new]; exact atB_137 _) (by rw [World.cell?_alloc_new]; exact isBuilt _) (fun i => World.frozen?_alloc_new w (built 48) 54 i)
  unfold built at hr
  go_enter Try.func12, Try.ntmps12
  go_wp2_with (go_at_call 19; refine hr.mono ?_; rintro e w' ⟨rfl, hk1, hk2⟩)
  go_ret
  exact ⟨rfl, hk1 _ ((Grown.refl _).alloc _ _) (Nat.le_refl _), by rw [hk2, World.cell?_alloc_new]; exact isBuilt _⟩
set_option maxRecDepth 100000 in
set_option maxHeartbeats 800000 in
theorem new13 (w : World) : Calls Try.prog 13 #[] w fun e w' => e = .returned (.pointer (some ⟨w.heap.size, 0, none⟩)) ∧ Grown w w' ∧ w'.cell? ⟨w.heap.size, 138, none⟩ = some (.int .i64 64) := by
  have hz := zero54
  have hs := size54
  have hr := resetSha512 (w.alloc (.cells (built 64) 54)) w.heap.size (by rw [World.cell?_alloc_new]; exact atB_0 _) (by rw [World.cell?_alloc_new]; exact atB_1 _) (by rw [World.cell?_alloc_new]; exact atB_2 _) (by rw [World.cell?_alloc_new]; exact atB_3 _) (by rw [World.cell?_alloc_new]; exact atB_4 _) (by rw [World.cell?_alloc_new]; exact atB_5 _) (by rw [World.cell?_alloc_new]; exact atB_6 _) (by rw [World.cell?_alloc_new]; exact atB_7 _) (by rw [World.cell?_alloc_new]; exact atB_136 _) (by rw [World.cell?_alloc_new]; exact atB_137 _) (by rw [World.cell?_alloc_new]; exact isBuilt _) (fun i => World.frozen?_alloc_new w (built 64) 54 i)
  unfold built at hr
  go_enter Try.func13, Try.ntmps13
  go_wp2_with (go_at_call 19; refine hr.mono ?_; rintro e w' ⟨rfl, hk1, hk2⟩)
  go_ret
  exact ⟨rfl, hk1 _ ((Grown.refl _).alloc _ _) (Nat.le_refl _), by rw [hk2, World.cell?_alloc_new]; exact isBuilt _⟩
set_option maxRecDepth 100000 in
set_option maxHeartbeats 800000 in
theorem new14 (w : World) : Calls Try.prog 14 #[] w fun e w' => e = .returned (.pointer (some ⟨w.heap.size, 0, none⟩)) ∧ Grown w w' ∧ w'.cell? ⟨w.heap.size, 138, none⟩ = some (.int .i64 28) := by
  have hz := zero54
  have hs := size54
  have hr := resetSha512a (w.alloc (.cells (built 28) 54)) w.heap.size (by rw [World.cell?_alloc_new]; exact atB_0 _) (by rw [World.cell?_alloc_new]; exact atB_1 _) (by rw [World.cell?_alloc_new]; exact atB_2 _) (by rw [World.cell?_alloc_new]; exact atB_3 _) (by rw [World.cell?_alloc_new]; exact atB_4 _) (by rw [World.cell?_alloc_new]; exact atB_5 _) (by rw [World.cell?_alloc_new]; exact atB_6 _) (by rw [World.cell?_alloc_new]; exact atB_7 _) (by rw [World.cell?_alloc_new]; exact atB_136 _) (by rw [World.cell?_alloc_new]; exact atB_137 _) (by rw [World.cell?_alloc_new]; exact isBuilt _) (fun i => World.frozen?_alloc_new w (built 28) 54 i)
  unfold built at hr
  go_enter Try.func14, Try.ntmps14
  go_wp2_with (go_at_call 19; refine hr.mono ?_; rintro e w' ⟨rfl, hk1, hk2⟩)
  go_ret
  exact ⟨rfl, hk1 _ ((Grown.refl _).alloc _ _) (Nat.le_refl _), by rw [hk2, World.cell?_alloc_new]; exact isBuilt _⟩
set_option maxRecDepth 100000 in
set_option maxHeartbeats 800000 in
theorem new15 (w : World) : Calls Try.prog 15 #[] w fun e w' => e = .returned (.pointer (some ⟨w.heap.size, 0, none⟩)) ∧ Grown w w' ∧ w'.cell? ⟨w.heap.size, 138, none⟩ = some (.int .i64 32) := by
  have hz := zero54
  have hs := size54
  have hr := resetSha512b (w.alloc (.cells (built 32) 54)) w.heap.size (by rw [World.cell?_alloc_new]; exact atB_0 _) (by rw [World.cell?_alloc_new]; exact atB_1 _) (by rw [World.cell?_alloc_new]; exact atB_2 _) (by rw [World.cell?_alloc_new]; exact atB_3 _) (by rw [World.cell?_alloc_new]; exact atB_4 _) (by rw [World.cell?_alloc_new]; exact atB_5 _) (by rw [World.cell?_alloc_new]; exact atB_6 _) (by rw [World.cell?_alloc_new]; exact atB_7 _) (by rw [World.cell?_alloc_new]; exact atB_136 _) (by rw [World.cell?_alloc_new]; exact atB_137 _) (by rw [World.cell?_alloc_new]; exact isBuilt _) (fun i => World.frozen?_alloc_new w (built 32) 54 i)
  unfold built at hr
  go_enter Try.func15, Try.ntmps15
  go_wp2_with (go_at_call 19; refine hr.mono ?_; rintro e w' ⟨rfl, hk1, hk2⟩)
  go_ret
  exact ⟨rfl, hk1 _ ((Grown.refl _).alloc _ _) (Nat.le_refl _), by rw [hk2, World.cell?_alloc_new]; exact isBuilt _⟩
end Go.Proofs.Ytpobghhmpeioiaa
