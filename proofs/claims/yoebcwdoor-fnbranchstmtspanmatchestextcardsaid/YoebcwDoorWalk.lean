/-
  THE WALK of FnBranchStmtSpanMatchesText: it returns true, and below the old heap nothing has turned.
-/
import Derived.Test.YoebcwDoorContracts
import Derived.Below
import Derived.WalkSmall
namespace Go.Proofs.YoebcwDoor
open Go.RowKit

/-- 'zzBytes_..': short names. -/
theorem bytes_yes (a0 a1 : Bool) (nm : ByteArray) (tp : Int) (w : World) (h : nm.size ≤ 1048576) :
    Calls Ebcg.prog 4 #[.bool a0, .bool a1, .string nm, .int .i64 tp] w fun e w' => e = .returned (.bool true) ∧ w = w' := by
  go_enter Ebcg.func4, Ebcg.ntmps4
  go_wp2
  go_ret
  exact ⟨rfl, rfl⟩
theorem bytes_no (a0 a1 : Bool) (nm : ByteArray) (tp : Int) (w : World) (h : 1048576 < nm.size) :
    Calls Ebcg.prog 4 #[.bool a0, .bool a1, .string nm, .int .i64 tp] w fun e w' => e = .returned (.bool false) ∧ w = w' := by
  go_enter Ebcg.func4, Ebcg.ntmps4
  go_wp2
  go_ret
  exact ⟨rfl, rfl⟩
theorem kw_brk (w : World) : Calls Ebcg.prog 5 #[.bool false] w fun e w' => e = .returned (.string brkS) ∧ w = w' := by
  go_enter Ebcg.func5, Ebcg.ntmps5
  go_wp2
  go_ret
  exact ⟨rfl, rfl⟩
theorem kw_con (w : World) : Calls Ebcg.prog 5 #[.bool true] w fun e w' => e = .returned (.string conS) ∧ w = w' := by
  go_enter Ebcg.func5, Ebcg.ntmps5
  go_wp2
  go_ret
  exact ⟨rfl, rfl⟩
theorem tok_brk (w : World) : Calls Ebcg.prog 6 #[.bool false] w fun e w' => e = .returned (.int .i64 60) ∧ w = w' := by
  go_enter Ebcg.func6, Ebcg.ntmps6
  go_wp2
  go_ret
  exact ⟨rfl, rfl⟩
theorem tok_con (w : World) : Calls Ebcg.prog 6 #[.bool true] w fun e w' => e = .returned (.int .i64 61) ∧ w = w' := by
  go_enter Ebcg.func6, Ebcg.ntmps6
  go_wp2
  go_ret
  exact ⟨rfl, rfl⟩

/-! ### THE THREE WAYS THAT RETURN AT ONCE -/
theorem walk_long (a0 a1 : Bool) (nm : ByteArray) (tp : Int) (w : World) (h : 1048576 < nm.size) :
    Calls Ebcg.prog 3 #[.bool a0, .bool a1, .string nm, .int .i64 tp] w fun e w' => e = .returned (.bool true) ∧ Below w.heap.size w w' := by
  go_enter Ebcg.func3, Ebcg.ntmps3
  go_wp2_with (go_at_call 4; refine (bytes_no a0 a1 nm tp _ h).mono ?_; rintro e w' ⟨rfl, rfl⟩)
  go_ret
  exact ⟨rfl, Below.refl _ _⟩
theorem walk_mid (a0 a1 : Bool) (nm : ByteArray) (tp : Int) (w : World) (h : nm.size ≤ 1048576) (h2 : 65536 < nm.size) :
    Calls Ebcg.prog 3 #[.bool a0, .bool a1, .string nm, .int .i64 tp] w fun e w' => e = .returned (.bool true) ∧ Below w.heap.size w w' := by
  go_enter Ebcg.func3, Ebcg.ntmps3
  go_wp2_with (go_at_call 4; refine (bytes_yes a0 a1 nm tp _ h).mono ?_; rintro e w' ⟨rfl, rfl⟩)
  go_ret
  exact ⟨rfl, Below.refl _ _⟩
theorem walk_far (a0 a1 : Bool) (nm : ByteArray) (tp : Int) (w : World) (h : nm.size ≤ 1048576) (h2 : nm.size ≤ 65536) (h3 : 9223372036854710255 < tp) :
    Calls Ebcg.prog 3 #[.bool a0, .bool a1, .string nm, .int .i64 tp] w fun e w' => e = .returned (.bool true) ∧ Below w.heap.size w w' := by
  go_enter Ebcg.func3, Ebcg.ntmps3
  go_wp2_with (go_at_call 4; refine (bytes_yes a0 a1 nm tp _ h).mono ?_; rintro e w' ⟨rfl, rfl⟩)
  go_ret
  exact ⟨rfl, Below.refl _ _⟩

theorem brk_size : brkS.size = 5 := rfl
theorem con_size : conS.size = 8 := rfl
theorem brk_full : brkS.toList.isEmpty = false := by kernel_rfl
theorem con_full : conS.toList.isEmpty = false := by kernel_rfl
theorem ret_bool {b : Bool} (h : b = true) : Ending.returned (.bool b) = .returned (.bool true) := by rw [h]
theorem back_bare (tp k : Int) : (tp + k - tp == k) = true := by rw [beq_iff_eq]; omega

theorem back_label (tp k n : Int) : (tp + k + 1 + n - tp == k + (1 + n)) = true := by rw [beq_iff_eq]; omega

/-- No label. -/
theorem walk_bare_brk (nm : ByteArray) (tp : Int) (w : World) (h : nm.size ≤ 1048576) (h2 : nm.size ≤ 65536) (l : -9223372036854775808 ≤ tp) (u : tp ≤ 9223372036854710255) (hpos : 0 < w.heap.size)
    (hc : w.cell? ⟨0, 60, none⟩ = some (.string brkS)) :
    Calls Ebcg.prog 3 #[.bool false, .bool false, .string nm, .int .i64 tp] w fun e w' => e = .returned (.bool true) ∧ Below w.heap.size w w' := by
  have hz : brkS.size ≤ 65536 := by decide
  have hc1 : (w.alloc (.cells #[.int .i64 60, .int .i64 tp, .pointer none] 30)).cell? ⟨0, 60, none⟩ = some (.string brkS) := by rw [World.cell?_alloc_past _ _ _ hpos]; exact hc
  go_enter Ebcg.func3, Ebcg.ntmps3
  go_wp2_with (first
    | (go_at_call 4; refine (bytes_yes false false nm tp _ h).mono ?_; rintro e w' ⟨rfl, rfl⟩)
    | (go_at_call 5; refine (kw_brk _).mono ?_; rintro e w' ⟨rfl, rfl⟩)
    | (go_at_call 6; refine (tok_brk _).mono ?_; rintro e w' ⟨rfl, rfl⟩)
    | (go_at_call 7; refine (branch_pos w.heap.size tp _ (by simp)).mono ?_; rintro e w' ⟨rfl, rfl⟩)
    | (go_at_call 8; refine (branch_end_bare w.heap.size 60 tp brkS _ (by omega) (by omega) brk_full hz l u (by exact hc1) (by simp) (by simp) (by simp)).mono ?_; rintro e w' ⟨rfl, n, rfl⟩)
    | (go_at_call 9; refine (branch_text_bare w.heap.size 60 brkS _ (by omega) (by omega) brk_full hz (by exact hc1) (by simp) (by simp)).mono ?_; rintro e w' ⟨⟨t, rfl, ht⟩, rfl⟩))
  go_ret
  exact ⟨ret_bool (back_bare tp _), below_drewN ((Below.refl _ _).alloc (Nat.le_refl _) _) _⟩

/-- No label. -/
theorem walk_bare_con (nm : ByteArray) (tp : Int) (w : World) (h : nm.size ≤ 1048576) (h2 : nm.size ≤ 65536) (l : -9223372036854775808 ≤ tp) (u : tp ≤ 9223372036854710255) (hpos : 0 < w.heap.size)
    (hc : w.cell? ⟨0, 61, none⟩ = some (.string conS)) :
    Calls Ebcg.prog 3 #[.bool true, .bool false, .string nm, .int .i64 tp] w fun e w' => e = .returned (.bool true) ∧ Below w.heap.size w w' := by
  have hz : conS.size ≤ 65536 := by decide
  have hc1 : (w.alloc (.cells #[.int .i64 61, .int .i64 tp, .pointer none] 30)).cell? ⟨0, 61, none⟩ = some (.string conS) := by rw [World.cell?_alloc_past _ _ _ hpos]; exact hc
  go_enter Ebcg.func3, Ebcg.ntmps3
  go_wp2_with (first
    | (go_at_call 4; refine (bytes_yes true false nm tp _ h).mono ?_; rintro e w' ⟨rfl, rfl⟩)
    | (go_at_call 5; refine (kw_con _).mono ?_; rintro e w' ⟨rfl, rfl⟩)
    | (go_at_call 6; refine (tok_con _).mono ?_; rintro e w' ⟨rfl, rfl⟩)
    | (go_at_call 7; refine (branch_pos w.heap.size tp _ (by simp)).mono ?_; rintro e w' ⟨rfl, rfl⟩)
    | (go_at_call 8; refine (branch_end_bare w.heap.size 61 tp conS _ (by omega) (by omega) con_full hz l u (by exact hc1) (by simp) (by simp) (by simp)).mono ?_; rintro e w' ⟨rfl, n, rfl⟩)
    | (go_at_call 9; refine (branch_text_bare w.heap.size 61 conS _ (by omega) (by omega) con_full hz (by exact hc1) (by simp) (by simp)).mono ?_; rintro e w' ⟨⟨t, rfl, ht⟩, rfl⟩))
  go_ret
  exact ⟨ret_bool (back_bare tp _), below_drewN ((Below.refl _ _).alloc (Nat.le_refl _) _) _⟩

/-- With a label. -/
theorem walk_label_brk (nm : ByteArray) (tp : Int) (w : World) (h : nm.size ≤ 1048576) (h2 : nm.size ≤ 65536) (l : -9223372036854775808 ≤ tp) (u : tp ≤ 9223372036854710255) (hpos : 0 < w.heap.size)
    (hc : w.cell? ⟨0, 60, none⟩ = some (.string brkS)) :
    Calls Ebcg.prog 3 #[.bool false, .bool true, .string nm, .int .i64 tp] w fun e w' => e = .returned (.bool true) ∧ Below w.heap.size w w' := by
  have hz8 : brkS.size ≤ 8 := by decide
  have hz : brkS.size ≤ 65536 := by decide
  have hc1 : ((w.alloc (.cells #[.int .i64 60, .int .i64 tp, .pointer (some ⟨w.heap.size + 1, 0, none⟩)] 30)).alloc (.cells #[.string nm, .int .i64 (tp + brkS.size + 1)] 32)).cell? ⟨0, 60, none⟩ = some (.string brkS) := by
    rw [World.cell?_alloc_past _ _ _ (by simp), World.cell?_alloc_past _ _ _ hpos]; exact hc
  go_enter Ebcg.func3, Ebcg.ntmps3
  go_wp2_with (first
    | (go_at_call 4; refine (bytes_yes false true nm tp _ h).mono ?_; rintro e w' ⟨rfl, rfl⟩)
    | (go_at_call 5; refine (kw_brk _).mono ?_; rintro e w' ⟨rfl, rfl⟩)
    | (go_at_call 6; refine (tok_brk _).mono ?_; rintro e w' ⟨rfl, rfl⟩)
    | (go_at_call 7; refine (branch_pos w.heap.size tp _ (by simp)).mono ?_; rintro e w' ⟨rfl, rfl⟩)
    | (go_at_call 8; refine (branch_end_label w.heap.size (w.heap.size + 1) (tp + brkS.size + 1) nm _ h2 (by omega) (by omega) (by simp) (by simp) (by simp)).mono ?_; rintro e w' ⟨rfl, n, rfl⟩)
    | (go_at_call 9; refine (branch_text_label w.heap.size (w.heap.size + 1) 60 brkS nm _ (by omega) (by omega) brk_full hz h2 (by exact hc1) (by simp) (by simp) (by simp)).mono ?_; rintro e w' ⟨⟨t, rfl, ht⟩, rfl⟩))
  go_ret
  exact ⟨ret_bool (back_label tp _ _), below_drewN (((Below.refl _ _).alloc (Nat.le_refl _) _).alloc (by simp) _) _⟩

/-- With a label. -/
theorem walk_label_con (nm : ByteArray) (tp : Int) (w : World) (h : nm.size ≤ 1048576) (h2 : nm.size ≤ 65536) (l : -9223372036854775808 ≤ tp) (u : tp ≤ 9223372036854710255) (hpos : 0 < w.heap.size)
    (hc : w.cell? ⟨0, 61, none⟩ = some (.string conS)) :
    Calls Ebcg.prog 3 #[.bool true, .bool true, .string nm, .int .i64 tp] w fun e w' => e = .returned (.bool true) ∧ Below w.heap.size w w' := by
  have hz8 : conS.size ≤ 8 := by decide
  have hz : conS.size ≤ 65536 := by decide
  have hc1 : ((w.alloc (.cells #[.int .i64 61, .int .i64 tp, .pointer (some ⟨w.heap.size + 1, 0, none⟩)] 30)).alloc (.cells #[.string nm, .int .i64 (tp + conS.size + 1)] 32)).cell? ⟨0, 61, none⟩ = some (.string conS) := by
    rw [World.cell?_alloc_past _ _ _ (by simp), World.cell?_alloc_past _ _ _ hpos]; exact hc
  go_enter Ebcg.func3, Ebcg.ntmps3
  go_wp2_with (first
    | (go_at_call 4; refine (bytes_yes true true nm tp _ h).mono ?_; rintro e w' ⟨rfl, rfl⟩)
    | (go_at_call 5; refine (kw_con _).mono ?_; rintro e w' ⟨rfl, rfl⟩)
    | (go_at_call 6; refine (tok_con _).mono ?_; rintro e w' ⟨rfl, rfl⟩)
    | (go_at_call 7; refine (branch_pos w.heap.size tp _ (by simp)).mono ?_; rintro e w' ⟨rfl, rfl⟩)
    | (go_at_call 8; refine (branch_end_label w.heap.size (w.heap.size + 1) (tp + conS.size + 1) nm _ h2 (by omega) (by omega) (by simp) (by simp) (by simp)).mono ?_; rintro e w' ⟨rfl, n, rfl⟩)
    | (go_at_call 9; refine (branch_text_label w.heap.size (w.heap.size + 1) 61 conS nm _ (by omega) (by omega) con_full hz h2 (by exact hc1) (by simp) (by simp) (by simp)).mono ?_; rintro e w' ⟨⟨t, rfl, ht⟩, rfl⟩))
  go_ret
  exact ⟨ret_bool (back_label tp _ _), below_drewN (((Below.refl _ _).alloc (Nat.le_refl _) _).alloc (by simp) _) _⟩

/-- THE WALK, WHATEVER THE INPUT. -/
theorem walk (a0 a1 : Bool) (nm : ByteArray) (tp : Int) (w : World) (l : -9223372036854775808 ≤ tp) (hpos : 0 < w.heap.size)
    (hb : w.cell? ⟨0, 60, none⟩ = some (.string brkS)) (hk : w.cell? ⟨0, 61, none⟩ = some (.string conS)) :
    Calls Ebcg.prog 3 #[.bool a0, .bool a1, .string nm, .int .i64 tp] w fun e w' => e = .returned (.bool true) ∧ Below w.heap.size w w' := by
  by_cases h : nm.size ≤ 1048576
  · by_cases h2 : nm.size ≤ 65536
    · by_cases h3 : tp ≤ 9223372036854710255
      · cases a0 <;> cases a1
        · exact walk_bare_brk nm tp w h h2 l h3 hpos hb
        · exact walk_label_brk nm tp w h h2 l h3 hpos hb
        · exact walk_bare_con nm tp w h h2 l h3 hpos hk
        · exact walk_label_con nm tp w h h2 l h3 hpos hk
      · exact walk_far a0 a1 nm tp w h h2 (by omega)
    · exact walk_mid a0 a1 nm tp w h (by omega)
  · exact walk_long a0 a1 nm tp w (by omega)

end Go.Proofs.YoebcwDoor
