/-
  THE CONTRACTS of the functions that FnBranchStmtSpanMatchesText calls: each at the arguments of this law.
-/
import Derived.Test.YoebcwDoorProg
import Derived.WalkKit
import Derived.Deep.QuietTactic
import Derived.BigQuiet
namespace Go.Proofs.YoebcwDoor

def brkS : ByteArray := { data := #[98, 114, 101, 97, 107] }
def conS : ByteArray := { data := #[99, 111, 110, 116, 105, 110, 117, 101] }

theorem tok_any (i : Int) (s : ByteArray) (w : World) (h0 : 0 ≤ i) (h1 : i < 75) (hs : s.toList.isEmpty = false) (hc : w.cell? ⟨0, i.toNat, none⟩ = some (.string s)) :
    Calls Ebcg.prog 11 #[.int .i64 i] w fun e w' => e = .returned (.string s) ∧ w' = w := by
  go_enter Ebcg.func11, Ebcg.ntmps11
  go_wp2
  go_ret
  exact ⟨rfl, rfl⟩

/-- '(*Ident).End'. -/
theorem ident_end (b : Nat) (s : ByteArray) (np : Int) (w : World) (hs : s.size ≤ 65536) (l : -9223372036854775808 ≤ np) (u : np ≤ 9223372036854710271)
    (hn : w.cell? ⟨b, 0, none⟩ = some (.string s)) (hp : w.cell? ⟨b, 1, none⟩ = some (.int .i64 np)) :
    Calls Ebcg.prog 10 #[.pointer (some ⟨b, 0, none⟩)] w fun e w' => e = .returned (.int .i64 (np + s.size)) ∧ ∃ n, w' = w.drewN n := by
  go_enter Ebcg.func10, Ebcg.ntmps10
  go_wp2
  go_quiet (fail)
  go_wp2
  go_ret
  exact ⟨rfl, _, rfl⟩

/-- '(*BranchStmt).Pos'. -/
theorem branch_pos (b : Nat) (tp : Int) (w : World) (hp : w.cell? ⟨b, 1, none⟩ = some (.int .i64 tp)) :
    Calls Ebcg.prog 7 #[.pointer (some ⟨b, 0, none⟩)] w fun e w' => e = .returned (.int .i64 tp) ∧ w' = w := by
  go_enter Ebcg.func7, Ebcg.ntmps7
  go_wp2
  go_ret
  exact ⟨rfl, rfl⟩

/-- '(*BranchStmt).End', no label. -/
theorem branch_end_bare (b : Nat) (i tp : Int) (s : ByteArray) (w : World) (h0 : 0 ≤ i) (h1 : i < 75) (hs : s.toList.isEmpty = false) (hz : s.size ≤ 65536) (l : -9223372036854775808 ≤ tp) (u : tp ≤ 9223372036854710255)
    (hc : w.cell? ⟨0, i.toNat, none⟩ = some (.string s))
    (ht : w.cell? ⟨b, 0, none⟩ = some (.int .i64 i)) (hp : w.cell? ⟨b, 1, none⟩ = some (.int .i64 tp)) (hl : w.cell? ⟨b, 2, none⟩ = some (.pointer none)) :
    Calls Ebcg.prog 8 #[.pointer (some ⟨b, 0, none⟩)] w fun e w' => e = .returned (.int .i64 (tp + s.size)) ∧ ∃ n, w' = w.drewN n := by
  go_enter Ebcg.func8, Ebcg.ntmps8
  go_wp2
  go_quiet ((go_at_call 11; exact Calls.quiet_of_same (tok_any i s _ h0 h1 hs hc)))
  go_wp2
  go_ret
  exact ⟨rfl, _, rfl⟩

/-- '(*BranchStmt).End', with a label. -/
theorem branch_end_label (b c : Nat) (np : Int) (s : ByteArray) (w : World) (hz : s.size ≤ 65536) (l : -9223372036854775808 ≤ np) (u : np ≤ 9223372036854710271)
    (hl : w.cell? ⟨b, 2, none⟩ = some (.pointer (some ⟨c, 0, none⟩)))
    (hn : w.cell? ⟨c, 0, none⟩ = some (.string s)) (hp : w.cell? ⟨c, 1, none⟩ = some (.int .i64 np)) :
    Calls Ebcg.prog 8 #[.pointer (some ⟨b, 0, none⟩)] w fun e w' => e = .returned (.int .i64 (np + s.size)) ∧ ∃ n, w' = w.drewN n := by
  go_enter Ebcg.func8, Ebcg.ntmps8
  go_wp2_with (go_at_call 10; refine (ident_end c s np _ hz l u hn hp).mono ?_; rintro e w' ⟨rfl, n, rfl⟩)
  go_ret
  exact ⟨rfl, _, rfl⟩

/-- '(*BranchStmt).String', no label. -/
theorem branch_text_bare (b : Nat) (i : Int) (s : ByteArray) (w : World) (h0 : 0 ≤ i) (h1 : i < 75) (hs : s.toList.isEmpty = false) (hz : s.size ≤ 65536)
    (hc : w.cell? ⟨0, i.toNat, none⟩ = some (.string s))
    (ht : w.cell? ⟨b, 0, none⟩ = some (.int .i64 i)) (hl : w.cell? ⟨b, 2, none⟩ = some (.pointer none)) :
    Calls Ebcg.prog 9 #[.pointer (some ⟨b, 0, none⟩)] w fun e w' => (∃ t : ByteArray, e = .returned (.string t) ∧ t.size = s.size) ∧ w' = w := by
  go_enter Ebcg.func9, Ebcg.ntmps9
  go_wp2_with (go_at_call 11; refine (tok_any i s _ h0 h1 hs hc).mono ?_; rintro e w' ⟨rfl, rfl⟩)
  go_ret
  exact ⟨⟨_, rfl, by simp; rfl⟩, rfl⟩

/-- '(*BranchStmt).String', with a label. -/
theorem branch_text_label (b c : Nat) (i : Int) (s nm : ByteArray) (w : World) (h0 : 0 ≤ i) (h1 : i < 75) (hs : s.toList.isEmpty = false) (hz : s.size ≤ 65536) (hm : nm.size ≤ 65536)
    (hc : w.cell? ⟨0, i.toNat, none⟩ = some (.string s))
    (ht : w.cell? ⟨b, 0, none⟩ = some (.int .i64 i)) (hl : w.cell? ⟨b, 2, none⟩ = some (.pointer (some ⟨c, 0, none⟩)))
    (hn : w.cell? ⟨c, 0, none⟩ = some (.string nm)) :
    Calls Ebcg.prog 9 #[.pointer (some ⟨b, 0, none⟩)] w fun e w' => (∃ t : ByteArray, e = .returned (.string t) ∧ t.size = s.size + (1 + nm.size)) ∧ w' = w := by
  go_enter Ebcg.func9, Ebcg.ntmps9
  go_wp2_with (go_at_call 11; refine (tok_any i s _ h0 h1 hs hc).mono ?_; rintro e w' ⟨rfl, rfl⟩)
  go_ret
  exact ⟨⟨_, rfl, by simp; rfl⟩, rfl⟩

end Go.Proofs.YoebcwDoor
