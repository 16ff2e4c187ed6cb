/-
  THE ROW of FnBranchStmtSpanMatchesText, out of the walk: the two cells of the table of tokens that the walk reads come from the row's own list.
-/
import Derived.Test.YoebcwDoorRows
import Derived.Test.YoebcwDoorWalk
import Derived.ProofKit
import Derived.LaidMore
import Derived.OpenShut
import Derived.OpenVars
import Derived.ShutString
import Derived.Stop.Joined
namespace Go.Proofs.YoebcwDoor
open Go.ChangeShapes Go.WideShapes Go.ChangeAt Go.WideMaps Go.WideElems Go.RowKit
open Go.ChangeMaps (open_string shut_string)

theorem own : ownKnob Ebcg.prog.godebug = none := by kernel_rfl
theorem laidOut : laidOutB Ebcg.prog = true := by kernel_rfl
/-- The table's name, as the specification lists it. -/
def tokName : String := Rows.fnBranchStmtSpanMatchesTextSpec.vars.headD ""
theorem gTok : Ebcg.prog.globalNamed tokName = some 0 := by kernel_rfl
theorem tTok : (Ebcg.prog.globals[0]?).map (·.type) = some 35 := by kernel_rfl
theorem cells9 : Ebcg.prog.cellsOf 9 = 1 := by kernel_rfl
theorem varsRow : varsRowed Ebcg.prog Rows.fnBranchStmtSpanMatchesTextSpec.vars = true := by kernel_rfl
def laid4 : List (String × DataW Unit) := Rows.fnBranchStmtSpanMatchesTextRow.laid

/-- The door's own heap meets the condition: three closed facts. -/
theorem door_met (os : Os) (args : Array Value) : laidMetH Ebcg.prog laid4 ((World.doorLaid Ebcg.prog 29 os).forCall (fun _ _ => 0) ⟨#[], args, []⟩).memory :=
  laidMetH_of_parts3 (fuel := 8) (laidMet_of_run' 8 (by kernel_rfl) (by kernel_rfl)) (by kernel_rfl) (by kernel_rfl)

/-- AN ARRAY OF STRINGS, CELL BY CELL. -/
theorem cell_of_strs {H : Type} {enc : TypeId × Value → H} {P : Program} {w : World} {base : Nat} {sp : Nat → Bool} {held : Bool} {fuel : Nat} {t e : TypeId} {n : Nat} {cs : List Value} {ds : List (DataW H)} {p : List MemPlace}
    (ht : P.underlying t = some (.array n e)) (he : P.underlying e = some .string) (hce : P.cellsOf e = 1)
    (h : DataW.trod enc P w base sp held fuel t cs = some (.agg ds, p)) (i : Nat) (hi : i < n) (b : List UInt8) (hd : ds[i]? = some (.lit (.string b))) :
    cs[i]? = some (.string ⟨b.toArray⟩) := by
  obtain ⟨xs, m, _, hx, _, hl, hel⟩ := DataW.trod_array ht h
  simp only [Prod.mk.injEq, DataW.agg.injEq] at hx
  have h1 := hel i hi
  obtain ⟨y, hy⟩ : ∃ y, xs[i]? = some y := ⟨_, List.getElem?_eq_getElem (by omega)⟩
  rw [hy, hce] at h1
  obtain ⟨s, hc, rfl, _⟩ := DataW.trod_string he h1
  rw [hx.1, List.getElem?_map, hy] at hd
  simp only [Option.map_some, Option.some.injEq, DataW.lit.injEq, Lit.string.injEq] at hd
  subst hd
  have h2 := congrArg (·[0]?) hc
  simpa [List.getElem?_take, List.getElem?_drop] using h2

/-- WHAT THE CONDITION GIVES THE WALK. -/
theorem of_laid {W : World} (h : laidMetH Ebcg.prog laid4 W) : W.cell? ⟨0, 60, none⟩ = some (.string brkS) ∧ W.cell? ⟨0, 61, none⟩ = some (.string conS) := by
  rw [MakeChecks.laidMetH_plain _ _ _ (by kernel_rfl)] at h
  obtain ⟨ps, ⟨_, _, _, _, _, _, _, _, _, _, ⟨_, _, _, _, _, _, _, _, _, _, ⟨_, _, _, _, _, _, _, _, _, _, ⟨g, t, cs, f, p, q, hg, ht, hv, hd, _, _⟩, _⟩, _⟩, _⟩, _, _⟩ := h
  obtain rfl := Option.some.inj (gTok.symm.trans hg)
  obtain rfl := Option.some.inj (tTok.symm.trans ht)
  have c0 := cell_of_strs Ebcg.underlying35 Ebcg.underlying9 cells9 hd 60 (by decide) [98, 114, 101, 97, 107] rfl
  have c1 := cell_of_strs Ebcg.underlying35 Ebcg.underlying9 cells9 hd 61 (by decide) [99, 111, 110, 116, 105, 110, 117, 101] rfl
  refine ⟨?_, ?_⟩
  · rw [World.var?_cell hg hv 60]; simpa [brkS] using c0
  · rw [World.var?_cell hg hv 61]; simpa [conS] using c1

set_option maxRecDepth 100000 in
theorem lifted (os : Os) (started : os.Started) (H : Type) (enc : TypeId × Value → H) :
    ReturnsInHanded {} Ebcg.checked os 3 .any (fun w args => (Rows.fnBranchStmtSpanMatchesTextSpec.pre enc Ebcg.prog Ebcg.f3 [] false w args ∧ laidMetH Ebcg.prog laid4 w) ∧ sizedMet enc Ebcg.prog Ebcg.f3 (OpenSpec.ofChange Rows.fnBranchStmtSpanMatchesTextSpec) false w args)
      (Rows.fnBranchStmtSpanMatchesTextSpec.post enc Ebcg.prog Ebcg.f3 false true false false) := by
  refine returnsInHanded_of_change_and (C := Ebcg.checked) (X := fun w _ => laidMetH Ebcg.prog laid4 w) (fun _ _ _ hh h => h.of_heap hh) own started (by kernel_rfl) Ebcg.func3
    (ChangeSpec.witness_shaped (enc := enc) (C := Ebcg.checked) (os := os) (X := fun w _ => laidMetH Ebcg.prog laid4 w) false (World.doorLaid Ebcg.prog 29 os) #[.bool false, .bool false, .string ⟨#[]⟩, .int .i64 0] 8 rfl (World.shaped_of_RefB (by kernel_rfl) (by kernel_rfl)) (by kernel_rfl) (by kernel_rfl) (by kernel_rfl) (door_met os _)) ?_
  intro W base args ds gs before hval0 hW _ _ hL _
  have hval : ∀ (j : Nat) t v, Ebcg.f3.params[j]? = some t → args[j]? = some v → Value.okWide Ebcg.prog W .any base t v := hval0
  have hW' := hW
  obtain ⟨p, q, hA0, hV, rfl, hfz, hnd⟩ := hW
  have hA : DataW.TrodAll enc Ebcg.prog W 0 (fun _ => true) true Ebcg.f3.params.toList args.toList ds p := hA0
  rw [Ebcg.params3] at hA hval
  obtain ⟨v0, vs0, d0, ds0, p0, q0, hargs, rfl, rfl, h0, r0⟩ := trodAll_cons hA
  obtain ⟨v1, vs1, d1, ds1, p1, q1, rfl, rfl, rfl, h1, r1⟩ := trodAll_cons r0
  obtain ⟨v2, vs2, d2, ds2, p2, q2, rfl, rfl, rfl, h2, r2⟩ := trodAll_cons r1
  obtain ⟨v3, vs3, d3, ds3, p3, q3, rfl, rfl, rfl, h3, r3⟩ := trodAll_cons r2
  obtain ⟨rfl, rfl, rfl⟩ := trodAll_nil r3
  obtain rfl : args = #[v0, v1, v2, v3] := by cases args; simp_all
  obtain ⟨a0, rfl, rfl, rfl⟩ := open_bool Ebcg.underlying4 (hval 0 4 v0 rfl rfl) h0
  obtain ⟨a1, rfl, rfl, rfl⟩ := open_bool Ebcg.underlying4 (hval 1 4 v1 rfl rfl) h1
  obtain ⟨nm, rfl, rfl, rfl, hs⟩ := open_string Ebcg.underlying9 (hval 2 9 v2 rfl rfl) h2
  obtain ⟨tp, rfl, rfl, rfl, w3⟩ := open_int Ebcg.underlying3 (hval 3 3 v3 rfl rfl) h3
  obtain ⟨hb60, hb61⟩ := of_laid hL
  obtain ⟨g, t, cs, fuel, d, p', rfl, _⟩ := trodVars_one hV
  clear hA0 hval0
  simp only [List.append_nil] at hW'
  refine (walk a0 a1 nm tp W (bounds_i64 w3).1 (World.block_lt_of_cell? W _ hb60) hb60 hb61).mono fun e W' ⟨he, hb⟩ => ?_
  subst he
  exact ⟨_, rfl, _, _, _, [], [], q, hW', trodAll_cons_mk (shut_bool Ebcg.underlying4 _) trodAll_mk0,
    trodAll_cons_mk (shut_bool Ebcg.underlying4 _) (trodAll_cons_mk (shut_bool Ebcg.underlying4 _) (trodAll_cons_mk (shut_string Ebcg.underlying9 hs) (trodAll_cons_mk (shut_int Ebcg.underlying3 w3) trodAll_mk0))),
    Below.trodVars laidOut hb varsRow hV, hb.frame _, fun h => by cases h⟩

theorem row_holds : Rows.FnBranchStmtSpanMatchesTextSaid :=
  OpenClaim.holds_of_wide 3 Ebcg.f3 rfl rfl rfl rfl rfl rfl rfl ⟨rfl, rfl, rfl, rfl, rfl⟩ rfl rfl rfl rfl rfl (by kernel_rfl) Ebcg.func3 (by kernel_rfl)
    (of_decide_eq_true (by kernel_rfl)) (by unfold Func.isWrapper; first | (rw [if_pos (by decide +kernel)]; kernel_rfl) | (rw [if_neg (by decide +kernel)]; exact ⟨rfl, rfl⟩))
    (fun os started H enc _ => lifted os started H enc)
end Go.Proofs.YoebcwDoor
