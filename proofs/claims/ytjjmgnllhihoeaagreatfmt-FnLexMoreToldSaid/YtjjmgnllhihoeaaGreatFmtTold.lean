/- The statement's function at every start that the row speaks of: it returns true and leaves what was there; and a start that meets the row is shown to be there. -/
import Derived.Test.YtjjmgnllhihoeaaGreatFmtLaw
import Derived.Test.YtjjmgnllhihoeaaGreatFmtTie
import Derived.Test.YtjjmgnllhihoeaaGreatFmtCards
import Derived.ProofKit
import Derived.Stop.JoinedAt
import Derived.Stop.Texts
import Derived.Stop.JoinedTold
import Derived.Stop.LaidErr
import Derived.Lib.LaidTab
import Derived.Lib.LaidU8
import Derived.Lib.LaidIn
import Derived.Lib.LaidSlice
import Derived.SizedLaws
import Derived.Deep.DeepWitnessRef
import Derived.Deep.DeepWitnessRowRef
set_option linter.unusedSimpArgs false
set_option linter.unusedVariables false
namespace Go.Proofs.YtjjmgnllhihoeaaGreatFmt
open Go.ChangeShapes Go.WideShapes Go.ChangeAt Go.RowKit Go.Kit Go.Lib Go.Shelf
open Go.ChangeMaps (open_string shut_string)
open Go.Extern.Stop Go.Stop Go.Extern

theorem Tryz.own : ownKnob Tryz.prog.godebug = none := by kernel_rfl

abbrev laidAll : List (String × DataW Unit) := Rows.fnLexMoreRow.laid

def accCells : Array Value := #[.int .u8 128, .int .u8 191, .int .u8 160, .int .u8 191, .int .u8 128, .int .u8 159, .int .u8 144, .int .u8 191, .int .u8 128, .int .u8 143, .int .u8 0, .int .u8 0, .int .u8 0, .int .u8 0, .int .u8 0, .int .u8 0, .int .u8 0, .int .u8 0, .int .u8 0, .int .u8 0, .int .u8 0, .int .u8 0, .int .u8 0, .int .u8 0, .int .u8 0, .int .u8 0, .int .u8 0, .int .u8 0, .int .u8 0, .int .u8 0, .int .u8 0, .int .u8 0]

noncomputable def laidWorld (os : Os) : World :=
  let N := (World.settled Tryz.prog os).heap.size
  let w0 := World.holding Tryz.prog os ⟨#[.cells #[.string ⟨#[98, 121, 116, 101, 115, 46, 66, 117, 102, 102, 101, 114, 58, 32, 116, 111, 111, 32, 108, 97, 114, 103, 101]⟩] 160,
    .cells (intCellsOf .u16 Go.Pinned.isPrint16Z) 135, .cells (intCellsOf .u16 Go.Pinned.isNotPrint16Z) 135, .cells (intCellsOf .u32 Go.Pinned.isPrint32Z) 115, .cells (intCellsOf .u16 Go.Pinned.isNotPrint32Z) 135, .cells (intCellsOf .u16 Go.Pinned.isGraphicZ) 135], #[], []⟩
  let put (h : Array Obj) (g : Nat) (cs : Array Value) : Array Obj := h.modify g fun
    | .cells _ t frozen => .cells cs t frozen
    | o => o
  let h0 := put w0.heap 0 (Go.Pinned.utf8FirstZ.map fun (n : Nat) => Value.int .u8 (Int.ofNat n)).toArray
  let h1 := put h0 1 accCells
  let h2 := put h1 2 #[.iface 140 (.pointer (some ⟨N, 0, none⟩))]
  let h3 := put h2 3 #[.slice (some ⟨N + 1, 0, none⟩) Go.Pinned.isPrint16Z.length Go.Pinned.isPrint16Z.length]
  let h4 := put h3 4 #[.slice (some ⟨N + 2, 0, none⟩) Go.Pinned.isNotPrint16Z.length Go.Pinned.isNotPrint16Z.length]
  let h5 := put h4 5 #[.slice (some ⟨N + 3, 0, none⟩) Go.Pinned.isPrint32Z.length Go.Pinned.isPrint32Z.length]
  let h6 := put h5 6 #[.slice (some ⟨N + 4, 0, none⟩) Go.Pinned.isNotPrint32Z.length Go.Pinned.isNotPrint32Z.length]
  let h7 := put h6 7 #[.slice (some ⟨N + 5, 0, none⟩) Go.Pinned.isGraphicZ.length Go.Pinned.isGraphicZ.length]
  { w0 with heap := h7 }

noncomputable abbrev N0 : Nat := (World.settled Tryz.prog default).heap.size

set_option maxRecDepth 1000000 in
theorem piece0 (os : Os) (args : Array Value) : LaidIn Tryz.prog ((laidWorld os).forCall (fun _ _ => 0) ⟨#[], args, []⟩).memory (laidAll.take 2) [1, 2, N0 + 0] :=
  LaidIn.of_run [1, 2, N0 + 0] 10 (by kernel_rfl) (by kernel_rfl) (by kernel_rfl) (by kernel_rfl)
set_option maxRecDepth 1000000 in
theorem piece1 (os : Os) (args : Array Value) : LaidIn Tryz.prog ((laidWorld os).forCall (fun _ _ => 0) ⟨#[], args, []⟩).memory [("strconv.isGraphic", sliceData .u16 Go.Pinned.isGraphicZ)] [7, N0 + 5] :=
  laidIn_slice (name := "strconv.isGraphic") (g := 7) (t := 136) (e := 135) (te := 135) Go.Pinned.isGraphicZ (N0 + 5) (by kernel_rfl) (by kernel_rfl) (by kernel_rfl) (by kernel_rfl) (by kernel_rfl) (by kernel_rfl) (by kernel_rfl) (by kernel_rfl) (Nat.le_of_ble_eq_true (by kernel_rfl)) (of_decide_eq_true (by kernel_rfl))
set_option maxRecDepth 1000000 in
theorem piece2 (os : Os) (args : Array Value) : LaidIn Tryz.prog ((laidWorld os).forCall (fun _ _ => 0) ⟨#[], args, []⟩).memory [("strconv.isNotPrint16", sliceData .u16 Go.Pinned.isNotPrint16Z)] [4, N0 + 2] :=
  laidIn_slice (name := "strconv.isNotPrint16") (g := 4) (t := 136) (e := 135) (te := 135) Go.Pinned.isNotPrint16Z (N0 + 2) (by kernel_rfl) (by kernel_rfl) (by kernel_rfl) (by kernel_rfl) (by kernel_rfl) (by kernel_rfl) (by kernel_rfl) (by kernel_rfl) (Nat.le_of_ble_eq_true (by kernel_rfl)) (of_decide_eq_true (by kernel_rfl))
set_option maxRecDepth 1000000 in
theorem piece3 (os : Os) (args : Array Value) : LaidIn Tryz.prog ((laidWorld os).forCall (fun _ _ => 0) ⟨#[], args, []⟩).memory [("strconv.isNotPrint32", sliceData .u16 Go.Pinned.isNotPrint32Z)] [6, N0 + 4] :=
  laidIn_slice (name := "strconv.isNotPrint32") (g := 6) (t := 136) (e := 135) (te := 135) Go.Pinned.isNotPrint32Z (N0 + 4) (by kernel_rfl) (by kernel_rfl) (by kernel_rfl) (by kernel_rfl) (by kernel_rfl) (by kernel_rfl) (by kernel_rfl) (by kernel_rfl) (Nat.le_of_ble_eq_true (by kernel_rfl)) (of_decide_eq_true (by kernel_rfl))
set_option maxRecDepth 1000000 in
theorem piece4 (os : Os) (args : Array Value) : LaidIn Tryz.prog ((laidWorld os).forCall (fun _ _ => 0) ⟨#[], args, []⟩).memory [("strconv.isPrint16", sliceData .u16 Go.Pinned.isPrint16Z)] [3, N0 + 1] :=
  laidIn_slice (name := "strconv.isPrint16") (g := 3) (t := 136) (e := 135) (te := 135) Go.Pinned.isPrint16Z (N0 + 1) (by kernel_rfl) (by kernel_rfl) (by kernel_rfl) (by kernel_rfl) (by kernel_rfl) (by kernel_rfl) (by kernel_rfl) (by kernel_rfl) (Nat.le_of_ble_eq_true (by kernel_rfl)) (of_decide_eq_true (by kernel_rfl))
set_option maxRecDepth 1000000 in
theorem piece5 (os : Os) (args : Array Value) : LaidIn Tryz.prog ((laidWorld os).forCall (fun _ _ => 0) ⟨#[], args, []⟩).memory [("strconv.isPrint32", sliceData .u32 Go.Pinned.isPrint32Z)] [5, N0 + 3] :=
  laidIn_slice (name := "strconv.isPrint32") (g := 5) (t := 138) (e := 115) (te := 115) Go.Pinned.isPrint32Z (N0 + 3) (by kernel_rfl) (by kernel_rfl) (by kernel_rfl) (by kernel_rfl) (by kernel_rfl) (by kernel_rfl) (by kernel_rfl) (by kernel_rfl) (Nat.le_of_ble_eq_true (by kernel_rfl)) (of_decide_eq_true (by kernel_rfl))
set_option maxRecDepth 1000000 in
theorem piece6 (os : Os) (args : Array Value) : LaidIn Tryz.prog ((laidWorld os).forCall (fun _ _ => 0) ⟨#[], args, []⟩).memory (laidAll.drop 7) [0] :=
  LaidIn.of_run [0] 10 (by kernel_rfl) (by kernel_rfl) (by kernel_rfl) (by kernel_rfl)

set_option maxRecDepth 1000000 in
theorem laid_met (os : Os) (args : Array Value) : laidMet Tryz.prog laidAll ((laidWorld os).forCall (fun _ _ => 0) ⟨#[], args, []⟩).memory :=
  ((piece0 os args).append ((piece1 os args).append ((piece2 os args).append ((piece3 os args).append ((piece4 os args).append ((piece5 os args).append (piece6 os args) (by kernel_rfl)) (by kernel_rfl)) (by kernel_rfl)) (by kernel_rfl)) (by kernel_rfl)) (by kernel_rfl)).met

theorem witness_row (os : Os) {H : Type} (enc : TypeId × Value → H) :
    (OpenSpec.ofChange Rows.fnLexMoreSpec).preRow enc Tryz.prog Tryz.f3 Rows.fnLexMoreRow.domain false Rows.fnLexMoreRow.laid ((laidWorld os).forCall (fun _ _ => 0) ⟨#[], #[.string ⟨#[]⟩, .string ⟨#[]⟩], []⟩).memory #[.string ⟨#[]⟩, .string ⟨#[]⟩] := by
  have hw : (DataW.whole enc Tryz.prog ((laidWorld os).forCall (fun _ _ => 0) ⟨#[], #[.string ⟨#[]⟩, .string ⟨#[]⟩], []⟩).memory Tryz.f3.params.toList (OpenSpec.ofChange Rows.fnLexMoreSpec).vars false #[Value.string ⟨#[]⟩, Value.string ⟨#[]⟩].toList 8).map (fun x => (x.1, x.2.1)) =
      some ([.lit (.string []), .lit (.string [])], []) := by kernel_rfl
  obtain ⟨⟨x1, x2, x3⟩, hx, hx1⟩ := Option.map_eq_some_iff.1 hw
  simp only [Prod.mk.injEq] at hx1
  obtain ⟨rfl, rfl⟩ := hx1
  exact OpenSpec.preRow_of_cond 8 hx (by kernel_rfl) (fun k hk => by cases hk) (by kernel_rfl) (laid_met os _)

theorem first_is : Rows.laid_unicode_utf8_first = Lib.firstData := by kernel_rfl
theorem accept_is : (Rows.laid_unicode_utf8_acceptRanges : DataW Unit) = Lib.acceptData := by kernel_rfl

set_option maxRecDepth 100000 in
set_option maxHeartbeats 4000000 in
theorem t_lifted (os : Os) (started : os.Started) (H : Type) (enc : TypeId × Value → H) :
    ReturnsInTold none {} Tryz.checked os 3 .any Input.okWide ((OpenSpec.ofChange Rows.fnLexMoreSpec).preRow enc Tryz.prog Tryz.f3 Rows.fnLexMoreRow.domain false Rows.fnLexMoreRow.laid) (fun F => ((OpenSpec.ofChange Rows.fnLexMoreSpec).at F).post enc Tryz.prog Tryz.f3 false true false false) (aloneAtReturn Tryz.prog) nothingAlways := by
  refine returnsInTold_of_row (C := Tryz.checked) (s := OpenSpec.ofChange Rows.fnLexMoreSpec) (by kernel_rfl) Tryz.own started (by kernel_rfl) Tryz.func3
    (OpenSpec.witness_stopped_atRef (enc := enc) (C := Tryz.checked) false (laidWorld os) #[.string ⟨#[]⟩, .string ⟨#[]⟩] rfl (by kernel_rfl) (by kernel_rfl) (by kernel_rfl) (witness_row os enc)) ?_
  intro F W base args ds gs before _ hF hval0 hW _ _ _ hL _
  have hval : ∀ (j : Nat) t v, Tryz.f3.params[j]? = some t → args[j]? = some v → Value.okWide Tryz.prog W .any base t v := hval0
  have hW' := hW
  obtain ⟨p, q, hA0, hV0, rfl, _, _⟩ := hW
  have hA : DataW.TrodAll enc Tryz.prog W 0 (fun _ => true) true Tryz.f3.params.toList args.toList ds p := hA0
  rw [Tryz.params3] at hA hval
  obtain ⟨v0, v1, d0, d1, p0, p1, rfl, rfl, hp, h0, h1⟩ := trodAll_two hA
  obtain ⟨rfl, rfl⟩ := trodVars_none hV0
  obtain ⟨s, rfl, rfl, rfl, ws⟩ := open_string Tryz.underlying9 (hval 0 9 v0 rfl rfl) h0
  obtain ⟨r, rfl, rfl, rfl, wr⟩ := open_string Tryz.underlying9 (hval 1 9 v1 rfl rfl) h1
  clear hA0 hV0 hval0
  have hL' : laidMet Tryz.prog laidAll W := hL
  have hU : Lib.Utf8Tabs 0 1 W :=
    utf8Tabs_of_reads (ρ := Tryz.lays197_ren) { Tryz.lays197 with } ⟨by kernel_rfl, by kernel_rfl, by kernel_rfl, by kernel_rfl, by kernel_rfl, by kernel_rfl, by kernel_rfl⟩
      (first_is ▸ Lib.laidMet.reads hL' (by simp [laidAll, Rows.fnLexMoreRow])) (accept_is ▸ Lib.laidMet.reads hL' (by simp [laidAll, Rows.fnLexMoreRow]))
  have h2 : 2 ≤ W.heap.size := block_lt_of_cell (hU.2 0 (by omega)).1
  have e1 : ((OpenSpec.ofChange Rows.fnLexMoreSpec).at F.told).fn H ([.lit (.string s.data.toList), .lit (.string r.data.toList)] ++ []) = { results := [.lit (.bool true)], args := [.lit (.string s.data.toList), .lit (.string r.data.toList)] } := rfl
  refine (FnLexMore_any s r W h2 hU).mono ?_
  rintro e W' ⟨rfl, hnx⟩
  refine ⟨_, rfl, _, _, _, [], [], [], hW', ?_, ?_, ?_, hnx.frame _, fun h => by cases h⟩
  · rw [e1]; exact trodAll_mk1 (shut_bool Tryz.underlying4 true)
  · rw [e1]; exact trodAll_mk2 (shut_string Tryz.underlying9 ws) (shut_string Tryz.underlying9 wr)
  · rw [e1]; rfl
end Go.Proofs.YtjjmgnllhihoeaaGreatFmt
