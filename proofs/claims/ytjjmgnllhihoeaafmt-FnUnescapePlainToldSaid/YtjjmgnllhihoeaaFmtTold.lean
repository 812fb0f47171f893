/- The statement's function at every start that the row speaks of: it returns true and leaves what was there; and a start that meets the row is shown to be there. -/
import Derived.Test.YtjjmgnllhihoeaaFmtWalkC
import Derived.Test.YtjjmgnllhihoeaaFmtTie
import Derived.Test.YtjjmgnllhihoeaaFmtCards
import Derived.ProofKit
import Derived.Stop.JoinedAt
import Derived.Stop.Texts
import Derived.Stop.JoinedTold
import Derived.Stop.LaidErr
import Derived.Lib.LaidTab
import Derived.Lib.LaidU8
import Derived.Lib.LaidIn
import Derived.SizedLaws
import Derived.Deep.DeepWitnessRef
import Derived.Deep.DeepWitnessRowRef
namespace Go.Proofs.YtjjmgnllhihoeaaFmt
open Go.ChangeShapes Go.WideShapes Go.ChangeAt Go.RowKit Go.Kit Go.Lib Go.Shelf
open Go.ChangeMaps (open_string shut_string)
open Go.Extern.Stop Go.Stop Go.Extern

theorem Tryf.own : ownKnob Tryf.prog.godebug = none := by kernel_rfl
theorem star : "*" ++ "errors.errorString" = "*errors.errorString" := by decide
theorem Tryf.row73 (u : TypeId) (h : Tryf.prog.typeName? 3 u = some "*errors.errorString") : u = 73 :=
  typeName_ptr_named (nm := "errors.errorString") (by rw [star]; kernel_rfl) (by kernel_rfl) (by decide) u (by rw [star]; exact h)

abbrev laidAll : List (String × DataW Unit) := Rows.fnUnescapePlainRow.laid

def accCells : Array Value := #[.int .u8 128, .int .u8 191, .int .u8 160, .int .u8 191, .int .u8 128, .int .u8 159, .int .u8 144, .int .u8 191, .int .u8 128, .int .u8 143, .int .u8 0, .int .u8 0, .int .u8 0, .int .u8 0, .int .u8 0, .int .u8 0, .int .u8 0, .int .u8 0, .int .u8 0, .int .u8 0, .int .u8 0, .int .u8 0, .int .u8 0, .int .u8 0, .int .u8 0, .int .u8 0, .int .u8 0, .int .u8 0, .int .u8 0, .int .u8 0, .int .u8 0, .int .u8 0]

noncomputable def laidWorld (os : Os) : World :=
  let N := (World.settled Tryf.prog os).heap.size
  let w0 := World.holding Tryf.prog os ⟨#[.cells #[.string ⟨#[98, 121, 116, 101, 115, 46, 66, 117, 102, 102, 101, 114, 58, 32, 116, 111, 111, 32, 108, 97, 114, 103, 101]⟩] 98, .cells #[.string ⟨#[101, 110, 99, 111, 100, 105, 110, 103, 47, 104, 101, 120, 58, 32, 111, 100, 100, 32, 108, 101, 110, 103, 116, 104, 32, 104, 101, 120, 32, 115, 116, 114, 105, 110, 103]⟩] 98], #[], []⟩
  let put (h : Array Obj) (g : Nat) (cs : Array Value) : Array Obj := h.modify g fun
    | .cells _ t frozen => .cells cs t frozen
    | o => o
  let h0 := put w0.heap 0 (Go.Pinned.utf8FirstZ.map fun (n : Nat) => Value.int .u8 (Int.ofNat n)).toArray
  let h1 := put h0 1 accCells
  let h2 := put h1 2 #[.iface 73 (.pointer (some ⟨N, 0, none⟩))]
  let h3 := put h2 3 #[.iface 73 (.pointer (some ⟨N + 1, 0, none⟩))]
  { w0 with heap := h3 }

noncomputable abbrev N0 : Nat := (World.settled Tryf.prog default).heap.size
set_option maxRecDepth 1000000 in
theorem piece (os : Os) (args : Array Value) : LaidIn Tryf.prog ((laidWorld os).forCall (fun _ _ => 0) ⟨#[], args, []⟩).memory laidAll [1, 2, N0 + 0, 3, N0 + 1, 0] :=
  LaidIn.of_run [1, 2, N0 + 0, 3, N0 + 1, 0] 10 (by kernel_rfl) (by kernel_rfl) (by kernel_rfl) (by kernel_rfl)

theorem witness_row (os : Os) {H : Type} (enc : TypeId × Value → H) :
    (OpenSpec.ofChange Rows.fnUnescapePlainSpec).preRow enc Tryf.prog Tryf.f3 Rows.fnUnescapePlainRow.domain false Rows.fnUnescapePlainRow.laid ((laidWorld os).forCall (fun _ _ => 0) ⟨#[], #[.string ⟨#[]⟩], []⟩).memory #[.string ⟨#[]⟩] := by
  have hw : (DataW.whole enc Tryf.prog ((laidWorld os).forCall (fun _ _ => 0) ⟨#[], #[.string ⟨#[]⟩], []⟩).memory Tryf.f3.params.toList (OpenSpec.ofChange Rows.fnUnescapePlainSpec).vars false #[Value.string ⟨#[]⟩].toList 8).map (fun x => (x.1, x.2.1)) =
      some ([.lit (.string [])], []) := by kernel_rfl
  obtain ⟨⟨x1, x2, x3⟩, hx, hx1⟩ := Option.map_eq_some_iff.1 hw
  simp only [Prod.mk.injEq] at hx1
  obtain ⟨rfl, rfl⟩ := hx1
  exact OpenSpec.preRow_of_cond 8 hx (by kernel_rfl) (fun k hk => by cases hk) (by kernel_rfl) (piece os _).met

theorem first_is : Rows.laid_unicode_utf8_first = Lib.firstData := by kernel_rfl
theorem accept_is : (Rows.laid_unicode_utf8_acceptRanges : DataW Unit) = Lib.acceptData := by kernel_rfl

set_option maxRecDepth 100000 in
set_option maxHeartbeats 4000000 in
theorem t_lifted (os : Os) (started : os.Started) (H : Type) (enc : TypeId × Value → H) :
    ReturnsInTold none {} Tryf.checked os 3 .any Input.okWide ((OpenSpec.ofChange Rows.fnUnescapePlainSpec).preRow enc Tryf.prog Tryf.f3 Rows.fnUnescapePlainRow.domain false Rows.fnUnescapePlainRow.laid) (fun F => ((OpenSpec.ofChange Rows.fnUnescapePlainSpec).at F).post enc Tryf.prog Tryf.f3 false true false false) (aloneAtReturn Tryf.prog) nothingAlways := by
  refine returnsInTold_of_row (C := Tryf.checked) (s := OpenSpec.ofChange Rows.fnUnescapePlainSpec) (by kernel_rfl) Tryf.own started (by kernel_rfl) Tryf.func3
    (OpenSpec.witness_stopped_atRef (enc := enc) (C := Tryf.checked) false (laidWorld os) #[.string ⟨#[]⟩] rfl (by kernel_rfl) (by kernel_rfl) (by kernel_rfl) (witness_row os enc)) ?_
  intro F W base args ds gs before _ hF hval0 hW _ _ _ hL _
  have hval : ∀ (j : Nat) t v, Tryf.f3.params[j]? = some t → args[j]? = some v → Value.okWide Tryf.prog W .any base t v := hval0
  have hW' := hW
  obtain ⟨p, q, hA0, hV0, rfl, _, _⟩ := hW
  have hA : DataW.TrodAll enc Tryf.prog W 0 (fun _ => true) true Tryf.f3.params.toList args.toList ds p := hA0
  rw [Tryf.params3] at hA hval
  obtain ⟨v0, d0, rfl, rfl, h0⟩ := trodAll_one hA
  obtain ⟨rfl, rfl⟩ := trodVars_none hV0
  obtain ⟨s, rfl, rfl, rfl, ws⟩ := open_string Tryf.underlying9 (hval 0 9 v0 rfl rfl) h0
  clear hA0 hV0 hval0
  have hL' : laidMet Tryf.prog laidAll W := hL
  obtain ⟨a0, t0, hv0, hc0, ht0, _⟩ := laid_sentinel (g := 3) hL'.tail.tail (by kernel_rfl) (by kernel_rfl) Tryf.underlying27 Tryf.row73 Tryf.underlying73 Tryf.underlying98 rfl rfl Tryf.underlying9 (by kernel_rfl) (by kernel_rfl)
  have hU : Lib.Utf8Tabs 0 1 W :=
    utf8Tabs_of_reads (ρ := Tryf.lays197_ren) { Tryf.lays197 with } ⟨by kernel_rfl, by kernel_rfl, by kernel_rfl, by kernel_rfl, by kernel_rfl, by kernel_rfl, by kernel_rfl⟩
      (first_is ▸ Lib.laidMet.reads hL' (by simp [laidAll, Rows.fnUnescapePlainRow])) (accept_is ▸ Lib.laidMet.reads hL' (by simp [laidAll, Rows.fnUnescapePlainRow]))
  have hcell : W.cell? ⟨3, 0, none⟩ = some (.iface 73 (.pointer (some a0))) := by
    have := World.var?_cell (P := Tryf.prog) (g := 3) (by kernel_rfl) hv0 0
    simpa using this
  have e1 : ((OpenSpec.ofChange Rows.fnUnescapePlainSpec).at F.told).fn H ([.lit (.string s.data.toList)] ++ []) = { results := [.lit (.bool true)], args := [.lit (.string s.data.toList)] } := rfl
  refine (FnUnescapePlain_any F.told a0 s W ws hF ⟨hU, hcell, block_lt_of_cell hcell⟩).mono ?_
  rintro e W' ⟨rfl, hnx⟩
  refine ⟨_, rfl, _, _, _, [], [], [], hW', ?_, ?_, ?_, hnx.frame _, fun h => by cases h⟩
  · rw [e1]; exact trodAll_mk1 (shut_bool Tryf.underlying4 true)
  · rw [e1]; exact trodAll_mk1 (shut_string Tryf.underlying9 ws)
  · rw [e1]; rfl
end Go.Proofs.YtjjmgnllhihoeaaFmt
