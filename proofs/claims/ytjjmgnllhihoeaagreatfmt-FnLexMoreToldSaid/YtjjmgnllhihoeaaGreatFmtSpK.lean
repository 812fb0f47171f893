/- The reference's words that are no names: a list in a new block; some Bool for whether a text is in it. -/
import Derived.Test.YtjjmgnllhihoeaaGreatFmtSpS
set_option linter.unusedSimpArgs false
set_option linter.unusedVariables false
namespace Go.Proofs.YtjjmgnllhihoeaaGreatFmt
open Go.RowKit
attribute [local go_sem ↓] Go.wp_at_zero Go.wp_at_succ

def keyL : List ByteArray := [⟨#[97, 115, 115, 101, 114, 116]⟩, ⟨#[101, 108, 115, 101]⟩, ⟨#[101, 114, 114, 111, 114]⟩, ⟨#[102, 97, 108, 115, 101]⟩, ⟨#[102, 111, 114]⟩, ⟨#[102, 117, 110, 99, 116, 105, 111, 110]⟩, ⟨#[105, 102]⟩, ⟨#[105, 109, 112, 111, 114, 116]⟩, ⟨#[105, 109, 112, 111, 114, 116, 115, 116, 114]⟩, ⟨#[105, 109, 112, 111, 114, 116, 98, 105, 110]⟩, ⟨#[105, 110]⟩, ⟨#[108, 111, 99, 97, 108]⟩, ⟨#[110, 117, 108, 108]⟩, ⟨#[116, 97, 105, 108, 115, 116, 114, 105, 99, 116]⟩, ⟨#[116, 104, 101, 110]⟩, ⟨#[115, 101, 108, 102]⟩, ⟨#[115, 117, 112, 101, 114]⟩, ⟨#[116, 114, 117, 101]⟩]

def KeysP (w : World) (e : Ending) (w' : World) : Prop := e = .returned (.slice (some ⟨w.heap.size, 0, none⟩) 18 18) ∧ (∀ i, i < 18 → w'.cell? ⟨w.heap.size, i, none⟩ = some (.string (keyL.getD i ByteArray.empty))) ∧ Below w.heap.size w w'

set_option maxRecDepth 100000 in
theorem keys_any (w : World) : Calls Tryz.prog 19 #[] w (KeysP w) := by
  go_enter Tryz.func19, Tryz.ntmps19
  go_wp2
  go_ret
  refine ⟨rfl, fun i hi => ?_, (Below.refl _ w).alloc (Nat.le_refl _) _⟩
  simp only [World.cell?, heap_alloc_new]
  have : i = 0 ∨ i = 1 ∨ i = 2 ∨ i = 3 ∨ i = 4 ∨ i = 5 ∨ i = 6 ∨ i = 7 ∨ i = 8 ∨ i = 9 ∨ i = 10 ∨ i = 11 ∨ i = 12 ∨ i = 13 ∨ i = 14 ∨ i = 15 ∨ i = 16 ∨ i = 17 := by omega
  rcases this with rfl | rfl | rfl | rfl | rfl | rfl | rfl | rfl | rfl | rfl | rfl | rfl | rfl | rfl | rfl | rfl | rfl | rfl <;> rfl

/-- Some Bool, nothing turned. -/
def SomeP (w : World) (e : Ending) (w' : World) : Prop := ∃ v : Bool, e = .returned (.bool v) ∧ w' = w
theorem has_keys (g : Nat) (x : ByteArray) (w : World) (hc : ∀ i, i < 18 → w.cell? ⟨g, i, none⟩ = some (.string (keyL.getD i ByteArray.empty))) :
    Calls Tryz.prog 18 #[.slice (some ⟨g, 0, none⟩) 18 18, .string x] w (SomeP w) :=
  (has_any keyL g 18 x w (by decide) hc).mono fun _ _ ⟨he, hw⟩ => ⟨_, he, hw⟩
end Go.Proofs.YtjjmgnllhihoeaaGreatFmt
