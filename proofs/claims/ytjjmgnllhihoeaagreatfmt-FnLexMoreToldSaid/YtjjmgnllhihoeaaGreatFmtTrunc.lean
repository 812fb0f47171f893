/- A buffer cut short. -/
import Derived.Test.YtjjmgnllhihoeaaGreatFmtBuf
set_option linter.unusedSimpArgs false
set_option linter.unusedVariables false
namespace Go.Proofs.YtjjmgnllhihoeaaGreatFmt
open Go.RowKit
attribute [local go_sem ↓] Go.wp_at_zero Go.wp_at_succ

theorem byteCells_take (l : List UInt8) (k : Nat) : (Lib.byteCells l).take k = Lib.byteCells (l.take k) := by simp [Lib.byteCells]

set_option maxRecDepth 100000 in
set_option maxHeartbeats 3200000 in
theorem trunc_buf {B b : Nat} {t : ByteArray} {p ts n m q : Nat} {acc : List UInt8} {w : World} (h : LB B b t p ts n m q acc w) (k : Nat) (hk : k ≤ acc.length) (hl : acc.length ≤ 1000000) :
    Calls Tryz.prog 78 #[.pointer (some ⟨q, 0, none⟩), .int .i64 k] w (fun e w' => e = .returned (.tuple #[]) ∧ LB B b t p ts n m q (acc.take k) w' ∧ Below B w w') := by
  by_cases hk0 : k = 0
  · subst hk0
    have H := Lib.hid h
    clear h
    show Calls Tryz.prog 78 #[.pointer (some ⟨q, 0, none⟩), .int .i64 0] w _
    go_enter Tryz.func78, Tryz.ntmps78
    go_wp2_with (go_at_call 69; refine (Tryz.Buffer_Reset_k B q _ _ H.out.2).mono ?_; rintro e w1 ⟨rfl, hI, hb, ho⟩)
    refine bodyPost_ret (v := .tuple #[]) (by simp [results, Tryz.results78, go_sem]) rfl ?_
    exact ⟨rfl, by rw [List.take_zero]; exact H.out.wrote hI hb ho, hb⟩
  · have hBw := h.1.baseW
    have H := Lib.hid h
    obtain ⟨hBq, v, lr, hbk, hown, hne⟩ := h.2
    have hlen : (Lib.byteCells acc).length = acc.length := by simp [Lib.byteCells]
    rcases hown.2 with ⟨_, h0⟩ | ⟨g, cap, cur, rfl, hBg, hg, hnc, hcm, hcs, htk⟩
    · rw [hlen] at h0; omega
    rw [hlen] at hnc htk hown hne hbk
    have hqlt : q < w.heap.size := (Array.getElem?_eq_some_iff.1 hbk).1
    have c0 : w.cell? ⟨q, 0, none⟩ = some (.slice (some ⟨g, 0, none⟩) acc.length cap) := by simp [World.cell?, hbk]
    have c1 : w.cell? ⟨q, 1, none⟩ = some (.int .i64 0) := by simp [World.cell?, hbk]
    have c2 : w.cell? ⟨q, 2, none⟩ = some (.int .i8 lr) := by simp [World.cell?, hbk]
    have cf : w.frozen? ⟨q, 2, none⟩ = false := by simp [World.frozen?, hbk]
    have hbk1 := Lib.heap_setCell_same (i := 2) hbk (.int .i8 0)
    have hg1 : (w.setCell ⟨q, 2, none⟩ (.int .i8 0)).heap[g]? = some (.cells cur 5 (0, 0)) := by
      rw [Below.heap_setCell _ _ _ _ (fun e => hne (by simp [Value.ownBlock, e]))]; exact hg
    have hgq : g ≠ q := fun e => hne (by simp [Value.ownBlock, e])
    have hB1 : Below B w (w.setCell ⟨q, 2, none⟩ (.int .i8 0)) := (Below.refl B w).setCell hBq _
    have hO1 : Lib.OthersKept 5 (some q) w (w.setCell ⟨q, 2, none⟩ (.int .i8 0)) := (Lib.OthersKept.refl 5 (some q) w).setCell _ rfl _
    have hI1 : Lib.IsBuffer 89 5 B q (Lib.byteCells acc) (w.setCell ⟨q, 2, none⟩ (.int .i8 0)) :=
      ⟨hBq, .slice (some ⟨g, 0, none⟩) acc.length cap, 0, hbk1, ⟨by simp, .inr ⟨g, cap, cur, by rw [hlen], hBg, hg1, by rw [hlen]; exact hnc, hcm, hcs, by rw [hlen]; exact htk⟩⟩, hne⟩
    have HI := Lib.hid hI1
    have hw : IntKind.i64.wrap (k : Int) = (k : Int) := by rw [IntKind.wrap_i64]; omega
    have k0 : ((k : Int) == 0) = false := by simp; omega
    have k1 : ¬ ((k : Int) < 0) := by omega
    have k2 : ¬ (acc.length < k) := by omega
    have k3 : (k : Int) ≤ (cap : Int) := by omega
    have k4 : (0 : Int) ≤ (k : Int) := by omega
    have HT := Lib.hid htk
    have HC := Lib.hid hcs
    clear h hI1 hown hk0 htk hcs hg hne hlen
    go_enter Tryz.func78, Tryz.ntmps78
    go_wp2_with fail
    refine (Tryz.Buffer_Len B q _ _ HI.out).mono ?_
    rintro e w1 ⟨rfl, dn, rfl⟩
    have hle : (Lib.byteCells acc).length = acc.length := by simp [Lib.byteCells]
    rw [hle]
    clear hle c0 c1 c2 cf hbk
    have hW1 : ((w.setCell ⟨q, 2, none⟩ (.int .i8 0)).drewN dn).heap[q]? = some (.cells #[.slice (some ⟨g, 0, none⟩) acc.length cap, .int .i64 0, .int .i8 0] 89 (0, 0)) := hbk1
    have hG1 : ((w.setCell ⟨q, 2, none⟩ (.int .i8 0)).drewN dn).heap[g]? = some (.cells cur 5 (0, 0)) := hg1
    have hB2 : Below B w ((w.setCell ⟨q, 2, none⟩ (.int .i8 0)).drewN dn) := ⟨hB1.os, hB1.tape, hB1.output, hB1.size, hB1.block⟩
    have hO2 : Lib.OthersKept 5 (some q) w ((w.setCell ⟨q, 2, none⟩ (.int .i8 0)).drewN dn) := hO1
    have HI2 : Lib.IsBuffer 89 5 B q (Lib.byteCells acc) ((w.setCell ⟨q, 2, none⟩ (.int .i8 0)).drewN dn) := HI.out
    clear hbk1 hg1 hB1 hO1 HI
    generalize (w.setCell ⟨q, 2, none⟩ (.int .i8 0)).drewN dn = W at *
    go_wp2_with fail
    refine wp_region_held_tail 12 12 (fun w' => w'.heap[q]? = some (.cells #[.slice (some ⟨g, 0, none⟩) acc.length cap, .int .i64 0, .int .i8 0] 89 (0, 0))) (by kernel_rfl) (by kernel_rfl) (by intro c a' d' v' w' h'; cases d' <;> exact h') hW1 ?_
    simp only [List.take_succ_cons, List.take_zero, List.drop_succ_cons, List.drop_zero]
    iterate 12
      refine wpHeld_cons ?_ (by rfl) (fun w' hSw => ?_) ?_
      rotate_left 1
      · have c0 : w'.cell? ⟨q, 0, none⟩ = some (.slice (some ⟨g, 0, none⟩) acc.length cap) := by simp [World.cell?, hSw]
        have c1 : w'.cell? ⟨q, 1, none⟩ = some (.int .i64 0) := by simp [World.cell?, hSw]
        go_simp
        try with_reducible rfl
      simp only [Act.put, List.setIfInBounds_toArray, List.set_cons_zero, List.set_cons_succ]
    refine wpHeld_nil ?_
    refine wpMid_nil ?_
    have c0 : W.drew.cell? ⟨q, 0, none⟩ = some (.slice (some ⟨g, 0, none⟩) acc.length cap) := by show W.cell? _ = _; simp [World.cell?, hW1]
    have cf : W.drew.frozen? ⟨q, 0, none⟩ = false := by show W.frozen? _ = _; simp [World.frozen?, hW1]
    go_wp2_with fail
    go_end0
    have hW2 := Lib.heap_setCell_same (i := 0) hW1 (.slice (some ⟨g, 0, none⟩) k cap)
    have hG2 : (W.setCell ⟨q, 0, none⟩ (.slice (some ⟨g, 0, none⟩) k cap)).heap[g]? = some (.cells cur 5 (0, 0)) := by
      rw [Below.heap_setCell _ _ _ _ hgq]; exact hG1
    have hlk : (Lib.byteCells (acc.take k)).length = k := by simp [Lib.byteCells]; omega
    have hI : Lib.IsBuffer 89 5 B q (Lib.byteCells (acc.take k)) (W.setCell ⟨q, 0, none⟩ (.slice (some ⟨g, 0, none⟩) k cap)).drew := by
      refine ⟨hBq, .slice (some ⟨g, 0, none⟩) k cap, 0, hW2, ⟨by simp, .inr ⟨g, cap, cur, by rw [hlk], hBg, hG2, by rw [hlk]; omega, hcm, HC.out, ?_⟩⟩, ?_⟩
      · rw [hlk, Nat.mul_one, ← byteCells_take, ← HT.out, List.take_take, Nat.mul_one, Nat.min_eq_left hk]
      · simp [Value.ownBlock]; exact hgq
    exact ⟨rfl, H.out.wrote hI ((hB2.setCell hBq _).drew) ((hO2.setCell _ rfl _).drew), (hB2.setCell hBq _).drew⟩

end Go.Proofs.YtjjmgnllhihoeaaGreatFmt
