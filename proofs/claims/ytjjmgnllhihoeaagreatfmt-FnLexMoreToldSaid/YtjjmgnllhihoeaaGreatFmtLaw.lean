/- The statement's function at every two texts: it returns true, and makes new blocks alone. -/
import Derived.Test.YtjjmgnllhihoeaaGreatFmtSpO
import Derived.Test.YtjjmgnllhihoeaaGreatFmtImpl
set_option linter.unusedSimpArgs false
set_option linter.unusedVariables false
namespace Go.Proofs.YtjjmgnllhihoeaaGreatFmt
open Go.RowKit
attribute [local go_sem ↓] Go.wp_at_zero Go.wp_at_succ

/-- true; new blocks alone. -/
def LawP (w : World) (e : Ending) (w' : World) : Prop := e = .returned (.bool true) ∧ Below w.heap.size w w'

def ImplK (k : Nat) (w : World) (e : Ending) (w' : World) : Prop := e = .returned (.tuple #[.int .i64 (k : Int), .bool true]) ∧ Below w.heap.size w w' ∧ 2 ≤ w'.heap.size ∧ Lib.Utf8Tabs 0 1 w'
theorem impl_k {t : ByteArray} {n k : Nat} {w : World} (hc : Hid (Chain (ch t) 0 t.size n)) (hk : Hid (k = n + 1)) (ht : t.size ≤ 100000) (h2 : 2 ≤ w.heap.size) (hT : Lib.Utf8Tabs 0 1 w) : Calls Tryz.prog 5 #[.string t] w (ImplK k w) :=
  (impl_any t n w ht h2 hT hc.out).mono fun _ _ ⟨he, hb⟩ => ⟨by rw [he, hk.out], hb, Nat.le_trans h2 hb.size, tabs_below hT h2 hb⟩

set_option maxRecDepth 100000 in
set_option maxHeartbeats 6400000 in
theorem FnLexMore_any (s r : ByteArray) (w : World) (h2 : 2 ≤ w.heap.size) (hT : Lib.Utf8Tabs 0 1 w) : Calls Tryz.prog 3 #[.string s, .string r] w (LawP w) := by
  have HT := Lib.hid hT
  clear hT
  by_cases hs : s.size ≤ 2000
  rotate_left 1
  · have d2 : decide (2000 < (s.size : Int)) = true := by simp; omega
    go_enter Tryz.func3, Tryz.ntmps3
    go_wp2_with fail
    all_goals
      go_ret
      exact ⟨rfl, Below.refl _ _⟩
  have s1 : decide (2147483647 < (s.size : Int)) = false := by simp; omega
  have s2 : decide (2000 < (s.size : Int)) = false := by simp; omega
  by_cases hr : r.size ≤ 2000
  rotate_left 1
  · have d2 : decide (2000 < (r.size : Int)) = true := by simp; omega
    go_enter Tryz.func3, Tryz.ntmps3
    go_wp2_with fail
    all_goals
      go_ret
      exact ⟨rfl, Below.refl _ _⟩
  have r1 : decide (2147483647 < (r.size : Int)) = false := by simp; omega
  have r2 : decide (2000 < (r.size : Int)) = false := by simp; omega
  go_enter Tryz.func3, Tryz.ntmps3
  go_upto_region 6 with (first
    | (go_at_call 4; ((with_reducible refine (lexS_of one_any s _ hs).mono ?_); rintro e1 w1 ⟨b1, p1, st1, wd1, n1, m1, rfl, hL1, hb1, hn1, hc1⟩; have HC1 := Lib.hid hc1; clear hc1))
    | (go_at_call 4; ((with_reducible refine (lexS_of one_any r _ hr).mono ?_); rintro e2 w2 ⟨b2, p2, st2, wd2, n2, m2, rfl, hL2, hb2, hn2, hc2⟩; have HC2 := Lib.hid hc2; clear hc2)))
  have HL1 := Lib.hid (hL1.old hb2)
  have HB := Lib.hid (hb1.trans (hb2.mono hb1.size))
  obtain ⟨c0, c1, x2, x5, _⟩ := HL1.out.cells
  obtain ⟨_, _, y2, y5, _⟩ := hL2.cells
  clear c0 c1 hL1 hb1 hb2 hL2 s1 s2 r1 r2
  by_cases e1 : st1 = 1
  rotate_left 1
  · have d1 : ((st1 : Int) != 1) = true := by simpa using e1
    clear e1
    go_wp2_with fail
    go_ret
    exact ⟨rfl, HB.out⟩
  by_cases e2 : st2 = 1
  rotate_left 1
  · have d2 : ((st2 : Int) != 1) = true := by simpa using e2
    subst e1
    clear e2
    go_wp2_with fail
    go_ret
    exact ⟨rfl, HB.out⟩
  subst e1 e2
  cases wd1
  rotate_left 1
  · go_wp2_with fail
    go_ret
    exact ⟨rfl, HB.out⟩
  cases wd2
  rotate_left 1
  · go_wp2_with fail
    go_ret
    exact ⟨rfl, HB.out⟩
  have K1 := Lib.hid (HC1.out rfl rfl)
  have K2 := Lib.hid (HC2.out rfl rfl)
  have K3 := Lib.hid (chain_two s r K1.out K2.out)
  have K4 : Hid (Chain (ch (⟨#[]⟩ : ByteArray)) 0 (⟨#[]⟩ : ByteArray).size 0) := Lib.hid (Chain.nil 0)
  have t1 := K1.out.tokLe
  have t2 := K2.out.tokLe
  obtain ⟨k1, hk1⟩ : ∃ k1, k1 = n1 + 1 := ⟨_, rfl⟩
  obtain ⟨k2, hk2⟩ : ∃ k2, k2 = n2 + 1 := ⟨_, rfl⟩
  obtain ⟨k3, hk3⟩ : ∃ k3, k3 = n1 + n2 + 1 := ⟨_, rfl⟩
  obtain ⟨k4, hk4⟩ : ∃ k4, k4 = 0 + 1 := ⟨_, rfl⟩
  have q1 : ((k3 : Int) + (k4 : Int) == (k1 : Int) + (k2 : Int)) = true := by rw [beq_iff_eq]; omega
  have q2 : ((k1 : Int) - (k4 : Int) == (n1 : Int)) = true := by rw [beq_iff_eq]; omega
  have l1 : k1 ≤ 10000 := by omega
  have l2 : k2 ≤ 10000 := by omega
  have l3 : k3 ≤ 10000 := by omega
  have l4 : k4 ≤ 10000 := by omega
  have HK1 := Lib.hid hk1
  have HK2 := Lib.hid hk2
  have HK3 := Lib.hid hk3
  have HK4 := Lib.hid hk4
  have hT2 := tabs_below HT.out h2 HB.out
  have h22 : 2 ≤ w2.heap.size := Nat.le_trans h2 HB.out.size
  have hsz : (s ++ ⟨#[10]⟩ ++ r).size ≤ 100000 := by
    have h1 : (⟨#[10]⟩ : ByteArray).size = 1 := rfl
    rw [ByteArray.size_append, ByteArray.size_append, h1]; omega
  clear hk1 hk2 hk3 hk4 HC1 HC2 t1 t2
  have hcat1 : s.size + (ByteArray.mk #[10]).size ≤ 9223372036854775807 := by
    have h1 : (⟨#[10]⟩ : ByteArray).size = 1 := rfl
    omega
  have hcat2 : s.size + 1 ≤ 9223372036854775807 := by omega
  have hcat3 : (s ++ ⟨#[10]⟩).size + r.size ≤ 9223372036854775807 := by
    have h1 : (⟨#[10]⟩ : ByteArray).size = 1 := rfl
    rw [ByteArray.size_append, h1]; omega
  have hcat4 : s.size + 1 + r.size ≤ 9223372036854775807 := by omega
  have hs5 : s.size ≤ 100000 := by omega
  have hr5 : r.size ≤ 100000 := by omega
  have HT2 := Lib.hid hT2
  clear hT2
  go_upto_region 12 with (first
    | (go_at_call 5; ((with_reducible refine (impl_k K1 HK1 hs5 h22 HT2.out).mono ?_); rintro e3 w3 ⟨rfl, hb3, h23, hT3⟩; have HT3 := Lib.hid hT3; have HB3 := Lib.hid hb3; clear hT3 hb3))
    | (go_at_call 5; ((with_reducible refine (impl_k K2 HK2 hr5 h23 HT3.out).mono ?_); rintro e4 w4 ⟨rfl, hb4, h24, hT4⟩; have HT4 := Lib.hid hT4; have HB4 := Lib.hid hb4; clear hT4 hb4))
    | (go_at_call 5; ((with_reducible refine (impl_k K3 HK3 hsz h24 HT4.out).mono ?_); rintro e5 w5 ⟨rfl, hb5, h25, hT5⟩; have HT5 := Lib.hid hT5; have HB5 := Lib.hid hb5; clear hT5 hb5))
    | (go_at_call 5; ((with_reducible refine (impl_k K4 HK4 (by decide) h25 HT5.out).mono ?_); rintro e6 w6 ⟨rfl, hb6, h26, hT6⟩; have HB6 := Lib.hid hb6; clear hT6 hb6)))
  have hb26 : Below w2.heap.size w2 w6 := ((HB3.out.trans (HB4.out.mono HB3.out.size)).trans (HB5.out.mono (Nat.le_trans HB3.out.size HB4.out.size))).trans (HB6.out.mono (Nat.le_trans (Nat.le_trans HB3.out.size HB4.out.size) HB5.out.size))
  obtain ⟨tv, cv, co, xs, ys, hSB⟩ := HL1.out.old hb26
  obtain ⟨⟨ta, tc, rfl⟩, _⟩ := hSB.forms
  obtain ⟨_, _, _, z3, _⟩ := spCells_at hSB.blk
  have HBF := Lib.hid (HB.out.trans (hb26.mono HB.out.size))
  clear hSB hb26 hcat1 hcat2 hcat3 hcat4 hsz
  go_wp2_with fail
  go_ret
  exact ⟨rfl, HBF.out⟩
end Go.Proofs.YtjjmgnllhihoeaaGreatFmt
