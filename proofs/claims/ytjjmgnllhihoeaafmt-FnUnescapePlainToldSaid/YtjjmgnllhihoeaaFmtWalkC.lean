/- What the statement's own function comes to: true, at every text within the reach; nothing that was there is changed. -/
import Derived.Test.YtjjmgnllhihoeaaFmtWalkB
namespace Go.Proofs.YtjjmgnllhihoeaaFmt
open Go.RowKit Go.Extern.Stop Go.Stop Go.Extern

/-- What the thin package's function comes to. -/
def Unesc2 (s : ByteArray) (w : World) (e : Ending) (w' : World) : Prop :=
  ∃ out b, e = .returned (.tuple #[.string out, .bool b]) ∧ (inFirst s 92 s.size = false → out = ⟨(Lib.runesFrom s s.size 0).toArray⟩ ∧ b = true) ∧ Below w.heap.size w w'

/-- What the walk asks of the first world. -/
def Env0 (a : Addr) (w : World) : Prop := Lib.Utf8Tabs 0 1 w ∧ w.cell? ⟨3, 0, none⟩ = some (.iface 73 (.pointer (some a))) ∧ 3 < w.heap.size

theorem Env0.alloc {a : Addr} {w : World} (h : Env0 a w) : Env w.heap.size a (w.alloc (.cells #[.pointer none, .string ⟨#[]⟩, .int .i64 0, .int .i64 0, .int .i64 0, .int .i64 0] 35)) := by
  obtain ⟨h1, h2, h3⟩ := h
  have hb : Below w.heap.size w (w.alloc (.cells #[.pointer none, .string ⟨#[]⟩, .int .i64 0, .int .i64 0, .int .i64 0, .int .i64 0] 35)) := (Below.refl _ w).alloc (Nat.le_refl _) _
  refine ⟨Utf8Tabs_below h1 hb, by rw [hb.cell h3]; exact h2, Nat.lt_of_lt_of_le h3 hb.size, heap_alloc_new w _, by simp⟩

set_option maxHeartbeats 1000000 in
theorem Unescape_any (F : Interp) (a : Addr) (s : ByteArray) (w : World) (hs : s.size ≤ 2000) (hF : F.answers w.tape) (hV : Env0 a w) :
    Calls Tryf.prog 4 #[.string s] w (Unesc2 s w) := by
  have HV := Lib.hid hV
  clear hV
  go_enter Tryf.func4, Tryf.ntmps4
  go_wp2_with fail
  refine (StringUnescape_any F w.heap.size a s _ hs (by exact hF) HV.out.alloc).mono ?_
  rintro e w1 ⟨out, ev, rfl, hev, hn, hb⟩
  have HN := Lib.hid hn
  clear hn
  have hb1 : Below w.heap.size w w1 := ((Below.refl _ w).alloc (Nat.le_refl _) _).trans (hb.mono (by simp))
  rcases hev with rfl | ⟨t, x, rfl⟩
  · go_wp2_with fail
    go_quiet (fail)
    go_wp2_with fail
    go_ret2
    exact ⟨_, _, rfl, fun h => ⟨(HN.out h).1, rfl⟩, hb1.trans ⟨rfl, rfl, rfl, Nat.le_refl _, fun _ _ => rfl⟩⟩
  · go_wp2_with fail
    go_quiet (fail)
    go_wp2_with fail
    go_ret2
    exact ⟨_, _, rfl, (fun h => by cases (HN.out h).2), hb1.trans ⟨rfl, rfl, rfl, Nat.le_refl _, fun _ _ => rfl⟩⟩

set_option maxHeartbeats 1000000 in
theorem FnUnescapePlain_any (F : Interp) (a : Addr) (s : ByteArray) (w : World) (hs : s.size ≤ maxLen) (hF : F.answers w.tape) (hV : Env0 a w) :
    Calls Tryf.prog 3 #[.string s] w fun e w' => e = .returned (.bool true) ∧ Below w.heap.size w w' := by
  have hms := hs
  unfold maxLen at hs
  have HV := Lib.hid hV
  clear hV
  by_cases h1 : 2147483647 < s.size
  · go_enter Tryf.func3, Tryf.ntmps3
    go_wp2_with fail
    go_ret
    exact ⟨rfl, Below.refl _ _⟩
  · by_cases h2 : 2000 < s.size
    · go_enter Tryf.func3, Tryf.ntmps3
      go_wp2_with fail
      go_ret
      exact ⟨rfl, Below.refl _ _⟩
    · have HM := Lib.hid hms
      clear hms
      go_enter Tryf.func3, Tryf.ntmps3
      go_wp2_with fail
      refine (Unescape_any F a s _ (by omega) (by exact hF) HV.out).mono ?_
      rintro e w1 ⟨out, b, rfl, hn, hb⟩
      have HN := Lib.hid hn
      clear hn
      go_wp2_with fail
      refine (within_any s _ HM.out).mono ?_
      rintro e w2 ⟨rfl, rfl⟩
      cases hi : inFirst s 92 s.size with
      | true =>
        go_wp2_with fail
        go_ret
        exact ⟨rfl, hb⟩
      | false =>
        obtain ⟨rfl, rfl⟩ := HN.out hi
        clear hi
        go_wp2_with fail
        refine (utf_any s _ (by omega)).mono ?_
        rintro e w2 ⟨rfl, hb2⟩
        rw [runesBytes_anew, show (ByteArray.mk (Lib.runesFrom s s.size 0).toArray).toList = Lib.runesFrom s s.size 0 by simp]
        cases hq : Lib.runesFrom s s.size 0 == s.toList with
        | true =>
          go_wp2_with fail
          go_ret
          exact ⟨rfl, hb.trans (hb2.mono hb.size)⟩
        | false =>
          go_wp2_with fail
          go_ret
          exact ⟨rfl, hb.trans (hb2.mono hb.size)⟩
end Go.Proofs.YtjjmgnllhihoeaaFmt
