/-
  THE WALK of FnTurnLineDrainsInOrder, all ways; and what the reading of an argument gives the walk.
-/
import Derived.Test.Qxb6600557aLineSome
import Derived.Test.Qxb6600557aLineNone
import Derived.SliceStrings
namespace Go.Proofs.Qxb6600557a.Line
open Go.RowKit Go.Maps

set_option maxRecDepth 100000 in
set_option maxHeartbeats 1000000 in
theorem out_long (a0 : Option Addr) (len0 cap0 : Nat) (S0 : List ByteArray) (f : Int) (a2 : Option Addr) (len2 cap2 : Nat) (S2 : List ByteArray) (w : World) (h0 : Strs w a0 len0 cap0 S0) (h2 : Strs w a2 len2 cap2 S2)
    (m0 : len0 ≤ maxLen) (m2 : len2 ≤ maxLen) (h : 65536 < len0 ∨ 65536 < len2) :
    Calls Try.prog 9 #[.slice a0 len0 cap0, .int .i64 f, .slice a2 len2 cap2] w fun e w' => e = .returned (.bool true) ∧ Below w.heap.size w w' := by
  by_cases hl : 65536 < len0
  · clear h
    go_enter Try.func9, Try.ntmps9
    go_wp2_with fail
    refine (zz_any _ _ _ S0 _ _ _ _ S2 _ h0 h2 m0 m2).mono ?_; rintro e w' ⟨r, rfl, hw', hsm⟩; have hw := hw'.symm; clear hw'; subst hw
    cases r
    · clear hsm
      go_wp2_with fail
      go_ret
      exact ⟨rfl, Below.refl _ _⟩
    · clear hsm
      go_wp2_with fail
      go_ret
      exact ⟨rfl, Below.refl _ _⟩
  · have hl2 : 65536 < len2 := by omega
    clear h
    go_enter Try.func9, Try.ntmps9
    go_wp2_with fail
    refine (zz_any _ _ _ S0 _ _ _ _ S2 _ h0 h2 m0 m2).mono ?_; rintro e w' ⟨r, rfl, hw', hsm⟩; have hw := hw'.symm; clear hw'; subst hw
    cases r
    · clear hsm
      go_wp2_with fail
      go_ret
      exact ⟨rfl, Below.refl _ _⟩
    · clear hsm
      go_wp2_with fail
      go_ret
      exact ⟨rfl, Below.refl _ _⟩

set_option maxRecDepth 100000 in
set_option maxHeartbeats 1000000 in
theorem out_first (a0 : Option Addr) (len0 cap0 : Nat) (S0 : List ByteArray) (f : Int) (a2 : Option Addr) (len2 cap2 : Nat) (S2 : List ByteArray) (w : World) (h0 : Strs w a0 len0 cap0 S0) (h2 : Strs w a2 len2 cap2 S2)
    (hl0 : len0 ≤ 65536) (hl2 : len2 ≤ 65536) (h : f < 0 ∨ (len0 : Int) < f) :
    Calls Try.prog 9 #[.slice a0 len0 cap0, .int .i64 f, .slice a2 len2 cap2] w fun e w' => e = .returned (.bool true) ∧ Below w.heap.size w w' := by
  by_cases hf : f < 0
  · clear h
    go_enter Try.func9, Try.ntmps9
    go_wp2_with fail
    refine (zz_any _ _ _ S0 _ _ _ _ S2 _ h0 h2 (by unfold maxLen; omega) (by unfold maxLen; omega)).mono ?_; rintro e w' ⟨r, rfl, hw', hsm⟩; have hw := hw'.symm; clear hw'; subst hw
    cases r
    · clear hsm
      go_wp2_with fail
      go_ret
      exact ⟨rfl, Below.refl _ _⟩
    · have hs0 : Hid (Small S0) := (hsm rfl).1
      have hs2 : Hid (Small S2) := (hsm rfl).2
      clear hsm
      go_wp2_with fail
      refine (sb_any _ _ _ S0 _ h0 hl0 hs0.out).mono ?_; rintro e w' ⟨n1, rfl, n1a, n1b, hw'⟩; have hw := hw'.symm; clear hw'; subst hw
      go_wp2_with fail
      refine (sb_any _ _ _ S2 _ h2 hl2 hs2.out).mono ?_; rintro e w' ⟨n2, rfl, n2a, n2b, hw'⟩; have hw := hw'.symm; clear hw'; subst hw
      by_cases hsum : n1 + n2 ≤ 1048576
      all_goals
        go_wp2_with fail
        go_ret
        exact ⟨rfl, Below.refl _ _⟩
  · have hf2 : (len0 : Int) < f := by omega
    clear h
    go_enter Try.func9, Try.ntmps9
    go_wp2_with fail
    refine (zz_any _ _ _ S0 _ _ _ _ S2 _ h0 h2 (by unfold maxLen; omega) (by unfold maxLen; omega)).mono ?_; rintro e w' ⟨r, rfl, hw', hsm⟩; have hw := hw'.symm; clear hw'; subst hw
    cases r
    · clear hsm
      go_wp2_with fail
      go_ret
      exact ⟨rfl, Below.refl _ _⟩
    · have hs0 : Hid (Small S0) := (hsm rfl).1
      have hs2 : Hid (Small S2) := (hsm rfl).2
      clear hsm
      go_wp2_with fail
      refine (sb_any _ _ _ S0 _ h0 hl0 hs0.out).mono ?_; rintro e w' ⟨n1, rfl, n1a, n1b, hw'⟩; have hw := hw'.symm; clear hw'; subst hw
      go_wp2_with fail
      refine (sb_any _ _ _ S2 _ h2 hl2 hs2.out).mono ?_; rintro e w' ⟨n2, rfl, n2a, n2b, hw'⟩; have hw := hw'.symm; clear hw'; subst hw
      by_cases hsum : n1 + n2 ≤ 1048576
      all_goals
        go_wp2_with fail
        go_ret
        exact ⟨rfl, Below.refl _ _⟩

theorem walk (a0 : Option Addr) (len0 cap0 : Nat) (S0 : List ByteArray) (f : Int) (a2 : Option Addr) (len2 cap2 : Nat) (S2 : List ByteArray) (w : World) (h0 : Strs w a0 len0 cap0 S0) (h2 : Strs w a2 len2 cap2 S2)
    (m0 : len0 ≤ maxLen) (m2 : len2 ≤ maxLen) :
    Calls Try.prog 9 #[.slice a0 len0 cap0, .int .i64 f, .slice a2 len2 cap2] w fun e w' => e = .returned (.bool true) ∧ Below w.heap.size w w' := by
  by_cases hl : 65536 < len0 ∨ 65536 < len2
  · exact out_long a0 len0 cap0 S0 f a2 len2 cap2 S2 w h0 h2 m0 m2 hl
  · by_cases hf : f < 0 ∨ (len0 : Int) < f
    · exact out_first a0 len0 cap0 S0 f a2 len2 cap2 S2 w h0 h2 (by omega) (by omega) hf
    · obtain ⟨i, rfl⟩ : ∃ i : Nat, f = (i : Int) := ⟨f.toNat, by omega⟩
      have e0 := h0.1
      have e2 := h2.1
      subst e0
      subst e2
      cases a2 with
      | none => exact drain_none a0 cap0 S0 i cap2 S2 w h0 h2 (by omega) (by omega) (by omega)
      | some x => exact drain_some a0 cap0 S0 i x cap2 S2 w h0 h2 (by omega) (by omega) (by omega)

/-- the cells of a slice of strings that came in -/
theorem strs_of_cells {w : World} {a : Addr} {len cap : Nat} {ss : List ByteArray} (hl : len ≤ ss.length) (hc : ∀ i, i < ss.length → w.cell? (a.add i) = some (.string (ss.getD i ByteArray.empty))) (hs : ∀ s ∈ ss, s.size ≤ maxLen) :
    Strs w (some a) len cap (ss.take len) := by
  refine ⟨by rw [List.length_take]; omega, fun e => (by cases e), fun s h => hs s (List.mem_of_mem_take h), fun h => ?_⟩
  obtain ⟨b, off, spot⟩ := a
  have hspot : spot = none := by simpa [Addr.add] using World.cell?_spot (hc 0 (by omega))
  subst hspot
  refine ⟨b, off, rfl, ?_, fun i hi => ?_⟩
  · have := World.block_lt_of_cell? w _ (hc 0 (by omega))
    rw [Go.WideShapes.add_plain] at this
    exact this
  · rw [← Go.WideShapes.add_plain, hc i (by omega)]
    simp [List.getD_eq_getElem?_getD, hi]
end Go.Proofs.Qxb6600557a.Line
