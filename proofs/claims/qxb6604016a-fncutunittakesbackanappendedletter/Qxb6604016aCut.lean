/-
  CONTRACTS of cutUnit, of its shim, of zzSecondsOfUnit and of the bound; THE WALK of FnCutUnitTakesBackAnAppendedLetter.
-/
import Derived.Test.Qxb6604016aRows
import Derived.WalkKit
import Derived.WalkSpells
import Derived.OpenShut
import Derived.Laws.BytesArg
namespace Go.Proofs.Qxb6604016a.Cut
open Go.RowKit

/-- is the byte a unit letter? its seconds (1 where it is none) -/
def isU (b : Int) : Bool := b == 100 || b == 104 || b == 109 || b == 115
def secU (b : Int) : Int := if b = 100 then 86400 else if b = 104 then 3600 else if b = 109 then 60 else if b = 115 then 1 else 0
/-- what cutUnit gives back of a text whose last byte, at m, is b -/
def num (t : ByteArray) (m : Nat) (b : Int) : ByteArray := if isU b = true then t.extract 0 m else t
def secs (b : Int) : Int := if b = 100 then 86400 else if b = 104 then 3600 else if b = 109 then 60 else 1

theorem g5_yes (s : ByteArray) (a : Int) (w : World) (h : s.size ≤ 1048576) :
    Calls Try.prog 5 #[.string s, .int .u8 a] w fun e w' => e = .returned (.bool true) ∧ w' = w := by
  go_enter Try.func5, Try.ntmps5
  go_wp2
  go_ret
  exact ⟨rfl, rfl⟩
theorem g5_no (s : ByteArray) (a : Int) (w : World) (hm : s.size ≤ maxLen) (h : ¬ s.size ≤ 1048576) :
    Calls Try.prog 5 #[.string s, .int .u8 a] w fun e w' => e = .returned (.bool false) ∧ w' = w := by
  unfold maxLen at hm
  go_enter Try.func5, Try.ntmps5
  go_wp2
  go_ret
  exact ⟨rfl, rfl⟩

theorem seconds_any (b : Int) (w : World) :
    Calls Try.prog 7 #[.int .u8 b] w fun e w' => e = .returned (.tuple #[.int .i64 (secU b), .bool (isU b)]) ∧ w' = w := by
  by_cases h1 : b = 100
  · subst h1
    go_enter Try.func7, Try.ntmps7
    go_wp2
    go_ret2
    exact ⟨rfl, rfl⟩
  · by_cases h2 : b = 104
    · subst h2
      go_enter Try.func7, Try.ntmps7
      go_wp2
      go_ret2
      exact ⟨rfl, rfl⟩
    · by_cases h3 : b = 109
      · subst h3
        go_enter Try.func7, Try.ntmps7
        go_wp2
        go_ret2
        exact ⟨rfl, rfl⟩
      · by_cases h4 : b = 115
        · subst h4
          go_enter Try.func7, Try.ntmps7
          go_wp2
          go_ret2
          exact ⟨rfl, rfl⟩
        · have e : isU b = false := by simp [isU, h1, h2, h3, h4]
          have e2 : secU b = 0 := by simp [secU, h1, h2, h3, h4]
          rw [e, e2]
          clear e e2
          go_enter Try.func7, Try.ntmps7
          go_wp2
          go_ret2
          exact ⟨rfl, rfl⟩

theorem not_empty (t : ByteArray) (m : Nat) (ht : t.size = m + 1) : t.toList.isEmpty = false := by
  rw [ByteArray.toList_eq]
  have : t.data.toList.length = m + 1 := ht
  cases e : t.data.toList with
  | nil => rw [e] at this; simp at this
  | cons a b => rfl

set_option maxHeartbeats 400000 in
theorem cut_any (t : ByteArray) (m : Nat) (b : Int) (w : World) (ht : t.size = m + 1) (hm : m ≤ 16777216) (hb : ((t[m]'(by omega)).toNat : Int) = b) :
    Calls Try.prog 11 #[.string t] w fun e w' => e = .returned (.tuple #[.string (num t m b), .int .i64 (secs b)]) ∧ w' = w := by
  have hne := not_empty t m ht
  by_cases h1 : b = 100
  · subst h1
    go_enter Try.func11, Try.ntmps11
    go_wp2
    go_ret2
    exact ⟨rfl, rfl⟩
  · by_cases h2 : b = 104
    · subst h2
      go_enter Try.func11, Try.ntmps11
      go_wp2
      go_ret2
      exact ⟨rfl, rfl⟩
    · by_cases h3 : b = 109
      · subst h3
        go_enter Try.func11, Try.ntmps11
        go_wp2
        go_ret2
        exact ⟨rfl, rfl⟩
      · by_cases h4 : b = 115
        · subst h4
          go_enter Try.func11, Try.ntmps11
          go_wp2
          go_ret2
          exact ⟨rfl, rfl⟩
        · have e : isU b = false := by simp [isU, h1, h2, h3, h4]
          have e2 : secs b = 1 := by simp [secs, h1, h2, h3]
          have e3 : num t m b = t := by unfold num; rw [e]; rfl
          rw [e3, e2]
          clear e e2 e3
          go_enter Try.func11, Try.ntmps11
          go_wp2
          go_ret2
          exact ⟨rfl, rfl⟩

theorem zzcut_any (t : ByteArray) (m : Nat) (b : Int) (w : World) (ht : t.size = m + 1) (hm : m ≤ 16777216) (hb : ((t[m]'(by omega)).toNat : Int) = b) :
    Calls Try.prog 6 #[.string t] w fun e w' => e = .returned (.tuple #[.string (num t m b), .int .i64 (secs b)]) ∧ w' = w := by
  have HT : Hid (t.size = m + 1) := ht
  have HB : Hid (((t[m]'(by omega)).toNat : Int) = b) := hb
  clear hb
  go_enter Try.func6, Try.ntmps6
  go_wp2_with (go_at_call 11; refine (cut_any t m b _ HT.out hm HB.out).mono ?_; rintro e w' ⟨rfl, rfl⟩)
  go_ret2
  exact ⟨rfl, rfl⟩

/-! ### the text with one byte more -/
theorem more_size (s : ByteArray) (q : UInt8) : (s ++ ⟨#[q]⟩ : ByteArray).size = s.size + 1 := by
  rw [ByteArray.size_append]; rfl
theorem more_last (s : ByteArray) (q : UInt8) (h : s.size < (s ++ ⟨#[q]⟩ : ByteArray).size) : (((s ++ ⟨#[q]⟩ : ByteArray)[s.size]'h).toNat : Int) = (q.toNat : Int) := by
  have e : (s ++ ⟨#[q]⟩ : ByteArray)[s.size] = q := by
    have h1 : (s ++ ⟨#[q]⟩ : ByteArray).data.toList[s.size]? = some (s ++ ⟨#[q]⟩ : ByteArray)[s.size] := List.getElem?_eq_getElem h
    have h2 : (s ++ ⟨#[q]⟩ : ByteArray).data.toList[s.size]? = some q := by
      rw [ByteArray.data_append, Array.toList_append]
      have hl : s.data.toList.length = s.size := rfl
      rw [← hl, List.getElem?_append_right (Nat.le_refl _)]
      simp
    rw [h1] at h2
    exact Option.some.inj h2
  rw [e]
theorem more_cut (s : ByteArray) (q : UInt8) : (s ++ ⟨#[q]⟩ : ByteArray).extract 0 s.size = s := ByteArray.extract_append_eq_left rfl
theorem num_unit (s : ByteArray) (q : UInt8) (h : isU q.toNat = true) : num (s ++ ⟨#[q]⟩) s.size q.toNat = s := by
  unfold num; rw [if_pos h, more_cut]
theorem num_not (s : ByteArray) (q : UInt8) (h : isU q.toNat = false) : num (s ++ ⟨#[q]⟩) s.size q.toNat = s ++ ⟨#[q]⟩ := by
  unfold num; rw [h]; rfl
theorem sec_unit (b : Int) (h : isU b = true) : secU b = secs b := by
  simp only [isU, Bool.or_eq_true, beq_iff_eq] at h
  rcases h with ((rfl | rfl) | rfl) | rfl <;> rfl
theorem sec_not (b : Int) (h : isU b = false) : secs b = 1 := by
  simp only [isU, Bool.or_eq_false_iff, beq_eq_false_iff_ne, ne_eq] at h
  simp [secs, h]
theorem byte_of (a : Int) (h0 : 0 ≤ a) (h : a ≤ 255) : ∃ q : UInt8, a = (q.toNat : Int) :=
  ⟨UInt8.ofNat a.toNat, by rw [UInt8.toNat_ofNat_of_lt' (by simp [UInt8.size]; omega)]; omega⟩

theorem conv (w : World) (q : UInt8) :
    (convert 23 9 (.slice (some ⟨w.heap.size, 0, none⟩) 1 1)).run Try.prog (w.alloc (.cells #[.int .u8 (q.toNat : Int)] 5)) = .ok (.string ⟨#[q]⟩) (w.alloc (.cells #[.int .u8 (q.toNat : Int)] 5)) := by
  have := run_convert_bytes_arg (P := Try.prog) (w.alloc (.cells #[.int .u8 (q.toNat : Int)] 5)) 23 5 Try.underlying23 Try.underlying5 w.heap.size 0 1 1 [(q.toNat : Int)] rfl (fun i hi => by
    match i, hi with
    | 0, _ => rw [World.cell?_alloc_at (hn := rfl)]; rfl) 9 Try.underlying9
  rw [this]
  simp [strOfNums]

theorem zzcut_at (s : ByteArray) (q : UInt8) (w : World) (t : ByteArray) (b : Int) (hs : s.size ≤ 1048576) (e : t = s ++ ⟨#[q]⟩) (e2 : b = q.toNat) :
    Calls Try.prog 6 #[.string t] w fun e w' => e = .returned (.tuple #[.string (num t s.size b), .int .i64 (secs b)]) ∧ w' = w := by
  have ht : t.size = s.size + 1 := by rw [e]; exact more_size s q
  refine zzcut_any t s.size b w ht (by omega) ?_
  subst e
  rw [e2]
  exact more_last s q _
set_option maxHeartbeats 400000 in
theorem main_walk (s : ByteArray) (q : UInt8) (w : World) (hs : s.size ≤ 1048576) :
    Calls Try.prog 3 #[.string s, .int .u8 (q.toNat : Int)] w fun e w' => e = .returned (.bool true) ∧ Grown w w' := by
  have hc := conv w q
  by_cases hu : isU q.toNat = true
  · have hn := num_unit s q hu
    have he := sec_unit q.toNat hu
    go_enter Try.func3, Try.ntmps3
    go_wp2_with fail
    refine (g5_yes _ _ _ hs).mono ?_; rintro e w' ⟨rfl, hw'⟩; have hw := hw'.symm; clear hw'; subst hw
    go_wp2_with fail
    refine (zzcut_at s q _ _ _ hs rfl rfl).mono ?_; rintro e w' ⟨rfl, rfl⟩
    rw [hn]
    go_wp2_with fail
    refine (seconds_any _ _).mono ?_; rintro e w' ⟨rfl, rfl⟩
    rw [hu, he]
    go_wp2_with fail
    go_ret
    exact ⟨by simp, (Grown.refl _).alloc _ _⟩
  · have hu' : isU q.toNat = false := by simpa using hu
    clear hu
    have hn := num_not s q hu'
    have he := sec_not q.toNat hu'
    go_enter Try.func3, Try.ntmps3
    go_wp2_with fail
    refine (g5_yes _ _ _ hs).mono ?_; rintro e w' ⟨rfl, hw'⟩; have hw := hw'.symm; clear hw'; subst hw
    go_wp2_with fail
    refine (zzcut_at s q _ _ _ hs rfl rfl).mono ?_; rintro e w' ⟨rfl, rfl⟩
    rw [hn, he]
    go_wp2_with fail
    refine (seconds_any _ _).mono ?_; rintro e w' ⟨rfl, rfl⟩
    rw [hu']
    go_wp2_with fail
    go_ret
    exact ⟨by simp, (Grown.refl _).alloc _ _⟩

theorem walk (a0 : ByteArray) (a1 : Int) (w0 : a0.size ≤ maxLen) (w1 : (Lit.int .u8 a1).wf = true) (w : World) :
    Calls Try.prog 3 #[.string a0, .int .u8 a1] w fun e w' => e = .returned (.bool true) ∧ Grown w w' := by
  by_cases hs : a0.size ≤ 1048576
  · obtain ⟨q, rfl⟩ := byte_of a1 (bounds_u8 w1).1 (bounds_u8 w1).2
    exact main_walk a0 q w hs
  · go_enter Try.func3, Try.ntmps3
    go_wp2_with (go_at_call 5; refine (g5_no _ _ _ w0 hs).mono ?_; rintro e w' ⟨rfl, rfl⟩)
    go_ret
    exact ⟨rfl, Grown.refl _⟩
end Go.Proofs.Qxb6604016a.Cut
