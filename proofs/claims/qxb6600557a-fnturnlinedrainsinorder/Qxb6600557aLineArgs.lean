/-
  SLICES OF STRINGS: what the walk is told of one that came in, of one that the call made; CONTRACTS of stringsBytesB1, cloneStringsB1 and of the bound.
-/
import Derived.Test.Qxb6600557aRows
import Derived.WalkKit
import Derived.WalkSpells
import Derived.OneCell
namespace Go.Proofs.Qxb6600557a.Line
open Go.RowKit

/-- a slice of strings, wherever it lies -/
def Strs (w : World) (a : Option Addr) (len cap : Nat) (S : List ByteArray) : Prop :=
  S.length = len ∧ (a = none → len = 0 ∧ cap = 0) ∧ (∀ s ∈ S, s.size ≤ maxLen) ∧
  (0 < len → ∃ b off, a = some ⟨b, off, none⟩ ∧ b < w.heap.size ∧ ∀ i, i < len → w.cell? ⟨b, off + i, none⟩ = some (.string (S.getD i ByteArray.empty)))

theorem Strs.below {w w' : World} {a : Option Addr} {len cap : Nat} {S : List ByteArray} (h : Strs w a len cap S) (hb : Below w.heap.size w w') : Strs w' a len cap S := by
  obtain ⟨h1, h2, h3, h4⟩ := h
  refine ⟨h1, h2, h3, fun hl => ?_⟩
  obtain ⟨b, off, e, hlt, hc⟩ := h4 hl
  exact ⟨b, off, e, Nat.lt_of_lt_of_le hlt hb.size, fun i hi => (hb.cell (p := ⟨b, off + i, none⟩) hlt).trans (hc i hi)⟩

theorem getD_mem {S : List ByteArray} {k : Nat} (h : k < S.length) : S.getD k ByteArray.empty ∈ S := by
  rw [List.getD_eq_getElem?_getD, List.getElem?_eq_getElem h]; exact List.getElem_mem h

/-- every string of the list is short -/
def Small (S : List ByteArray) : Prop := ∀ s ∈ S, s.size ≤ 1048576

theorem small_snoc {S : List ByteArray} {k : Nat} (h : Hid (Small (S.take k))) (hk : k < S.length) (hs : (S.getD k ByteArray.empty).size ≤ 1048576) : Hid (Small (S.take (k + 1))) := by
  intro s hm
  rw [List.take_succ_eq_append_getElem hk, List.mem_append] at hm
  rcases hm with hm | hm
  · exact h.out s hm
  · simp at hm
    rw [hm]
    rw [List.getD_eq_getElem?_getD, List.getElem?_eq_getElem hk] at hs
    exact hs

/-! ### stringsBytesB1 -/
set_option maxHeartbeats 400000 in
theorem sb_any (a : Option Addr) (len cap : Nat) (S : List ByteArray) (w : World) (h : Strs w a len cap S) (hl : len ≤ 65536) (hsm : Small S) :
    Calls Try.prog 21 #[.slice a len cap] w fun e w' => ∃ n : Int, e = .returned (.int .i64 n) ∧ 0 ≤ n ∧ n ≤ 4194304 ∧ w' = w := by
  obtain ⟨hlen, _, _, hcell⟩ := h
  have HC : Hid (0 < len → ∃ b off, a = some ⟨b, off, none⟩ ∧ b < w.heap.size ∧ ∀ i, i < len → w.cell? ⟨b, off + i, none⟩ = some (.string (S.getD i ByteArray.empty))) := hcell
  have HS : Hid (Small S) := hsm
  have HL : Hid (S.length = len) := hlen
  clear hcell hsm hlen
  go_enter Try.func21, Try.ntmps21
  go_wp2
  go_loop [3, 4] (fun u t => ∃ (k : Nat) (n : Int), k ≤ len ∧ 0 ≤ n ∧ n ≤ 1048576 ∧ t = .int .i64 k ∧ u = .int .i64 n) (fun _ t => len - (intOf t).toNat)
  case atStart => exact ⟨0, 16 * (len : Int), by omega, by omega, by omega, rfl, rfl⟩
  case round =>
    obtain ⟨k, n, hk, hn0, hn1, rfl, rfl⟩ := hrel
    by_cases hlt : k < len
    · obtain ⟨b, off, hab, _, hc⟩ := HC.out (by omega)
      subst hab
      have hck := hc k hlt
      clear hc
      obtain ⟨s, hs⟩ : ∃ s, s = S.getD k ByteArray.empty := ⟨_, rfl⟩
      rw [← hs] at hck
      have hss : s.size ≤ 1048576 := by rw [hs]; exact HS.out _ (getD_mem (by rw [HL.out]; exact hlt))
      clear hs
      go_wp2
      · go_ret
        exact ⟨_, rfl, by omega, by omega, rfl⟩
      · go_round
        case rel => exact ⟨k + 1, n + s.size, by omega, by omega, by omega, by go_num, rfl⟩
        case measure => simp [intOf]; omega
    · go_wp2
      go_ret
      exact ⟨n, rfl, by omega, by omega, rfl⟩

/-! ### the bound -/
/-- what the bound answers: where it says yes, every string is short -/
def ZzPost (S S' : List ByteArray) (w : World) (e : Ending) (w' : World) : Prop := ∃ r : Bool, e = .returned (.bool r) ∧ w' = w ∧ (r = true → Small S ∧ Small S')
theorem ZzPost.no {S S' : List ByteArray} {w : World} : ZzPost S S' w (.returned (.bool false)) w := ⟨false, rfl, rfl, fun h => by cases h⟩
theorem ZzPost.yes {S S' : List ByteArray} {w : World} (h : Hid (Small S)) (h' : Hid (Small S')) : ZzPost S S' w (.returned (.bool true)) w := ⟨true, rfl, rfl, fun _ => ⟨h.out, h'.out⟩⟩
set_option maxHeartbeats 1000000 in
theorem zz_any (a : Option Addr) (len cap : Nat) (S : List ByteArray) (f : Int) (a' : Option Addr) (len' cap' : Nat) (S' : List ByteArray) (w : World) (h : Strs w a len cap S) (h' : Strs w a' len' cap' S')
    (hm : len ≤ maxLen) (hm' : len' ≤ maxLen) :
    Calls Try.prog 20 #[.slice a len cap, .int .i64 f, .slice a' len' cap'] w fun e w' => ZzPost S S' w e w' := by
  unfold maxLen at hm hm'
  obtain ⟨hlen, _, hmax, hcell⟩ := h
  obtain ⟨hlen', _, hmax', hcell'⟩ := h'
  have HC : Hid (0 < len → ∃ b off, a = some ⟨b, off, none⟩ ∧ b < w.heap.size ∧ ∀ i, i < len → w.cell? ⟨b, off + i, none⟩ = some (.string (S.getD i ByteArray.empty))) := hcell
  have HC' : Hid (0 < len' → ∃ b off, a' = some ⟨b, off, none⟩ ∧ b < w.heap.size ∧ ∀ i, i < len' → w.cell? ⟨b, off + i, none⟩ = some (.string (S'.getD i ByteArray.empty))) := hcell'
  have HL : Hid (S.length = len) := hlen
  have HL' : Hid (S'.length = len') := hlen'
  have HM : Hid (∀ s ∈ S, s.size ≤ maxLen) := hmax
  have HM' : Hid (∀ s ∈ S', s.size ≤ maxLen) := hmax'
  clear hcell hcell' hlen hlen' hmax hmax'
  by_cases hl : len ≤ 1048576
  · go_enter Try.func20, Try.ntmps20
    go_wp2
    go_loop [7, 8] (fun u t => ∃ (k : Nat) (n : Int), k ≤ len ∧ 0 ≤ n ∧ n ≤ 1048576 ∧ t = .int .i64 k ∧ u = .int .i64 n ∧ Hid (Small (S.take k))) (fun _ t => len - (intOf t).toNat)
    case atStart => exact ⟨0, (len : Int), by omega, by omega, by omega, rfl, rfl, by intro s hs; simp at hs⟩
    case round =>
      obtain ⟨k, n, hk, hn0, hn1, rfl, rfl, hsk⟩ := hrel
      by_cases hlt : k < len
      · obtain ⟨b, off, hab, _, hc⟩ := HC.out (by omega)
        subst hab
        have hck := hc k hlt
        clear hc
        obtain ⟨s, hs⟩ : ∃ s, s = S.getD k ByteArray.empty := ⟨_, rfl⟩
        rw [← hs] at hck
        have hss : s.size ≤ maxLen := by rw [hs]; exact HM.out _ (getD_mem (by rw [HL.out]; exact hlt))
        unfold maxLen at hss
        have HSE : Hid (s = S.getD k ByteArray.empty) := hs
        clear hs
        go_wp2
        · go_ret
          exact ZzPost.no
        · go_ret
          exact ZzPost.no
        · go_round
          case rel => exact ⟨k + 1, n + s.size, by omega, by omega, by omega, by go_num, rfl, small_snoc hsk (by rw [HL.out]; exact hlt) (by rw [← HSE.out]; omega)⟩
          case measure => simp [intOf]; omega
      · have hall : Hid (Small S) := by
          have e : S.take k = S := List.take_of_length_le (by rw [HL.out]; omega)
          rw [e] at hsk; exact hsk
        clear hsk
        by_cases hl' : len' ≤ 1048576
        · by_cases hsum : n + len' ≤ 1048576
          · go_wp2
            go_loop [7, 9] (fun u t => ∃ (k : Nat) (n : Int), k ≤ len' ∧ 0 ≤ n ∧ n ≤ 1048576 ∧ t = .int .i64 k ∧ u = .int .i64 n ∧ Hid (Small (S'.take k))) (fun _ t => len' - (intOf t).toNat)
            case atStart => exact ⟨0, n + (len' : Int), by omega, by omega, by omega, rfl, rfl, by intro s hs; simp at hs⟩
            case round =>
              obtain ⟨k, n, hk, hn0, hn1, rfl, rfl, hsk⟩ := hrel
              by_cases hlt : k < len'
              · obtain ⟨b, off, hab, _, hc⟩ := HC'.out (by omega)
                subst hab
                have hck := hc k hlt
                clear hc
                obtain ⟨s, hs⟩ : ∃ s, s = S'.getD k ByteArray.empty := ⟨_, rfl⟩
                rw [← hs] at hck
                have hss : s.size ≤ maxLen := by rw [hs]; exact HM'.out _ (getD_mem (by rw [HL'.out]; exact hlt))
                unfold maxLen at hss
                have HSE : Hid (s = S'.getD k ByteArray.empty) := hs
                clear hs
                go_wp2
                · go_ret
                  exact ZzPost.no
                · go_ret
                  exact ZzPost.no
                · go_round
                  case rel => exact ⟨k + 1, n + s.size, by omega, by omega, by omega, by go_num, rfl, small_snoc hsk (by rw [HL'.out]; exact hlt) (by rw [← HSE.out]; omega)⟩
                  case measure => simp [intOf]; omega
              · have hall' : Hid (Small S') := by
                  have e : S'.take k = S' := List.take_of_length_le (by rw [HL'.out]; omega)
                  rw [e] at hsk; exact hsk
                clear hsk
                go_wp2
                go_ret
                exact ZzPost.yes hall hall'
          · go_wp2
            go_ret
            exact ZzPost.no
        · go_wp2
          go_ret
          exact ZzPost.no
  · go_enter Try.func20, Try.ntmps20
    go_wp2
    go_ret
    exact ZzPost.no

/-! ### cloneStringsB1 -/
/-- what a fresh slice of strings holds while it is filled -/
def filled (S : List ByteArray) (k : Nat) : List Value := (S.take k).map Value.string ++ List.replicate (S.length - k) (Value.string ByteArray.empty)

theorem filled_zero (S : List ByteArray) : filled S 0 = List.replicate S.length (Value.string ByteArray.empty) := by simp [filled]
theorem filled_all (S : List ByteArray) (k : Nat) (h : S.length ≤ k) : filled S k = S.map Value.string := by
  unfold filled
  rw [List.take_of_length_le h, show S.length - k = 0 by omega]; simp
theorem filled_length (S : List ByteArray) (k : Nat) (h : k ≤ S.length) : (filled S k).length = S.length := by
  simp [filled]; omega
theorem filled_step (S : List ByteArray) (k : Nat) (h : k < S.length) : (filled S k).set k (.string (S.getD k ByteArray.empty)) = filled S (k + 1) := by
  apply List.ext_getElem?
  intro j
  have hl := filled_length S k (by omega)
  rw [List.getElem?_set, hl]
  by_cases hj : k = j
  · subst hj
    rw [if_pos rfl, if_pos h]
    unfold filled
    rw [List.getElem?_append_left (by simp; omega)]
    simp [h]
  · rw [if_neg hj]
    unfold filled
    by_cases hjk : j < k
    · rw [List.getElem?_append_left (by simp; omega), List.getElem?_append_left (by simp; omega)]
      simp only [List.getElem?_map, List.getElem?_take]
      rw [if_pos hjk, if_pos (by omega)]
    · rw [List.getElem?_append_right (by simp; omega), List.getElem?_append_right (by simp; omega)]
      simp only [List.length_map, List.length_take, List.getElem?_replicate]
      by_cases hjl : j < S.length
      · rw [if_pos (by omega), if_pos (by omega)]
      · rw [if_neg (by omega), if_neg (by omega)]

/-- a slice of strings that the call made (its capacity its length): nil, or a block of its own from B on -/
def RowAt (w : World) (B : Nat) (ao : Option Addr) (S : List ByteArray) : Prop :=
  (ao = none ∧ S = []) ∨ ∃ g, ao = some ⟨g, 0, none⟩ ∧ B ≤ g ∧ w.heap[g]? = some (.cells (S.map Value.string).toArray 9 (0, 0))

theorem rowAt_of_owns {w : World} {B g : Nat} {S : List ByteArray} (h : w.ownsRow B 9 1 (.slice (some ⟨g, 0, none⟩) S.length S.length) S.length (S.map Value.string)) : RowAt w B (some ⟨g, 0, none⟩) S := by
  rcases h.2 with ⟨h', _⟩ | ⟨g', cap', cur, h', hb, hg, _, _, hcs, htake⟩
  · cases h'
  · simp only [Value.slice.injEq, Option.some.injEq, Addr.mk.injEq, and_true, true_and] at h'
    obtain ⟨rfl, rfl⟩ := h'
    refine .inr ⟨g, rfl, hb, ?_⟩
    rw [hg]
    congr 1
    congr 1
    apply Array.ext'
    rw [← htake, List.take_of_length_le (by simp [hcs])]

theorem info9 : (Try.prog.info? 9).map (fun i => (i.zero, i.size, i.bytes)) = some (some (.string ByteArray.empty), 1, 16) := by kernel_rfl

theorem clone_nil (w : World) : Calls Try.prog 22 #[.slice none 0 0] w fun e w' => e = .returned (.slice none 0 0) ∧ w' = w := by
  have hn := fun (w : World) => Lib.run_eql_slice_nil (P := Try.prog) w 31 9 none 0 0 0 0 Try.underlying31
  go_enter Try.func22, Try.ntmps22
  go_wp2
  go_ret
  exact ⟨rfl, rfl⟩

/-- what cloneStringsB1 hands back: nil of nil, else a row of its own -/
def ClonePost (a : Option Addr) (S : List ByteArray) (w : World) (e : Ending) (w' : World) : Prop :=
  ∃ ao, e = .returned (.slice ao S.length S.length) ∧ RowAt w' w.heap.size ao S ∧ (ao = none ↔ a = none) ∧ Below w.heap.size w w'

set_option maxHeartbeats 1000000 in
theorem clone_some (x : Addr) (len cap : Nat) (S : List ByteArray) (w : World) (h : Strs w (some x) len cap S) (hl : len ≤ 65536) :
    Calls Try.prog 22 #[.slice (some x) len cap] w fun e w' => ClonePost (some x) S w e w' := by
  obtain ⟨hlen, _, _, hcell⟩ := h
  have HC : Hid (0 < len → ∃ b off, some x = some (⟨b, off, none⟩ : Addr) ∧ b < w.heap.size ∧ ∀ i, i < len → w.cell? ⟨b, off + i, none⟩ = some (.string (S.getD i ByteArray.empty))) := hcell
  have HL : Hid (S.length = len) := hlen
  clear hcell hlen
  have hn := fun (w : World) => Lib.run_eql_slice_nil (P := Try.prog) w 31 9 (some x) len cap 0 0 Try.underlying31
  obtain ⟨i0, hi, hz0, hz1, hz2⟩ := info_parts info9
  go_enter Try.func22, Try.ntmps22
  go_wp2_with (at_make; refine wpList_make_full _ rfl _ _ 31 rfl w.heap.size 9 i0 (.string ByteArray.empty) 1 Try.underlying31 hi hz0 hz1 .i64 .i64 _ _ len rfl rfl rfl rfl (by rw [hz2]; omega) (by simp [maxLen]; omega) (Nat.le_refl _) ?_; intro w1 hown1 hgrow1)
  have H1 : w1.ownsRow w.heap.size 9 1 (.slice (some ⟨w.heap.size, 0, none⟩) len len) len (filled S 0) := by
    rw [filled_zero, HL.out]
    have e : (madeCells (Value.string ByteArray.empty).cells (len * 1)).toList = List.replicate len (Value.string ByteArray.empty) := by
      rw [Nat.mul_one]; exact toList_madeCells_one _ _
    rw [← e]; exact hown1
  have H2 : Below w.heap.size w w1 := (Below.refl _ _).grown hgrow1 (Nat.le_refl _) (fun j hj => by cases hj)
  clear hown1 hgrow1 hi hz0 hz1 hz2
  go_loopw [4] (fun t wr => ∃ k : Nat, k ≤ len ∧ t = .int .i64 k ∧ wr.ownsRow w.heap.size 9 1 (.slice (some ⟨w.heap.size, 0, none⟩) len len) len (filled S k) ∧ Below w.heap.size w wr) (fun t _ => len - (intOf t).toNat)
  case atStart => exact ⟨0, Nat.zero_le _, rfl, H1, H2⟩
  case round =>
    clear H1 H2
    obtain ⟨k, hk, rfl, hown, hbel⟩ := hrel
    by_cases hlt : k < len
    · obtain ⟨b, off, hab, hbl, hc⟩ := HC.out (by omega)
      cases hab
      have hck : wr.cell? ⟨b, off + k, none⟩ = some (.string (S.getD k ByteArray.empty)) := (hbel.cell (p := ⟨b, off + k, none⟩) hbl).trans (hc k hlt)
      clear hc
      obtain ⟨s, hs⟩ : ∃ s, s = S.getD k ByteArray.empty := ⟨_, rfl⟩
      rw [← hs] at hck
      have hst := hown.stored k (.string s)
      have hco := hown.cellAt k (by omega)
      have hfo := hown.frozenAt k
      obtain ⟨u, hu⟩ : ∃ u, (filled S k)[k]? = some u := ⟨_, List.getElem?_eq_getElem (by rw [filled_length S k (by rw [HL.out]; omega), HL.out]; exact hlt)⟩
      rw [hu] at hco
      clear hu
      have HF : Hid ((wr.setCell ⟨w.heap.size, k, none⟩ (.string s)).ownsRow w.heap.size 9 1 (.slice (some ⟨w.heap.size, 0, none⟩) len len) len (filled S (k + 1))) := by
        have e := filled_step S k (by rw [HL.out]; exact hlt)
        rw [← e, ← hs]; exact hst.1
      have HB : Hid (Below w.heap.size w (wr.setCell ⟨w.heap.size, k, none⟩ (.string s))) := hbel.setCell (Nat.le_refl _) _
      clear hst hs hown
      go_wp2
      go_roundw
      case rel => exact ⟨k + 1, by omega, by go_num, HF.out, HB.out⟩
      case measure => simp [intOf]; omega
    · go_wp2
      go_ret
      have e : filled S k = S.map Value.string := filled_all S k (by rw [HL.out]; omega)
      rw [e] at hown
      have hr := HL.out
      subst hr
      exact ⟨_, rfl, rowAt_of_owns hown, by simp, hbel⟩
end Go.Proofs.Qxb6600557a.Line
