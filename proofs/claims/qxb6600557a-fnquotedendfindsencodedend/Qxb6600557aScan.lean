/-
  CONTRACTS of quotedEnd and commentEnd (and of their shims), of the three-state reader, and of the recursive reader.
-/
import Derived.Test.Qxb6600557aRows
import Derived.Test.Qxb6600557aPlain
import Derived.WalkKit
import Derived.WalkSpells
namespace Go.Proofs.Qxb6600557a
open Go.RowKit

theorem ret_int {k : IntKind} {a b : Int} (h : a = b) : Ending.returned (.int k a) = .returned (.int k b) := by rw [h]

theorem ret_eq {a b : Int} (h : a = b) : Ending.returned (.bool (a == b)) = .returned (.bool true) := by rw [h]; simp

/-- a byte that the plain law found -/
theorem byte_at (s : ByteArray) (k : Nat) (h : k < s.size) (c : UInt8) (n : Int) (h1 : s.data.toList[k]? = some c) (h2 : (c.toNat : Int) = n) : ((s[k]).toNat : Int) = n := by
  have e : s.data.toList[k]? = some s[k] := List.getElem?_eq_getElem h
  rw [e] at h1
  rw [Option.some.inj h1, h2]

theorem len_toList (s : ByteArray) : s.data.toList.length = s.size := rfl

theorem beq_t {a b : Int} (h : (a == b) = true) : a = b := by simpa using h
theorem beq_f {a b : Int} (h : (a == b) = false) : ¬ a = b := by simpa using h
theorem bne_t {a b : Int} (h : (a != b) = true) : ¬ a = b := by simpa using h
theorem bne_f {a b : Int} (h : (a != b) = false) : a = b := by simpa using h

/-! ### step lemmas in the walk's own forms -/
theorem q_esc (s : ByteArray) (q : Int) (k : Nat) (h : k < s.size) (h1 : (((s[k]).toNat : Int) == 92) = true) :
    Plain.qeA s.data.toList q true (k + 2) = Plain.qeA s.data.toList q true k :=
  (Plain.qeA_esc s.data.toList q k h (beq_t h1)).symm
theorem q_other (s : ByteArray) (q : Int) (esc : Bool) (k : Nat) (h : k < s.size) (h0 : esc = true → (((s[k]).toNat : Int) == 92) = false) (h1 : (((s[k]).toNat : Int) != q) = true) :
    Plain.qeA s.data.toList q esc (k + 1) = Plain.qeA s.data.toList q esc k :=
  (Plain.qeA_other s.data.toList q esc k h (fun ⟨a, b⟩ => beq_f (h0 a) b) (bne_t h1)).symm
theorem q_twice (s : ByteArray) (q : Int) (esc : Bool) (k : Nat) (h : k < s.size) (h0 : esc = true → (((s[k]).toNat : Int) == 92) = false) (h1 : (((s[k]).toNat : Int) != q) = false) (hk : (k : Int) + 1 < s.size) (h2 : (((s[k + 1]'(by omega)).toNat : Int) == q) = true) :
    Plain.qeA s.data.toList q esc (k + 2) = Plain.qeA s.data.toList q esc k :=
  (Plain.qeA_twice s.data.toList q esc k (by rw [len_toList]; omega) (fun ⟨a, b⟩ => beq_f (h0 a) b) (bne_f h1) (beq_t h2)).symm
theorem q_hit (s : ByteArray) (q : Int) (esc : Bool) (k : Nat) (h : k < s.size) (h0 : esc = true → (((s[k]).toNat : Int) == 92) = false) (h1 : (((s[k]).toNat : Int) != q) = false) (hk : (k : Int) + 1 < s.size) (h2 : (((s[k + 1]'(by omega)).toNat : Int) == q) = false) :
    Plain.qeA s.data.toList q esc k = (k : Int) + 1 :=
  Plain.qeA_hit s.data.toList q esc k h (fun ⟨a, b⟩ => beq_f (h0 a) b) (bne_f h1) (fun _ => beq_f h2)
theorem q_last (s : ByteArray) (q : Int) (esc : Bool) (k : Nat) (h : k < s.size) (h0 : esc = true → (((s[k]).toNat : Int) == 92) = false) (h1 : (((s[k]).toNat : Int) != q) = false) (hk : (s.size : Int) ≤ (k : Int) + 1) :
    Plain.qeA s.data.toList q esc k = (k : Int) + 1 :=
  Plain.qeA_hit s.data.toList q esc k h (fun ⟨a, b⟩ => beq_f (h0 a) b) (bne_f h1) (fun h3 => by rw [len_toList] at h3; omega)

set_option maxHeartbeats 400000 in
theorem qe_any (s : ByteArray) (i : Nat) (q : Int) (esc : Bool) (w : World) (hs : s.size ≤ 16777216) (hi : (i : Int) ≤ 9223372036854775807) :
    Calls Try.prog 29 #[.string s, .int .i64 i, .int .u8 q, .bool esc] w fun e w' => e = .returned (.int .i64 (Plain.qeA s.data.toList q esc i)) ∧ w' = w := by
  go_enter Try.func29, Try.ntmps29
  go_wp2
  go_loop [1] (fun t => ∃ k : Nat, (k : Int) ≤ 9223372036854775807 ∧ t = .int .i64 k ∧ Plain.qeA s.data.toList q esc k = Plain.qeA s.data.toList q esc i) (fun t => s.size + 1 - (intOf t).toNat)
  case atStart => exact ⟨i, hi, rfl, rfl⟩
  case round =>
    obtain ⟨k, hk, rfl, he⟩ := hrel
    have HE : Hid (Plain.qeA s.data.toList q esc k = Plain.qeA s.data.toList q esc i) := he
    clear he
    by_cases hlt : k < s.size
    · cases esc
      · go_wp2
        · go_round
          case rel => exact ⟨k + 1, by omega, by go_num, (q_other s q false k hlt (fun h => by cases h) ‹_›).trans HE.out⟩
          case measure => simp [intOf]; omega
        · go_round
          case rel => exact ⟨k + 2, by omega, by go_num, (q_twice s q false k hlt (fun h => by cases h) ‹_› ‹_› ‹_›).trans HE.out⟩
          case measure => simp [intOf]; omega
        · go_ret
          exact ⟨ret_int (by rw [← HE.out]; exact (q_hit s q false k hlt (fun h => by cases h) ‹_› ‹_› ‹_›).symm), rfl⟩
        · go_ret
          exact ⟨ret_int (by rw [← HE.out]; exact (q_last s q false k hlt (fun h => by cases h) ‹_› ‹_›).symm), rfl⟩
      · go_wp2
        · go_round
          case rel => exact ⟨k + 2, by omega, by go_num, (q_esc s q k hlt ‹_›).trans HE.out⟩
          case measure => simp [intOf]; omega
        · go_round
          case rel => exact ⟨k + 1, by omega, by go_num, (q_other s q true k hlt (fun _ => ‹_›) ‹_›).trans HE.out⟩
          case measure => simp [intOf]; omega
        · go_round
          case rel => exact ⟨k + 2, by omega, by go_num, (q_twice s q true k hlt (fun _ => ‹_›) ‹_› ‹_› ‹_›).trans HE.out⟩
          case measure => simp [intOf]; omega
        · go_ret
          exact ⟨ret_int (by rw [← HE.out]; exact (q_hit s q true k hlt (fun _ => ‹_›) ‹_› ‹_› ‹_›).symm), rfl⟩
        · go_ret
          exact ⟨ret_int (by rw [← HE.out]; exact (q_last s q true k hlt (fun _ => ‹_›) ‹_› ‹_›).symm), rfl⟩
    · go_wp2
      go_ret
      exact ⟨ret_int (by rw [← HE.out, Plain.qeA_end _ _ _ _ (by rw [len_toList]; omega)]), rfl⟩

/-- the shim -/
theorem zzqe_any (s : ByteArray) (i : Nat) (q : Int) (esc : Bool) (w : World) (hs : s.size ≤ 16777216) (hi : (i : Int) ≤ 9223372036854775807) :
    Calls Try.prog 11 #[.string s, .int .i64 i, .int .u8 q, .bool esc] w fun e w' => e = .returned (.int .i64 (Plain.qeA s.data.toList q esc i)) ∧ w' = w := by
  go_enter Try.func11, Try.ntmps11
  go_wp2_with (go_at_call 29; refine (qe_any _ _ _ _ _ hs hi).mono ?_; rintro e w' ⟨rfl, rfl⟩)
  go_ret
  exact ⟨rfl, rfl⟩

/-! ### commentEnd -/
theorem nat_of {a : Nat} {b : Nat} (h : (a : Int) = (b : Int)) : a = b := by omega
theorem c_open (s : ByteArray) (d k : Nat) (h : k + 1 < s.size) (h1 : ((s[k]).toNat : Int) = 47) (h2 : ((s[k + 1]).toNat : Int) = 42) :
    Plain.ceA s.data.toList (d + 2) (k + 2) = Plain.ceA s.data.toList (d + 1) k :=
  (Plain.ceA_open s.data.toList d k h (nat_of h1) (nat_of h2)).symm
theorem c_close (s : ByteArray) (d k : Nat) (h : k + 1 < s.size) (h1 : ((s[k]).toNat : Int) = 42) (h2 : ((s[k + 1]).toNat : Int) = 47) :
    Plain.ceA s.data.toList d (k + 2) = Plain.ceA s.data.toList (d + 1) k :=
  (Plain.ceA_close s.data.toList d k h (nat_of h1) (nat_of h2)).symm
theorem c_other (s : ByteArray) (d k : Nat) (h : k + 1 < s.size) (h1 : ((s[k]).toNat : Int) = 47 → ((s[k + 1]).toNat : Int) = 42 → False) (h2 : ((s[k]).toNat : Int) = 42 → ((s[k + 1]).toNat : Int) = 47 → False) :
    Plain.ceA s.data.toList (d + 1) (k + 1) = Plain.ceA s.data.toList (d + 1) k :=
  (Plain.ceA_other s.data.toList d k h (fun ⟨a, b⟩ => h1 (congrArg Int.ofNat a) (congrArg Int.ofNat b)) (fun ⟨a, b⟩ => h2 (congrArg Int.ofNat a) (congrArg Int.ofNat b))).symm

set_option maxHeartbeats 400000 in
theorem ce_any (s : ByteArray) (i : Nat) (w : World) (hs : s.size ≤ 16777216) (hi : i ≤ s.size) :
    Calls Try.prog 30 #[.string s, .int .i64 i] w fun e w' => e = .returned (.int .i64 (Plain.ceA s.data.toList 1 i)) ∧ w' = w := by
  go_enter Try.func30, Try.ntmps30
  go_wp2
  go_loop [1, 5] (fun t u => ∃ k d : Nat, k ≤ s.size ∧ d ≤ k + 1 ∧ t = .int .i64 k ∧ u = .int .i64 d ∧ Plain.ceA s.data.toList d k = Plain.ceA s.data.toList 1 i) (fun t _ => s.size + 1 - (intOf t).toNat)
  case atStart => exact ⟨i, 1, hi, by omega, rfl, rfl, rfl⟩
  case round =>
    obtain ⟨k, d, hk, hd, rfl, rfl, he⟩ := hrel
    have HE : Hid (Plain.ceA s.data.toList d k = Plain.ceA s.data.toList 1 i) := he
    clear he
    match d, HE with
    | 0, HE =>
      go_wp2
      go_ret
      exact ⟨ret_int (by rw [← HE.out, Plain.ceA_zero]), rfl⟩
    | d + 1, HE =>
      by_cases hlt : k + 1 < s.size
      · go_wp2
        · go_round
          case rel => exact ⟨k + 2, d + 2, by omega, by omega, by go_num, by go_num, (c_open s d k hlt ‹_› (beq_t ‹_›)).trans HE.out⟩
          case measure => simp [intOf]; omega
        · go_round
          case rel => exact ⟨k + 1, d + 1, by omega, by omega, by go_num, by go_num, (c_other s d k hlt (fun _ => beq_f ‹_›) (fun h => by omega)).trans HE.out⟩
          case measure => simp [intOf]; omega
        · go_round
          case rel => exact ⟨k + 2, d, by omega, by omega, by go_num, by go_num, (c_close s d k hlt ‹_› (beq_t ‹_›)).trans HE.out⟩
          case measure => simp [intOf]; omega
        · go_round
          case rel => exact ⟨k + 1, d + 1, by omega, by omega, by go_num, by go_num, (c_other s d k hlt (fun h => by omega) (fun _ => beq_f ‹_›)).trans HE.out⟩
          case measure => simp [intOf]; omega
        · go_round
          case rel => exact ⟨k + 1, d + 1, by omega, by omega, by go_num, by go_num, (c_other s d k hlt (fun h => by omega) (fun h => by omega)).trans HE.out⟩
          case measure => simp [intOf]; omega
      · go_wp2
        go_ret
        exact ⟨ret_int (by rw [← HE.out, Plain.ceA_end _ _ _ (by rw [len_toList]; omega)]), rfl⟩

/-- the shim -/
theorem zzce_any (s : ByteArray) (i : Nat) (w : World) (hs : s.size ≤ 16777216) (hi : i ≤ s.size) :
    Calls Try.prog 16 #[.string s, .int .i64 i] w fun e w' => e = .returned (.int .i64 (Plain.ceA s.data.toList 1 i)) ∧ w' = w := by
  go_enter Try.func16, Try.ntmps16
  go_wp2_with (go_at_call 30; refine (ce_any _ _ _ hs hi).mono ?_; rintro e w' ⟨rfl, rfl⟩)
  go_ret
  exact ⟨rfl, rfl⟩
end Go.Proofs.Qxb6600557a
