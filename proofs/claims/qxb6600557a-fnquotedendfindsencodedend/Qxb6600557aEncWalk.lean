/-
  THE WALK of FnQuotedEndFindsEncodedEnd, all ways.
-/
import Derived.Test.Qxb6600557aEncWalkF
import Derived.Test.Qxb6600557aEncWalkT
import Derived.OpenShut
namespace Go.Proofs.Qxb6600557a.Enc
open Go.RowKit

set_option maxRecDepth 100000 in
set_option maxHeartbeats 1000000 in
theorem out_slash (p c u : ByteArray) (bq : Bool) (w : World) (hb : p.size + c.size + u.size ≤ 1048576) :
    Calls Try.prog 4 #[.string p, .string c, .string u, .int .u8 92, .bool true, .bool bq] w fun e w' => e = .returned (.bool true) ∧ Below w.heap.size w w' := by
  go_enter Try.func4, Try.ntmps4
  go_wp2_with (go_at_call 13; refine (g13_yes _ _ _ _ _ _ _ hb).mono ?_; rintro e w' ⟨rfl, rfl⟩)
  go_ret
  exact ⟨rfl, Below.refl _ _⟩

set_option maxRecDepth 100000 in
set_option maxHeartbeats 1000000 in
theorem out_quote (p c u : ByteArray) (q : UInt8) (esc bq : Bool) (w : World) (hb : p.size + c.size + u.size ≤ 1048576)
    (hq : esc = true → ((q.toNat : Int) == 92) = false) (h : 0 < u.size) (hu : (((u[0]'h).toNat : Int) == (q.toNat : Int)) = true) :
    Calls Try.prog 4 #[.string p, .string c, .string u, .int .u8 q.toNat, .bool esc, .bool bq] w fun e w' => e = .returned (.bool true) ∧ Below w.heap.size w w' := by
  cases esc
  · clear hq
    go_enter Try.func4, Try.ntmps4
    go_wp2_with (go_at_call 13; refine (g13_yes _ _ _ _ _ _ _ hb).mono ?_; rintro e w' ⟨rfl, rfl⟩)
    go_ret
    exact ⟨rfl, Below.refl _ _⟩
  · have hq' := hq rfl
    clear hq
    go_enter Try.func4, Try.ntmps4
    go_wp2_with (go_at_call 13; refine (g13_yes _ _ _ _ _ _ _ hb).mono ?_; rintro e w' ⟨rfl, rfl⟩)
    go_ret
    exact ⟨rfl, Below.refl _ _⟩

set_option maxRecDepth 100000 in
set_option maxHeartbeats 1000000 in
theorem out_long (p c u : ByteArray) (q : Int) (esc bq : Bool) (w : World) (w0 : p.size ≤ maxLen) (w1 : c.size ≤ maxLen) (w2 : u.size ≤ maxLen) (hb : ¬ p.size + c.size + u.size ≤ 1048576) :
    Calls Try.prog 4 #[.string p, .string c, .string u, .int .u8 q, .bool esc, .bool bq] w fun e w' => e = .returned (.bool true) ∧ Below w.heap.size w w' := by
  go_enter Try.func4, Try.ntmps4
  go_wp2_with (go_at_call 13; refine (g13_no _ _ _ _ _ _ _ w0 w1 w2 hb).mono ?_; rintro e w' ⟨rfl, rfl⟩)
  go_ret
  exact ⟨rfl, Below.refl _ _⟩

theorem walk (p c u : ByteArray) (a : Int) (esc bq : Bool) (w0 : p.size ≤ maxLen) (w1 : c.size ≤ maxLen) (w2 : u.size ≤ maxLen) (w3 : (Lit.int .u8 a).wf = true) (w : World) :
    Calls Try.prog 4 #[.string p, .string c, .string u, .int .u8 a, .bool esc, .bool bq] w fun e w' => e = .returned (.bool true) ∧ Below w.heap.size w w' := by
  by_cases hb : p.size + c.size + u.size ≤ 1048576
  · obtain ⟨q, rfl⟩ := byte_of a (bounds_u8 w3).1 (bounds_u8 w3).2
    by_cases hq : esc = true → ((q.toNat : Int) == 92) = false
    · by_cases hu : ∀ h : 0 < u.size, (((u[0]'h).toNat : Int) == (q.toNat : Int)) = false
      · cases esc
        · exact walk_f p c u q bq w hb hu
        · exact walk_t p c u q bq w hb (hq rfl) hu
      · obtain ⟨h, hu'⟩ := Classical.not_forall.1 hu
        exact out_quote p c u q esc bq w hb hq h (by simpa using hu')
    · obtain ⟨he, h92⟩ := Classical.not_imp.1 hq
      subst he
      have e : (q.toNat : Int) = 92 := beq_t (by simpa using h92)
      rw [e]
      exact out_slash p c u bq w hb
  · exact out_long p c u a esc bq w w0 w1 w2 hb
end Go.Proofs.Qxb6600557a.Enc
