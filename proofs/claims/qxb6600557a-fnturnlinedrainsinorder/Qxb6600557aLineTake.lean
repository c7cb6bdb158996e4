/-
  CONTRACTS of (*turnLine).take and of the shims.
-/
import Derived.Test.Qxb6600557aLineArgs
import Derived.Maps.OwnSet
import Derived.Maps.OwnOps
import Derived.Deep.QuietTactic
import Derived.BigQuiet
namespace Go.Proofs.Qxb6600557a.Line
open Go.RowKit Go.Maps

theorem law : Keyed Try.prog 9 := string_keyed Try.underlying9
theorem zero4 (w : World) : (zeroValue 4).run Try.prog w = .ok (.bool false) w := by kernel_rfl

/-- what a string key reads as -/
def kl (s : ByteArray) : Lit := .string s.data.toList
theorem key_of (s : ByteArray) (h : s.size ≤ maxLen) : keyOf Try.prog 9 (.string s) = some (kl s) := WideMaps.keyOf_string_mk Try.underlying9 h

/-- the field 'held': nil, or a map that reads as D -/
def Held (w : World) (mo : Option Nat) (n : Nat) (D : DataW Unit) : Prop :=
  (mo = none ∧ D = .map []) ∨ ∃ b, mo = some b ∧ w.ownsMap Try.prog 9 (plainElem Try.prog 4) b n D

/-- all but the line's block T and the map mo is as it was -/
def Turned (w w' : World) (T : Nat) (mo : Option Nat) : Prop :=
  w'.os = w.os ∧ w'.tape = w.tape ∧ w'.output = w.output ∧ w.heap.size ≤ w'.heap.size ∧ ∀ k, k < w.heap.size → k ≠ T → some k ≠ mo → w'.heap[k]? = w.heap[k]?

/-- the line's block -/
def lineAt (q : Value) (f : Int) (mo : Option Nat) : Obj := .cells #[q, .int .i64 f, .map mo] 44 (0, 0)

theorem line_cells {w : World} {T : Nat} {q : Value} {f : Int} {mo : Option Nat} (h : w.heap[T]? = some (lineAt q f mo)) :
    w.cell? ⟨T, 0, none⟩ = some q ∧ w.cell? ⟨T, 1, none⟩ = some (.int .i64 f) ∧ w.cell? ⟨T, 2, none⟩ = some (.map mo) ∧ w.frozen? ⟨T, 0, none⟩ = false ∧ w.frozen? ⟨T, 1, none⟩ = false := by
  unfold lineAt at h
  simp [World.cell?, World.frozen?, h]




theorem Turned.refl (w : World) (T : Nat) (mo : Option Nat) : Turned w w T mo := ⟨rfl, rfl, rfl, Nat.le_refl _, fun _ _ _ _ => rfl⟩
theorem Turned.trans {w w1 w2 : World} {T : Nat} {mo : Option Nat} (h : Turned w w1 T mo) (k : Turned w1 w2 T mo) : Turned w w2 T mo :=
  ⟨k.1.trans h.1, k.2.1.trans h.2.1, k.2.2.1.trans h.2.2.1, Nat.le_trans h.2.2.2.1 k.2.2.2.1, fun i hi h1 h2 => (k.2.2.2.2 i (Nat.lt_of_lt_of_le hi h.2.2.2.1) h1 h2).trans (h.2.2.2.2 i hi h1 h2)⟩
theorem Turned.drewN {w w1 : World} {T : Nat} {mo : Option Nat} (h : Turned w w1 T mo) (n : Nat) : Turned w (w1.drewN n) T mo := h
theorem Turned.setCell {w w1 : World} {T : Nat} {mo : Option Nat} (h : Turned w w1 T mo) (j : Nat) (u : Value) : Turned w (w1.setCell ⟨T, j, none⟩ u) T mo :=
  h.trans ⟨rfl, rfl, rfl, by simp [World.setCell], fun k _ h1 _ => Below.heap_setCell _ _ _ _ h1⟩

theorem line_set0 {w : World} {T : Nat} {q : Value} {f : Int} {mo : Option Nat} (h : w.heap[T]? = some (lineAt q f mo)) (q' : Value) : (w.setCell ⟨T, 0, none⟩ q').heap[T]? = some (lineAt q' f mo) :=
  heap_setCell_same w T 0 _ 44 q' h
theorem line_set1 {w : World} {T : Nat} {q : Value} {f : Int} {mo : Option Nat} (h : w.heap[T]? = some (lineAt q f mo)) (f' : Int) : (w.setCell ⟨T, 1, none⟩ (.int .i64 f')).heap[T]? = some (lineAt q f' mo) :=
  heap_setCell_same w T 1 _ 44 _ h

theorem Held.of_heap {w w' : World} {mo : Option Nat} {n : Nat} {D : DataW Unit} (h : Held w mo n D) (e : w'.heap = w.heap) : Held w' mo n D := by
  rcases h with h | ⟨b, hb, es, clock, h1, h2⟩
  · exact .inl h
  · exact .inr ⟨b, hb, es, clock, by rw [e]; exact h1, h2⟩
theorem Held.drewN {w : World} {mo : Option Nat} {n : Nat} {D : DataW Unit} (h : Held w mo n D) (m : Nat) : Held (w.drewN m) mo n D := h
theorem Held.setLine {w : World} {mo : Option Nat} {n : Nat} {D : DataW Unit} (h : Held w mo n D) {T : Nat} {q : Value} {f : Int} {mo' : Option Nat} (hT : w.heap[T]? = some (lineAt q f mo')) (j : Nat) (u : Value) : Held (w.setCell ⟨T, j, none⟩ u) mo n D := by
  rcases h with h | ⟨b, rfl, h⟩
  · exact .inl h
  · refine .inr ⟨b, rfl, h.setCell (fun e => ?_) u⟩
    obtain ⟨es, clock, hb, _⟩ := h
    rw [e] at hb
    rw [show (⟨T, j, none⟩ : Addr).block = T from rfl, hT] at hb
    simp [lineAt] at hb

/-- 'delete(held, s)', nil or not -/
theorem wpList_del {ops : Array Oper} {rest : List Oper} {o : Oper} {a : Act} {Q : Exit → Act → World → Prop} (W : World) (hg : o.guard = none) (m x : Operand)
    (hop : o.op = Op.call { callee := Callee.builtin Builtin.delete, args := #[m, x], argTypes := #[35, 9] }) (mo : Option Nat) (n : Nat) (D : DataW Unit)
    (hm : a.eval m = .map mo) (h : Held W mo n D) (s : ByteArray) (hx : a.eval x = .string s) (hs : s.size ≤ maxLen) (T : Nat)
    (hK : ∀ w', Held w' mo n (D.del (kl s)) → Turned W w' T mo → (∀ q f mo', W.heap[T]? = some (lineAt q f mo') → w'.heap[T]? = some (lineAt q f mo')) → wpList Try.prog ops Q rest (a.put o.dst (.tuple #[])) w') :
    wpList Try.prog ops Q (o :: rest) a W := by
  rcases h with ⟨rfl, rfl⟩ | ⟨b, rfl, h⟩
  · refine wpList_plain hg fun K' hK' => ?_
    have hrun := Maps.drop_nil (w := W) law Try.underlying35 (key_of s hs) o.type
    unfold Oper.wp
    simp [execOp, hop, resolve, invoke, builtin, hm, hx, hrun, Result.andThen]
    exact hK' _ _ (hK W (.inl ⟨rfl, rfl⟩) (Turned.refl _ _ _) (fun _ _ _ h => h))
  · refine wpList_delete_own W hg m x 35 9 hop 4 law Try.underlying35 _ b n D hm h _ _ hx (key_of s hs) fun w' hown hturn => ?_
    have hg := hturn.grown
    refine hK w' (.inr ⟨b, rfl, hown⟩) ⟨hg.os, hg.tape, hg.output, hg.size, fun k hk _ hne => hg.block k hk hne⟩ (fun q f mo' hT => ?_)
    rw [hg.block T (lt_of_block hT) (fun e => ?_)]
    · exact hT
    · obtain ⟨es, clock, hb, _⟩ := h
      rw [← Option.some.inj e, hT] at hb
      simp [lineAt] at hb

set_option maxHeartbeats 1000000 in
theorem take_none (w : World) (T : Nat) (ao : Option Addr) (len cap : Nat) (mo : Option Nat) (hT : w.heap[T]? = some (lineAt (.slice ao len cap) len mo)) :
    Calls Try.prog 31 #[.pointer (some ⟨T, 0, none⟩)] w fun e w' => e = .returned (.tuple #[.string ⟨#[]⟩, .bool false]) ∧ ∃ n, w' = w.drewN n := by
  obtain ⟨c0, c1, c2, f0, f1⟩ := line_cells hT
  clear hT
  go_enter Try.func31, Try.ntmps31
  go_wp2
  go_quiet (fail)
  go_wp2
  go_ret2
  exact ⟨rfl, _, rfl⟩

/-- what take leaves where it gives one out: the line's slice has now length len', its first place is f' -/
def TakePost (w : World) (T : Nat) (mo : Option Nat) (n : Nat) (D : DataW Unit) (ao : Option Addr) (cap : Nat) (q : ByteArray) (len' : Nat) (f' : Int) (e : Ending) (w' : World) : Prop :=
  e = .returned (.tuple #[.string q, .bool true]) ∧ w'.heap[T]? = some (lineAt (.slice ao len' cap) f' mo) ∧ Held w' mo n (D.del (kl q)) ∧ Turned w w' T mo

set_option maxHeartbeats 1000000 in
theorem take_more (w : World) (T : Nat) (g len cap : Nat) (mo : Option Nat) (n : Nat) (D : DataW Unit) (f : Nat) (q : ByteArray) (hf : f + 1 < len) (_hl : len ≤ 65536)
    (hT : w.heap[T]? = some (lineAt (.slice (some ⟨g, 0, none⟩) len cap) f mo)) (hq : w.cell? ⟨g, f, none⟩ = some (.string q)) (hH : Held w mo n D) (hqs : q.size ≤ maxLen) :
    Calls Try.prog 31 #[.pointer (some ⟨T, 0, none⟩)] w fun e w' => TakePost w T mo n D (some ⟨g, 0, none⟩) cap q len (f + 1) e w' := by
  obtain ⟨c0, c1, c2, f0, f1⟩ := line_cells hT
  have HT : Hid (w.heap[T]? = some (lineAt (.slice (some ⟨g, 0, none⟩) len cap) f mo)) := hT
  clear hT
  go_enter Try.func31, Try.ntmps31
  go_wp2
  go_quiet (fail)
  go_wp2
  go_quiet (fail)
  go_wp2
  go_quiet (fail)
  go_wp2_with (at_delete; refine wpList_del _ rfl _ _ rfl mo n D rfl (Held.of_heap (hH.setLine HT.out 1 (.int .i64 ((f : Int) + 1))) rfl) q rfl hqs T ?_; intro w1 hH1 ht1 hT1)
  go_ret2
  exact ⟨rfl, hT1 _ _ _ (line_set1 HT.out _), hH1, ((Turned.refl w T mo).setCell 1 (.int .i64 ((f : Int) + 1))).trans ht1⟩

set_option maxHeartbeats 1000000 in
theorem take_last (w : World) (T : Nat) (g len cap : Nat) (mo : Option Nat) (n : Nat) (D : DataW Unit) (f : Nat) (q : ByteArray) (hf : f + 1 = len) (_hl : len ≤ 65536) (_hlc : len ≤ cap) (_hcap : cap ≤ 65536)
    (hT : w.heap[T]? = some (lineAt (.slice (some ⟨g, 0, none⟩) len cap) f mo)) (hq : w.cell? ⟨g, f, none⟩ = some (.string q)) (hH : Held w mo n D) (hqs : q.size ≤ maxLen) :
    Calls Try.prog 31 #[.pointer (some ⟨T, 0, none⟩)] w fun e w' => TakePost w T mo n D (some ⟨g, 0, none⟩) cap q 0 0 e w' := by
  obtain ⟨c0, c1, c2, f0, f1⟩ := line_cells hT
  have HT : Hid (w.heap[T]? = some (lineAt (.slice (some ⟨g, 0, none⟩) len cap) f mo)) := hT
  clear hT
  subst hf
  go_enter Try.func31, Try.ntmps31
  go_wp2
  go_quiet (fail)
  go_wp2
  go_quiet (fail)
  go_wp2
  go_quiet (fail)
  have HH := Held.setLine (Held.setLine (Held.setLine hH HT.out 1 (.int .i64 ((f : Int) + 1))) (line_set1 HT.out _) 0 (.slice (some ⟨g, 0, none⟩) 0 cap)) (line_set0 (line_set1 HT.out _) _) 1 (.int .i64 0)
  have HL := line_set1 (line_set0 (line_set1 HT.out ((f : Int) + 1)) (.slice (some ⟨g, 0, none⟩) 0 cap)) 0
  have HH' := (show Hid (Held ((((w.setCell ⟨T, 1, none⟩ (.int .i64 ((f : Int) + 1))).setCell ⟨T, 0, none⟩ (.slice (some ⟨g, 0, none⟩) 0 cap)).setCell ⟨T, 1, none⟩ (.int .i64 0))) mo n D) from HH)
  have HL' := (show Hid ((((w.setCell ⟨T, 1, none⟩ (.int .i64 ((f : Int) + 1))).setCell ⟨T, 0, none⟩ (.slice (some ⟨g, 0, none⟩) 0 cap)).setCell ⟨T, 1, none⟩ (.int .i64 0)).heap[T]? = some (lineAt (.slice (some ⟨g, 0, none⟩) 0 cap) 0 mo)) from HL)
  clear HH HL
  go_wp2_with (at_delete; refine wpList_del _ rfl _ _ rfl mo n D rfl (Held.of_heap HH'.out rfl) q rfl hqs T ?_; intro w1 hH1 ht1 hT1)
  go_ret2
  exact ⟨rfl, hT1 _ _ _ HL'.out, hH1, ((((Turned.refl w T mo).setCell 1 (.int .i64 ((f : Int) + 1))).setCell 0 (.slice (some ⟨g, 0, none⟩) 0 cap)).setCell 1 (.int .i64 0)).trans ht1⟩

/-! ### the shims -/
theorem zztake_none (w : World) (T : Nat) (ao : Option Addr) (len cap : Nat) (mo : Option Nat) (hT : w.heap[T]? = some (lineAt (.slice ao len cap) len mo)) :
    Calls Try.prog 24 #[.pointer (some ⟨T, 0, none⟩)] w fun e w' => e = .returned (.tuple #[.string ⟨#[]⟩, .bool false]) ∧ ∃ n, w' = w.drewN n := by
  have HT : Hid (w.heap[T]? = some (lineAt (.slice ao len cap) len mo)) := hT
  clear hT
  go_enter Try.func24, Try.ntmps24
  go_wp2_with (go_at_call 31; refine (take_none w T ao len cap mo HT.out).mono ?_; rintro e w' ⟨rfl, n, rfl⟩)
  go_ret2
  exact ⟨rfl, _, rfl⟩
theorem zztake_more (w : World) (T : Nat) (g len cap : Nat) (mo : Option Nat) (n : Nat) (D : DataW Unit) (f : Nat) (q : ByteArray) (hf : f + 1 < len) (hl : len ≤ 65536)
    (hT : w.heap[T]? = some (lineAt (.slice (some ⟨g, 0, none⟩) len cap) f mo)) (hq : w.cell? ⟨g, f, none⟩ = some (.string q)) (hH : Held w mo n D) (hqs : q.size ≤ maxLen) :
    Calls Try.prog 24 #[.pointer (some ⟨T, 0, none⟩)] w fun e w' => TakePost w T mo n D (some ⟨g, 0, none⟩) cap q len (f + 1) e w' := by
  have HT : Hid (w.heap[T]? = some (lineAt (.slice (some ⟨g, 0, none⟩) len cap) f mo)) := hT
  clear hT
  go_enter Try.func24, Try.ntmps24
  go_wp2_with (go_at_call 31; refine (take_more w T g len cap mo n D f q hf hl HT.out hq hH hqs).mono ?_; rintro e w' ⟨rfl, h1, h2, h3⟩)
  go_ret2
  exact ⟨rfl, h1, h2, h3⟩
theorem zztake_last (w : World) (T : Nat) (g len cap : Nat) (mo : Option Nat) (n : Nat) (D : DataW Unit) (f : Nat) (q : ByteArray) (hf : f + 1 = len) (hl : len ≤ 65536) (hlc : len ≤ cap) (hcap : cap ≤ 65536)
    (hT : w.heap[T]? = some (lineAt (.slice (some ⟨g, 0, none⟩) len cap) f mo)) (hq : w.cell? ⟨g, f, none⟩ = some (.string q)) (hH : Held w mo n D) (hqs : q.size ≤ maxLen) :
    Calls Try.prog 24 #[.pointer (some ⟨T, 0, none⟩)] w fun e w' => TakePost w T mo n D (some ⟨g, 0, none⟩) cap q 0 0 e w' := by
  have HT : Hid (w.heap[T]? = some (lineAt (.slice (some ⟨g, 0, none⟩) len cap) f mo)) := hT
  have HF : Hid (f + 1 = len) := hf
  clear hT hf
  go_enter Try.func24, Try.ntmps24
  go_wp2_with (go_at_call 31; refine (take_last w T g len cap mo n D f q HF.out hl hlc hcap HT.out hq hH hqs).mono ?_; rintro e w' ⟨rfl, h1, h2, h3⟩)
  go_ret2
  exact ⟨rfl, h1, h2, h3⟩
theorem first_any (w : World) (T : Nat) (q : Value) (f : Int) (mo : Option Nat) (hT : w.heap[T]? = some (lineAt q f mo)) :
    Calls Try.prog 25 #[.pointer (some ⟨T, 0, none⟩)] w fun e w' => e = .returned (.int .i64 f) ∧ w' = w := by
  obtain ⟨c0, c1, c2, f0, f1⟩ := line_cells hT
  clear hT
  go_enter Try.func25, Try.ntmps25
  go_wp2
  go_ret
  exact ⟨rfl, rfl⟩
theorem queues_any (w : World) (T : Nat) (ao : Option Addr) (len cap : Nat) (f : Int) (mo : Option Nat) (hT : w.heap[T]? = some (lineAt (.slice ao len cap) f mo)) :
    Calls Try.prog 26 #[.pointer (some ⟨T, 0, none⟩)] w fun e w' => e = .returned (.slice ao len cap) ∧ w' = w := by
  obtain ⟨c0, c1, c2, f0, f1⟩ := line_cells hT
  clear hT
  go_enter Try.func26, Try.ntmps26
  go_wp2
  go_ret
  exact ⟨rfl, rfl⟩

/-- what stands at a key of a set as read -/
def atB (D : DataW Unit) (k : Lit) : Bool := match D.atKey k (.lit (.bool false)) with | .lit (.bool b) => b | _ => false

theorem plainElem_bool_inv {v : Value} {z : DataW Unit × List MemPlace} (h : plainElem Try.prog 4 v = some z) : ∃ x, v = .bool x ∧ z = (.lit (.bool x), []) := by
  unfold plainElem at h
  rw [Try.underlying4] at h
  cases v <;> simp at h
  subst h
  exact ⟨_, rfl, rfl⟩

theorem own_look {w : World} {b n : Nat} {D : DataW Unit} (h : w.ownsMap Try.prog 9 (plainElem Try.prog 4) b n D) (s : ByteArray) (hs : s.size ≤ maxLen) :
    (Instr.lookup 35 (.map (some b)) (.string s) false).run Try.prog w = .ok (.bool (atB D (kl s))) w := by
  obtain ⟨v, ps, hrun, hv⟩ := h.lookup law Try.underlying35 (zero4 w) (plainElem_bool Try.underlying4 false) (key_of s hs)
  obtain ⟨x, rfl, hz⟩ := plainElem_bool_inv hv
  rw [hrun]
  have e : D.atKey (kl s) (.lit (.bool false)) = .lit (.bool x) := congrArg Prod.fst hz
  unfold atB
  rw [e]
theorem held_look {w : World} {mo : Option Nat} {n : Nat} {D : DataW Unit} (h : Held w mo n D) (s : ByteArray) (hs : s.size ≤ maxLen) :
    (Instr.lookup 35 (.map mo) (.string s) false).run Try.prog w = .ok (.bool (atB D (kl s))) w := by
  rcases h with ⟨rfl, rfl⟩ | ⟨b, rfl, h⟩
  · exact Maps.look_nil false law Try.underlying35 (zero4 w) (key_of s hs)
  · exact own_look h s hs
theorem held_len {w : World} {mo : Option Nat} {n : Nat} {D : DataW Unit} (h : Held w mo n D) (ty : TypeId) :
    (Builtin.len_ #[35] ty #[.map mo]).run Try.prog w = .ok (.int .i64 (Maps.size D)) w := by
  rcases h with ⟨rfl, rfl⟩ | ⟨b, rfl, h⟩
  · exact Maps.len_nil Try.underlying35 ty
  · exact h.len Try.underlying35 ty
theorem heldLen_any (w : World) (T : Nat) (q : Value) (f : Int) (mo : Option Nat) (n : Nat) (D : DataW Unit) (hT : w.heap[T]? = some (lineAt q f mo)) (hH : Held w mo n D) :
    Calls Try.prog 27 #[.pointer (some ⟨T, 0, none⟩)] w fun e w' => e = .returned (.int .i64 (Maps.size D)) ∧ w' = w := by
  obtain ⟨c0, c1, c2, f0, f1⟩ := line_cells hT
  have hlen := held_len hH
  clear hT
  go_enter Try.func27, Try.ntmps27
  go_wp2
  go_ret
  exact ⟨rfl, rfl⟩
theorem held_any (w : World) (T : Nat) (q : Value) (f : Int) (mo : Option Nat) (n : Nat) (D : DataW Unit) (s : ByteArray) (hs : s.size ≤ maxLen) (hT : w.heap[T]? = some (lineAt q f mo)) (hH : Held w mo n D) :
    Calls Try.prog 28 #[.pointer (some ⟨T, 0, none⟩), .string s] w fun e w' => e = .returned (.bool (atB D (kl s))) ∧ w' = w := by
  obtain ⟨c0, c1, c2, f0, f1⟩ := line_cells hT
  have hlk := held_look hH s hs
  clear hT
  go_enter Try.func28, Try.ntmps28
  go_wp2
  go_ret
  exact ⟨rfl, rfl⟩
end Go.Proofs.Qxb6600557a.Line
