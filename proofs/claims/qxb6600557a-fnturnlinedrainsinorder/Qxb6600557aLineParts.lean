/-
  PARTS of the walk of FnTurnLineDrainsInOrder: what is carried from step to step.
-/
import Derived.Test.Qxb6600557aLineTake
namespace Go.Proofs.Qxb6600557a.Line
open Go.RowKit Go.Maps

/-! ### the datum that both maps read as -/
def putAll (S : List ByteArray) : DataW Unit := S.foldl (fun D s => D.put (kl s) (.lit (.bool true))) (.map [])
def delAll (D : DataW Unit) (S : List ByteArray) : DataW Unit := S.foldl (fun D s => D.del (kl s)) D

theorem take_snoc {S : List ByteArray} {k : Nat} (h : k < S.length) : S.take (k + 1) = S.take k ++ [S.getD k ByteArray.empty] := by
  rw [List.take_succ_eq_append_getElem h, List.getD_eq_getElem?_getD, List.getElem?_eq_getElem h]; rfl
theorem putAll_snoc {S : List ByteArray} {k : Nat} (h : k < S.length) : putAll (S.take (k + 1)) = (putAll (S.take k)).put (kl (S.getD k ByteArray.empty)) (.lit (.bool true)) := by
  rw [take_snoc h]; simp [putAll]
theorem getD_drop (S : List ByteArray) (f j : Nat) : (S.drop f).getD j ByteArray.empty = S.getD (f + j) ByteArray.empty := by
  simp [List.getD_eq_getElem?_getD, List.getElem?_drop]
theorem delAll_snoc {D : DataW Unit} {S : List ByteArray} {f k : Nat} (h : f + k < S.length) : delAll D ((S.drop f).take (k + 1)) = (delAll D ((S.drop f).take k)).del (kl (S.getD (f + k) ByteArray.empty)) := by
  rw [take_snoc (by rw [List.length_drop]; omega), getD_drop]; simp [delAll]
theorem delAll_all {D : DataW Unit} {S : List ByteArray} {f k : Nat} (h : S.length ≤ f + k) : delAll D ((S.drop f).take k) = delAll D (S.drop f) := by
  rw [List.take_of_length_le (by rw [List.length_drop]; omega)]
theorem putAll_all {S : List ByteArray} {k : Nat} (h : S.length ≤ k) : putAll (S.take k) = putAll S := by rw [List.take_of_length_le h]

/-! ### rows that the call made -/
theorem RowAt.keep {w w' : World} {B : Nat} {ao : Option Addr} {S : List ByteArray} (h : RowAt w B ao S) (hk : ∀ (g : Nat) (cs : Array Value), w.heap[g]? = some (.cells cs 9 (0, 0)) → w'.heap[g]? = some (.cells cs 9 (0, 0))) : RowAt w' B ao S := by
  rcases h with h | ⟨g, e, hb, hg⟩
  · exact .inl h
  · exact .inr ⟨g, e, hb, hk _ _ hg⟩
theorem RowAt.mono {w : World} {B B' : Nat} {ao : Option Addr} {S : List ByteArray} (h : RowAt w B ao S) (hb : B' ≤ B) : RowAt w B' ao S := by
  rcases h with h | ⟨g, e, hb', hg⟩
  · exact .inl h
  · exact .inr ⟨g, e, Nat.le_trans hb hb', hg⟩
theorem RowAt.cell {w : World} {B : Nat} {ao : Option Addr} {S : List ByteArray} (h : RowAt w B ao S) {k : Nat} (hk : k < S.length) :
    ∃ g, ao = some ⟨g, 0, none⟩ ∧ w.cell? ⟨g, k, none⟩ = some (.string (S.getD k ByteArray.empty)) := by
  rcases h with ⟨_, rfl⟩ | ⟨g, e, _, hg⟩
  · simp at hk
  · refine ⟨g, e, ?_⟩
    rw [cell_of_row w g k _ 9 (0, 0) hg]
    simp [List.getD_eq_getElem?_getD, hk]
theorem RowAt.strs {w : World} {B : Nat} {ao : Option Addr} {S : List ByteArray} (h : RowAt w B ao S) (hs : ∀ s ∈ S, s.size ≤ maxLen) : Strs w ao S.length S.length S := by
  refine ⟨rfl, fun e => ?_, hs, fun hl => ?_⟩
  · rcases h with ⟨_, rfl⟩ | ⟨g, e', _⟩
    · simp
    · rw [e] at e'; cases e'
  · rcases h with ⟨_, rfl⟩ | ⟨g, e, hb, hg⟩
    · simp at hl
    · refine ⟨g, 0, e, lt_of_block hg, fun i hi => ?_⟩
      rw [Nat.zero_add, cell_of_row w g i _ 9 (0, 0) hg]
      simp [List.getD_eq_getElem?_getD, hi]

theorem clone_any (a : Option Addr) (len cap : Nat) (S : List ByteArray) (w : World) (h : Strs w a len cap S) (hl : len ≤ 65536) :
    Calls Try.prog 22 #[.slice a len cap] w fun e w' => ClonePost a S w e w' := by
  cases a with
  | none =>
    obtain ⟨rfl, rfl⟩ := h.2.1 rfl
    have hS : S = [] := List.length_eq_zero_iff.1 h.1
    subst hS
    refine (clone_nil w).mono ?_
    rintro e w' ⟨rfl, rfl⟩
    exact ⟨none, rfl, .inl ⟨rfl, rfl⟩, Iff.rfl, Below.refl _ _⟩
  | some x => exact clone_some x len cap S w h hl

/-! ### what stands through all loops: the three rows, all old memory; the block of 'held' is new -/
def Base (w wr : World) (ao0 ao2 ao3 : Option Addr) (S0 S2 : List ByteArray) : Prop :=
  RowAt wr w.heap.size ao0 S0 ∧ RowAt wr w.heap.size ao2 S2 ∧ RowAt wr w.heap.size ao3 S0 ∧ Below w.heap.size w wr

section
variable {w wr w' : World} {ao0 ao2 ao3 : Option Addr} {S0 S2 : List ByteArray}

theorem Base.alloc (h : Base w wr ao0 ao2 ao3 S0 S2) (o : Obj) : Base w (wr.alloc o) ao0 ao2 ao3 S0 S2 := by
  have hk : ∀ (g : Nat) (cs : Array Value), wr.heap[g]? = some (.cells cs 9 (0, 0)) → (wr.alloc o).heap[g]? = some (.cells cs 9 (0, 0)) := fun g cs hg => by
    rw [Below.heap_alloc wr o g (lt_of_block hg)]; exact hg
  exact ⟨h.1.keep hk, h.2.1.keep hk, h.2.2.1.keep hk, h.2.2.2.alloc h.2.2.2.size o⟩
/-- a map of the call's own was written -/
theorem Base.wrote {b : Nat} {n : Nat} {D : DataW Unit} (h : Base w wr ao0 ao2 ao3 S0 S2) (ho : wr.ownsMap Try.prog 9 (plainElem Try.prog 4) b n D) (hb : w.heap.size ≤ b) (hg : wr.grownBy w' (some b)) : Base w w' ao0 ao2 ao3 S0 S2 := by
  have hk : ∀ (g : Nat) (cs : Array Value), wr.heap[g]? = some (.cells cs 9 (0, 0)) → w'.heap[g]? = some (.cells cs 9 (0, 0)) := fun g cs hgg => by
    rw [hg.block g (lt_of_block hgg) (fun e => ?_)]
    · exact hgg
    · obtain ⟨es, clock, hbb, _⟩ := ho
      rw [← Option.some.inj e, hgg] at hbb
      cases hbb
  exact ⟨h.1.keep hk, h.2.1.keep hk, h.2.2.1.keep hk, h.2.2.2.grown hg h.2.2.2.size (fun j hj => by cases hj; exact hb)⟩
/-- the line and its map were written -/
theorem Base.turned {T : Nat} {mo : Option Nat} {n : Nat} {D : DataW Unit} {q : Value} {f : Int} (h : Base w wr ao0 ao2 ao3 S0 S2) (hT : wr.heap[T]? = some (lineAt q f mo)) (hH : Held wr mo n D) (hTB : w.heap.size ≤ T)
    (hmB : ∀ b, mo = some b → w.heap.size ≤ b) (ht : Turned wr w' T mo) : Base w w' ao0 ao2 ao3 S0 S2 := by
  have hk : ∀ (g : Nat) (cs : Array Value), wr.heap[g]? = some (.cells cs 9 (0, 0)) → w'.heap[g]? = some (.cells cs 9 (0, 0)) := fun g cs hgg => by
    rw [ht.2.2.2.2 g (lt_of_block hgg) (fun e => ?_) (fun e => ?_)]
    · exact hgg
    · rw [e, hT] at hgg; simp [lineAt] at hgg
    · rcases hH with ⟨rfl, _⟩ | ⟨b, rfl, es, clock, hbb, _⟩
      · cases e
      · rw [← Option.some.inj e, hgg] at hbb; cases hbb
  exact ⟨h.1.keep hk, h.2.1.keep hk, h.2.2.1.keep hk,
    h.2.2.2.trans ⟨ht.1, ht.2.1, ht.2.2.1, ht.2.2.2.1, fun k hk' => ht.2.2.2.2 k (Nat.lt_of_lt_of_le hk' h.2.2.2.size) (by omega) (fun e => by have := hmB k e.symm; omega)⟩⟩
theorem Base.drewN (h : Base w wr ao0 ao2 ao3 S0 S2) (n : Nat) : Base w (wr.drewN n) ao0 ao2 ao3 S0 S2 := ⟨h.1, h.2.1, h.2.2.1, h.2.2.2.trans ⟨rfl, rfl, rfl, Nat.le_refl _, fun _ _ => rfl⟩⟩
end

theorem Held.alloc {w : World} {mo : Option Nat} {n : Nat} {D : DataW Unit} (h : Held w mo n D) (o : Obj) : Held (w.alloc o) mo n D := by
  rcases h with h | ⟨b, rfl, h⟩
  · exact .inl h
  · exact .inr ⟨b, rfl, h.alloc o⟩
/-- another map was written -/
theorem Held.wrote {w w' : World} {mo : Option Nat} {n : Nat} {D : DataW Unit} {b : Nat} (h : Held w mo n D) (hg : w.grownBy w' (some b)) (hne : some b ≠ mo) : Held w' mo n D := by
  rcases h with h | ⟨b', rfl, h⟩
  · exact .inl h
  · exact .inr ⟨b', rfl, h.kept hg (fun e => hne e.symm)⟩
/-- a map that is not the line's stays while the line is turned -/
theorem owns_turned {w w' : World} {mo : Option Nat} {n : Nat} {D : DataW Unit} {b T : Nat} {q : Value} {f : Int} (h : w.ownsMap Try.prog 9 (plainElem Try.prog 4) b n D) (hT : w.heap[T]? = some (lineAt q f mo)) (hne : some b ≠ mo) (ht : Turned w w' T mo) :
    w'.ownsMap Try.prog 9 (plainElem Try.prog 4) b n D := by
  have hlt := h.lt
  obtain ⟨es, clock, hb, r⟩ := h
  refine ⟨es, clock, ?_, r⟩
  rw [ht.2.2.2.2 b hlt (fun e => ?_) hne]
  · exact hb
  · rw [e, hT] at hb; simp [lineAt] at hb

theorem make_map (w : World) (z : Int) : (Instr.makeMap 35 (some (.int .i64 z))).run Try.prog w = .ok (.map (some w.heap.size)) (w.alloc (.map #[] 0)) := by
  simp [Instr.makeMap, run_underlying Try.underlying35, asInt, asIntOf, Result.andThen]

theorem delAll_at {D : DataW Unit} {S : List ByteArray} {f k : Nat} (hf : f ≤ k) (h : k < S.length) : delAll D ((S.drop f).take (k + 1 - f)) = (delAll D ((S.drop f).take (k - f))).del (kl (S.getD k ByteArray.empty)) := by
  obtain ⟨j, rfl⟩ : ∃ j, k = f + j := ⟨k - f, by omega⟩
  rw [show f + j + 1 - f = j + 1 by omega, show f + j - f = j by omega]
  exact delAll_snoc h

set_option maxHeartbeats 400000 in
theorem new_any (ao : Option Addr) (n c : Nat) (f : Int) (mo : Option Nat) (w : World) :
    Calls Try.prog 23 #[.slice ao n c, .int .i64 f, .map mo] w fun e w' => e = .returned (.pointer (some ⟨w.heap.size, 0, none⟩)) ∧ w' = w.alloc (lineAt (.slice ao n c) f mo) := by
  unfold lineAt
  go_enter Try.func23, Try.ntmps23
  go_wp2
  go_ret
  exact ⟨rfl, rfl⟩

/-! ### the line as it is drained -/
/-- its slice's length and its first place after k takes, of n0 queues from f on -/
def lenAt (n0 f k : Nat) : Nat := if 0 < k ∧ f + k = n0 then 0 else n0
def firstAt (n0 f k : Nat) : Nat := if 0 < k ∧ f + k = n0 then 0 else f + k
theorem lenAt_mid {n0 f k : Nat} (h : f + k < n0) : lenAt n0 f k = n0 := by unfold lenAt; rw [if_neg (by omega)]
theorem firstAt_mid {n0 f k : Nat} (h : f + k < n0) : firstAt n0 f k = f + k := by unfold firstAt; rw [if_neg (by omega)]
theorem end_same {n0 f n : Nat} (h : f + n = n0) : firstAt n0 f n = lenAt n0 f n := by unfold firstAt lenAt; split <;> omega
theorem lenAt_end {n0 f n : Nat} (h : f + n = n0) (h0 : 0 < n) : lenAt n0 f n = 0 := by unfold lenAt; rw [if_pos ⟨h0, h⟩]
theorem lenAt_zero {n0 f : Nat} : lenAt n0 f 0 = n0 := by unfold lenAt; rw [if_neg (by omega)]
theorem firstAt_zero {n0 f : Nat} : firstAt n0 f 0 = f := by unfold firstAt; rw [if_neg (by omega)]; omega

/-- all that stands while the line is drained: k have been given out -/
def State (w wr : World) (ao0 ao2 ao3 : Option Addr) (S0 S2 : List ByteArray) (f : Nat) (T bw : Nat) (mo : Option Nat) (k : Nat) : Prop :=
  Base w wr ao0 ao2 ao3 S0 S2 ∧ wr.heap[T]? = some (lineAt (.slice ao3 (lenAt S0.length f k) S0.length) (firstAt S0.length f k) mo) ∧
  Held wr mo S2.length (delAll (putAll S2) ((S0.drop f).take k)) ∧ wr.ownsMap Try.prog 9 (plainElem Try.prog 4) bw S2.length (delAll (putAll S2) (S0.drop f)) ∧
  some bw ≠ mo ∧ w.heap.size ≤ T ∧ ∀ b, mo = some b → w.heap.size ≤ b

section
variable {w wr : World} {ao0 ao2 ao3 : Option Addr} {S0 S2 : List ByteArray} {f T bw : Nat} {mo : Option Nat} {k : Nat}
theorem State.drewN (h : State w wr ao0 ao2 ao3 S0 S2 f T bw mo k) (n : Nat) : State w (wr.drewN n) ao0 ao2 ao3 S0 S2 f T bw mo k := ⟨h.1.drewN n, h.2.1, h.2.2.1, h.2.2.2.1, h.2.2.2.2⟩
/-- the line as it was laid -/
theorem State.start (h1 : Base w wr ao0 ao2 ao3 S0 S2) (h3 : Held wr mo S2.length (putAll S2)) (h4 : wr.ownsMap Try.prog 9 (plainElem Try.prog 4) bw S2.length (delAll (putAll S2) (S0.drop f))) (h5 : some bw ≠ mo)
    (h7 : ∀ b, mo = some b → w.heap.size ≤ b) : State w (wr.alloc (lineAt (.slice ao3 S0.length S0.length) f mo)) ao0 ao2 ao3 S0 S2 f wr.heap.size bw mo 0 := by
  refine ⟨h1.alloc _, ?_, by simpa [delAll] using h3.alloc _, h4.alloc _, h5, h1.2.2.2.size, h7⟩
  rw [lenAt_zero, firstAt_zero]
  exact (MapKept.heap_alloc wr _).1
/-- one more was given out -/
theorem State.took {w' : World} {q : ByteArray} {cap : Nat} {e : Ending} {len' f' : Nat} (h : State w wr ao0 ao2 ao3 S0 S2 f T bw mo k) (hk : f + k < S0.length) (hq : q = S0.getD (f + k) ByteArray.empty) (hcap : cap = S0.length)
    (hl : len' = lenAt S0.length f (k + 1)) (hf : f' = firstAt S0.length f (k + 1)) {D : DataW Unit} (hD : D = delAll (putAll S2) ((S0.drop f).take k))
    (hp : TakePost wr T mo S2.length D ao3 cap q len' f' e w') : State w w' ao0 ao2 ao3 S0 S2 f T bw mo (k + 1) := by
  obtain ⟨h1, h2, h3, h4, h5, h6, h7⟩ := h
  obtain ⟨_, p2, p3, p4⟩ := hp
  subst hcap hl hf hD
  refine ⟨h1.turned h2 h3 h6 h7 p4, p2, ?_, owns_turned h4 h2 h5 p4, h5, h6, h7⟩
  rw [delAll_snoc hk, ← hq]
  exact p3
end
end Go.Proofs.Qxb6600557a.Line
