/-
  PARTS for the walk of FnQuotedEndFindsEncodedEnd: the row of bytes that the law builds.
-/
import Derived.Test.Qxb6600557aScan
import Derived.Test.Qxb6600557aGuards
import Derived.Laws.BytesArg
namespace Go.Proofs.Qxb6600557a.Enc
open Go.RowKit

theorem info5 : (Try.prog.info? 5).map (fun i => (i.zero, i.size, i.bytes)) = some (some (.int .u8 0), 1, 1) := by kernel_rfl

/-- the cells of a row of bytes -/
def cs (L : List UInt8) : List Value := L.map fun c => Value.int .u8 (c.toNat : Int)

theorem cs_append (L M : List UInt8) : cs (L ++ M) = cs L ++ cs M := by simp [cs]
theorem cs_length (L : List UInt8) : (cs L).length = L.length := by simp [cs]
theorem cs_one (L : List UInt8) : ∀ u ∈ cs L, u.oneCell' = true := by
  intro u hu
  simp only [cs, List.mem_map] at hu
  obtain ⟨c, _, rfl⟩ := hu
  rfl

/-- what the walk carries: the slice value v, of L's bytes, is the call's own; old memory is as it was -/
def Has (w wr : World) (v : Value) (L : List UInt8) : Prop :=
  wr.ownsRow w.heap.size 5 1 v L.length (cs L) ∧ Below w.heap.size w wr

/-- THE LAW of 'b = append(b, M...)', the bytes M laid in a block of their own first. -/
theorem wpList_app {ops : Array Oper} {rest : List Oper} {o : Oper} {a : Act} {Q : Exit → Act → World → Prop} (w wr : World) (hgd : o.guard = none) (s x : Operand)
    (ho : o.op = .call { callee := .builtin .append, args := #[s, x], argTypes := #[25, 25] }) (v : Value) (L M : List UInt8) (hs : a.eval s = v) (h : Has w wr v L)
    (hx : a.eval x = .slice (some ⟨wr.heap.size, 0, none⟩) M.length M.length) (hb : L.length + M.length ≤ 16777216)
    (hk : ∀ v' w', Has w w' v' (L ++ M) → wpList Try.prog ops Q rest (a.put o.dst v') w') : wpList Try.prog ops Q (o :: rest) a (wr.alloc (.cells (cs M).toArray 5)) := by
  obtain ⟨i0, hi, hz0, hz1, hz2⟩ := info_parts info5
  have hsz := h.2.size
  refine wpList_append_own _ hgd s x 25 ho w.heap.size 5 i0 (.int .u8 0) 1 1 Try.underlying25 hi hz0 hz1 hz2 rfl (by decide) v L.length (cs L) hs (h.1.alloc _) ⟨wr.heap.size, 0, none⟩ M.length M.length (cs M) hx (by rw [cs_length]; omega) ?_ (cs_one M) (by unfold maxLen; omega) (by omega) (by simp; omega) ?_
  · intro j u hj
    have e : (⟨wr.heap.size, 0, none⟩ : Addr).add j = ⟨wr.heap.size, j, none⟩ := by unfold Addr.add; split <;> simp_all
    rw [e, World.cell?_alloc_at (hn := rfl)]
    simpa using hj
  · intro v' w' hown' hgrow _
    refine hk v' w' ⟨by rw [cs_append, List.length_append]; exact hown', (h.2.alloc (by omega) _).grown hgrow (by simp; omega) (fun j hj => (h.1.lt j hj).1)⟩

theorem has_shape {w wr : World} {v : Value} {L : List UInt8} (h : Has w wr v L) (hn : 0 < L.length) : ∃ g cap, v = .slice (some ⟨g, 0, none⟩) L.length cap := by
  rcases h.1.2 with ⟨_, h0⟩ | ⟨g, cap, cur, hv, _⟩
  · omega
  · exact ⟨g, cap, hv⟩

/-- string(b) -/
theorem has_convert {w wr : World} {L : List UInt8} {g cap : Nat} (h : Has w wr (.slice (some ⟨g, 0, none⟩) L.length cap) L) :
    (convert 25 9 (.slice (some ⟨g, 0, none⟩) L.length cap)).run Try.prog wr = .ok (.string ⟨L.toArray⟩) wr := by
  have hl : (L.map fun c => (c.toNat : Int)).length = L.length := by simp
  have := run_convert_bytes_arg (P := Try.prog) wr 25 5 Try.underlying25 Try.underlying5 g 0 L.length cap (L.map fun c => (c.toNat : Int)) hl (fun i hi => by
    have e := h.1.cellAt i (by omega)
    rw [Nat.zero_add, e]
    simp [cs, hi]) 9 Try.underlying9
  rw [this]
  have e : strOfNums (L.map fun c => (c.toNat : Int)) = ⟨L.toArray⟩ := by
    unfold strOfNums
    congr 2
    rw [List.map_map]
    conv => rhs; rw [← List.map_id L]
    apply List.map_congr_left
    intro c _
    simp
  rw [e]

theorem take_snoc (s : ByteArray) (k : Nat) (h : k < s.size) : s.data.toList.take (k + 1) = s.data.toList.take k ++ [s[k]] := by
  rw [List.take_succ_eq_append_getElem (by simpa using h)]; rfl
theorem take_all (s : ByteArray) (k : Nat) (h : s.size ≤ k) : s.data.toList.take k = s.data.toList := List.take_of_length_le h
theorem take_len (s : ByteArray) (k : Nat) (h : k ≤ s.size) : (s.data.toList.take k).length = k := by
  rw [List.length_take, len_toList]; omega
theorem byte_of (a : Int) (h0 : 0 ≤ a) (h : a ≤ 255) : ∃ q : UInt8, a = (q.toNat : Int) :=
  ⟨UInt8.ofNat a.toNat, by rw [UInt8.toNat_ofNat_of_lt' (by simp [UInt8.size]; omega)]; omega⟩

/-! ### what a round appends -/
theorem u8_eq {a b : UInt8} (h : (a.toNat : Int) = (b.toNat : Int)) : a = b := (Plain.toNat_eq a b).1 h
theorem enc_quote (c : ByteArray) (q : UInt8) (esc bq : Bool) (k : Nat) (h : k < c.size) (h1 : ((c[k]).toNat : Int) = (q.toNat : Int)) (h2 : (esc && bq) = false) :
    Plain.encL q esc bq (c.data.toList.take (k + 1)) = Plain.encL q esc bq (c.data.toList.take k) ++ [q, q] := by
  rw [take_snoc c k h, Plain.encL_snoc, u8_eq h1]
  simp [Plain.encL, h2]
theorem enc_back (c : ByteArray) (q : UInt8) (k : Nat) (h : k < c.size) (h1 : ((c[k]).toNat : Int) = (q.toNat : Int)) :
    Plain.encL q true true (c.data.toList.take (k + 1)) = Plain.encL q true true (c.data.toList.take k) ++ [92, q] := by
  rw [take_snoc c k h, Plain.encL_snoc, u8_eq h1]
  simp [Plain.encL]
theorem enc_slash (c : ByteArray) (q : UInt8) (bq : Bool) (k : Nat) (h : k < c.size) (h1 : ¬ ((c[k]).toNat : Int) = (q.toNat : Int)) (h2 : ((c[k]).toNat : Int) = 92) :
    Plain.encL q true bq (c.data.toList.take (k + 1)) = Plain.encL q true bq (c.data.toList.take k) ++ [92, 92] := by
  have e : c[k] = 92 := u8_eq h2
  rw [take_snoc c k h, Plain.encL_snoc]
  have n : ¬ c[k] = q := fun e => h1 (by rw [e])
  rw [e] at n ⊢
  simp [Plain.encL, n]
theorem enc_plain (c : ByteArray) (q : UInt8) (esc bq : Bool) (k : Nat) (h : k < c.size) (h1 : ¬ ((c[k]).toNat : Int) = (q.toNat : Int)) (h2 : esc = true → ¬ ((c[k]).toNat : Int) = 92) :
    Plain.encL q esc bq (c.data.toList.take (k + 1)) = Plain.encL q esc bq (c.data.toList.take k) ++ [c[k]] := by
  rw [take_snoc c k h, Plain.encL_snoc]
  have n : ¬ c[k] = q := fun e => h1 (by rw [e])
  have n2 : ¬ (esc = true ∧ c[k] = 92) := fun e => h2 e.1 (by rw [e.2]; rfl)
  simp only [Plain.encL]
  rw [if_neg n, if_neg n2]

theorem enc_room (p c : ByteArray) (q : UInt8) (esc bq : Bool) (k : Nat) (M : List UInt8) (hk : k ≤ c.size) (hb : p.size + c.size ≤ 1048576) (hM : M.length ≤ 2) :
    Hid ((p.data.toList ++ [q] ++ Plain.encL q esc bq (c.data.toList.take k)).length + M.length ≤ 16777216) := by
  have h1 := Plain.encL_len q esc bq (c.data.toList.take k)
  rw [take_len c k hk] at h1
  unfold Hid
  simp only [List.length_append, len_toList, List.length_cons, List.length_nil]
  omega
theorem enc_room' (p c : ByteArray) (q : UInt8) (esc bq : Bool) (M : List UInt8) (hb : p.size + c.size ≤ 1048576) (hM : M.length ≤ 2) :
    Hid ((p.data.toList ++ [q] ++ Plain.encL q esc bq c.data.toList).length + M.length ≤ 16777216) := by
  have h1 := Plain.encL_len q esc bq c.data.toList
  rw [len_toList] at h1
  unfold Hid
  simp only [List.length_append, len_toList, List.length_cons, List.length_nil]
  omega
theorem enc_len1 (p c : ByteArray) (q : UInt8) (esc bq : Bool) (L1 : List UInt8) (h : L1 = p.data.toList ++ [q] ++ Plain.encL q esc bq c.data.toList ++ [q]) :
    0 < L1.length ∧ L1.length ≤ p.size + 2 * c.size + 2 := by
  have h1 := Plain.encL_len q esc bq c.data.toList
  rw [len_toList] at h1
  rw [h]
  simp only [List.length_append, len_toList, List.length_cons, List.length_nil]
  omega
theorem head_ne (u : ByteArray) (q : UInt8) (hu : ∀ h : 0 < u.size, (((u[0]'h).toNat : Int) == (q.toNat : Int)) = false) : ∀ d, u.data.toList[0]? = some d → d ≠ q := by
  intro d hd e
  subst e
  have h0 : 0 < u.size := by
    rcases Nat.lt_or_ge 0 u.size with h | h
    · exact h
    · rw [List.getElem?_eq_none (by rw [len_toList]; omega)] at hd; cases hd
  have := byte_at u 0 h0 d d.toNat hd rfl
  exact beq_f (hu h0) this
theorem enc_end (p c u : ByteArray) (q : UInt8) (esc bq : Bool) (F L1 : List UInt8) (h1 : L1 = p.data.toList ++ [q] ++ Plain.encL q esc bq c.data.toList ++ [q]) (hF : F = L1 ++ u.data.toList)
    (hesc : ¬ (esc = true ∧ q = 92)) (ht : ∀ d, u.data.toList[0]? = some d → d ≠ q) : Plain.qeA F q.toNat esc (p.size + 1) = (L1.length : Int) := by
  have e := Plain.qeA_enc p.data.toList c.data.toList u.data.toList q esc bq hesc ht
  have eF : F = p.data.toList ++ q :: (Plain.encL q esc bq c.data.toList ++ q :: u.data.toList) := by rw [hF, h1]; simp
  have eL : L1.length = p.data.toList.length + 1 + (Plain.encL q esc bq c.data.toList).length + 1 := by rw [h1]; simp only [List.length_append, List.length_cons, List.length_nil]
  rw [eF, eL]
  exact e

theorem slash_ne (q : UInt8) (h : ((q.toNat : Int) == 92) = false) : ¬ (true = true ∧ q = 92) := fun e => beq_f h (by rw [e.2]; rfl)

/-- the shim, at a place that the walk has summed -/
theorem zzqe_at (s : ByteArray) (i : Nat) (p : Int) (q : Int) (esc : Bool) (w : World) (hp : p = (i : Int)) (hs : s.size ≤ 16777216) (hi : (i : Int) ≤ 9223372036854775807) :
    Calls Try.prog 11 #[.string s, .int .i64 p, .int .u8 q, .bool esc] w fun e w' => e = .returned (.int .i64 (Plain.qeA s.data.toList q esc i)) ∧ w' = w := by
  subst hp; exact zzqe_any s i q esc w hs hi
end Go.Proofs.Qxb6600557a.Enc
