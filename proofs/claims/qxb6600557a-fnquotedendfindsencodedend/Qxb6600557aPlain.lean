/-
  PLAIN LAWS (no Go in sight) for the quoted-end and comment-end statements of seat b6600557a.
-/
namespace Go.Proofs.Qxb6600557a.Plain

/-! ### quotedEnd on what is left of the text: the end, counted from the place where the reading starts -/
def qeL (q : Int) (esc : Bool) : List UInt8 → Option Nat
  | [] => none
  | [c] => if esc = true ∧ (c.toNat : Int) = 92 then none else if (c.toNat : Int) = q then some 1 else none
  | c :: d :: r =>
    if esc = true ∧ (c.toNat : Int) = 92 then (qeL q esc r).map (· + 2)
    else if (c.toNat : Int) = q then
      (if (d.toNat : Int) = q then (qeL q esc r).map (· + 2) else some 1)
    else (qeL q esc (d :: r)).map (· + 1)

/-- a relative end, made absolute -/
def absE (i : Nat) : Option Nat → Int
  | some k => (i : Int) + k
  | none => -1

def qeA (s : List UInt8) (q : Int) (esc : Bool) (i : Nat) : Int := absE i (qeL q esc (s.drop i))

theorem absE_map (i j : Nat) (o : Option Nat) : absE i (o.map (· + j)) = absE (i + j) o := by
  cases o with
  | none => rfl
  | some k => simp only [Option.map_some, absE]; omega

theorem drop_cons (s : List UInt8) (i : Nat) (h : i < s.length) : s.drop i = s[i] :: s.drop (i + 1) :=
  List.drop_eq_getElem_cons h

/-- a step of qeA: past the end -/
theorem qeA_end (s : List UInt8) (q : Int) (esc : Bool) (i : Nat) (h : s.length ≤ i) : qeA s q esc i = -1 := by
  unfold qeA; rw [List.drop_of_length_le h]; rfl

theorem qeA_esc (s : List UInt8) (q : Int) (i : Nat) (h : i < s.length) (hb : ((s[i]).toNat : Int) = 92) :
    qeA s q true i = qeA s q true (i + 2) := by
  unfold qeA
  rw [drop_cons s i h]
  by_cases h1 : i + 1 < s.length
  · rw [drop_cons s (i + 1) h1]
    simp only [qeL, hb, and_self, if_true]
    rw [absE_map]
  · rw [List.drop_of_length_le (by omega), List.drop_of_length_le (by omega)]
    simp [qeL, hb, absE]

theorem qeA_other (s : List UInt8) (q : Int) (esc : Bool) (i : Nat) (h : i < s.length) (hb : ¬ (esc = true ∧ ((s[i]).toNat : Int) = 92)) (hq : ¬ ((s[i]).toNat : Int) = q) :
    qeA s q esc i = qeA s q esc (i + 1) := by
  unfold qeA
  rw [drop_cons s i h]
  by_cases h1 : i + 1 < s.length
  · rw [drop_cons s (i + 1) h1]
    simp only [qeL]
    rw [if_neg hb, if_neg hq, absE_map]
  · rw [List.drop_of_length_le (by omega)]
    simp only [qeL]
    rw [if_neg hb, if_neg hq]
    rfl

theorem qeA_twice (s : List UInt8) (q : Int) (esc : Bool) (i : Nat) (h : i + 1 < s.length) (hb : ¬ (esc = true ∧ ((s[i]).toNat : Int) = 92)) (hq : ((s[i]).toNat : Int) = q) (hr : ((s[i + 1]).toNat : Int) = q) :
    qeA s q esc i = qeA s q esc (i + 2) := by
  unfold qeA
  rw [drop_cons s i (by omega), drop_cons s (i + 1) h]
  simp only [qeL]
  rw [if_neg hb, if_pos hq, if_pos hr, absE_map]

theorem qeA_hit (s : List UInt8) (q : Int) (esc : Bool) (i : Nat) (h : i < s.length) (hb : ¬ (esc = true ∧ ((s[i]).toNat : Int) = 92)) (hq : ((s[i]).toNat : Int) = q) (hr : ∀ h1 : i + 1 < s.length, ¬ ((s[i + 1]).toNat : Int) = q) :
    qeA s q esc i = (i : Int) + 1 := by
  unfold qeA
  rw [drop_cons s i h]
  by_cases h1 : i + 1 < s.length
  · rw [drop_cons s (i + 1) h1]
    simp only [qeL]
    rw [if_neg hb, if_pos hq, if_neg (hr h1)]
    rfl
  · rw [List.drop_of_length_le (by omega)]
    simp only [qeL]
    rw [if_neg hb, if_pos hq]
    rfl

/-! ### what a found end looks like -/
theorem qeL_found (q : Int) (esc : Bool) (n : Nat) : ∀ l : List UInt8, l.length ≤ n → ∀ k, qeL q esc l = some k → 0 < k ∧ k ≤ l.length ∧ ∃ c, l[k - 1]? = some c ∧ (c.toNat : Int) = q := by
  induction n with
  | zero =>
    intro l hl k h
    have : l = [] := List.length_eq_zero_iff.1 (by omega)
    subst this; simp [qeL] at h
  | succ n ih =>
    intro l hl k h
    match l, hl, h with
    | [], _, h => simp [qeL] at h
    | [c], _, h =>
      simp only [qeL] at h
      by_cases hb : esc = true ∧ (c.toNat : Int) = 92
      · rw [if_pos hb] at h; cases h
      · rw [if_neg hb] at h
        by_cases hq : (c.toNat : Int) = q
        · rw [if_pos hq] at h
          cases h
          exact ⟨by omega, by simp, c, by simp, hq⟩
        · rw [if_neg hq] at h; cases h
    | c :: d :: r, hl, h =>
      have hl' : r.length + 2 ≤ n + 1 := by simpa using hl
      simp only [qeL] at h
      have two : ∀ k, (qeL q esc r).map (· + 2) = some k → 0 < k ∧ k ≤ (c :: d :: r).length ∧ ∃ x, (c :: d :: r)[k - 1]? = some x ∧ (x.toNat : Int) = q := by
        intro k h
        obtain ⟨j, hj, rfl⟩ := Option.map_eq_some_iff.1 h
        obtain ⟨a, b, x, hx, hxq⟩ := ih r (by omega) j hj
        refine ⟨by omega, by simp; omega, x, ?_, hxq⟩
        rw [show j + 2 - 1 = (j - 1) + 2 by omega]
        simpa using hx
      by_cases hb : esc = true ∧ (c.toNat : Int) = 92
      · rw [if_pos hb] at h; exact two k h
      · rw [if_neg hb] at h
        by_cases hq : (c.toNat : Int) = q
        · rw [if_pos hq] at h
          by_cases hd : (d.toNat : Int) = q
          · rw [if_pos hd] at h; exact two k h
          · rw [if_neg hd] at h
            cases h
            exact ⟨by omega, by simp, c, by simp, hq⟩
        · rw [if_neg hq] at h
          obtain ⟨j, hj, rfl⟩ := Option.map_eq_some_iff.1 h
          obtain ⟨a, b, x, hx, hxq⟩ := ih (d :: r) (by simp; omega) j hj
          refine ⟨by omega, by simp at b ⊢; omega, x, ?_, hxq⟩
          rw [show j + 1 - 1 = (j - 1) + 1 by omega]
          simpa using hx

/-- shifted: text in front -/
theorem qeL_shift (p s : List UInt8) (q : Int) (esc : Bool) (i : Nat) : qeL q esc ((p ++ s).drop (p.length + i)) = qeL q esc (s.drop i) := by
  rw [List.drop_append, List.drop_of_length_le (by omega)]
  simp

/-- the whole of 'ShiftsAndCloses': either both are -1, or a found end lies in its bounds behind a quote and the other is shifted -/
theorem qeA_shift (p s : List UInt8) (q : Int) (esc : Bool) (i : Nat) (_hi : i ≤ s.length) :
    (qeA s q esc i = -1 ∧ qeA (p ++ s) q esc (p.length + i) = -1) ∨
    ∃ k : Nat, qeA s q esc i = (k : Int) ∧ i < k ∧ k ≤ s.length ∧ (∃ c, s[k - 1]? = some c ∧ (c.toNat : Int) = q) ∧ qeA (p ++ s) q esc (p.length + i) = (k : Int) + p.length := by
  unfold qeA
  rw [qeL_shift]
  cases h : qeL q esc (s.drop i) with
  | none => exact .inl ⟨rfl, rfl⟩
  | some k =>
    obtain ⟨a, b, c, hc, hq⟩ := qeL_found q esc _ _ (Nat.le_refl _) k h
    refine .inr ⟨i + k, by simp [absE], by omega, by simp at b; omega, ⟨c, ?_, hq⟩, ?_⟩
    · rw [List.getElem?_drop] at hc
      rw [show i + k - 1 = i + (k - 1) by omega]; exact hc
    · simp only [absE]; omega

/-! ### the three-state reader -/
def mdL (q : Int) (esc : Bool) : Nat → List UInt8 → Option Nat
  | st, [] => if st = 2 then some 0 else none
  | st, c :: r =>
    if st = 1 then (mdL q esc 0 r).map (· + 1)
    else if st = 2 then (if (c.toNat : Int) = q then (mdL q esc 0 r).map (· + 1) else some 0)
    else if esc = true ∧ (c.toNat : Int) = 92 then (mdL q esc 1 r).map (· + 1)
    else if (c.toNat : Int) = q then (mdL q esc 2 r).map (· + 1)
    else (mdL q esc 0 r).map (· + 1)

def mdA (s : List UInt8) (q : Int) (esc : Bool) (st i : Nat) : Int := absE i (mdL q esc st (s.drop i))

theorem mdL_eq (q : Int) (esc : Bool) (n : Nat) : ∀ l : List UInt8, l.length ≤ n → mdL q esc 0 l = qeL q esc l := by
  induction n with
  | zero =>
    intro l hl
    have : l = [] := List.length_eq_zero_iff.1 (by omega)
    subst this; rfl
  | succ n ih =>
    intro l hl
    match l, hl with
    | [], _ => rfl
    | [c], _ =>
      simp only [mdL, qeL]
      by_cases hb : esc = true ∧ (c.toNat : Int) = 92
      · simp [hb]
      · by_cases hq : (c.toNat : Int) = q
        · simp [hq]
        · simp [hb, hq]
    | c :: d :: r, hl =>
      have hl' : r.length + 2 ≤ n + 1 := by simpa using hl
      have e1 := ih r (by omega)
      have e2 := ih (d :: r) (by simp; omega)
      by_cases hb : esc = true ∧ (c.toNat : Int) = 92
      · simp only [qeL]
        rw [if_pos hb, ← e1]
        simp only [mdL]
        rw [if_neg (by omega), if_neg (by omega), if_pos hb]
        simp [Option.map_map, Function.comp_def]
      · by_cases hq : (c.toNat : Int) = q
        · simp only [qeL]
          rw [if_neg hb, if_pos hq, ← e1]
          simp only [mdL]
          rw [if_neg (by omega), if_neg (by omega), if_neg hb, if_pos hq]
          by_cases hd : (d.toNat : Int) = q
          · simp [hd, Option.map_map, Function.comp_def]
          · simp [hd]
        · simp only [qeL]
          rw [if_neg hb, if_neg hq, ← e2]
          rw [mdL]
          rw [if_neg (by omega), if_neg (by omega), if_neg hb, if_neg hq]

theorem mdA_eq (s : List UInt8) (q : Int) (esc : Bool) (i : Nat) : mdA s q esc 0 i = qeA s q esc i := by
  unfold mdA qeA; rw [mdL_eq q esc _ _ (Nat.le_refl _)]

theorem mdA_end (s : List UInt8) (q : Int) (esc : Bool) (st i : Nat) (h : s.length ≤ i) (h2 : st ≠ 2) : mdA s q esc st i = -1 := by
  unfold mdA; rw [List.drop_of_length_le h]; simp [mdL, h2, absE]
theorem mdA_end2 (s : List UInt8) (q : Int) (esc : Bool) (i : Nat) (h : s.length ≤ i) : mdA s q esc 2 i = i := by
  unfold mdA; rw [List.drop_of_length_le h]; simp [mdL, absE]
theorem mdA_one (s : List UInt8) (q : Int) (esc : Bool) (i : Nat) (h : i < s.length) : mdA s q esc 1 i = mdA s q esc 0 (i + 1) := by
  unfold mdA; rw [drop_cons s i h, mdL, if_pos rfl, absE_map]
theorem mdA_two (s : List UInt8) (q : Int) (esc : Bool) (i : Nat) (h : i < s.length) (hq : ((s[i]).toNat : Int) = q) : mdA s q esc 2 i = mdA s q esc 0 (i + 1) := by
  unfold mdA; rw [drop_cons s i h, mdL, if_neg (by omega), if_pos rfl, if_pos hq, absE_map]
theorem mdA_two' (s : List UInt8) (q : Int) (esc : Bool) (i : Nat) (h : i < s.length) (hq : ¬ ((s[i]).toNat : Int) = q) : mdA s q esc 2 i = i := by
  unfold mdA; rw [drop_cons s i h, mdL, if_neg (by omega), if_pos rfl, if_neg hq]; simp [absE]
theorem mdA_esc (s : List UInt8) (q : Int) (esc : Bool) (i : Nat) (h : i < s.length) (hb : esc = true ∧ ((s[i]).toNat : Int) = 92) : mdA s q esc 0 i = mdA s q esc 1 (i + 1) := by
  unfold mdA; rw [drop_cons s i h, mdL, if_neg (by omega), if_neg (by omega), if_pos hb, absE_map]
theorem mdA_quote (s : List UInt8) (q : Int) (esc : Bool) (i : Nat) (h : i < s.length) (hb : ¬ (esc = true ∧ ((s[i]).toNat : Int) = 92)) (hq : ((s[i]).toNat : Int) = q) : mdA s q esc 0 i = mdA s q esc 2 (i + 1) := by
  unfold mdA; rw [drop_cons s i h, mdL, if_neg (by omega), if_neg (by omega), if_neg hb, if_pos hq, absE_map]
theorem mdA_other (s : List UInt8) (q : Int) (esc : Bool) (i : Nat) (h : i < s.length) (hb : ¬ (esc = true ∧ ((s[i]).toNat : Int) = 92)) (hq : ¬ ((s[i]).toNat : Int) = q) : mdA s q esc 0 i = mdA s q esc 0 (i + 1) := by
  unfold mdA; rw [drop_cons s i h, mdL, if_neg (by omega), if_neg (by omega), if_neg hb, if_neg hq, absE_map]

/-! ### the encoded text -/
def encL (q : UInt8) (esc bq : Bool) : List UInt8 → List UInt8
  | [] => []
  | c :: r =>
    if c = q then (if (esc && bq) = true then 92 :: q :: encL q esc bq r else q :: q :: encL q esc bq r)
    else if esc = true ∧ c = 92 then 92 :: 92 :: encL q esc bq r
    else c :: encL q esc bq r

theorem toNat_eq (c q : UInt8) : ((c.toNat : Int) = (q.toNat : Int)) ↔ c = q := by
  constructor
  · intro h; exact UInt8.toNat_inj.1 (by omega)
  · intro h; rw [h]

theorem qeL_enc (q : UInt8) (esc bq : Bool) (t : List UInt8) (hesc : ¬ (esc = true ∧ q = 92)) (ht : ∀ c, t[0]? = some c → c ≠ q) :
    ∀ l : List UInt8, qeL q.toNat esc (encL q esc bq l ++ q :: t) = some ((encL q esc bq l).length + 1)
  | [] => by
    have hb : ¬ (esc = true ∧ (q.toNat : Int) = 92) := by
      intro h; exact hesc ⟨h.1, (toNat_eq q 92).1 h.2⟩
    cases t with
    | nil => simp only [encL, List.nil_append, qeL]; rw [if_neg hb]; simp
    | cons d r =>
      simp only [encL, List.nil_append, qeL]
      have hd : ¬ (d.toNat : Int) = q.toNat := by
        intro h; exact ht d (by simp) ((toNat_eq d q).1 h)
      rw [if_neg hb]; simp [hd]
  | c :: r => by
    have ih := qeL_enc q esc bq t hesc ht r
    have hb : ¬ (esc = true ∧ (q.toNat : Int) = 92) := by
      intro h; exact hesc ⟨h.1, (toNat_eq q 92).1 h.2⟩
    simp only [encL]
    by_cases hc : c = q
    · rw [if_pos hc]
      by_cases hbq : (esc && bq) = true
      · have he : esc = true := by simp at hbq; exact hbq.1
        rw [if_pos hbq]
        simp only [List.cons_append, qeL]
        rw [if_pos ⟨he, rfl⟩, ih]; simp
      · rw [if_neg hbq]
        simp only [List.cons_append, qeL]
        rw [if_neg hb, ih]; simp
    · rw [if_neg hc]
      have hc' : ¬ (c.toNat : Int) = q.toNat := fun h => hc ((toNat_eq c q).1 h)
      by_cases h92 : esc = true ∧ c = 92
      · rw [if_pos h92]
        simp only [List.cons_append, qeL]
        rw [if_pos ⟨h92.1, rfl⟩, ih]; simp
      · rw [if_neg h92]
        have h92' : ¬ (esc = true ∧ (c.toNat : Int) = 92) := by
          intro h; exact h92 ⟨h.1, (toNat_eq c 92).1 h.2⟩
        obtain ⟨d, r', e⟩ : ∃ d r', encL q esc bq r ++ q :: t = d :: r' := by
          cases encL q esc bq r with
          | nil => exact ⟨_, _, rfl⟩
          | cons a b => exact ⟨_, _, rfl⟩
        simp only [List.cons_append]
        rw [e] at ih ⊢
        simp only [qeL] at ih ⊢
        rw [if_neg h92', if_neg hc', ih]; simp

theorem qeA_enc (p l t : List UInt8) (q : UInt8) (esc bq : Bool) (hesc : ¬ (esc = true ∧ q = 92)) (ht : ∀ c, t[0]? = some c → c ≠ q) :
    qeA (p ++ q :: (encL q esc bq l ++ q :: t)) q.toNat esc (p.length + 1) = ((p.length + 1 + (encL q esc bq l).length + 1 : Nat) : Int) := by
  unfold qeA
  have e : (p ++ q :: (encL q esc bq l ++ q :: t)).drop (p.length + 1) = encL q esc bq l ++ q :: t := by
    rw [List.drop_append, List.drop_of_length_le (by omega)]; simp
  rw [e, qeL_enc q esc bq t hesc ht l]
  simp only [absE]; omega

theorem encL_len (q : UInt8) (esc bq : Bool) : ∀ l : List UInt8, (encL q esc bq l).length ≤ 2 * l.length
  | [] => by simp [encL]
  | c :: r => by
    have ih := encL_len q esc bq r
    simp only [encL]
    split
    · split <;> (simp; omega)
    · split <;> (simp; omega)

theorem encL_snoc (q : UInt8) (esc bq : Bool) (c : UInt8) : ∀ l : List UInt8, encL q esc bq (l ++ [c]) = encL q esc bq l ++ encL q esc bq [c]
  | [] => by simp [encL]
  | a :: r => by
    have ih := encL_snoc q esc bq c r
    simp only [List.cons_append, encL] at ih ⊢
    rw [ih]
    split
    · split <;> rfl
    · split <;> rfl

/-! ### commentEnd on what is left of the text: depth, and the relative end -/
def ceL : Nat → List UInt8 → Option Nat
  | 0, _ => some 0
  | _ + 1, [] => none
  | _ + 1, [_] => none
  | d + 1, a :: b :: r =>
    if a.toNat = 47 ∧ b.toNat = 42 then (ceL (d + 2) r).map (· + 2)
    else if a.toNat = 42 ∧ b.toNat = 47 then (ceL d r).map (· + 2)
    else (ceL (d + 1) (b :: r)).map (· + 1)

def ceA (s : List UInt8) (d i : Nat) : Int := absE i (ceL d (s.drop i))

theorem ceA_zero (s : List UInt8) (i : Nat) : ceA s 0 i = i := by
  unfold ceA; simp [ceL, absE]
theorem ceA_end (s : List UInt8) (d i : Nat) (h : s.length ≤ i + 1) : ceA s (d + 1) i = -1 := by
  unfold ceA
  by_cases h1 : i < s.length
  · rw [drop_cons s i h1, List.drop_of_length_le (by omega)]; rfl
  · rw [List.drop_of_length_le (by omega)]; rfl
theorem ceA_open (s : List UInt8) (d i : Nat) (h : i + 1 < s.length) (ha : (s[i]).toNat = 47) (hb : (s[i + 1]).toNat = 42) : ceA s (d + 1) i = ceA s (d + 2) (i + 2) := by
  unfold ceA
  rw [drop_cons s i (by omega), drop_cons s (i + 1) h, ceL, if_pos ⟨ha, hb⟩, absE_map]
theorem ceA_close (s : List UInt8) (d i : Nat) (h : i + 1 < s.length) (ha : (s[i]).toNat = 42) (hb : (s[i + 1]).toNat = 47) : ceA s (d + 1) i = ceA s d (i + 2) := by
  unfold ceA
  rw [drop_cons s i (by omega), drop_cons s (i + 1) h, ceL, if_neg (by omega), if_pos ⟨ha, hb⟩, absE_map]
theorem ceA_other (s : List UInt8) (d i : Nat) (h : i + 1 < s.length) (ha : ¬ ((s[i]).toNat = 47 ∧ (s[i + 1]).toNat = 42)) (hb : ¬ ((s[i]).toNat = 42 ∧ (s[i + 1]).toNat = 47)) : ceA s (d + 1) i = ceA s (d + 1) (i + 1) := by
  unfold ceA
  rw [drop_cons s i (by omega), drop_cons s (i + 1) h, ceL, if_neg ha, if_neg hb, absE_map]

/-- a found end stands behind a closing pair, inside the text; what follows does not move it; deeper readings go on from it -/
theorem ceL_found (n : Nat) : ∀ (l : List UInt8) (d k : Nat), l.length ≤ n → ceL (d + 1) l = some k →
    2 ≤ k ∧ k ≤ l.length ∧ (∃ c, l[k - 2]? = some c ∧ c.toNat = 42) ∧ (∃ c, l[k - 1]? = some c ∧ c.toNat = 47) ∧
    (∀ m, ceL (d + 1) (l ++ m) = some k) ∧ (∀ e, ceL (d + 1 + e) l = (ceL e (l.drop k)).map (· + k)) := by
  induction n with
  | zero =>
    intro l d k hl h
    have : l = [] := List.length_eq_zero_iff.1 (by omega)
    subst this; simp [ceL] at h
  | succ n ih =>
    intro l d k hl h
    match l, hl, h with
    | [], _, h => simp [ceL] at h
    | [a], _, h => simp [ceL] at h
    | a :: b :: r, hl, h =>
      have hl' : r.length + 2 ≤ n + 1 := by simpa using hl
      simp only [ceL] at h
      by_cases h1 : a.toNat = 47 ∧ b.toNat = 42
      · rw [if_pos h1] at h
        obtain ⟨j, hj, rfl⟩ := Option.map_eq_some_iff.1 h
        obtain ⟨p1, p2, ⟨c, p3, p3'⟩, ⟨c', p4, p4'⟩, p5, p6⟩ := ih r (d + 1) j (by omega) hj
        refine ⟨by omega, by simp; omega, ⟨c, ?_, p3'⟩, ⟨c', ?_, p4'⟩, ?_, ?_⟩
        · rw [show j + 2 - 2 = (j - 2) + 2 by omega]; simpa using p3
        · rw [show j + 2 - 1 = (j - 1) + 2 by omega]; simpa using p4
        · intro m; simp only [List.cons_append, ceL]; rw [if_pos h1, p5 m]; simp
        · intro e
          rw [show d + 1 + e = (d + e) + 1 by omega]
          simp only [ceL]
          rw [if_pos h1, show d + e + 2 = d + 1 + 1 + e by omega, p6 e]
          simp [Option.map_map, Function.comp_def]; congr
      · rw [if_neg h1] at h
        by_cases h2 : a.toNat = 42 ∧ b.toNat = 47
        · rw [if_pos h2] at h
          obtain ⟨j, hj, rfl⟩ := Option.map_eq_some_iff.1 h
          cases d with
          | zero =>
            simp only [ceL, Option.some.injEq] at hj
            subst hj
            refine ⟨by omega, by simp, ⟨a, by simp, h2.1⟩, ⟨b, by simp, h2.2⟩, ?_, ?_⟩
            · intro m; simp only [List.cons_append, ceL]; rw [if_neg h1, if_pos h2]; simp
            · intro e
              rw [show 0 + 1 + e = e + 1 by omega]
              simp only [ceL]
              rw [if_neg h1, if_pos h2]
              simp
          | succ d =>
            obtain ⟨p1, p2, ⟨c, p3, p3'⟩, ⟨c', p4, p4'⟩, p5, p6⟩ := ih r d j (by omega) hj
            refine ⟨by omega, by simp; omega, ⟨c, ?_, p3'⟩, ⟨c', ?_, p4'⟩, ?_, ?_⟩
            · rw [show j + 2 - 2 = (j - 2) + 2 by omega]; simpa using p3
            · rw [show j + 2 - 1 = (j - 1) + 2 by omega]; simpa using p4
            · intro m; simp only [List.cons_append, ceL]; rw [if_neg h1, if_pos h2, p5 m]; simp
            · intro e
              rw [show d + 1 + 1 + e = (d + 1 + e) + 1 by omega]
              simp only [ceL]
              rw [if_neg h1, if_pos h2, p6 e]
              simp [Option.map_map, Function.comp_def]; congr
        · rw [if_neg h2] at h
          obtain ⟨j, hj, rfl⟩ := Option.map_eq_some_iff.1 h
          obtain ⟨p1, p2, ⟨c, p3, p3'⟩, ⟨c', p4, p4'⟩, p5, p6⟩ := ih (b :: r) d j (by simp; omega) hj
          refine ⟨by omega, by simp at p2 ⊢; omega, ⟨c, ?_, p3'⟩, ⟨c', ?_, p4'⟩, ?_, ?_⟩
          · rw [show j + 1 - 2 = (j - 2) + 1 by omega]; simpa using p3
          · rw [show j + 1 - 1 = (j - 1) + 1 by omega]; simpa using p4
          · intro m
            have := p5 m
            simp only [List.cons_append] at this ⊢
            simp only [ceL]; rw [if_neg h1, if_neg h2, this]; simp
          · intro e
            have := p6 e
            rw [show d + 1 + e = (d + e) + 1 by omega] at this ⊢
            simp only [ceL]
            rw [if_neg h1, if_neg h2, this]
            simp [Option.map_map, Function.comp_def]; congr

/-- what is not found at a lesser depth is not found at a greater one -/
theorem ceL_none (n : Nat) : ∀ (l : List UInt8) (d e : Nat), l.length ≤ n → ceL (d + 1) l = none → ceL (d + 1 + e) l = none := by
  induction n with
  | zero =>
    intro l d e hl h
    have : l = [] := List.length_eq_zero_iff.1 (by omega)
    subst this; rw [show d + 1 + e = (d + e) + 1 by omega]; rfl
  | succ n ih =>
    intro l d e hl h
    match l, hl, h with
    | [], _, _ => rw [show d + 1 + e = (d + e) + 1 by omega]; rfl
    | [a], _, _ => rw [show d + 1 + e = (d + e) + 1 by omega]; rfl
    | a :: b :: r, hl, h =>
      have hl' : r.length + 2 ≤ n + 1 := by simpa using hl
      simp only [ceL] at h
      rw [show d + 1 + e = (d + e) + 1 by omega]
      simp only [ceL]
      by_cases h1 : a.toNat = 47 ∧ b.toNat = 42
      · rw [if_pos h1] at h ⊢
        rw [show d + e + 2 = d + 1 + 1 + e by omega, ih r (d + 1) e (by omega) (by simpa using h)]; rfl
      · rw [if_neg h1] at h ⊢
        by_cases h2 : a.toNat = 42 ∧ b.toNat = 47
        · rw [if_pos h2] at h ⊢
          cases d with
          | zero => simp [ceL] at h
          | succ d => rw [ih r d e (by omega) (by simpa using h)]; rfl
        · rw [if_neg h2] at h ⊢
          rw [show d + e + 1 = d + 1 + e by omega, ih (b :: r) d e (by simp; omega) (by simpa using h)]; rfl

/-- a nested comment, read by a call of its own -/
theorem ceA_two (s : List UInt8) (i : Nat) :
    (ceA s 1 i = -1 ∧ ceA s 2 i = -1) ∨ ∃ k : Nat, ceA s 1 i = (k : Int) ∧ i + 2 ≤ k ∧ k ≤ s.length ∧ ceA s 2 i = ceA s 1 k := by
  unfold ceA
  cases h : ceL 1 (s.drop i) with
  | none => exact .inl ⟨rfl, by rw [show (2 : Nat) = 0 + 1 + 1 by rfl, ceL_none _ _ 0 1 (Nat.le_refl _) h]; rfl⟩
  | some k =>
    obtain ⟨p1, p2, _, _, _, p6⟩ := ceL_found _ _ 0 k (Nat.le_refl _) h
    refine .inr ⟨i + k, by simp [absE], by omega, by simp at p2; omega, ?_⟩
    have := p6 1
    rw [show (0 + 1 + 1 : Nat) = 2 by rfl] at this
    rw [this, absE_map, List.drop_drop]

/-- 'StableUnderExtension' -/
theorem ceA_stable (s m : List UInt8) (i : Nat) (hi : i ≤ s.length) :
    ceA s 1 i = -1 ∨ ∃ k : Nat, ceA s 1 i = (k : Int) ∧ i + 2 ≤ k ∧ k ≤ s.length ∧ (∃ c, s[k - 2]? = some c ∧ c.toNat = 42) ∧ (∃ c, s[k - 1]? = some c ∧ c.toNat = 47) ∧ ceA (s ++ m) 1 i = (k : Int) := by
  unfold ceA
  cases h : ceL 1 (s.drop i) with
  | none => exact .inl rfl
  | some k =>
    obtain ⟨p1, p2, ⟨c, p3, p3'⟩, ⟨c', p4, p4'⟩, p5, _⟩ := ceL_found _ _ 0 k (Nat.le_refl _) h
    refine .inr ⟨i + k, by simp [absE], by omega, by simp at p2; omega, ⟨c, ?_, p3'⟩, ⟨c', ?_, p4'⟩, ?_⟩
    · rw [List.getElem?_drop] at p3; rw [show i + k - 2 = i + (k - 2) by omega]; exact p3
    · rw [List.getElem?_drop] at p4; rw [show i + k - 1 = i + (k - 1) by omega]; exact p4
    · rw [List.drop_append, show i - s.length = 0 by omega, List.drop_zero, p5 m]; simp [absE]

/-- 'Nests' -/
theorem ceA_nests (a b : List UInt8) (ha : ceA a 1 0 = a.length) (hb : ceA b 1 0 = b.length) :
    ceA (47 :: 42 :: a) 1 0 = -1 ∧ ceA (47 :: 42 :: (a ++ b)) 1 0 = 2 + (a.length : Int) + b.length := by
  unfold ceA at ha hb ⊢
  simp only [List.drop_zero] at ha hb ⊢
  have fa : ceL 1 a = some a.length := by
    cases h : ceL 1 a with
    | none => rw [h] at ha; simp only [absE] at ha; omega
    | some k => rw [h] at ha; simp only [absE] at ha; rw [show k = a.length by omega]
  have fb : ceL 1 b = some b.length := by
    cases h : ceL 1 b with
    | none => rw [h] at hb; simp only [absE] at hb; omega
    | some k => rw [h] at hb; simp only [absE] at hb; rw [show k = b.length by omega]
  obtain ⟨_, _, _, _, p5, p6⟩ := ceL_found _ _ 0 _ (Nat.le_refl _) fa
  have fab := p5 b
  obtain ⟨_, _, _, _, _, q6⟩ := ceL_found _ _ 0 _ (Nat.le_refl _) fab
  have e1 := p6 1
  have e2 := q6 1
  rw [show (0 + 1 + 1 : Nat) = 2 by rfl] at e1 e2
  rw [List.drop_length] at e1
  rw [List.drop_append, List.drop_length, List.nil_append, Nat.sub_self, List.drop_zero, fb] at e2
  constructor
  · simp only [ceL]; rw [if_pos ⟨rfl, rfl⟩, e1]; rfl
  · simp only [ceL]; rw [if_pos ⟨rfl, rfl⟩, e2]; simp only [Option.map_some, absE]; omega
end Go.Proofs.Qxb6600557a.Plain
