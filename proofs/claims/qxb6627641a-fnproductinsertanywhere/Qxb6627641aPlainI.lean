/-
  THE PLAIN LAWS for the insertion; the list of cells of a row that is appended to.
-/
import Derived.Test.Qxb6627641aPlain
namespace Go.Proofs.Qxb6627641a
open Go.ChangeShapes Go.WideShapes Go.RowKit

/-- A family with one more member at place j. -/
def insAt (P : Nat → ZP) (q : ZP) (j i : Nat) : ZP := if i < j then P i else if i = j then q else P (i - 1)

theorem insAt_lo {P : Nat → ZP} {q : ZP} {j i : Nat} (h : i < j) : insAt P q j i = P i := by simp [insAt, h]
theorem insAt_at {P : Nat → ZP} {q : ZP} {j : Nat} : insAt P q j j = q := by simp [insAt]
theorem insAt_hi {P : Nat → ZP} {q : ZP} {j i : Nat} (h : j ≤ i) : insAt P q j (i + 1) = P i := by simp [insAt, show ¬ i + 1 < j by omega, show ¬ i + 1 = j by omega]

theorem find_same {P Z : Nat → ZP} (s d : ByteArray) : ∀ n, (∀ i, i < n → P i = Z i) → find P s d n = find Z s d n
  | 0, _ => rfl
  | n + 1, h => by rw [find, find, find_same s d n (fun i hi => h i (by omega)), h n (Nat.lt_succ_self _)]

theorem find_cons (R : Nat → ZP) (s d : ByteArray) (m : Nat) : find R s d (m + 1) = if hits (R 0).st (R 0).id s d = true then some 0 else (find (fun i => R (1 + i)) s d m).map (1 + ·) := by
  have := find_split R s d 1 (m + 1) (by omega)
  rw [this, show m + 1 - 1 = m by omega]
  have h1 : find R s d 1 = if hits (R 0).st (R 0).id s d = true then some 0 else none := rfl
  rw [h1]
  split
  · rename_i i h
    split at h
    · cases h; rw [if_pos ‹_›]
    · cases h
  · rename_i h
    split at h
    · cases h
    · rw [if_neg ‹_›]

theorem find_ins (P : Nat → ZP) (q : ZP) (s d : ByteArray) (j n : Nat) (h : j ≤ n) : find (insAt P q j) s d (n + 1) =
    (match find P s d j with | some i => some i | none => if hits q.st q.id s d = true then some j else (find (fun i => P (j + i)) s d (n - j)).map (fun i => j + (1 + i))) := by
  rw [find_split (insAt P q j) s d j (n + 1) (by omega), find_same (Z := P) s d j (fun i hi => insAt_lo hi)]
  cases find P s d j with
  | some i => rfl
  | none =>
    show (find (fun i => insAt P q j (j + i)) s d (n + 1 - j)).map (j + ·) = if hits q.st q.id s d = true then some j else (find (fun i => P (j + i)) s d (n - j)).map (fun i => j + (1 + i))
    rw [show n + 1 - j = (n - j) + 1 by omega, find_cons]
    have e0 : insAt P q j (j + 0) = q := insAt_at
    rw [e0]
    split
    · rfl
    · rw [find_same (Z := fun i => P (j + i)) s d (n - j) (fun i hi => by
        show insAt P q j (j + (1 + i)) = P (j + i)
        rw [show j + (1 + i) = (j + i) + 1 by omega]; exact insAt_hi (by omega)), Option.map_map]
      rfl

/-- The key is the new product's: what the part before place j answers, else the new one. -/
theorem ins_hit_some {P : Nat → ZP} {q : ZP} {s d : ByteArray} {j n i : Nat} (h : j ≤ n) (hf : find P s d j = some i) : find (insAt P q j) s d (n + 1) = some i ∧ insAt P q j i = P i ∧ i < j := by
  have hi := find_lt hf
  exact ⟨by rw [find_ins P q s d j n h, hf], insAt_lo hi, hi⟩

theorem ins_hit_none {P : Nat → ZP} {q : ZP} {s d : ByteArray} {j n : Nat} (h : j ≤ n) (hf : find P s d j = none) (hq : hits q.st q.id s d = true) : find (insAt P q j) s d (n + 1) = some j ∧ insAt P q j j = q := by
  exact ⟨by rw [find_ins P q s d j n h, hf]; simp [hq], insAt_at⟩

/-- Any other key: as before. -/
theorem ins_miss {P : Nat → ZP} {q : ZP} {s d : ByteArray} {j n : Nat} (h : j ≤ n) (hq : hits q.st q.id s d = false) :
    (∃ i i', find P s d n = some i ∧ find (insAt P q j) s d (n + 1) = some i' ∧ insAt P q j i' = P i ∧ i < n) ∨ (find P s d n = none ∧ find (insAt P q j) s d (n + 1) = none) := by
  have e1 := find_ins P q s d j n h
  have e2 := find_split P s d j n h
  cases hf : find P s d j with
  | some i =>
    rw [hf] at e1 e2
    have hi := find_lt hf
    exact .inl ⟨i, i, e2, e1, insAt_lo hi, by omega⟩
  | none =>
    rw [hf] at e1 e2
    simp only [hq, Bool.false_eq_true, if_false] at e1
    cases hg : find (fun i => P (j + i)) s d (n - j) with
    | some i =>
      rw [hg] at e1 e2
      have hi := find_lt hg
      refine .inl ⟨j + i, j + (1 + i), e2, e1, ?_, by omega⟩
      rw [show j + (1 + i) = (j + i) + 1 by omega]
      exact insAt_hi (by omega)
    | none =>
      rw [hg] at e1 e2
      exact .inr ⟨e2, e1⟩

/-- The cells of the first k products. -/
def flat (P : Nat → ZP) : Nat → List Value
  | 0 => []
  | k + 1 => flat P k ++ [.string (P k).st, .string (P k).id, .string (P k).en, .pointer (P k).dp]

theorem flat_len (P : Nat → ZP) : ∀ k, (flat P k).length = k * 4
  | 0 => rfl
  | k + 1 => by rw [flat, List.length_append, flat_len P k]; simp; omega

theorem flat_at (P : Nat → ZP) (i : Nat) : ∀ k, i < k → (flat P k)[i * 4]? = some (.string (P i).st) ∧ (flat P k)[i * 4 + 1]? = some (.string (P i).id) ∧ (flat P k)[i * 4 + 2]? = some (.string (P i).en) ∧ (flat P k)[i * 4 + 3]? = some (.pointer (P i).dp)
  | 0, h => absurd h (Nat.not_lt_zero _)
  | k + 1, h => by
    have hl := flat_len P k
    by_cases e : i = k
    · subst e
      rw [flat]
      refine ⟨?_, ?_, ?_, ?_⟩
      · rw [List.getElem?_append_right (by omega), hl, show i * 4 - i * 4 = 0 by omega]; rfl
      · rw [List.getElem?_append_right (by omega), hl, show i * 4 + 1 - i * 4 = 1 by omega]; rfl
      · rw [List.getElem?_append_right (by omega), hl, show i * 4 + 2 - i * 4 = 2 by omega]; rfl
      · rw [List.getElem?_append_right (by omega), hl, show i * 4 + 3 - i * 4 = 3 by omega]; rfl
    · obtain ⟨a, b, c, d⟩ := flat_at P i k (by omega)
      rw [flat]
      refine ⟨?_, ?_, ?_, ?_⟩
      · rw [List.getElem?_append_left (by omega)]; exact a
      · rw [List.getElem?_append_left (by omega)]; exact b
      · rw [List.getElem?_append_left (by omega)]; exact c
      · rw [List.getElem?_append_left (by omega)]; exact d

/-- A row that was appended to, read as products. -/
theorem zrow_of_owns {w : World} {G n cap : Nat} {P : Nat → ZP} (h : w.ownsRow G 35 4 (.slice (some ⟨G, 0, none⟩) n cap) n (flat P n)) (hd : ∀ i, i < n → DayIs w (P i).dp (P i).dd) : ZRow w (some ⟨G, 0, none⟩) n P := by
  refine .inr ⟨G, 0, rfl, fun i hi => ?_⟩
  obtain ⟨a, b, c, d⟩ := flat_at P i n hi
  rw [Nat.zero_add]
  exact ⟨(h.cellAt _ (by omega)).trans a, (h.cellAt _ (by omega)).trans b, (h.cellAt _ (by omega)).trans c, (h.cellAt _ (by omega)).trans d, hd i hi⟩

/-- The cells of a block that has just been laid, as the law on append asks for them. -/
theorem news4 (w : World) (a b c d : Value) (t : TypeId) : ∀ j u, [a, b, c, d][j]? = some u → (w.alloc (.cells #[a, b, c, d] t)).cell? ((⟨w.heap.size, 0, none⟩ : Addr).add j) = some u := by
  intro j u hj
  have hadd : (⟨w.heap.size, 0, none⟩ : Addr).add j = ⟨w.heap.size, j, none⟩ := by unfold Addr.add; split <;> simp_all
  rw [hadd, World.cell?_alloc_at _ _ _ _ rfl]
  simpa using hj

theorem oneCell4 (z : ZP) : ∀ u ∈ [Value.string z.st, .string z.id, .string z.en, .pointer z.dp], u.oneCell' = true := by
  intro u hu
  simp only [List.mem_cons, List.not_mem_nil, or_false] at hu
  rcases hu with rfl | rfl | rfl | rfl <;> rfl

theorem flat_step {P : Nat → ZP} {z : ZP} {k : Nat} (h : P k = z) : flat P k ++ [.string z.st, .string z.id, .string z.en, .pointer z.dp] = flat P (k + 1) := by rw [flat, h]

theorem hits_true {st id s d : ByteArray} (h : hits st id s d = true) : st.toList = s.toList ∧ id.toList = d.toList := by simpa [hits] using h

theorem days_ins {w : World} {A : Option Addr} {P : Nat → ZP} {q : ZP} {j n : Nat} (hj : j ≤ n) (h : ZRow w A n P) (hq : DayIs w q.dp q.dd) : ∀ i, i < n + 1 → DayIs w (insAt P q j i).dp (insAt P q j i).dd := by
  intro i hi
  by_cases e : i < j
  · rw [insAt_lo e]; exact h.day i (by omega)
  · by_cases e2 : i = j
    · subst e2; rw [insAt_at]; exact hq
    · obtain ⟨i', rfl⟩ : ∃ i', i = i' + 1 := ⟨i - 1, by omega⟩
      rw [insAt_hi (by omega)]; exact h.day i' (by omega)

theorem hits_false {st id s d : ByteArray} (h : hits st id s d = false) (e : st.toList = s.toList) : (id.toList == d.toList) = false := by simpa [hits, e] using h

end Go.Proofs.Qxb6627641a
