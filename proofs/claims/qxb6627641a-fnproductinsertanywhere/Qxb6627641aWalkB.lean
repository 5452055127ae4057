/-
  WALKS (2) over the catalogue: slices.IndexFunc (16) with the closure, Product (9), zzFirstMatch (11).
-/
import Derived.Test.Qxb6627641aWalkA
namespace Go.Proofs.Qxb6627641a
open Go.ChangeShapes Go.WideShapes Go.RowKit

/-- A product: its three strings, where its days lie, and what lies there. -/
structure ZP where
  st : ByteArray
  id : ByteArray
  en : ByteArray
  dp : Option Addr
  dd : Option Int

/-- A product in memory: four cells from offset o of block b on; its days. -/
structure ZCells (w : World) (b o : Nat) (z : ZP) : Prop where
  c0 : w.cell? ⟨b, o, none⟩ = some (.string z.st)
  c1 : w.cell? ⟨b, o + 1, none⟩ = some (.string z.id)
  c2 : w.cell? ⟨b, o + 2, none⟩ = some (.string z.en)
  c3 : w.cell? ⟨b, o + 3, none⟩ = some (.pointer z.dp)
  day : DayIs w z.dp z.dd

theorem ZCells.below {w w' : World} {b o : Nat} {z : ZP} (h : ZCells w b o z) (hb : Below w.heap.size w w') : ZCells w' b o z := by
  have lb : b < w.heap.size := World.block_lt_of_cell? w _ h.c0
  exact ⟨by rw [hb.cell (p := ⟨b, o, none⟩) lb, h.c0], by rw [hb.cell (p := ⟨b, o + 1, none⟩) lb, h.c1], by rw [hb.cell (p := ⟨b, o + 2, none⟩) lb, h.c2], by rw [hb.cell (p := ⟨b, o + 3, none⟩) lb, h.c3], h.day.below hb⟩

/-- A slice of products. -/
def ZRow (w : World) (A : Option Addr) (n : Nat) (Z : Nat → ZP) : Prop := n = 0 ∨ ∃ b off, A = some ⟨b, off, none⟩ ∧ ∀ i, i < n → ZCells w b (off + i * 4) (Z i)

theorem ZRow.below {w w' : World} {A : Option Addr} {n : Nat} {Z : Nat → ZP} (h : ZRow w A n Z) (hb : Below w.heap.size w w') : ZRow w' A n Z := by
  rcases h with h | ⟨b, off, rfl, hc⟩
  · exact .inl h
  · exact .inr ⟨b, off, rfl, fun i hi => (hc i hi).below hb⟩

/-- The first product that bears the key (s, d) among the first n. -/
def find (Z : Nat → ZP) (s d : ByteArray) : Nat → Option Nat
  | 0 => none
  | n + 1 => match find Z s d n with
    | some i => some i
    | none => if hits (Z n).st (Z n).id s d = true then some n else none

def idxOf : Option Nat → Int
  | none => -1
  | some i => i

def IdxEnd (Z : Nat → ZP) (s d : ByteArray) (n : Nat) (w : World) (e : Ending) (w' : World) : Prop := e = .returned (.int .i64 (idxOf (find Z s d n))) ∧ Below w.heap.size w w'

theorem find_miss {Z : Nat → ZP} {s d : ByteArray} {k : Nat} (h0 : find Z s d k = none) (h : hits (Z k).st (Z k).id s d = false) : find Z s d (k + 1) = none := by
  simp [find, h0, h]

theorem find_hit {Z : Nat → ZP} {s d : ByteArray} {k : Nat} (h0 : find Z s d k = none) (h : hits (Z k).st (Z k).id s d = true) : ∀ n, k < n → find Z s d n = some k
  | 0, hk => absurd hk (Nat.not_lt_zero _)
  | n + 1, hk => by
    by_cases e : k = n
    · subst e; simp [find, h0, h]
    · have := find_hit h0 h n (by omega)
      simp [find, this]

theorem find_lt {Z : Nat → ZP} {s d : ByteArray} : ∀ {n i : Nat}, find Z s d n = some i → i < n
  | 0, i, h => by cases h
  | n + 1, i, h => by
    rw [find] at h
    split at h
    · rename_i j hj
      cases h
      exact Nat.lt_succ_of_lt (find_lt hj)
    · split at h
      · cases h; exact Nat.lt_succ_self _
      · cases h

set_option maxHeartbeats 400000 in
theorem idx_any (A : Option Addr) (n c : Nat) (Z : Nat → ZP) (s d : ByteArray) (b1 b2 : Nat) (w : World) (hn : n ≤ maxLen) (hZ : ZRow w A n Z)
    (h1 : w.cell? ⟨b1, 0, none⟩ = some (.string s)) (h2 : w.cell? ⟨b2, 0, none⟩ = some (.string d)) :
    Calls Try.prog 16 #[.slice A n c, .func (Fn.func 17) #[] #[.pointer (some ⟨b1, 0, none⟩), .pointer (some ⟨b2, 0, none⟩)]] w (IdxEnd Z s d n w) := by
  unfold maxLen at hn
  have l1 : b1 < w.heap.size := World.block_lt_of_cell? w _ h1
  have l2 : b2 < w.heap.size := World.block_lt_of_cell? w _ h2
  have H1 : Hid _ := h1
  have H2 : Hid _ := h2
  clear h1 h2
  go_enter Try.func16, Try.ntmps16
  go_wp2
  go_loopw [8] (fun i wx => ∃ k : Nat, k ≤ n ∧ i = .int .i64 k ∧ find Z s d k = none ∧ Below w.heap.size w wx) (fun i _ => n - (intOf i).toNat)
  case atStart => exact ⟨0, Nat.zero_le _, rfl, rfl, Below.refl _ _⟩
  case round =>
    obtain ⟨k, hk, rfl, hno, hbel⟩ := hrel
    have HN : Hid _ := hno
    clear hno
    by_cases hlt : k < n
    · rcases hZ with hZ | ⟨b, off, rfl, hc⟩
      · omega
      obtain ⟨c0, c1, c2, c3, day⟩ := (hc k hlt)
      have lb : b < w.heap.size := World.block_lt_of_cell? w _ c0
      have t0 := (hbel.cell (p := ⟨b, off + k * 4, none⟩) lb).trans c0
      have t1 := (hbel.cell (p := ⟨b, off + k * 4 + 1, none⟩) lb).trans c1
      have t2 := (hbel.cell (p := ⟨b, off + k * 4 + 2, none⟩) lb).trans c2
      have t3 := (hbel.cell (p := ⟨b, off + k * 4 + 3, none⟩) lb).trans c3
      clear c0 c1 c2 c3 day hc
      go_wp2_with fail
      have q1 := (hbel.cell (p := ⟨b1, 0, none⟩) l1).trans H1.out
      have q2 := (hbel.cell (p := ⟨b2, 0, none⟩) l2).trans H2.out
      refine (hit_any _ _ _ s d _ _ _ _ q1 q2).mono ?_
      rintro e w1 ⟨he, hb1⟩
      have bel1 := hbel.trans (hb1.mono hbel.size)
      clear q1 q2 t0 t1 t2 t3 hb1
      cases hh : hits (Z k).st (Z k).id s d
      · rw [hh] at he
        subst he
        have HH : Hid _ := find_miss HN.out hh
        clear hh
        go_wp2_with fail
        go_roundw
        case rel => exact ⟨k + 1, by omega, by go_num, HH.out, bel1⟩
        case measure => simp [intOf]; omega
      · rw [hh] at he
        subst he
        have HH : Hid _ := find_hit HN.out hh n hlt
        clear hh
        go_wp2_with fail
        go_ret
        exact ⟨by rw [HH.out]; rfl, bel1⟩
    · go_wp2_with fail
      go_ret
      have e : k = n := by omega
      subst e
      exact ⟨by rw [HN.out]; rfl, hbel⟩

/-- What Product answers: the first product that bears the key, or the zero one. -/
def zeroZ : ZP := ⟨⟨#[]⟩, ⟨#[]⟩, ⟨#[]⟩, none, none⟩
def pick (Z : Nat → ZP) : Option Nat → ZP
  | none => zeroZ
  | some i => Z i

def ProdEnd (Z : Nat → ZP) (r : Option Nat) (w : World) (e : Ending) (w' : World) : Prop :=
  e = .returned (.tuple #[.agg #[.string (pick Z r).st, .string (pick Z r).id, .string (pick Z r).en, .pointer (pick Z r).dp], .bool r.isSome]) ∧ Below w.heap.size w w'

set_option maxHeartbeats 400000 in
theorem product_any (E : Option Addr) (le ce : Nat) (A : Option Addr) (n c : Nat) (Z : Nat → ZP) (s d : ByteArray) (w : World) (hn : n ≤ maxLen) (hZ : ZRow w A n Z) (r : Option Nat) (hr : find Z s d n = r) :
    Calls Try.prog 9 #[.agg #[.slice E le ce, .slice A n c], .string s, .string d] w (ProdEnd Z r w) := by
  have HR : Hid _ := hr
  clear hr
  go_enter Try.func9, Try.ntmps9
  go_wp2_with fail
  obtain ⟨W, hW⟩ : ∃ W, W = (((w.alloc (.cells #[.slice E le ce, .slice A n c] 32)).alloc (.cells #[.string s] 30)).alloc (.cells #[.string d] 9)).alloc (.cells #[.string ⟨#[]⟩, .string ⟨#[]⟩, .string ⟨#[]⟩, .pointer none] 35) := ⟨_, rfl⟩
  have B0 : Below w.heap.size w W := by
    rw [hW]
    exact ((((Below.refl _ _).alloc (Nat.le_refl _) _).alloc (by simp) _).alloc (by simp; omega) _).alloc (by simp; omega) _
  have q0 : W.cell? ⟨w.heap.size, 1, none⟩ = some (.slice A n c) := by rw [hW]; simp [go_sem]
  have q1 : W.cell? ⟨w.heap.size + 1, 0, none⟩ = some (.string s) := by rw [hW]; simp [go_sem]
  have q2 : W.cell? ⟨w.heap.size + 1 + 1, 0, none⟩ = some (.string d) := by rw [hW]; simp [go_sem]
  have q3 : W.heap.size = w.heap.size + 4 := by rw [hW]; simp
  have q4 : ∀ j, W.frozen? ⟨w.heap.size + 1 + 1 + 1, j, none⟩ = false := by intro j; rw [hW]; simp [go_sem]
  have r0 : W.cell? ⟨w.heap.size + 1 + 1 + 1, 0, none⟩ = some (.string ⟨#[]⟩) := by rw [hW]; simp [go_sem]
  have r1 : W.cell? ⟨w.heap.size + 1 + 1 + 1, 1, none⟩ = some (.string ⟨#[]⟩) := by rw [hW]; simp [go_sem]
  have r2 : W.cell? ⟨w.heap.size + 1 + 1 + 1, 2, none⟩ = some (.string ⟨#[]⟩) := by rw [hW]; simp [go_sem]
  have r3 : W.cell? ⟨w.heap.size + 1 + 1 + 1, 3, none⟩ = some (.pointer none) := by rw [hW]; simp [go_sem]
  rw [← hW]
  clear hW
  refine (idx_any _ _ _ Z s d _ _ _ hn (hZ.below B0) q1 q2).mono ?_
  rintro e w1 ⟨he, hb1⟩
  rw [HR.out] at he
  subst he
  have lq : w.heap.size ≤ w.heap.size + 1 + 1 + 1 := by omega
  have lt3 : w.heap.size + 1 + 1 + 1 < W.heap.size := by omega
  have B1 := B0.trans (hb1.mono B0.size)
  have p0 := (hb1.cell (p := ⟨w.heap.size, 1, none⟩) (show w.heap.size < W.heap.size by omega)).trans q0
  have g0 := (hb1.cell (p := ⟨w.heap.size + 1 + 1 + 1, 0, none⟩) lt3).trans r0
  have g1 := (hb1.cell (p := ⟨w.heap.size + 1 + 1 + 1, 1, none⟩) lt3).trans r1
  have g2 := (hb1.cell (p := ⟨w.heap.size + 1 + 1 + 1, 2, none⟩) lt3).trans r2
  have g3 := (hb1.cell (p := ⟨w.heap.size + 1 + 1 + 1, 3, none⟩) lt3).trans r3
  have f0 := (hb1.frozen (p := ⟨w.heap.size + 1 + 1 + 1, 0, none⟩) lt3).trans (q4 0)
  have f1 := (hb1.frozen (p := ⟨w.heap.size + 1 + 1 + 1, 1, none⟩) lt3).trans (q4 1)
  have f2 := (hb1.frozen (p := ⟨w.heap.size + 1 + 1 + 1, 2, none⟩) lt3).trans (q4 2)
  have f3 := (hb1.frozen (p := ⟨w.heap.size + 1 + 1 + 1, 3, none⟩) lt3).trans (q4 3)
  have lw := hb1.size
  have Z1 := (hZ.below B0).below hb1
  clear q0 q1 q2 q4 r0 r1 r2 r3 hb1 hZ B0
  cases r with
  | none =>
    simp only [idxOf]
    go_wp2_with fail
    refine bodyPost_ret (v := .tuple #[.agg #[.string ⟨#[]⟩, .string ⟨#[]⟩, .string ⟨#[]⟩, .pointer none], .bool false]) (by simp [results, Try.results9, go_sem, g0, g1, g2, g3]) rfl ⟨rfl, ?_⟩
    exact (((B1.setCell (p := ⟨w.heap.size + 1 + 1 + 1, 0, none⟩) lq _).setCell (p := ⟨w.heap.size + 1 + 1 + 1, 1, none⟩) lq _).setCell (p := ⟨w.heap.size + 1 + 1 + 1, 2, none⟩) lq _).setCell (p := ⟨w.heap.size + 1 + 1 + 1, 3, none⟩) lq _
  | some i =>
    have hi : i < n := find_lt HR.out
    rcases Z1 with Z1 | ⟨b, off, rfl, hc⟩
    · omega
    obtain ⟨c0, c1, c2, c3, day⟩ := (hc i hi)
    simp only [idxOf]
    clear hc day
    go_wp2_with fail
    refine bodyPost_ret (v := .tuple #[.agg #[.string (Z i).st, .string (Z i).id, .string (Z i).en, .pointer (Z i).dp], .bool true]) (by simp [results, Try.results9, go_sem, g0, g1, g2, g3]) rfl ⟨rfl, ?_⟩
    exact (((B1.setCell (p := ⟨w.heap.size + 1 + 1 + 1, 0, none⟩) lq _).setCell (p := ⟨w.heap.size + 1 + 1 + 1, 1, none⟩) lq _).setCell (p := ⟨w.heap.size + 1 + 1 + 1, 2, none⟩) lq _).setCell (p := ⟨w.heap.size + 1 + 1 + 1, 3, none⟩) lq _

def FirstEnd (Z : Nat → ZP) (s d : ByteArray) (n : Nat) (w : World) (e : Ending) (w' : World) : Prop := e = .returned (.int .i64 (idxOf (find Z s d n))) ∧ w' = w

set_option maxHeartbeats 400000 in
theorem first_any (A : Option Addr) (n c : Nat) (Z : Nat → ZP) (s d : ByteArray) (w : World) (hn : n ≤ maxLen) (hZ : ZRow w A n Z) :
    Calls Try.prog 11 #[.slice A n c, .string s, .string d] w (FirstEnd Z s d n w) := by
  unfold maxLen at hn
  go_enter Try.func11, Try.ntmps11
  go_wp2
  go_loop [7] (fun i => ∃ k : Nat, k ≤ n ∧ i = .int .i64 k ∧ find Z s d k = none) (fun i => n - (intOf i).toNat)
  case atStart => exact ⟨0, Nat.zero_le _, rfl, rfl⟩
  case round =>
    obtain ⟨k, hk, rfl, hno⟩ := hrel
    have HN : Hid _ := hno
    clear hno
    by_cases hlt : k < n
    · rcases hZ with hZ | ⟨b, off, rfl, hc⟩
      · omega
      obtain ⟨c0, c1, c2, c3, day⟩ := (hc k hlt)
      clear hc day c2 c3
      go_wp2_with fail
      · have e : (Z k).st.toList = s.toList := by assumption
        have e2 : ((Z k).id.toList == d.toList) = true := by assumption
        go_ret
        exact ⟨by rw [find_hit HN.out (by simp [hits, e, e2]) n hlt]; rfl, rfl⟩
      · have e : (Z k).st.toList = s.toList := by assumption
        have e2 : ((Z k).id.toList == d.toList) = false := by assumption
        go_round
        case rel => exact ⟨k + 1, by omega, by go_num, find_miss HN.out (by simp [hits, e, e2])⟩
        case measure => simp [intOf]; omega
      · have e : ¬ (Z k).st.toList = s.toList := by assumption
        go_round
        case rel => exact ⟨k + 1, by omega, by go_num, find_miss HN.out (by simp [hits, e])⟩
        case measure => simp [intOf]; omega
    · go_wp2_with fail
      go_ret
      have e : k = n := by omega
      subst e
      exact ⟨by rw [HN.out]; rfl, rfl⟩

end Go.Proofs.Qxb6627641a
