/-
  WALKS (5): FnAllowsSplitAtAnyCut (function 4).
-/
import Derived.Test.Qxb6627602aWalkD
import Derived.Deep.RegionWith
import Derived.Deep.DrawnRows
namespace Go.Proofs.Qxb6627602a
open Go.ChangeShapes Go.WideShapes Go.RowKit
attribute [local go_sem ↓] Go.wp_at_zero Go.wp_at_succ

theorem StrRow.below {w w' : World} {A : Option Addr} {n : Nat} {S : Nat → ByteArray} (h : StrRow w A n S) (hb : Below w.heap.size w w') : StrRow w' A n S := by
  rcases h with h | ⟨b, off, rfl, hc⟩
  · exact .inl h
  · exact .inr ⟨b, off, rfl, fun i hi => by
      rw [hb.cell (p := ⟨b, off + i, none⟩) (World.block_lt_of_cell? w _ (hc i hi)), hc i hi]⟩

theorem BoolRow.below {w w' : World} {A : Option Addr} {n : Nat} {S : Nat → Bool} (h : BoolRow w A n S) (hb : Below w.heap.size w w') : BoolRow w' A n S := by
  rcases h with h | ⟨b, off, rfl, hc⟩
  · exact .inl h
  · exact .inr ⟨b, off, rfl, fun i hi => by
      rw [hb.cell (p := ⟨b, off + i, none⟩) (World.block_lt_of_cell? w _ (hc i hi)), hc i hi]⟩

theorem StrRow.take {w : World} {A : Option Addr} {n j : Nat} {S : Nat → ByteArray} (h : StrRow w A n S) (hj : j ≤ n) : StrRow w A j S := by
  rcases h with h | ⟨b, off, rfl, hc⟩
  · exact .inl (by omega)
  · exact .inr ⟨b, off, rfl, fun i hi => hc i (by omega)⟩

theorem BoolRow.take {w : World} {A : Option Addr} {n j : Nat} {S : Nat → Bool} (h : BoolRow w A n S) (hj : j ≤ n) : BoolRow w A j S := by
  rcases h with h | ⟨b, off, rfl, hc⟩
  · exact .inl (by omega)
  · exact .inr ⟨b, off, rfl, fun i hi => hc i (by omega)⟩

/-- Where 'x[j:]' begins. -/
def dropAt (A : Option Addr) (c j : Nat) : Option Addr := if c = j then A else A.map (·.add j)

theorem dropAt_some (b off c j n : Nat) (hjn : j < n) (hnc : n ≤ c) : dropAt (some ⟨b, off, none⟩) c j = some ⟨b, off + j, none⟩ := by
  rw [dropAt, if_neg (by omega)]
  simp only [Option.map_some, Addr.add]
  split <;> simp_all

theorem StrRow.drop {w : World} {A : Option Addr} {n c j : Nat} {S : Nat → ByteArray} (h : StrRow w A n S) (hj : j ≤ n) (hc : n ≤ c) : StrRow w (dropAt A c j) (n - j) (fun i => S (j + i)) := by
  by_cases e : n - j = 0
  · exact .inl e
  · rcases h with h | ⟨b, off, rfl, hcell⟩
    · omega
    · exact .inr ⟨b, off + j, dropAt_some b off c j n (by omega) hc, fun i hi => by rw [Nat.add_assoc]; exact hcell (j + i) (by omega)⟩

theorem BoolRow.drop {w : World} {A : Option Addr} {n c j : Nat} {S : Nat → Bool} (h : BoolRow w A n S) (hj : j ≤ n) (hc : n ≤ c) : BoolRow w (dropAt A c j) (n - j) (fun i => S (j + i)) := by
  by_cases e : n - j = 0
  · exact .inl e
  · rcases h with h | ⟨b, off, rfl, hcell⟩
    · omega
    · exact .inr ⟨b, off + j, dropAt_some b off c j n (by omega) hc, fun i hi => by rw [Nat.add_assoc]; exact hcell (j + i) (by omega)⟩

theorem Try.size9 : (Try.prog.info? 9).map (·.size) = some 1 := by kernel_rfl
theorem Try.size4 : (Try.prog.info? 4).map (·.size) = some 1 := by kernel_rfl

theorem size_of9 (w : World) : (sizeOf 9).run Try.prog w = .ok 1 w := by
  obtain ⟨i, hi, hs⟩ := Option.map_eq_some_iff.1 Try.size9
  simp [sizeOf, typeInfo, hi, hs]
theorem cut_lo22 (A : Option Addr) (n c j : Nat) (h : j ≤ c) (w : World) : (Instr.slice 22 (.slice A n c) none (some (.int .i64 (j : Int))) none).run Try.prog w = .ok (.slice A j c) w := by
  have ha : A.map (·.add 0) = A := by cases A <;> simp [Addr.add]
  rw [run_slice_h (P := Try.prog) w 22 A n c Try.underlying22 .i64 j (by omega) (by omega)]
  show ((sizeOf 9).run Try.prog w).andThen _ = _
  rw [size_of9]
  simp [Result.andThen, sliced, ha]
theorem cut_hi22 (A : Option Addr) (n c j : Nat) (h : j ≤ n) (w : World) : (Instr.slice 22 (.slice A n c) (some (.int .i64 (j : Int))) none none).run Try.prog w = .ok (.slice (dropAt A c j) (n - j) (c - j)) w := by
  rw [run_slice_l (P := Try.prog) w 22 A n c Try.underlying22 .i64 j (by omega) (by omega)]
  show ((sizeOf 9).run Try.prog w).andThen _ = _
  rw [size_of9]
  simp [Result.andThen, sliced, dropAt]

theorem size_of4 (w : World) : (sizeOf 4).run Try.prog w = .ok 1 w := by
  obtain ⟨i, hi, hs⟩ := Option.map_eq_some_iff.1 Try.size4
  simp [sizeOf, typeInfo, hi, hs]
theorem cut_lo23 (A : Option Addr) (n c j : Nat) (h : j ≤ c) (w : World) : (Instr.slice 23 (.slice A n c) none (some (.int .i64 (j : Int))) none).run Try.prog w = .ok (.slice A j c) w := by
  have ha : A.map (·.add 0) = A := by cases A <;> simp [Addr.add]
  rw [run_slice_h (P := Try.prog) w 23 A n c Try.underlying23 .i64 j (by omega) (by omega)]
  show ((sizeOf 4).run Try.prog w).andThen _ = _
  rw [size_of4]
  simp [Result.andThen, sliced, ha]
theorem cut_hi23 (A : Option Addr) (n c j : Nat) (h : j ≤ n) (w : World) : (Instr.slice 23 (.slice A n c) (some (.int .i64 (j : Int))) none none).run Try.prog w = .ok (.slice (dropAt A c j) (n - j) (c - j)) w := by
  rw [run_slice_l (P := Try.prog) w 23 A n c Try.underlying23 .i64 j (by omega) (by omega)]
  show ((sizeOf 4).run Try.prog w).andThen _ = _
  rw [size_of4]
  simp [Result.andThen, sliced, dropAt]

/-- A type in memory: at block tb, its access list the row at block g. -/
structure Ty (w : World) (tb g n : Nat) (S : Nat → ByteArray) (B : Nat → Bool) : Prop where
  head : w.cell? ⟨tb, 0, none⟩ = some (.slice (some ⟨g, 0, none⟩) n n)
  row : RowTo w g n n S B

theorem Ty.below {w w' : World} {tb g n : Nat} {S : Nat → ByteArray} {B : Nat → Bool} (h : Ty w tb g n S B) (hb : Below w.heap.size w w') : Ty w' tb g n S B :=
  ⟨by rw [hb.cell (p := ⟨tb, 0, none⟩) (World.block_lt_of_cell? w _ h.head), h.head], h.row.of_below hb h.row.lt⟩

theorem Ty.alloc {w : World} {tb g n : Nat} {S : Nat → ByteArray} {B : Nat → Bool} (h : Ty w tb g n S B) (o : Obj) : Ty (w.alloc o) tb g n S B :=
  h.below ((Below.refl _ _).alloc (Nat.le_refl _) _)

theorem Ty.drew {w : World} {tb g n : Nat} {S : Nat → ByteArray} {B : Nat → Bool} (h : Ty w tb g n S B) : Ty w.drew tb g n S B :=
  h.below (Below.refl _ _).drew

theorem Ty.made {w : World} {g n : Nat} {S : Nat → ByteArray} {B : Nat → Bool} (h : RowTo w g n n S B) (v1 v2 : Value) : Ty (w.alloc (.cells #[.slice (some ⟨g, 0, none⟩) n n, v1, v2] 30)) w.heap.size g n S B :=
  ⟨by simp, h.alloc _⟩

theorem allows_ty (tb g n : Nat) (S : Nat → ByteArray) (B : Nat → Bool) (q : ByteArray) (wq : Bool) (w : World) (hn : n ≤ 1048576) (h : Ty w tb g n S B) :
    Calls Try.prog 8 #[.pointer (some ⟨tb, 0, none⟩), .string q, .bool wq] w (AllowsEnd S B q wq n w) :=
  allows_any tb g n n S B q wq w (by unfold maxLen; omega) h.head h.row.cells.1 h.row.cells.2

theorem split_aux (S : Nat → ByteArray) (B : Nat → Bool) (q : ByteArray) (y : Bool) (j : Nat) : ∀ d, allows S B q y (j + d) = (allows S B q y j || allows (fun i => S (j + i)) (fun i => B (j + i)) q y d)
  | 0 => by simp [allows]
  | d + 1 => by
    rw [show j + (d + 1) = (j + d) + 1 by omega, allows, split_aux S B q y j d, allows, Bool.or_assoc]

theorem split_law (S : Nat → ByteArray) (B : Nat → Bool) (q : ByteArray) (y : Bool) (j n : Nat) (h : j ≤ n) : allows S B q y n = (allows S B q y j || allows (fun i => S (j + i)) (fun i => B (j + i)) q y (n - j)) := by
  have := split_aux S B q y j (n - j)
  rwa [show j + (n - j) = n by omega] at this

def OwnEnd (w : World) (e : Ending) (w' : World) : Prop := e = .returned (.bool true) ∧ Below w.heap.size w w'
theorem own_ty (tb g n : Nat) (S : Nat → ByteArray) (B : Nat → Bool) (p : Nat) (wq : Bool) (w : World) (hn : n ≤ 1048576) (hp : p < n) (hb : (B p || !wq) = true) (h : Ty w tb g n S B) :
    Calls Try.prog 8 #[.pointer (some ⟨tb, 0, none⟩), .string (S p), .bool wq] w (OwnEnd w) :=
  (allows_ty tb g n S B (S p) wq w hn h).mono fun e w' ⟨he, hbel⟩ => ⟨by rw [he, allows_hit S B (S p) wq p (by simp [hb]) n hp], hbel⟩

set_option maxHeartbeats 4000000 in
theorem spl_pos (A0 A1 A2 A3 : Option Addr) (n c0 c1 l2 c2 l3 c3 : Nat) (S : Nat → ByteArray) (B : Nat → Bool) (S2 S3 : Nat → ByteArray) (j : Nat) (p : Nat) (q : ByteArray) (y : Bool) (w : World)
    (hl0 : n ≤ maxLen) (hl2 : l2 ≤ maxLen) (hl3 : l3 ≤ maxLen) (h0 : StrRow w A0 n S) (h1 : BoolRow w A1 n B) (h2 : StrRow w A2 l2 S2) (h3 : StrRow w A3 l3 S3)
    (hc0 : n ≤ c0) (hc1 : n ≤ c1) (hj : j ≤ n) (hp : p < n) :
    Calls Try.prog 4 #[.slice A0 n c0, .slice A1 n c1, .slice A2 l2 c2, .slice A3 l3 c3, .int .i64 (j : Int), .int .i64 p, .string q, .bool y] w (LawEnd w) := by
  rcases h0 with h0 | ⟨b0, off0, rfl, e0⟩
  · omega
  rcases h1 with h1 | ⟨b1, off1, rfl, e1⟩
  · omega
  have h0 : StrRow w (some ⟨b0, off0, none⟩) n S := .inr ⟨b0, off0, rfl, e0⟩
  have h1 : BoolRow w (some ⟨b1, off1, none⟩) n B := .inr ⟨b1, off1, rfl, e1⟩
  have E0 := e0 p hp
  have E1 := e1 p hp
  have L0 : b0 < w.heap.size := World.block_lt_of_cell? w _ E0
  have L1 : b1 < w.heap.size := World.block_lt_of_cell? w _ E1
  have H0 : Hid _ := E0
  have H1 : Hid _ := E1
  clear e0 e1 E0 E1
  go_enter Try.func4, Try.ntmps4
  go_wp2_with fail
  refine (bytesS_any _ _ _ _ _ _ _ _ _ _ _ _ S S2 S3 _ _ _ _ _ hl0 hl2 hl3 h0 h2 h3).mono ?_
  rintro e w' ⟨⟨b, rfl, hb⟩, hw⟩
  replace hw := hw.symm
  subst hw
  cases b
  · go_wp2_with fail
    go_ret; exact lawEnd rfl (Below.refl _ _)
  have hn : _ ≤ 1048576 := hb rfl
  clear hb
  go_wp2_with fail
  refine (fits_any _ _ _ _ _ _ _ _ _ _ _ _ S S2 S3 _ _ _ hl0 hl2 hl3 h0 h2 h3).mono ?_
  rintro e w'' ⟨⟨b, rfl⟩, hw⟩
  replace hw := hw.symm
  subst hw
  cases b
  · go_wp2_with fail
    go_ret; exact lawEnd rfl (Below.refl _ _)
  go_wp2_with fail
  refine (access_any _ _ _ _ _ S B _ hn h0 h1).mono ?_
  rintro e w1 ⟨g, rfl, hrow, hbel⟩
  have T1 : Ty (w1.alloc (.cells #[.slice (some ⟨g, 0, none⟩) n n, .slice A2 l2 c2, .slice A3 l3 c3] 30)).drew w1.heap.size g n S B := (Ty.made hrow _ _).drew
  have B1 : Below w.heap.size w (w1.alloc (.cells #[.slice (some ⟨g, 0, none⟩) n n, .slice A2 l2 c2, .slice A3 l3 c3] 30)).drew := (hbel.alloc hbel.size _).drew
  clear hrow hbel
  have s0 := cut_lo22 (some ⟨b0, off0, none⟩) n c0 j (by omega)
  have s1 := cut_lo23 (some ⟨b1, off1, none⟩) n c1 j (by omega)
  have u0 := cut_hi22 (some ⟨b0, off0, none⟩) n c0 j (by omega)
  have u1 := cut_hi23 (some ⟨b1, off1, none⟩) n c1 j (by omega)
  go_wp2_with fail
  go_region_with (go_at_call 7; refine (access_any _ _ _ _ _ S B _ (by omega) ((h0.below B1).take hj) ((h1.below B1).take hj)).mono ?_; rintro e w2 ⟨g2, rfl, hrow2, hbel2⟩)
  go_wp2_with fail
  have B2 : Below w.heap.size w (w2.alloc (.cells #[.slice (some ⟨g2, 0, none⟩) j j, .slice none 0 0, .slice none 0 0] 30)).drew := ((B1.trans (hbel2.mono B1.size)).alloc (Nat.le_trans B1.size hbel2.size) _).drew
  have T1b : Ty (w2.alloc (.cells #[.slice (some ⟨g2, 0, none⟩) j j, .slice none 0 0, .slice none 0 0] 30)).drew w1.heap.size g n S B := ((T1.below hbel2).alloc _).drew
  have T2 : Ty (w2.alloc (.cells #[.slice (some ⟨g2, 0, none⟩) j j, .slice none 0 0, .slice none 0 0] 30)).drew w2.heap.size g2 j S B := (Ty.made hrow2 _ _).drew
  clear hrow2 hbel2 T1 B1
  go_region_with (go_at_call 7; refine (access_any _ _ _ _ _ (fun i => S (j + i)) (fun i => B (j + i)) _ (by omega) ((h0.below B2).drop hj hc0) ((h1.below B2).drop hj hc1)).mono ?_; rintro e w3 ⟨g3, rfl, hrow3, hbel3⟩)
  have B3 : Below w.heap.size w (w3.alloc (.cells #[.slice (some ⟨g3, 0, none⟩) (n - j) (n - j), .slice none 0 0, .slice none 0 0] 30)) := (B2.trans (hbel3.mono B2.size)).alloc (Nat.le_trans B2.size hbel3.size) _
  have T1c : Ty (w3.alloc (.cells #[.slice (some ⟨g3, 0, none⟩) (n - j) (n - j), .slice none 0 0, .slice none 0 0] 30)) w1.heap.size g n S B := (T1b.below hbel3).alloc _
  have T2c : Ty (w3.alloc (.cells #[.slice (some ⟨g3, 0, none⟩) (n - j) (n - j), .slice none 0 0, .slice none 0 0] 30)) w2.heap.size g2 j S B := (T2.below hbel3).alloc _
  have T3 : Ty (w3.alloc (.cells #[.slice (some ⟨g3, 0, none⟩) (n - j) (n - j), .slice none 0 0, .slice none 0 0] 30)) w3.heap.size g3 (n - j) (fun i => S (j + i)) (fun i => B (j + i)) := Ty.made hrow3 _ _
  clear hrow3 hbel3 T1b T2 B2 s0 s1 u0 u1
  go_wp2_with fail
  obtain ⟨r, hr⟩ : ∃ r, allows S B q y n = r := ⟨_, rfl⟩
  obtain ⟨l, hl⟩ : ∃ l, allows S B q y j = l := ⟨_, rfl⟩
  obtain ⟨t, ht⟩ : ∃ t, allows (fun i => S (j + i)) (fun i => B (j + i)) q y (n - j) = t := ⟨_, rfl⟩
  have hlaw := split_law S B q y j n hj
  rw [hr, hl, ht] at hlaw
  refine (allows_ty _ _ _ S B _ _ _ hn T1c).mono ?_
  rintro e w4 ⟨he, hb4⟩
  rw [hr] at he
  subst he
  have B4 := B3.trans (hb4.mono B3.size)
  have T14 := T1c.below hb4
  have T24 := T2c.below hb4
  have T34 := T3.below hb4
  clear B3 T1c T2c T3 hb4 hr
  have HL : Hid _ := hl
  have HT : Hid _ := ht
  have HW : Hid _ := hlaw
  clear hl ht hlaw
  go_wp2_with fail
  refine (allows_ty _ _ _ S B _ _ _ (by omega) T24).mono ?_
  rintro e w5 ⟨he, hb5⟩
  rw [HL.out] at he
  subst he
  have B5 := B4.trans (hb5.mono B4.size)
  have T15 := T14.below hb5
  have T35 := T34.below hb5
  clear B4 T14 T24 T34 hb5 HL
  cases l
  · have HW2 := HW.out
    simp only [Bool.false_or] at HW2
    subst HW2
    clear HW
    go_wp2_with fail
    refine (allows_ty _ _ _ (fun i => S (j + i)) (fun i => B (j + i)) _ _ _ (by omega) T35).mono ?_
    rintro e w6 ⟨he, hb6⟩
    rw [HT.out] at he
    subst he
    have B6 := B5.trans (hb6.mono B5.size)
    have T16 := T15.below hb6
    clear B5 T15 T35 hb6 HT
    have P0 : w6.cell? ⟨b0, off0 + p, none⟩ = some (.string (S p)) := (B6.cell (p := ⟨b0, off0 + p, none⟩) L0).trans H0.out
    have P1 : w6.cell? ⟨b1, off1 + p, none⟩ = some (.bool (B p)) := (B6.cell (p := ⟨b1, off1 + p, none⟩) L1).trans H1.out
    have hrr : (r != r) = false := by cases r <;> rfl
    go_wp2_with fail
    go_region_with (first | (go_at_call_of 8 (Value.bool (B p)); refine (own_ty _ _ _ S B p _ _ hn hp (by cases B p <;> rfl) T16.drew).mono ?_; rintro e w7 ⟨rfl, hb7⟩; have T17 := T16.drew.below hb7; have P07 := (hb7.cell (p := ⟨b0, off0 + p, none⟩) (Nat.lt_of_lt_of_le L0 B6.size)).trans P0) | (go_at_call 8; refine (own_ty _ _ _ S B p _ _ hn hp (by simp) T17).mono ?_; rintro e w8 ⟨rfl, hb8⟩))
    all_goals
      go_wp2_with fail
      go_ret
      exact ⟨rfl, (B6.drew.trans (hb7.mono B6.size)).trans (hb8.mono (Nat.le_trans B6.size hb7.size))⟩
  · have HW2 := HW.out
    simp only [Bool.true_or] at HW2
    subst HW2
    clear HW HT T35
    have P0 : w5.cell? ⟨b0, off0 + p, none⟩ = some (.string (S p)) := (B5.cell (p := ⟨b0, off0 + p, none⟩) L0).trans H0.out
    have P1 : w5.cell? ⟨b1, off1 + p, none⟩ = some (.bool (B p)) := (B5.cell (p := ⟨b1, off1 + p, none⟩) L1).trans H1.out
    go_wp2_with fail
    go_region_with (first | (go_at_call_of 8 (Value.bool (B p)); refine (own_ty _ _ _ S B p _ _ hn hp (by cases B p <;> rfl) T15.drew).mono ?_; rintro e w7 ⟨rfl, hb7⟩; have T17 := T15.drew.below hb7; have P07 := (hb7.cell (p := ⟨b0, off0 + p, none⟩) (Nat.lt_of_lt_of_le L0 B5.size)).trans P0) | (go_at_call 8; refine (own_ty _ _ _ S B p _ _ hn hp (by simp) T17).mono ?_; rintro e w8 ⟨rfl, hb8⟩))
    all_goals
      go_wp2_with fail
      go_ret
      exact ⟨rfl, (B5.drew.trans (hb7.mono B5.size)).trans (hb8.mono (Nat.le_trans B5.size hb7.size))⟩

end Go.Proofs.Qxb6627602a
