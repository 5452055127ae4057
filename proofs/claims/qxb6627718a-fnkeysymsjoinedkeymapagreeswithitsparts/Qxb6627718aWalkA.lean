/-
  WALKS (1): keysymsCopy (5), ZZNewKeymap (6), Keysyms (7).
-/
import Derived.Test.Qxb6627718aRows
import Derived.WalkKit
import Derived.WalkSpells
import Derived.WalkSmall
import Derived.Deep.OwnRows
import Derived.BigQuiet
import Derived.Deep.QuietTactic
namespace Go.Proofs.Qxb6627718a
open Go.ChangeShapes Go.WideShapes Go.RowKit

/-- What a walk is told of a slice of keysyms. -/
def NumRow (w : World) (A : Option Addr) (len : Nat) (N : Nat → Int) : Prop :=
  len = 0 ∨ ∃ b off, A = some ⟨b, off, none⟩ ∧ ∀ i, i < len → w.cell? ⟨b, off + i, none⟩ = some (.int .u32 (N i))

theorem NumRow.below {w w' : World} {A : Option Addr} {n : Nat} {N : Nat → Int} (h : NumRow w A n N) (hb : Below w.heap.size w w') : NumRow w' A n N := by
  rcases h with h | ⟨b, off, rfl, hc⟩
  · exact .inl h
  · exact .inr ⟨b, off, rfl, fun i hi => by
      rw [hb.cell (p := ⟨b, off + i, none⟩) (World.block_lt_of_cell? w _ (hc i hi)), hc i hi]⟩

theorem Try.info32 : (Try.prog.info? 32).map (fun i => (i.zero, i.size, i.bytes)) = some (some (.int .u32 0), 1, 4) := by kernel_rfl

/-- keysymsCopy: nil stays nil; else a new row with the same numbers. -/
def CopyEnd (A : Option Addr) (n : Nat) (N : Nat → Int) (w : World) (e : Ending) (w' : World) : Prop :=
  ∃ R, e = .returned (.slice R n n) ∧ (A = none ↔ R = none) ∧ NumRow w' R n N ∧ Below w.heap.size w w'

set_option maxHeartbeats 400000 in
theorem copy_any (A : Option Addr) (n c : Nat) (N : Nat → Int) (w : World) (hn : n ≤ 1048576) (hnil : A = none → n = 0) (hN : NumRow w A n N) : Calls Try.prog 5 #[.slice A n c] w (CopyEnd A n N w) := by
  have heq := fun w => Lib.run_eql_slice_nil (P := Try.prog) w 22 31 A n c 0 0 Try.underlying22
  cases A with
  | none =>
    have e := hnil rfl
    subst e
    go_enter Try.func5, Try.ntmps5
    go_wp2
    go_ret
    exact ⟨none, rfl, ⟨fun _ => rfl, fun _ => rfl⟩, .inl rfl, Below.refl _ _⟩
  | some a =>
    have hmk := run_make_row' (P := Try.prog) 24 32 (.int .u32 0) 4 Try.underlying24 Try.info32 rfl .i64 .i64 n (by omega) (by omega)
    go_enter Try.func5, Try.ntmps5
    go_wp2
    clear hmk heq hnil
    go_loopw [4] (fun i wx => ∃ k : Nat, k ≤ n ∧ i = .int .i64 k ∧ (∃ f, wx.rowIs w.heap.size 32 n f ∧ ∀ i, i < k → f i = .int .u32 (N i)) ∧ Below w.heap.size w wx) (fun i _ => n - (intOf i).toNat)
    case atStart => exact ⟨0, Nat.zero_le _, rfl, ⟨_, World.rowIs_made w (.int .u32 0) n 32, fun i hi => absurd hi (Nat.not_lt_zero _)⟩, (Below.refl _ _).alloc (Nat.le_refl _) _⟩
    case round =>
      obtain ⟨k, hk, rfl, ⟨f, hrow, hf⟩, hbel⟩ := hrel
      by_cases hlt : k < n
      · rcases hN with hN | ⟨b, off, hA, hc⟩
        · omega
        simp only [Option.some.injEq] at hA
        subst hA
        have e0 := hc k hlt
        have l0 : b < w.heap.size := World.block_lt_of_cell? w _ e0
        have t0 := (hbel.cell (p := ⟨b, off + k, none⟩) l0).trans e0
        have t1 := hrow.cell (i := k) hlt
        have f1 := hrow.frozen k
        have hf' : Hid (∀ i, i < k → f i = .int .u32 (N i)) := hf
        clear hc e0 hf
        go_wp2
        go_roundw
        case rel =>
          refine ⟨k + 1, by omega, by go_num, ⟨_, hrow.set k _, fun i hi => ?_⟩, hbel.setCell (p := ⟨w.heap.size, k, none⟩) (Nat.le_refl _) _⟩
          by_cases e : i = k
          · subst e; exact if_pos rfl
          · exact (if_neg e).trans (hf'.out i (by omega))
        case measure => simp [intOf]; omega
      · go_wp2
        go_ret
        have e : k = n := by omega
        subst e
        refine ⟨_, rfl, ⟨(fun h => by cases h), (fun h => by cases h)⟩, .inr ⟨w.heap.size, 0, rfl, fun i hi => ?_⟩, hbel⟩
        rw [Nat.zero_add, hrow.cell hi, hf i hi]

/-- A keymap at block t: the three fields that Keysyms reads. -/
structure KM (w : World) (t : Nat) (mn : Int) (p : Int) (A : Option Addr) (l c : Nat) : Prop where
  k0 : w.cell? ⟨t, 0, none⟩ = some (.int .u8 mn)
  k1 : w.cell? ⟨t, 1, none⟩ = some (.int .i64 p)
  k2 : w.cell? ⟨t, 2, none⟩ = some (.slice A l c)

theorem KM.below {w w' : World} {t : Nat} {mn p : Int} {A : Option Addr} {l c : Nat} (h : KM w t mn p A l c) (hb : Below w.heap.size w w') : KM w' t mn p A l c := by
  have lt : t < w.heap.size := World.block_lt_of_cell? w _ h.k0
  exact ⟨by rw [hb.cell (p := ⟨t, 0, none⟩) lt, h.k0], by rw [hb.cell (p := ⟨t, 1, none⟩) lt, h.k1], by rw [hb.cell (p := ⟨t, 2, none⟩) lt, h.k2]⟩

def NewEnd (mn p : Int) (A : Option Addr) (l c : Nat) (w : World) (e : Ending) (w' : World) : Prop :=
  ∃ t, e = .returned (.pointer (some ⟨t, 0, none⟩)) ∧ KM w' t mn p A l c ∧ Below w.heap.size w w'

set_option maxHeartbeats 400000 in
theorem new_any (mn p : Int) (A : Option Addr) (l c : Nat) (w : World) : Calls Try.prog 6 #[.int .u8 mn, .int .i64 p, .slice A l c] w (NewEnd mn p A l c w) := by
  go_enter Try.func6, Try.ntmps6
  go_wp2
  go_ret
  exact ⟨w.heap.size, rfl, ⟨by simp, by simp, by simp⟩, (Below.refl _ _).alloc (Nat.le_refl _) _⟩

/-- How many keysyms are left of the block when its trailing zeros are dropped. -/
def trim (N : Nat → Int) (base : Nat) : Nat → Nat
  | 0 => 0
  | t + 1 => if N (base + t) = 0 then trim N base t else t + 1

def NilEnd (w : World) (e : Ending) (w' : World) : Prop := e = .returned (.slice none 0 0) ∧ Below w.heap.size w w'
def KsEnd (N : Nat → Int) (base p : Nat) (w : World) (e : Ending) (w' : World) : Prop :=
  ∃ b o c, e = .returned (.slice (some ⟨b, o, none⟩) (trim N base p) c) ∧ NumRow w' (some ⟨b, o, none⟩) (trim N base p) (fun i => N (base + i)) ∧ Below w.heap.size w w'

theorem prod_bd (code mn p : Int) (p0 : 0 ≤ p) (hp : p ≤ 255) (c0 : 0 ≤ code) (hc : code ≤ 255) (m0 : 0 ≤ mn) (hm : mn ≤ 255) : -65025 ≤ (code - mn) * p ∧ (code - mn) * p ≤ 65025 := by
  obtain ⟨P, rfl⟩ := Int.eq_ofNat_of_zero_le p0
  by_cases h : mn ≤ code
  · obtain ⟨e, he⟩ := Int.eq_ofNat_of_zero_le (show 0 ≤ code - mn by omega)
    have h2 : e * P ≤ 255 * 255 := Nat.mul_le_mul (by omega) (by omega)
    rw [he, ← Int.natCast_mul]
    omega
  · obtain ⟨e, he⟩ := Int.eq_ofNat_of_zero_le (show 0 ≤ mn - code by omega)
    have h2 : e * P ≤ 255 * 255 := Nat.mul_le_mul (by omega) (by omega)
    rw [show code - mn = -(e : Int) by omega, Int.neg_mul, ← Int.natCast_mul]
    omega

set_option maxHeartbeats 1000000 in
theorem keysyms_low (t : Nat) (mn p code : Int) (A : Option Addr) (l c : Nat) (w : World) (h : KM w t mn p A l c) (p0 : 0 ≤ p) (hp : p ≤ 255) (m0 : 0 ≤ mn) (hm : mn ≤ 255) (d0 : 0 ≤ code) (hd : code ≤ 255) (hc : code < mn) :
    Calls Try.prog 7 #[.pointer (some ⟨t, 0, none⟩), .int .u8 code] w (NilEnd w) := by
  obtain ⟨k0, k1, k2⟩ := h
  obtain ⟨x, hx, x0, x1⟩ : ∃ x : Int, (code - mn) * p = x ∧ -65025 ≤ x ∧ x ≤ 65025 := ⟨_, rfl, prod_bd code mn p p0 hp d0 hd m0 hm⟩
  go_enter Try.func7, Try.ntmps7
  go_wp2
  go_quiet (fail)
  go_wp2
  go_quiet (fail)
  go_wp2
  go_ret
  exact ⟨rfl, below_drewN (below_drewN (Below.refl _ _) _) _⟩

set_option maxHeartbeats 1000000 in
theorem keysyms_zero (t : Nat) (mn code : Int) (A : Option Addr) (l c : Nat) (w : World) (h : KM w t mn 0 A l c) (m0 : 0 ≤ mn) (hm : mn ≤ 255) (d0 : 0 ≤ code) (hd : code ≤ 255) (hc : mn ≤ code) :
    Calls Try.prog 7 #[.pointer (some ⟨t, 0, none⟩), .int .u8 code] w (NilEnd w) := by
  obtain ⟨k0, k1, k2⟩ := h
  have hg : decide (code < mn) = false := decide_eq_false (by omega)
  go_enter Try.func7, Try.ntmps7
  go_wp2
  go_quiet (fail)
  go_wp2
  go_quiet (fail)
  go_wp2
  go_ret
  exact ⟨rfl, below_drewN (below_drewN (Below.refl _ _) _) _⟩

set_option maxHeartbeats 1000000 in
theorem keysyms_high (t : Nat) (mn p code : Int) (base : Nat) (A : Option Addr) (l c : Nat) (w : World) (h : KM w t mn p A l c) (p0 : 0 < p) (hp : p ≤ 255) (m0 : 0 ≤ mn) (hm : mn ≤ 255) (d0 : 0 ≤ code) (hd : code ≤ 255) (hc : mn ≤ code)
    (hb : (code - mn) * p = (base : Int)) (hbase : base ≤ 65025) (hl : (l : Int) < (base : Int) + p) :
    Calls Try.prog 7 #[.pointer (some ⟨t, 0, none⟩), .int .u8 code] w (NilEnd w) := by
  obtain ⟨k0, k1, k2⟩ := h
  have hg : decide (code < mn) = false := decide_eq_false (by omega)
  have hg2 : decide (p ≤ 0) = false := decide_eq_false (by omega)
  go_enter Try.func7, Try.ntmps7
  go_wp2
  go_quiet (fail)
  go_wp2
  go_quiet (fail)
  go_wp2
  go_ret
  exact ⟨rfl, below_drewN (below_drewN (Below.refl _ _) _) _⟩

theorem Try.size32 : (Try.prog.info? 32).map (·.size) = some 1 := by kernel_rfl
theorem size_of32 (w : World) : (sizeOf 32).run Try.prog w = .ok 1 w := by
  obtain ⟨i, hi, hs⟩ := Option.map_eq_some_iff.1 Try.size32
  simp [sizeOf, typeInfo, hi, hs]
/-- Where 'x[j:]' begins. -/
def dropAt (A : Option Addr) (c j : Nat) : Option Addr := if c = j then A else A.map (·.add j)
theorem dropAt_some (b off c j n : Nat) (hjn : j < n) (hnc : n ≤ c) : dropAt (some ⟨b, off, none⟩) c j = some ⟨b, off + j, none⟩ := by
  rw [dropAt, if_neg (by omega)]
  simp only [Option.map_some, Addr.add]
  split <;> simp_all
theorem cut_lo (A : Option Addr) (n c j : Nat) (h : j ≤ c) (w : World) : (Instr.slice 24 (.slice A n c) none (some (.int .i64 (j : Int))) none).run Try.prog w = .ok (.slice A j c) w := by
  have ha : A.map (·.add 0) = A := by cases A <;> simp [Addr.add]
  rw [run_slice_h (P := Try.prog) w 24 A n c Try.underlying24 .i64 j (by omega) (by omega)]
  show ((sizeOf 32).run Try.prog w).andThen _ = _
  rw [size_of32]
  simp [Result.andThen, sliced, ha]
theorem cut_lo' (A : Option Addr) (n c j : Nat) (h : j ≤ c) (J : Int) (hJ : J = (j : Int)) (w : World) : (Instr.slice 24 (.slice A n c) none (some (.int .i64 J)) none).run Try.prog w = .ok (.slice A j c) w := by
  subst hJ
  exact cut_lo A n c j h w
theorem cut_hi (A : Option Addr) (n c j : Nat) (h : j ≤ n) (w : World) : (Instr.slice 24 (.slice A n c) (some (.int .i64 (j : Int))) none none).run Try.prog w = .ok (.slice (dropAt A c j) (n - j) (c - j)) w := by
  rw [run_slice_l (P := Try.prog) w 24 A n c Try.underlying24 .i64 j (by omega) (by omega)]
  show ((sizeOf 32).run Try.prog w).andThen _ = _
  rw [size_of32]
  simp [Result.andThen, sliced, dropAt]
theorem cut_mid (b off n c lo p : Nat) (hp : 0 < p) (h : lo + p ≤ n) (hc : n ≤ c) (P : Int) (hP : P = (p : Int)) (w : World) :
    (Instr.slice 24 (.slice (some ⟨b, off, none⟩) n c) (some (.int .i64 (lo : Int))) (some (.int .i64 ((lo : Int) + P))) none).run Try.prog w = .ok (.slice (some ⟨b, off + lo, none⟩) p (c - lo)) w := by
  subst hP
  rw [run_slice_lh (P := Try.prog) w 24 (some ⟨b, off, none⟩) n c Try.underlying24 .i64 .i64 lo (lo + p) (by omega) (by omega) (by omega)]
  show ((sizeOf 32).run Try.prog w).andThen _ = _
  rw [size_of32]
  have e1 : ((lo : Int) + (p : Int)).toNat = lo + p := by omega
  have e2 : (some (⟨b, off, none⟩ : Addr)).map (·.add (lo * 1)) = some ⟨b, off + lo, none⟩ := by
    simp only [Option.map_some, Addr.add]; split <;> simp_all
  simp only [Result.andThen, sliced, e1, Int.toNat_natCast, e2, if_neg (show ¬ c = lo by omega)]
  congr 2
  omega

theorem trim_le (N : Nat → Int) (base : Nat) : ∀ p, trim N base p ≤ p
  | 0 => Nat.le_refl _
  | p + 1 => by
    rw [trim]
    split
    · exact Nat.le_succ_of_le (trim_le N base p)
    · exact Nat.le_refl _
theorem trim_zero (N : Nat → Int) (base : Nat) : ∀ p i, trim N base p ≤ i → i < p → N (base + i) = 0
  | 0, i, _, h => absurd h (Nat.not_lt_zero _)
  | p + 1, i, h1, h2 => by
    rw [trim] at h1
    split at h1
    · by_cases e : i = p
      · subst e; assumption
      · exact trim_zero N base p i h1 (by omega)
    · omega
theorem trim_last (N : Nat → Int) (base : Nat) : ∀ p t, trim N base p = t + 1 → ¬ N (base + t) = 0
  | 0, t, h => by simp [trim] at h
  | p + 1, t, h => by
    rw [trim] at h
    split at h
    · exact trim_last N base p t h
    · cases h; assumption

theorem trim_step {N : Nat → Int} {base m : Nat} (h : 0 < m) (e : (N (base + (m - 1)) == 0) = true) : trim N base (m - 1) = trim N base m := by
  obtain ⟨k, rfl⟩ : ∃ k, m = k + 1 := ⟨m - 1, by omega⟩
  have e' : N (base + k) = 0 := by simpa using e
  rw [Nat.add_sub_cancel, trim, if_pos e']
theorem trim_stop {N : Nat → Int} {base m : Nat} (h : 0 < m) (e : (N (base + (m - 1)) == 0) = false) : trim N base m = m := by
  obtain ⟨k, rfl⟩ : ∃ k, m = k + 1 := ⟨m - 1, by omega⟩
  have e' : ¬ N (base + k) = 0 := by simpa using e
  rw [trim, if_neg e']
theorem ksEnd {N : Nat → Int} {base P m b o c n1 : Nat} {w : World} (e : m = trim N base P) (_hm : m ≤ P) (hc : ∀ i, i < m → w.cell? ⟨b, o + i, none⟩ = some (.int .u32 (N (base + i)))) :
    KsEnd N base P w (.returned (.slice (some ⟨b, o, none⟩) m c)) (w.drewN n1) := by
  subst e
  exact ⟨b, o, c, rfl, .inr ⟨b, o, rfl, fun i hi => hc i hi⟩, below_drewN (Below.refl _ _) _⟩

/-- A slice's length, for a loop's measure. -/
def lenOf : Value → Nat
  | .slice _ n _ => n
  | _ => 0

set_option maxHeartbeats 1000000 in
theorem keysyms_in (t : Nat) (mn p code : Int) (base P : Nat) (A : Option Addr) (l c : Nat) (N : Nat → Int) (w : World) (h : KM w t mn p A l c) (hN : NumRow w A l N) (hlc : l ≤ c) (hcm : c ≤ maxLen) (p0 : 0 < p) (hp : p ≤ 255) (m0 : 0 ≤ mn) (hm : mn ≤ 255) (d0 : 0 ≤ code) (hd : code ≤ 255) (hc : mn ≤ code)
    (hb : (code - mn) * p = (base : Int)) (hbase : base ≤ 65025) (hP : p = (P : Int)) (hl : base + P ≤ l) :
    Calls Try.prog 7 #[.pointer (some ⟨t, 0, none⟩), .int .u8 code] w (KsEnd N base P w) := by
  unfold maxLen at hcm
  rcases hN with hN | ⟨b, off, rfl, hcell⟩
  · omega
  obtain ⟨k0, k1, k2⟩ := h
  have hg : decide (code < mn) = false := decide_eq_false (by omega)
  have hg2 : decide (p ≤ 0) = false := decide_eq_false (by omega)
  have hl2 : (base : Int) + p ≤ (l : Int) := by omega
  have hmid := cut_mid b off l c base P (by omega) hl hlc p hP
  have HP : Hid _ := hP
  clear hP
  go_enter Try.func7, Try.ntmps7
  go_wp2
  go_quiet (fail)
  go_wp2
  go_quiet (fail)
  go_wp2
  go_quiet (fail)
  go_wp2
  clear hmid
  go_loop [6] (fun v => ∃ m : Nat, m ≤ P ∧ v = .slice (some ⟨b, off + base, none⟩) m (c - base) ∧ trim N base m = trim N base P) (fun v => lenOf v)
  case atStart => exact ⟨P, Nat.le_refl _, rfl, rfl⟩
  case round =>
    obtain ⟨m, hmP, rfl, htr⟩ := hrel
    have HT : Hid _ := htr
    clear htr
    by_cases hm0 : 0 < m
    · have hcl := hcell (base + (m - 1)) (by omega)
      rw [← Nat.add_assoc] at hcl
      have hcut := cut_lo' (some ⟨b, off + base, none⟩) m (c - base) (m - 1) (by have := HP.out; omega) ((m : Int) - 1) (by omega)
      go_wp2
      · have e0 : (N (base + (m - 1)) == 0) = true := by assumption
        exact ⟨⟨m - 1, by omega, rfl, (trim_step hm0 e0).trans HT.out⟩, by simp [lenOf]; omega⟩
      · have e0 : (N (base + (m - 1)) == 0) = false := by assumption
        go_ret
        have e : m = trim N base P := (trim_stop hm0 e0).symm.trans HT.out
        exact ksEnd e (by omega) (fun i hi => by rw [Nat.add_assoc]; exact hcell (base + i) (by omega))
    · go_wp2
      go_ret
      have e : m = trim N base P := by
        have h0 : m = 0 := by omega
        rw [← HT.out, h0]; rfl
      exact ksEnd e (by omega) (fun i hi => by rw [Nat.add_assoc]; exact hcell (base + i) (by omega))

end Go.Proofs.Qxb6627718a
