/-
  WALKS (1) over the catalogue: what lies in memory; the small functions (zzToProduct 15, the closure 17, zzSameDays 18, zzSame 10, zzSameZ 13, zzIsZero 12).
-/
import Derived.Test.Qxb6627641aRows
import Derived.WalkKit
import Derived.Deep.OwnRows
import Derived.BigQuiet
import Derived.Deep.QuietTactic
namespace Go.Proofs.Qxb6627641a
open Go.ChangeShapes Go.WideShapes Go.RowKit

/-- The pointer p is nil and d says so; or an integer lies there. -/
def DayIs (w : World) (p : Option Addr) (d : Option Int) : Prop := (p = none ∧ d = none) ∨ ∃ b o x, p = some ⟨b, o, none⟩ ∧ d = some x ∧ w.cell? ⟨b, o, none⟩ = some (.int .i64 x)

theorem DayIs.below {w w' : World} {p : Option Addr} {d : Option Int} (h : DayIs w p d) (hb : Below w.heap.size w w') : DayIs w' p d := by
  rcases h with h | ⟨b, o, x, rfl, rfl, hx⟩
  · exact .inl h
  · exact .inr ⟨b, o, x, rfl, rfl, by rw [hb.cell (p := ⟨b, o, none⟩) (World.block_lt_of_cell? w _ hx), hx]⟩

theorem DayIs.lt {w : World} {p : Option Addr} {d : Option Int} (h : DayIs w p d) : ∀ a, p = some a → a.block < w.heap.size := by
  intro a ha
  rcases h with ⟨h, _⟩ | ⟨b, o, x, h, _, hx⟩
  · rw [h] at ha; cases ha
  · rw [h] at ha; cases ha; exact World.block_lt_of_cell? w _ hx

def TrueEnd (w : World) (e : Ending) (w' : World) : Prop := e = .returned (.bool true) ∧ Below w.heap.size w w'

set_option maxHeartbeats 400000 in
theorem sameDays_any (p q : Option Addr) (d : Option Int) (w : World) (hp : DayIs w p d) (hq : DayIs w q d) : Calls Try.prog 18 #[.pointer p, .pointer q] w (TrueEnd w) := by
  rcases hp with ⟨rfl, rfl⟩ | ⟨b, o, x, rfl, rfl, hx⟩
  · rcases hq with ⟨rfl, _⟩ | ⟨b', o', x', rfl, h, hy⟩
    · go_enter Try.func18, Try.ntmps18
      go_wp2
      go_ret
      exact ⟨rfl, Below.refl _ _⟩
    · cases h
  · rcases hq with ⟨rfl, h⟩ | ⟨b', o', x', rfl, h, hy⟩
    · cases h
    · simp only [Option.some.injEq] at h
      subst h
      go_enter Try.func18, Try.ntmps18
      go_wp2
      go_region
      all_goals
        go_wp2
        go_ret
        exact ⟨rfl, (Below.refl _ _).drew⟩

def ToEnd (st id en : ByteArray) (dd : Option Int) (w : World) (e : Ending) (w' : World) : Prop :=
  ∃ dp, e = .returned (.agg #[.string st, .string id, .string en, .pointer dp]) ∧ DayIs w' dp dd ∧ (∀ a, dp = some a → w.heap.size ≤ a.block) ∧ Below w.heap.size w w'

theorem cell2 {w : World} {b o : Nat} {v : Value} (h : w.cell? ⟨b, o, none⟩ = some v) (o1 o2 : Obj) : ((w.alloc o1).alloc o2).cell? ⟨b, o, none⟩ = some v := by
  have hl := World.block_lt_of_cell? w _ h
  rw [World.cell?_alloc_lt _ _ _ (by simp; exact Nat.lt_succ_of_lt hl), World.cell?_alloc_lt _ _ _ hl, h]

set_option maxHeartbeats 400000 in
theorem toProduct_any (st id en : ByteArray) (dp : Option Addr) (dd : Option Int) (w : World) (hd : DayIs w dp dd) : Calls Try.prog 15 #[.agg #[.string st, .string id, .string en, .pointer dp]] w (ToEnd st id en dd w) := by
  rcases hd with ⟨rfl, rfl⟩ | ⟨b, o, x, rfl, rfl, hx⟩
  · go_enter Try.func15, Try.ntmps15
    go_wp2
    exact bodyPost_ret (v := .agg #[.string st, .string id, .string en, .pointer none]) (by simp [results, Try.results15, go_sem]) rfl ⟨none, rfl, .inl ⟨rfl, rfl⟩, (fun a h => by cases h), ((Below.refl _ _).alloc (Nat.le_refl _) _).alloc (by simp) _⟩
  · have hx2 := cell2 hx
    go_enter Try.func15, Try.ntmps15
    go_wp2
    refine bodyPost_ret (v := .agg #[.string st, .string id, .string en, .pointer (some ⟨w.heap.size + 1 + 1, 0, none⟩)]) (by simp [results, Try.results15, go_sem]) rfl ?_
    refine ⟨some ⟨w.heap.size + 1 + 1, 0, none⟩, rfl, .inr ⟨w.heap.size + 1 + 1, 0, x, rfl, rfl, ?_⟩, fun a h => ?_, ?_⟩
    · rw [World.cell?_alloc_at _ _ _ _ (by simp)]; rfl
    · cases h; show w.heap.size ≤ w.heap.size + 1 + 1; omega
    · exact (((Below.refl _ _).alloc (Nat.le_refl _) _).alloc (by simp) _).alloc (by simp; omega) _

set_option maxHeartbeats 400000 in
theorem same_any (st id en : ByteArray) (p q : Option Addr) (dd : Option Int) (w : World) (hp : DayIs w p dd) (hq : DayIs w q dd) :
    Calls Try.prog 10 #[.agg #[.string st, .string id, .string en, .pointer p], .agg #[.string st, .string id, .string en, .pointer q]] w (TrueEnd w) := by
  go_enter Try.func10, Try.ntmps10
  go_wp2_with fail
  have B0 : Below w.heap.size w ((w.alloc (.cells #[.string st, .string id, .string en, .pointer p] 35)).alloc (.cells #[.string st, .string id, .string en, .pointer q] 35)) :=
    ((Below.refl _ _).alloc (Nat.le_refl _) _).alloc (by simp) _
  refine (sameDays_any _ _ dd _ (hp.below B0) (hq.below B0)).mono ?_
  rintro e w' ⟨rfl, hb⟩
  go_wp2_with fail
  go_ret
  exact ⟨rfl, B0.trans (hb.mono B0.size)⟩

set_option maxHeartbeats 400000 in
theorem sameZ_any (st id en : ByteArray) (p q : Option Addr) (dd : Option Int) (w : World) (hp : DayIs w p dd) (hq : DayIs w q dd) :
    Calls Try.prog 13 #[.agg #[.string st, .string id, .string en, .pointer p], .agg #[.string st, .string id, .string en, .pointer q]] w (TrueEnd w) := by
  go_enter Try.func13, Try.ntmps13
  go_wp2_with fail
  have B0 : Below w.heap.size w ((w.alloc (.cells #[.string st, .string id, .string en, .pointer p] 35)).alloc (.cells #[.string st, .string id, .string en, .pointer q] 43)) :=
    ((Below.refl _ _).alloc (Nat.le_refl _) _).alloc (by simp) _
  refine (sameDays_any _ _ dd _ (hp.below B0) (hq.below B0)).mono ?_
  rintro e w' ⟨rfl, hb⟩
  go_wp2_with fail
  go_ret
  exact ⟨rfl, B0.trans (hb.mono B0.size)⟩

set_option maxHeartbeats 400000 in
theorem isZero_any (w : World) : Calls Try.prog 12 #[.agg #[.string ⟨#[]⟩, .string ⟨#[]⟩, .string ⟨#[]⟩, .pointer none]] w (TrueEnd w) := by
  go_enter Try.func12, Try.ntmps12
  go_wp2_with fail
  go_ret
  exact ⟨rfl, (Below.refl _ _).alloc (Nat.le_refl _) _⟩

/-- Does a product bear this key? -/
def hits (st id s d : ByteArray) : Bool := st.toList == s.toList && id.toList == d.toList

def HitEnd (st id s d : ByteArray) (w : World) (e : Ending) (w' : World) : Prop := e = .returned (.bool (hits st id s d)) ∧ Below w.heap.size w w'

theorem cell1 {w : World} {b o : Nat} {v : Value} (h : w.cell? ⟨b, o, none⟩ = some v) (o1 : Obj) : (w.alloc o1).cell? ⟨b, o, none⟩ = some v := by
  have hl := World.block_lt_of_cell? w _ h
  rw [World.cell?_alloc_lt _ _ _ hl, h]

set_option maxHeartbeats 400000 in
theorem hit_any (st id en s d : ByteArray) (dp : Option Addr) (b1 b2 : Nat) (w : World) (h1 : w.cell? ⟨b1, 0, none⟩ = some (.string s)) (h2 : w.cell? ⟨b2, 0, none⟩ = some (.string d)) :
    Calls Try.prog 17 #[.agg #[.string st, .string id, .string en, .pointer dp], .pointer (some ⟨b1, 0, none⟩), .pointer (some ⟨b2, 0, none⟩)] w (HitEnd st id s d w) := by
  have h1' := cell1 h1
  have h2' := cell1 h2
  go_enter Try.func17, Try.ntmps17
  go_wp2_with fail
  · have e : st.toList = s.toList := by assumption
    go_ret
    exact ⟨by simp [hits, e], (Below.refl _ _).alloc (Nat.le_refl _) _⟩
  · have e : ¬ st.toList = s.toList := by assumption
    go_ret
    exact ⟨by simp [hits, e], (Below.refl _ _).alloc (Nat.le_refl _) _⟩

end Go.Proofs.Qxb6627641a
