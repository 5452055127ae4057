/-
  WALKS (2): the bound (4), sameKeysyms (8), keysymsAnswerIs (9).
-/
import Derived.Test.Qxb6627718aWalkA
namespace Go.Proofs.Qxb6627718a
open Go.ChangeShapes Go.WideShapes Go.RowKit

def BytesEnd (w : World) (e : Ending) (w' : World) : Prop := (∃ b, e = .returned (.bool b)) ∧ w = w'
theorem bytes_any (a b c d : Int) (A : Option Addr) (n cap : Nat) (w : World) : Calls Try.prog 4 #[.int .u8 a, .int .i64 b, .slice A n cap, .int .i64 c, .int .u8 d] w (BytesEnd w) := by
  go_enter Try.func4, Try.ntmps4
  go_wp2
  all_goals
    go_ret
    exact ⟨⟨_, rfl⟩, rfl⟩

def TrueEnd (w : World) (e : Ending) (w' : World) : Prop := e = .returned (.bool true) ∧ Below w.heap.size w w'

set_option maxHeartbeats 400000 in
theorem same_nil (w : World) : Calls Try.prog 8 #[.slice none 0 0, .slice none 0 0] w (TrueEnd w) := by
  have heq := fun w => Lib.run_eql_slice_nil (P := Try.prog) w 24 32 none 0 0 0 0 Try.underlying24
  go_enter Try.func8, Try.ntmps8
  go_wp2
  go_loop [5] (fun i => i = .int .i64 0) (fun _ => 0)
  case atStart => rfl
  case round =>
    subst hrel
    go_wp2
    go_ret
    exact ⟨rfl, Below.refl _ _⟩

set_option maxHeartbeats 400000 in
theorem same_in (b o c b' o' c' t : Nat) (M : Nat → Int) (w : World) (ht : t ≤ 255) (h1 : NumRow w (some ⟨b, o, none⟩) t M) (h2 : NumRow w (some ⟨b', o', none⟩) t M) :
    Calls Try.prog 8 #[.slice (some ⟨b, o, none⟩) t c, .slice (some ⟨b', o', none⟩) t c'] w (TrueEnd w) := by
  have heq := fun w => Lib.run_eql_slice_nil (P := Try.prog) w 24 32 (some ⟨b, o, none⟩) t c 0 0 Try.underlying24
  have heq' := fun w => Lib.run_eql_slice_nil (P := Try.prog) w 24 32 (some ⟨b', o', none⟩) t c' 0 0 Try.underlying24
  go_enter Try.func8, Try.ntmps8
  go_wp2
  clear heq heq'
  go_loopw [5] (fun i wx => ∃ k : Nat, k ≤ t ∧ i = .int .i64 k ∧ Below w.heap.size w wx) (fun i _ => t - (intOf i).toNat)
  case atStart => exact ⟨0, Nat.zero_le _, rfl, Below.refl _ _⟩
  case round =>
    obtain ⟨k, hk, rfl, hbel⟩ := hrel
    by_cases hlt : k < t
    · rcases h1 with h1 | ⟨x, y, he, hc⟩
      · omega
      rcases h2 with h2 | ⟨x', y', he', hc'⟩
      · omega
      simp only [Option.some.injEq, Addr.mk.injEq, and_true] at he he'
      obtain ⟨rfl, rfl⟩ := he
      obtain ⟨rfl, rfl⟩ := he'
      have e0 := hc k hlt
      have e1 := hc' k hlt
      have t0 := (hbel.cell (p := ⟨b, o + k, none⟩) (World.block_lt_of_cell? w _ e0)).trans e0
      have t1 := (hbel.cell (p := ⟨b', o' + k, none⟩) (World.block_lt_of_cell? w _ e1)).trans e1
      have hkt : (k : Int) < (t : Int) := by omega
      have hself : (M k != M k) = false := by simp
      clear hc hc' e0 e1
      go_wp2
      go_quiet (fail)
      go_wp2
      go_roundw
      case rel => exact ⟨k + 1, by omega, by go_num, below_drewN hbel _⟩
      case measure => simp [intOf]; omega
    · go_wp2
      go_ret
      exact ⟨rfl, hbel⟩

set_option maxHeartbeats 400000 in
theorem answer_zero (mn code : Int) (A : Option Addr) (L c : Nat) (w : World) : Calls Try.prog 9 #[.slice none 0 0, .int .u8 mn, .int .i64 0, .slice A L c, .int .u8 code] w (TrueEnd w) := by
  have heq := fun w => Lib.run_eql_slice_nil (P := Try.prog) w 24 32 none 0 0 0 0 Try.underlying24
  go_enter Try.func9, Try.ntmps9
  go_wp2
  go_ret
  exact ⟨rfl, Below.refl _ _⟩

set_option maxHeartbeats 400000 in
theorem answer_low (mn p code : Int) (A : Option Addr) (L c : Nat) (w : World) (p0 : 0 < p) (m0 : 0 ≤ mn) (hm : mn ≤ 255) (d0 : 0 ≤ code) (hd : code ≤ 255) (hc : code < mn) :
    Calls Try.prog 9 #[.slice none 0 0, .int .u8 mn, .int .i64 p, .slice A L c, .int .u8 code] w (TrueEnd w) := by
  have heq := fun w => Lib.run_eql_slice_nil (P := Try.prog) w 24 32 none 0 0 0 0 Try.underlying24
  have hp : ¬ p ≤ 0 := by omega
  go_enter Try.func9, Try.ntmps9
  go_wp2
  go_ret
  exact ⟨rfl, Below.refl _ _⟩

set_option maxHeartbeats 400000 in
theorem answer_high (mn p code : Int) (cnt : Nat) (A : Option Addr) (L c : Nat) (w : World) (p0 : 0 < p) (m0 : 0 ≤ mn) (hm : mn ≤ 255) (d0 : 0 ≤ code) (hd : code ≤ 255) (hc : mn ≤ code) 
    (hq : (L : Int) / p = (cnt : Int)) (hcnt : cnt ≤ 262144) (hh : (cnt : Int) ≤ code - mn) :
    Calls Try.prog 9 #[.slice none 0 0, .int .u8 mn, .int .i64 p, .slice A L c, .int .u8 code] w (TrueEnd w) := by
  have heq := fun w => Lib.run_eql_slice_nil (P := Try.prog) w 24 32 none 0 0 0 0 Try.underlying24
  have hp : ¬ p ≤ 0 := by omega
  go_enter Try.func9, Try.ntmps9
  go_wp2
  go_ret
  exact ⟨rfl, Below.refl _ _⟩

set_option maxHeartbeats 1000000 in
theorem answer_in (b o cap t : Nat) (mn p code : Int) (base P cnt : Nat) (A : Option Addr) (L c : Nat) (N : Nat → Int) (w : World) (hr : NumRow w (some ⟨b, o, none⟩) t (fun i => N (base + i))) (hN : NumRow w A L N)
    (htP : t ≤ P) (hz : ∀ i, t ≤ i → i < P → N (base + i) = 0) (hlast : 0 < t → ¬ N (base + (t - 1)) = 0)
    (p0 : 0 < p) (hp : p ≤ 255) (m0 : 0 ≤ mn) (hm : mn ≤ 255) (d0 : 0 ≤ code) (hd : code ≤ 255) (hc : mn ≤ code) (hL : L ≤ 262144)
    (hb : (code - mn) * p = (base : Int)) (hbase : base ≤ 65025) (hP : p = (P : Int)) (hl : base + P ≤ L) (hq : (L : Int) / p = (cnt : Int)) (hcnt : code - mn < (cnt : Int)) (hcnt2 : cnt ≤ 262144) :
    Calls Try.prog 9 #[.slice (some ⟨b, o, none⟩) t cap, .int .u8 mn, .int .i64 p, .slice A L c, .int .u8 code] w (TrueEnd w) := by
  have heq := fun w => Lib.run_eql_slice_nil (P := Try.prog) w 24 32 (some ⟨b, o, none⟩) t cap 0 0 Try.underlying24
  rcases hN with hN | ⟨kb, ko, rfl, hkc⟩
  · omega
  have htp : (t : Int) ≤ p := by omega
  have HP : Hid _ := hP
  have hp' : ¬ p ≤ 0 := by omega
  have hcm : ¬ code < mn := by omega
  have hcn : ¬ (cnt : Int) ≤ code - mn := by omega
  have HZ : Hid _ := hz
  have HLA : Hid _ := hlast
  clear hP hz hlast
  go_enter Try.func9, Try.ntmps9
  go_wp2
  clear heq
  go_loopw [13] (fun i wx => ∃ k : Nat, (k : Int) ≤ p ∧ i = .int .i64 k ∧ Below w.heap.size w wx) (fun i _ => P - (intOf i).toNat)
  case atStart => exact ⟨0, by omega, rfl, Below.refl _ _⟩
  case round =>
    obtain ⟨k, hk, rfl, hbel⟩ := hrel
    by_cases hlt : (k : Int) < p
    · have hkP : k < P := by have := HP.out; omega
      have e1 := hkc (base + k) (by omega)
      have t1 := (hbel.cell (p := ⟨kb, ko + (base + k), none⟩) (World.block_lt_of_cell? w _ e1)).trans e1
      have i1 : (base : Int) + (k : Int) < (L : Int) := by omega
      have i2 : (0 : Int) ≤ (base : Int) + (k : Int) := by omega
      by_cases hkt : (k : Int) < (t : Int)
      · rcases hr with hr | ⟨x, y, he, hc'⟩
        · omega
        simp only [Option.some.injEq, Addr.mk.injEq, and_true] at he
        obtain ⟨rfl, rfl⟩ := he
        have e0 := hc' k (by omega)
        have t0 := (hbel.cell (p := ⟨b, o + k, none⟩) (World.block_lt_of_cell? w _ e0)).trans e0
        have hself : (N (base + k) != N (base + k)) = false := by simp
        clear hc' e0 e1 hkc
        go_wp2
        go_quiet (fail)
        go_wp2
        go_roundw
        case rel => exact ⟨k + 1, by omega, by go_num, below_drewN hbel _⟩
        case measure => simp [intOf]; omega
      · have e2 := HZ.out k (by omega) hkP
        rw [e2] at t1
        clear e1 hkc e2
        go_wp2
        go_roundw
        case rel => exact ⟨k + 1, by omega, by go_num, hbel⟩
        case measure => simp [intOf]; omega
    · by_cases ht0 : 0 < t
      · rcases hr with hr | ⟨x, y, he, hc'⟩
        · omega
        simp only [Option.some.injEq, Addr.mk.injEq, and_true] at he
        obtain ⟨rfl, rfl⟩ := he
        have e0 := hc' (t - 1) (by omega)
        have t0 := (hbel.cell (p := ⟨b, o + (t - 1), none⟩) (World.block_lt_of_cell? w _ e0)).trans e0
        have hne : (N (base + (t - 1)) != 0) = true := by have := HLA.out ht0; simp [this]
        clear hc' e0
        go_wp2
        go_ret
        exact ⟨rfl, hbel⟩
      · go_wp2
        go_ret
        exact ⟨rfl, hbel⟩

end Go.Proofs.Qxb6627718a
