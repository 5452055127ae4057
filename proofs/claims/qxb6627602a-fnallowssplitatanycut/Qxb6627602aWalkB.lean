/-
  WALKS (2): the two bounds on lengths that were laid by program (functions 5 and 9): some bool; where it is true the first slice is no longer than 1<<20.
-/
import Derived.Test.Qxb6627602aWalkA
namespace Go.Proofs.Qxb6627602a
open Go.ChangeShapes Go.WideShapes Go.RowKit

def BytesEnd (l0 : Nat) (w : World) (e : Ending) (w' : World) : Prop := (∃ b, e = .returned (.bool b) ∧ (b = true → l0 ≤ 1048576)) ∧ w' = w
theorem bytesNo {l0 : Nat} {w : World} : BytesEnd l0 w (.returned (.bool false)) w := ⟨⟨false, rfl, fun h => by cases h⟩, rfl⟩
theorem bytesYes {l0 : Nat} {w : World} (h : (l0 : Int) ≤ 1048576) : BytesEnd l0 w (.returned (.bool true)) w := ⟨⟨true, rfl, fun _ => by omega⟩, rfl⟩

set_option maxHeartbeats 1000000 in
theorem bytesE_any (A0 A1 A2 A3 : Option Addr) (l0 c0 l1 c1 l2 c2 l3 c3 : Nat) (S0 S2 S3 : Nat → ByteArray) (i : Int) (a b : ByteArray) (x y : Bool) (w : World)
    (hl0 : l0 ≤ maxLen) (hl2 : l2 ≤ maxLen) (hl3 : l3 ≤ maxLen) (h0 : StrRow w A0 l0 S0) (h2 : StrRow w A2 l2 S2) (h3 : StrRow w A3 l3 S3) :
    Calls Try.prog 5 #[.slice A0 l0 c0, .slice A1 l1 c1, .slice A2 l2 c2, .slice A3 l3 c3, .int .i64 i, .string a, .bool x, .string b, .bool y] w (BytesEnd l0 w) := by
  unfold maxLen at hl0 hl2 hl3
  go_enter Try.func5, Try.ntmps5
  go_wp2
  · go_ret; exact bytesNo
  have hb0 : (l0 : Int) ≤ 1048576 := by assumption
  go_loop [19, 20] (fun t i => ∃ k : Nat, k ≤ l0 ∧ i = .int .i64 k ∧ ∃ z : Int, t = .int .i64 z ∧ 0 ≤ z ∧ z ≤ 1048576) (fun _ i => l0 - (intOf i).toNat)
  case atStart => exact ⟨0, Nat.zero_le _, rfl, _, rfl, by omega, by omega⟩
  case round =>
    obtain ⟨k, hk, rfl, z, rfl, hz0, hz1⟩ := hrel
    by_cases hlt : k < l0
    · rcases h0 with h0 | ⟨b0, off0, rfl, hc⟩
      · omega
      have hck := hc k hlt
      clear hc
      go_wp2
      · go_ret; exact bytesNo
      · go_ret; exact bytesNo
      · go_round
        case rel => exact ⟨k + 1, by omega, by go_num, _, rfl, by omega, by omega⟩
        case measure => simp [intOf]; omega
    · clear h0
      go_wp2
      · go_ret; exact bytesNo
      · go_ret; exact bytesNo
      · go_ret; exact bytesNo
      · go_ret; exact bytesNo
      go_loop [19, 21] (fun t i => ∃ k : Nat, k ≤ l2 ∧ i = .int .i64 k ∧ ∃ z : Int, t = .int .i64 z ∧ 0 ≤ z ∧ z ≤ 1048576) (fun _ i => l2 - (intOf i).toNat)
      case atStart => exact ⟨0, Nat.zero_le _, rfl, _, rfl, by omega, by omega⟩
      case round =>
        obtain ⟨k2, hk2, rfl, z2, rfl, hz20, hz21⟩ := hrel
        by_cases hlt2 : k2 < l2
        · rcases h2 with h2 | ⟨b2, off2, rfl, hc⟩
          · omega
          have hck := hc k2 hlt2
          clear hc
          go_wp2
          · go_ret; exact bytesNo
          · go_ret; exact bytesNo
          · go_round
            case rel => exact ⟨k2 + 1, by omega, by go_num, _, rfl, by omega, by omega⟩
            case measure => simp [intOf]; omega
        · clear h2
          go_wp2
          · go_ret; exact bytesNo
          · go_ret; exact bytesNo
          go_loop [19, 22] (fun t i => ∃ k : Nat, k ≤ l3 ∧ i = .int .i64 k ∧ ∃ z : Int, t = .int .i64 z ∧ 0 ≤ z ∧ z ≤ 1048576) (fun _ i => l3 - (intOf i).toNat)
          case atStart => exact ⟨0, Nat.zero_le _, rfl, _, rfl, by omega, by omega⟩
          case round =>
            obtain ⟨k3, hk3, rfl, z3, rfl, hz30, hz31⟩ := hrel
            by_cases hlt3 : k3 < l3
            · rcases h3 with h3 | ⟨b3, off3, rfl, hc⟩
              · omega
              have hck := hc k3 hlt3
              clear hc
              go_wp2
              · go_ret; exact bytesNo
              · go_ret; exact bytesNo
              · go_round
                case rel => exact ⟨k3 + 1, by omega, by go_num, _, rfl, by omega, by omega⟩
                case measure => simp [intOf]; omega
            · clear h3
              go_wp2
              · go_ret; exact bytesNo
              · go_ret; exact bytesNo
              · go_ret; exact bytesNo
              · go_ret; exact bytesNo
              · go_ret; exact bytesYes hb0

set_option maxHeartbeats 1000000 in
theorem bytesS_any (A0 A1 A2 A3 : Option Addr) (l0 c0 l1 c1 l2 c2 l3 c3 : Nat) (S0 S2 S3 : Nat → ByteArray) (i j : Int) (a : ByteArray) (x : Bool) (w : World)
    (hl0 : l0 ≤ maxLen) (hl2 : l2 ≤ maxLen) (hl3 : l3 ≤ maxLen) (h0 : StrRow w A0 l0 S0) (h2 : StrRow w A2 l2 S2) (h3 : StrRow w A3 l3 S3) :
    Calls Try.prog 9 #[.slice A0 l0 c0, .slice A1 l1 c1, .slice A2 l2 c2, .slice A3 l3 c3, .int .i64 i, .int .i64 j, .string a, .bool x] w (BytesEnd l0 w) := by
  unfold maxLen at hl0 hl2 hl3
  go_enter Try.func9, Try.ntmps9
  go_wp2
  · go_ret; exact bytesNo
  have hb0 : (l0 : Int) ≤ 1048576 := by assumption
  go_loop [17, 18] (fun t i => ∃ k : Nat, k ≤ l0 ∧ i = .int .i64 k ∧ ∃ z : Int, t = .int .i64 z ∧ 0 ≤ z ∧ z ≤ 1048576) (fun _ i => l0 - (intOf i).toNat)
  case atStart => exact ⟨0, Nat.zero_le _, rfl, _, rfl, by omega, by omega⟩
  case round =>
    obtain ⟨k, hk, rfl, z, rfl, hz0, hz1⟩ := hrel
    by_cases hlt : k < l0
    · rcases h0 with h0 | ⟨b0, off0, rfl, hc⟩
      · omega
      have hck := hc k hlt
      clear hc
      go_wp2
      · go_ret; exact bytesNo
      · go_ret; exact bytesNo
      · go_round
        case rel => exact ⟨k + 1, by omega, by go_num, _, rfl, by omega, by omega⟩
        case measure => simp [intOf]; omega
    · clear h0
      go_wp2
      · go_ret; exact bytesNo
      · go_ret; exact bytesNo
      · go_ret; exact bytesNo
      · go_ret; exact bytesNo
      go_loop [17, 19] (fun t i => ∃ k : Nat, k ≤ l2 ∧ i = .int .i64 k ∧ ∃ z : Int, t = .int .i64 z ∧ 0 ≤ z ∧ z ≤ 1048576) (fun _ i => l2 - (intOf i).toNat)
      case atStart => exact ⟨0, Nat.zero_le _, rfl, _, rfl, by omega, by omega⟩
      case round =>
        obtain ⟨k2, hk2, rfl, z2, rfl, hz20, hz21⟩ := hrel
        by_cases hlt2 : k2 < l2
        · rcases h2 with h2 | ⟨b2, off2, rfl, hc⟩
          · omega
          have hck := hc k2 hlt2
          clear hc
          go_wp2
          · go_ret; exact bytesNo
          · go_ret; exact bytesNo
          · go_round
            case rel => exact ⟨k2 + 1, by omega, by go_num, _, rfl, by omega, by omega⟩
            case measure => simp [intOf]; omega
        · clear h2
          go_wp2
          · go_ret; exact bytesNo
          · go_ret; exact bytesNo
          go_loop [17, 20] (fun t i => ∃ k : Nat, k ≤ l3 ∧ i = .int .i64 k ∧ ∃ z : Int, t = .int .i64 z ∧ 0 ≤ z ∧ z ≤ 1048576) (fun _ i => l3 - (intOf i).toNat)
          case atStart => exact ⟨0, Nat.zero_le _, rfl, _, rfl, by omega, by omega⟩
          case round =>
            obtain ⟨k3, hk3, rfl, z3, rfl, hz30, hz31⟩ := hrel
            by_cases hlt3 : k3 < l3
            · rcases h3 with h3 | ⟨b3, off3, rfl, hc⟩
              · omega
              have hck := hc k3 hlt3
              clear hc
              go_wp2
              · go_ret; exact bytesNo
              · go_ret; exact bytesNo
              · go_round
                case rel => exact ⟨k3 + 1, by omega, by go_num, _, rfl, by omega, by omega⟩
                case measure => simp [intOf]; omega
            · clear h3
              go_wp2
              · go_ret; exact bytesNo
              · go_ret; exact bytesNo
              · go_ret; exact bytesYes hb0

end Go.Proofs.Qxb6627602a
