/-
  WALKS (9): FnProductInsertAnywhere (function 4): every input.
-/
import Derived.Test.Qxb6627641aWalkG
import Derived.Test.Qxb6627641aWalkH
namespace Go.Proofs.Qxb6627641a
open Go.ChangeShapes Go.WideShapes Go.RowKit

/-- EVERY INPUT: the law answers true; nothing that was there has turned. -/
theorem insert_any (A0 A1 : Option Addr) (l0 c0 n c1 : Nat) (S : Nat → ByteArray) (Z : Nat → ZP) (j : Int) (q : ZP) (s d : ByteArray) (w : World)
    (hl0 : l0 ≤ maxLen) (hl1 : n ≤ maxLen) (h0 : StrRow w A0 l0 S) (h1 : ZRow w A1 n Z) (hnil : A1 = none → n = 0) (hq : DayIs w q.dp q.dd) :
    Calls Try.prog 4 #[.slice A0 l0 c0, .slice A1 n c1, .int .i64 j, .agg #[.string q.st, .string q.id, .string q.en, .pointer q.dp], .string s, .string d] w (LawEnd w) := by
  by_cases h : (0 ≤ j ∧ j ≤ (n : Int)) ∧ (s.size : Int) ≤ 1048576 ∧ (d.size : Int) ≤ 1048576 ∧ (q.st.size : Int) ≤ 1048576 ∧ (q.id.size : Int) ≤ 1048576 ∧ (q.en.size : Int) ≤ 1048576 ∧ (s.size : Int) + (d.size : Int) ≤ 1048576 ∧ (q.st.size : Int) + (q.id.size : Int) + (q.en.size : Int) ≤ 1048576
  · obtain ⟨⟨hj, hle⟩, z1, z2, z3, z4, z5, z6, z7⟩ := h
    obtain ⟨k, rfl⟩ := Int.eq_ofNat_of_zero_le hj
    exact insert_main _ _ _ _ _ _ S Z _ _ _ _ _ hl0 hl1 h0 h1 hnil hq (by omega) z1 z2 z3 z4 z5 z6 z7
  · exact insert_early _ _ _ _ _ _ S Z _ _ _ _ _ hl0 hl1 h0 h1 (fun hz => by
      by_cases e : 0 ≤ j ∧ j ≤ (n : Int)
      · exact absurd ⟨e, hz⟩ h
      · omega)

end Go.Proofs.Qxb6627641a
