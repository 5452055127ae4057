/-
  WALKS (3): FnKeysymsJoinedKeymapAgreesWithItsParts (function 3), keysyms per key code > 0.
-/
import Derived.Test.Qxb6627718aWalkB
namespace Go.Proofs.Qxb6627718a
open Go.ChangeShapes Go.WideShapes Go.RowKit

def LawEnd (w : World) (e : Ending) (w' : World) : Prop := e = .returned (.bool true) ∧ Below w.heap.size w w'
theorem lawEnd {w w' : World} {b : Bool} (h : b = true) (hb : Below w.heap.size w w') : LawEnd w (.returned (.bool b)) w' := ⟨by rw [h], hb⟩

theorem NumRow.take {w : World} {A : Option Addr} {n j : Nat} {N : Nat → Int} (h : NumRow w A n N) (hj : j ≤ n) : NumRow w A j N := by
  rcases h with h | ⟨b, off, rfl, hc⟩
  · exact .inl (by omega)
  · exact .inr ⟨b, off, rfl, fun i hi => hc i (by omega)⟩
theorem NumRow.drop {w : World} {A : Option Addr} {n c j : Nat} {N : Nat → Int} (h : NumRow w A n N) (hj : j ≤ n) (hc : n ≤ c) : NumRow w (dropAt A c j) (n - j) (fun i => N (j + i)) := by
  by_cases e : n - j = 0
  · exact .inl e
  · rcases h with h | ⟨b, off, rfl, hcell⟩
    · omega
    · exact .inr ⟨b, off + j, dropAt_some b off c j n (by omega) hc, fun i hi => by rw [Nat.add_assoc]; exact hcell (j + i) (by omega)⟩

/-! ### The arithmetic of blocks -/
theorem len_eq {L cnt P : Nat} (hq : (L : Int) / (P : Int) = (cnt : Int)) (hr : (L : Int) % (P : Int) = 0) : L = cnt * P := by
  have h := Int.mul_ediv_add_emod (L : Int) (P : Int)
  rw [hq, hr, Int.add_zero, ← Int.natCast_mul] at h
  rw [Nat.mul_comm]
  omega
theorem blk_in {e k P : Nat} (h : e < k) : e * P + P ≤ k * P := by
  have := Nat.mul_le_mul_right P (show e + 1 ≤ k from h)
  rwa [Nat.add_mul, Nat.one_mul] at this
theorem blk_out {e k P : Nat} (h : k ≤ e) (hP : 0 < P) : k * P < e * P + P := by
  have := Nat.mul_le_mul_right P h
  omega
theorem blk_sub {e k P : Nat} (h : k ≤ e) : k * P + (e - k) * P = e * P := by
  rw [← Nat.add_mul]
  congr 1
  omega
theorem blk_le {e P : Nat} (h : e ≤ 255) (hP : P ≤ 255) : e * P ≤ 65025 := Nat.mul_le_mul h hP
theorem prod_eq {a b : Int} {e P : Nat} (ha : a = (e : Int)) (hb : b = (P : Int)) : a * b = ((e * P : Nat) : Int) := by rw [ha, hb, Int.natCast_mul]

theorem NumRow.shift {w : World} {A : Option Addr} {n a b c : Nat} {N : Nat → Int} (h : NumRow w A n (fun i => N (a + (b + i)))) (e : a + b = c) : NumRow w A n (fun i => N (c + i)) := by
  subst e
  rcases h with h | ⟨x, y, hA, hc⟩
  · exact .inl h
  · exact .inr ⟨x, y, hA, fun i hi => by rw [hc i hi]; show some (Value.int .u32 (N (a + (b + i)))) = some (Value.int .u32 (N (a + b + i))); rw [Nat.add_assoc]⟩
theorem trim_shift (N : Nat → Int) (a b c : Nat) (e : a + b = c) : ∀ p, trim (fun i => N (a + i)) b p = trim N c p
  | 0 => rfl
  | p + 1 => by
    rw [trim, trim, trim_shift N a b c e p, ← Nat.add_assoc, e]

set_option maxRecDepth 100000 in
set_option maxHeartbeats 2000000 in
theorem law_pos (mn p cut code : Int) (A : Option Addr) (L c cnt S P : Nat) (N : Nat → Int) (w : World) (hN : NumRow w A L N) (hnil : A = none → L = 0) (hL : L ≤ 262144)
    (p0 : 0 < p) (hp : p ≤ 255) (m0 : 0 ≤ mn) (hm : mn ≤ 255) (d0 : 0 ≤ code) (hd : code ≤ 255) (k0 : 0 ≤ cut) (hk : cut ≤ 255 - mn)
    (hq : (L : Int) / p = (cnt : Int)) (hr : (L : Int) % p = 0) (hcc : cut ≤ (cnt : Int)) (hS : cut * p = (S : Int)) (hSL : S ≤ L) (hcnt : cnt ≤ 262144) (hP : p = (P : Int)) :
    Calls Try.prog 3 #[.int .u8 mn, .int .i64 p, .slice A L c, .int .i64 cut, .int .u8 code] w (LawEnd w) := by
  have HNIL : Hid _ := hnil
  have HP : Hid _ := hP
  have hp1 : ¬ p < 0 := by omega
  have hp2 : (p == 0) = false := by simp; omega
  have hL1 : ¬ (262144 : Int) < (L : Int) := by omega
  clear hnil hP
  go_enter Try.func3, Try.ntmps3
  go_wp2_with fail
  refine (bytes_any _ _ _ _ _ _ _ _).mono ?_
  rintro e w' ⟨⟨b, rfl⟩, rfl⟩
  cases b
  · go_wp2_with fail
    go_ret; exact lawEnd rfl (Below.refl _ _)
  go_wp2_with fail
  refine (copy_any _ _ _ N _ (by omega) HNIL.out hN).mono ?_
  rintro e w1 ⟨R, rfl, hR, hRN, b1⟩
  have u0 := cut_lo R L L S hSL
  have u1 := cut_hi R L L S hSL
  go_wp2_with fail
  refine (new_any _ _ _ _ _ _).mono ?_
  rintro e w2 ⟨t1, rfl, K1, b2⟩
  go_wp2_with fail
  refine (new_any _ _ _ _ _ _).mono ?_
  rintro e w3 ⟨t2, rfl, K2, b3⟩
  go_wp2_with fail
  refine (new_any _ _ _ _ _ _).mono ?_
  rintro e w4 ⟨t3, rfl, K3, b4⟩
  clear u0 u1
  have K14 := (K1.below b3).below b4
  have K24 := K2.below b4
  have R4 := ((hRN.below b2).below b3).below b4
  have B2 := b1.trans (b2.mono b1.size)
  have B3 := B2.trans (b3.mono B2.size)
  have B4 := B3.trans (b4.mono B3.size)
  have N4 := hN.below B4
  clear K1 K2 hRN b1 b2 b3 b4 B2 B3 hN
  obtain ⟨K, hK⟩ := Int.eq_ofNat_of_zero_le k0
  have hSK : S = K * P := by
    have h := prod_eq hK HP.out
    rw [hS] at h
    omega
  have hLc : L = cnt * P := len_eq (by rw [← HP.out]; exact hq) (by rw [← HP.out]; exact hr)
  have HK : Hid _ := hK
  have HSK : Hid _ := hSK
  have HLC : Hid _ := hLc
  clear hK hSK hLc
  by_cases hlow : code < mn
  · go_wp2_with fail
    refine (keysyms_low _ _ _ _ _ _ _ _ K14 (by omega) hp m0 hm d0 hd hlow).mono ?_
    rintro e w5 ⟨rfl, b5⟩
    go_wp2_with fail
    have B5 := B4.trans (b5.mono B4.size)
    refine (keysyms_low _ _ _ _ _ _ _ _ (K24.below b5) (by omega) hp m0 hm d0 hd hlow).mono ?_
    rintro e w6 ⟨rfl, b6⟩
    have B6 := B5.trans (b6.mono B5.size)

    go_wp2_with fail
    refine (same_nil _).mono ?_
    rintro e w7 ⟨rfl, b7⟩
    have B7 := B6.trans (b7.mono B6.size)
    go_wp2_with fail
    refine (answer_low _ _ _ _ _ _ _ p0 m0 hm d0 hd hlow).mono ?_
    rintro e w8 ⟨rfl, b8⟩
    have B8 := B7.trans (b8.mono B7.size)
    go_wp2_with fail
    go_ret
    exact lawEnd rfl B8
  · obtain ⟨ee, hee⟩ := Int.eq_ofNat_of_zero_le (show 0 ≤ code - mn by omega)
    have hP255 : P ≤ 255 := by have := HP.out; omega
    have hP0 : 0 < P := by have := HP.out; omega
    have HB : Hid ((code - mn) * p = ((ee * P : Nat) : Int)) := prod_eq hee HP.out
    have HE : Hid _ := hee
    clear hee
    have he255 : ee ≤ 255 := by have := HE.out; omega
    by_cases hcn : ee < cnt
    · have hin : Hid (ee * P + P ≤ L) := by have := blk_in (P := P) hcn; have := HLC.out; simp only [Hid]; omega
      have HLAST : Hid (0 < trim N (ee * P) P → ¬ N (ee * P + (trim N (ee * P) P - 1)) = 0) := fun h => trim_last N _ P _ (by omega)
      go_wp2_with fail
      refine (keysyms_in _ _ _ _ (ee * P) P _ _ _ N _ K14 R4 (Nat.le_refl _) (by unfold maxLen; omega) p0 hp m0 hm d0 hd (by omega) HB.out (blk_le he255 hP255) HP.out hin.out).mono ?_
      rintro e w5 ⟨b, o, cx, rfl, X5, b5⟩
      have B5 := B4.trans (b5.mono B4.size)
      by_cases hcut : code < mn + cut
      · have heK : ee < K := by have := HE.out; have := HK.out; omega
        have hin2 : Hid (ee * P + P ≤ S) := by have := blk_in (P := P) heK; have := HSK.out; simp only [Hid]; omega
        go_wp2_with fail
        refine (keysyms_in _ _ _ _ (ee * P) P _ _ _ N _ (K24.below b5) ((R4.below b5).take hSL) hSL (by unfold maxLen; omega) p0 hp m0 hm d0 hd (by omega) HB.out (blk_le he255 hP255) HP.out hin2.out).mono ?_
        rintro e w6 ⟨b', o', cy, rfl, Y6, b6⟩
        have B6 := B5.trans (b6.mono B5.size)
        have X6 := X5.below b6
        go_wp2_with fail
        refine (same_in _ _ _ _ _ _ _ _ _ (Nat.le_trans (trim_le N _ _) hP255) X6 Y6).mono ?_
        rintro e w7 ⟨rfl, b7⟩
        have B7 := B6.trans (b7.mono B6.size)
        have X7 := X6.below b7
        have N7 := (((N4.below b5).below b6).below b7)
        go_wp2_with fail
        refine (answer_in _ _ _ _ _ _ _ (ee * P) P cnt _ _ _ N _ X7 N7 (trim_le N _ _) (trim_zero N _ _) HLAST.out p0 hp m0 hm d0 hd (by omega) hL HB.out (blk_le (by omega) hP255) HP.out hin.out hq (by have := HE.out; omega) hcnt).mono ?_
        rintro e w8 ⟨rfl, b8⟩
        have B8 := B7.trans (b8.mono B7.size)
        go_wp2_with fail
        go_ret
        exact lawEnd rfl B8
      · have heK : K ≤ ee := by have := HE.out; have := HK.out; omega
        have hsub := blk_sub (P := P) heK
        have HB2 : Hid ((code - (mn + cut)) * p = (((ee - K) * P : Nat) : Int)) := prod_eq (by have := HE.out; have := HK.out; omega) HP.out
        have hin2 : Hid ((ee - K) * P + P ≤ L - S) := by have := hin.out; have := HSK.out; simp only [Hid]; omega
        have hsub2 : Hid (S + (ee - K) * P = ee * P) := by have := HSK.out; simp only [Hid]; omega
        clear hsub
        go_wp2_with fail
        refine (keysyms_in _ _ _ _ ((ee - K) * P) P _ _ _ (fun i => N (S + i)) _ (K3.below b5) ((R4.below b5).drop hSL (Nat.le_refl _)) (Nat.le_refl _) (by unfold maxLen; omega) p0 hp (by omega) (by omega) d0 hd (by omega) HB2.out (blk_le (by omega) hP255) HP.out hin2.out).mono ?_
        rintro e w6 ⟨b', o', cy, he, Y6', b6⟩
        rw [trim_shift N S ((ee - K) * P) (ee * P) hsub2.out P] at he Y6'
        subst he
        have Y6 := Y6'.shift hsub2.out
        clear Y6'
        have B6 := B5.trans (b6.mono B5.size)
        have X6 := X5.below b6
        go_wp2_with fail
        refine (same_in _ _ _ _ _ _ _ _ _ (Nat.le_trans (trim_le N _ _) hP255) X6 Y6).mono ?_
        rintro e w7 ⟨rfl, b7⟩
        have B7 := B6.trans (b7.mono B6.size)
        have X7 := X6.below b7
        have N7 := (((N4.below b5).below b6).below b7)
        go_wp2_with fail
        refine (answer_in _ _ _ _ _ _ _ (ee * P) P cnt _ _ _ N _ X7 N7 (trim_le N _ _) (trim_zero N _ _) HLAST.out p0 hp m0 hm d0 hd (by omega) hL HB.out (blk_le (by omega) hP255) HP.out hin.out hq (by have := HE.out; omega) hcnt).mono ?_
        rintro e w8 ⟨rfl, b8⟩
        have B8 := B7.trans (b8.mono B7.size)
        go_wp2_with fail
        go_ret
        exact lawEnd rfl B8
    · have hout : Hid ((L : Int) < ((ee * P : Nat) : Int) + p) := by have := blk_out (P := P) (show cnt ≤ ee by omega) hP0; have := HLC.out; have := HP.out; simp only [Hid]; omega
      have heK : K ≤ ee := by have := HK.out; omega
      have hcut : ¬ code < mn + cut := by have := HE.out; have := HK.out; omega
      have hsub := blk_sub (P := P) heK
      have HB2 : Hid ((code - (mn + cut)) * p = (((ee - K) * P : Nat) : Int)) := prod_eq (by have := HE.out; have := HK.out; omega) HP.out
      have hout2 : Hid (((L - S : Nat) : Int) < (((ee - K) * P : Nat) : Int) + p) := by have := hout.out; have := HSK.out; simp only [Hid]; omega
      clear hsub
      go_wp2_with fail
      refine (keysyms_high _ _ _ _ (ee * P) _ _ _ _ K14 p0 hp m0 hm d0 hd (by omega) HB.out (blk_le he255 hP255) hout.out).mono ?_
      rintro e w5 ⟨rfl, b5⟩
      have B5 := B4.trans (b5.mono B4.size)
      go_wp2_with fail
      refine (keysyms_high _ _ _ _ ((ee - K) * P) _ _ _ _ (K3.below b5) p0 hp (by omega) (by omega) d0 hd (by omega) HB2.out (blk_le (by omega) hP255) hout2.out).mono ?_
      rintro e w6 ⟨rfl, b6⟩
      have B6 := B5.trans (b6.mono B5.size)
      go_wp2_with fail
      refine (same_nil _).mono ?_
      rintro e w7 ⟨rfl, b7⟩
      have B7 := B6.trans (b7.mono B6.size)
      go_wp2_with fail
      refine (answer_high _ _ _ cnt _ _ _ _ p0 m0 hm d0 hd (by omega) hq hcnt (by have := HE.out; omega)).mono ?_
      rintro e w8 ⟨rfl, b8⟩
      have B8 := B7.trans (b8.mono B7.size)
      go_wp2_with fail
      go_ret
      exact lawEnd rfl B8

end Go.Proofs.Qxb6627718a
