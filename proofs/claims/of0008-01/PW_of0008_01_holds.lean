import PyProof.Rows.All
import Wide.All
import OpenK.AllK
import Wide.FinOn
import PySem.Challenge.RW_of0008_01
set_option Elab.async false
section -- Hd
open PySem PySem.W PyProof.Rows
namespace Mine
set_option maxRecDepth 100000 in
set_option maxHeartbeats 8000000 in
open_top hd for PySem.Challenge.rw_of0008_01
end Mine

end
section -- AR
set_option linter.unusedVariables false
namespace Mine
theorem nin1 {x a : Nat} (h : x ≠ a) : ¬ x ∈ [a] := fun q => h (List.mem_singleton.mp q)
theorem as1 {a b c : Nat} (h0 : a = b) (h1 : c < b) : ¬ c ∈ [a] := nin1 (Nat.ne_of_lt (Nat.lt_of_lt_of_eq h1 h0.symm))
theorem nlt {a b : Nat} (h : a < b) : ¬ a ∈ [b] := nin1 (Nat.ne_of_lt h)
theorem ngt {a b : Nat} (h : a < b) : ¬ b ∈ [a] := nin1 (Nat.ne_of_gt h)
theorem as4 {x0 x2 x3 x4 x5 x6 : Nat} (h1 : x0 + 1 < x2) (h2 : x2 ≤ x3) (h3 : x4 ≤ x5) (h4 : x5 < x6) (h5 : x3 < x4) : x0 < x6 := Nat.lt_trans (Nat.lt_of_succ_lt h1) (Nat.lt_of_le_of_lt h2 (Nat.lt_trans (Nat.lt_of_lt_of_le h5 h3) h4))
theorem as5 {x0 x2 x3 x4 x5 x6 x7 x8 x9 : Nat} (h1 : x0 + 1 < x2) (h2 : x2 ≤ x3) (h3 : x4 ≤ x5) (h4 : x5 < x6) (h5 : x3 < x4) (h6 : x7 ≤ x8) (h7 : x8 < x9) (h8 : x6 < x7) : x0 < x9 := Nat.lt_trans (as4 h1 h2 h3 h4 h5) (Nat.lt_trans (Nat.lt_of_lt_of_le h8 h6) h7)
theorem as7 {x0 x2 x3 : Nat} (h1 : x0 + 1 < x2) (h2 : x2 ≤ x3) : x0 < x3 := Nat.lt_of_lt_of_le (Nat.lt_of_succ_lt h1) h2
theorem as8 {x0 x1 x2 n : Nat} (hn : n ≤ 130) (h0 : x0 ≤ x1) (h1 : 130 < x0) (h2 : x2 = x1) : n < x2 := Nat.lt_of_le_of_lt hn (Nat.lt_of_lt_of_le h1 (Nat.le_trans h0 (Nat.le_of_eq h2.symm)))
theorem as11 {x0 x2 x3 : Nat} (h1 : x0 + 1 < x2) (h2 : x3 = x2) : x0 < x3 := Nat.lt_of_lt_of_eq (Nat.lt_of_succ_lt h1) h2.symm
theorem as12 {x0 x2 x6 : Nat} (h1 : x0 + 1 < x2) (h2 : x2 < x6) : x0 < x6 := Nat.lt_trans (Nat.lt_of_succ_lt h1) h2
theorem as20 {u n : Nat} (h : u + 10 * (n + 1) ≤ 9000) : u + 3 + 10 * n ≤ 9000 := Nat.le_trans (Nat.le_trans (Nat.le_of_eq (Nat.add_assoc u 3 _)) (Nat.add_le_add_left (by rw [Nat.mul_succ, Nat.add_comm]; exact Nat.add_le_add_left (by decide) _) u)) h
theorem up {a b : Nat} (h : b = a + 1) : a < b := h ▸ Nat.lt_succ_self a
theorem nin2 {x a b : Nat} (h : x ≠ a) (k : x ≠ b) : ¬ x ∈ [a, b] := by simp [h, k]
theorem nin3 {x a b c : Nat} (h : x ≠ a) (k : x ≠ b) (l : x ≠ c) : ¬ x ∈ [a, b, c] := by simp [h, k, l]
theorem nin4 {x a b c d : Nat} (h : x ≠ a) (k : x ≠ b) (l : x ≠ c) (m : x ≠ d) : ¬ x ∈ [a, b, c, d] := by simp [h, k, l, m]
theorem ar1 {x0 : Nat} (h0 : (x0 < (2 ^ 20 : Nat))) : ((x0 + (1 : Nat)) ≤ (16777216 : Nat)) := (Nat.le_of_succ_le (Nat.le_trans (Nat.add_le_add_right h0 1) (by decide : 1048576 + 1 ≤ 16777216)))
theorem ar2 {x0 : Nat} (h0 : ((x0 + (1 : Nat)) < (1048576 : Nat))) : (x0 < (2 ^ 20 : Nat)) := (Nat.le_of_succ_le h0)
theorem ar3 {x0 : Nat} (h0 : (x0 ≤ (1000 : Nat))) : ((x0 + (1 : Nat)) ≤ ((16777216 : Nat) + (1 : Nat))) := (Nat.le_trans (Nat.add_le_add_right h0 1) (by decide : 1000 + 1 ≤ 16777217))
theorem ar4 {x0 : Nat} (h0 : (x0 = (2 : Nat))) : (x0 ≠ (1 : Nat)) := (fun q => absurd (Eq.trans (Eq.symm h0) q) (by decide))
theorem ar5 {x0 : Nat} (h0 : (x0 = (1 : Nat))) : (x0 ≠ (2 : Nat)) := (fun q => absurd (Eq.trans (Eq.symm h0) q) (by decide))
theorem ar6 {x0 : Nat} : (((x0 + (3 : Nat)) + (1 : Nat)) ≤ (x0 + (4 : Nat))) := (Nat.add_le_add_left (by decide : 4 ≤ 4) _)
theorem ar7 {x0 : Nat} {x1 : Nat} {x2 : Nat} {x3 : Nat} {x4 : Nat} {x5 : Nat} {x6 : Nat} (h0 : (x0 ≤ x1)) (h1 : (x2 = x1)) (h2 : (x3 < x0)) (h3 : (x4 < x0)) (h4 : (x5 < x0)) (h5 : (x6 < x0)) : ((x3 < x2) ∧ ((x4 < x2) ∧ ((x5 < x2) ∧ (x6 < x2)))) := ⟨(Nat.le_trans (Nat.le_trans h2 h0) (Nat.le_of_eq (Eq.symm h1))), ⟨(Nat.le_trans (Nat.le_trans h3 h0) (Nat.le_of_eq (Eq.symm h1))), ⟨(Nat.le_trans (Nat.le_trans h4 h0) (Nat.le_of_eq (Eq.symm h1))), (Nat.le_trans (Nat.le_trans h5 h0) (Nat.le_of_eq (Eq.symm h1)))⟩⟩⟩
theorem ar8 {x0 : Nat} {x1 : Nat} (h0 : (x0 = (2 : Nat))) (h1 : (x1 = (1 : Nat))) : (x1 ≠ x0) := (Nat.ne_of_lt (Nat.le_trans (Nat.le_trans (Nat.add_le_add_right (Nat.le_of_eq h1) 1) (by decide : 1 + 1 ≤ 2)) (Nat.le_of_eq (Eq.symm h0))))
theorem ar9 {x0 : Nat} {x1 : Nat} (h0 : (x0 < (2 ^ 20 : Nat))) (h1 : (x1 = x0)) : (x1 < (2 ^ 20 : Nat)) := (Nat.le_trans (Nat.add_le_add_right (Nat.le_of_eq h1) 1) h0)
theorem ar10 {x0 : Nat} {x1 : Nat} {x2 : Nat} {x3 : Nat} (h0 : (x0 < x1)) (h1 : (x2 < x1)) (h2 : (x1 ≤ x3)) : (¬ (x3 ∈ [x2, x0])) := (nin2 (Nat.ne_of_gt (Nat.le_trans h1 h2)) (Nat.ne_of_gt (Nat.le_trans h0 h2)))
theorem ar11 {x0 : Nat} {x1 : Nat} {x2 : Nat} (h0 : (x0 ≤ x1)) (h1 : (x1 < x2)) : (x0 ≤ x2) := (Nat.le_of_succ_le (Nat.le_trans (Nat.add_le_add_right h0 1) h1))
theorem ar12 {x0 : Nat} {x1 : Nat} {x2 : Nat} (h0 : (x0 < x1)) (h1 : (x1 ≤ x2)) : (¬ (x0 ∈ [x2])) := (nin1 (Nat.ne_of_lt (Nat.le_trans h0 h1)))
theorem ar13 {x0 : Nat} {x1 : Nat} (h0 : (x0 < (2 ^ 20 : Nat))) (h1 : (x1 = (1 : Nat))) : ((x0 + x1) ≤ (16777216 : Nat)) := Nat.le_trans (Nat.add_le_add (Nat.le_of_lt h0) (Nat.le_of_eq h1)) (by decide : 2 ^ 20 + 1 ≤ 16777216)
theorem ar14 {x0 : Nat} {x1 : Nat} (h0 : ((x0 + x1) < (2 ^ 19 : Nat))) : (x0 < (2 ^ 19 : Nat)) := Nat.lt_of_le_of_lt (Nat.le_add_right x0 x1) h0
theorem ar15 {x0 : Nat} (h0 : ((x0 + (1 : Nat)) < (524288 : Nat))) : (x0 < (524288 : Nat)) := (Nat.le_of_succ_le h0)
theorem ar16 {x0 : Nat} (h0 : (((x0 + (1 : Nat)) + (1 : Nat)) < (2 ^ 19 : Nat))) : (x0 < (2 ^ 19 : Nat)) := (Nat.le_trans (Nat.add_le_add_left (show 1 ≤ 3 by decide) _) h0)
theorem ar17 {x0 : Nat} (h0 : (((x0 + (1 : Nat)) + (1 : Nat)) < (2 ^ 19 : Nat))) : ((x0 + (1 : Nat)) < (2 ^ 19 : Nat)) := (Nat.le_of_succ_le h0)
theorem ar18 {x0 : Nat} (h0 : (x0 < (2 ^ 19 : Nat))) : (x0 < (2 ^ 19 : Nat)) := h0
theorem ar19 {x0 : Nat} (h0 : (x0 < (2 ^ 19 : Nat))) : (x0 < (2 ^ 20 : Nat)) := (Nat.le_of_succ_le (Nat.le_trans (Nat.add_le_add_right h0 1) (by decide : 524288 + 1 ≤ 1048576)))
theorem ar20 {x0 : Nat} (h0 : ((x0 + (1 : Nat)) < (2 ^ 19 : Nat))) : (x0 < (2 ^ 19 : Nat)) := (Nat.le_of_succ_le h0)
theorem ar21 {x0 : Nat} (h0 : ((x0 + (1 : Nat)) < (2 ^ 18 : Nat))) : (x0 < (2 ^ 19 : Nat)) := (Nat.le_trans (Nat.add_le_add_left (show 1 ≤ 3 by decide) _) (Nat.le_trans (Nat.add_le_add_right h0 1) (by decide : 262144 + 1 ≤ 524288)))
theorem ar22 {x0 : Nat} (h0 : ((x0 + (1 : Nat)) < (2 ^ 18 : Nat))) : (x0 < (2 ^ 18 : Nat)) := (Nat.le_of_succ_le h0)
theorem ar23 {x0 : Nat} (h0 : (x0 < (2 ^ 18 : Nat))) : (x0 < (2 ^ 19 : Nat)) := (Nat.le_of_succ_le (Nat.le_trans (Nat.add_le_add_right h0 1) (by decide : 262144 + 1 ≤ 524288)))
theorem ar24 {x0 : Nat} (h0 : (((x0 + (1 : Nat)) + (1 : Nat)) < (2 ^ 18 : Nat))) : ((x0 + (1 : Nat)) < (2 ^ 19 : Nat)) := (Nat.le_trans (Nat.add_le_add_left (show 2 ≤ 4 by decide) _) (Nat.le_trans (Nat.add_le_add_right h0 1) (by decide : 262144 + 1 ≤ 524288)))
theorem ar25 {x0 : Nat} (h0 : (((x0 + (1 : Nat)) + (1 : Nat)) < (2 ^ 18 : Nat))) : (x0 < (2 ^ 19 : Nat)) := (Nat.le_trans (Nat.add_le_add_left (show 1 ≤ 4 by decide) _) (Nat.le_trans (Nat.add_le_add_right h0 1) (by decide : 262144 + 1 ≤ 524288)))
theorem ar26 {x0 : Nat} (h0 : (x0 = (0 : Nat))) : (x0 < (2 ^ 20 : Nat)) := (Nat.le_trans (Nat.add_le_add_right (Nat.le_of_eq h0) 1) (by decide : 0 + 1 ≤ 1048576))
theorem ar27 {x0 : Nat} {x1 : Nat} {x2 : Nat} {x3 : Nat} {x4 : Nat} {x5 : Nat} {x6 : Nat} (h0 : (x0 ≤ x1)) (h1 : (x2 = x1)) (h2 : (x3 < x0)) (h3 : (x4 < x0)) (h4 : (x5 < x0)) (h5 : (x6 < x0)) : ((x3 < x2) ∧ ((x4 < x2) ∧ ((x5 < x2) ∧ ((x6 < x2) ∧ (x0 ≤ x2))))) := ⟨(Nat.le_trans (Nat.le_trans h2 h0) (Nat.le_of_eq (Eq.symm h1))), ⟨(Nat.le_trans (Nat.le_trans h3 h0) (Nat.le_of_eq (Eq.symm h1))), ⟨(Nat.le_trans (Nat.le_trans h4 h0) (Nat.le_of_eq (Eq.symm h1))), ⟨(Nat.le_trans (Nat.le_trans h5 h0) (Nat.le_of_eq (Eq.symm h1))), (Nat.le_trans h0 (Nat.le_of_eq (Eq.symm h1)))⟩⟩⟩⟩
theorem ar28 {x0 : Nat} {x1 : Nat} (h0 : (x0 < x1)) : (x1 ≠ x0) := (Nat.ne_of_gt h0)
theorem ar29 {x0 : Nat} {x1 : Nat} {x2 : Nat} (h0 : (x0 < x1)) (h1 : (x2 = (x1 + (1 : Nat)))) : (¬ ((x1 + (1 : Nat)) = x0)) := (Nat.ne_of_gt (Nat.le_of_succ_le (Nat.add_le_add_right h0 1)))
theorem ar30 {x0 : Nat} {x1 : Nat} (h0 : (x0 = x1)) : (x1 ≤ x0) := (Nat.le_of_eq (Eq.symm h0))
theorem ar31 {x0 : Nat} {x1 : Nat} (h0 : (x0 = (x1 + (1 : Nat)))) : (x1 ≤ x0) := (Nat.le_of_succ_le (Nat.le_of_eq (Eq.symm h0)))
theorem ar32 {x0 : Nat} {x1 : Nat} {x2 : Nat} {x3 : Nat} {x4 : Nat} (h0 : (x0 ≤ x1)) (h1 : (x2 = x1)) (h2 : (x2 < x3)) (h3 : (x4 = (x3 + (1 : Nat)))) : (x0 ≤ x4) := (Nat.le_trans (Nat.add_le_add_left (show 0 ≤ 2 by decide) _) (Nat.le_trans (Nat.add_le_add_right (Nat.le_trans (Nat.add_le_add_right (Nat.le_trans h0 (Nat.le_of_eq (Eq.symm h1))) 1) h2) 1) (Nat.le_of_eq (Eq.symm h3))))
theorem ar33 {x0 : Nat} {x1 : Nat} {x2 : Nat} {x3 : Nat} {x4 : Nat} (h0 : (x0 ≤ x1)) (h1 : (x2 = x1)) (h2 : (x2 < x3)) (h3 : (x4 = (x3 + (1 : Nat)))) : (x0 ≤ x3) := (Nat.le_of_succ_le (Nat.le_trans (Nat.add_le_add_right (Nat.le_trans h0 (Nat.le_of_eq (Eq.symm h1))) 1) h2))
theorem ar34 {x0 : Nat} {x1 : Nat} {x2 : Nat} (h0 : (x0 < x1)) (h1 : (x2 = (x1 + (1 : Nat)))) : (x0 ≠ x2) := (Nat.ne_of_lt (Nat.le_of_succ_le (Nat.le_trans (Nat.add_le_add_right h0 1) (Nat.le_of_eq (Eq.symm h1)))))
theorem ar35 {x0 : Nat} {x1 : Nat} {x2 : Nat} (h0 : (x0 < x1)) (h1 : (x2 = (x1 + (1 : Nat)))) : (x0 ≠ x1) := (Nat.ne_of_lt h0)
theorem ar36 {x0 : Nat} {x1 : Nat} (h0 : (x0 = (x1 + (1 : Nat)))) : (x0 ≠ x1) := (Nat.ne_of_gt (Nat.le_of_eq (Eq.symm h0)))
theorem ar37 {x0 : Nat} {x1 : Nat} {x2 : Nat} {x3 : Nat} (h0 : (x0 = x1)) (h1 : (x0 < x2)) (h2 : (x3 = (x2 + (1 : Nat)))) : (x1 ≤ x3) := (Nat.le_trans (Nat.add_le_add_left (show 0 ≤ 2 by decide) _) (Nat.le_trans (Nat.add_le_add_right (Nat.le_trans (Nat.add_le_add_right (Nat.le_of_eq (Eq.symm h0)) 1) h1) 1) (Nat.le_of_eq (Eq.symm h2))))
theorem ar38 {x0 : Nat} : ((x0 + (5 : Nat)) ≤ (x0 + (5 : Nat))) := (Nat.add_le_add_left (by decide : 5 ≤ 5) _)
theorem ar39 {x0 : Nat} {x1 : Nat} (h0 : (x0 < x1)) : ((x1 - (x0 + (1 : Nat))) < (x1 - x0)) := Nat.sub_lt_sub_left h0 (Nat.lt_succ_self x0)
theorem ar40 {x0 : Nat} {x1 : Nat} (h0 : (x0 ≤ x1)) (h1 : (¬ (x0 < x1))) : (x0 = x1) := Nat.le_antisymm h0 (Nat.le_of_not_lt h1)
theorem ar41 {x0 : Nat} {x1 : Nat} (h0 : (x0 < x1)) : (x0 ≠ (x1 + (1 : Nat))) := (Nat.ne_of_lt (Nat.le_of_succ_le (Nat.add_le_add_right h0 1)))
theorem ar42 {x0 : Nat} : (x0 ≠ (x0 + (1 : Nat))) := (Nat.ne_of_lt (Nat.add_le_add_left (by decide : 1 ≤ 1) _))
theorem ar43 {x0 : Nat} {x1 : Nat} {x2 : Nat} {x3 : Nat} (h0 : (x0 ≤ x1)) (h1 : (x2 = x1)) (h2 : (x3 = (x2 + (1 : Nat)))) : (x0 ≤ x3) := (Nat.le_of_succ_le (Nat.le_trans (Nat.add_le_add_right (Nat.le_trans h0 (Nat.le_of_eq (Eq.symm h1))) 1) (Nat.le_of_eq (Eq.symm h2))))
theorem ar44 {x0 : Nat} {x1 : Nat} {x2 : Nat} {x3 : Nat} {x4 : Nat} (h0 : (x0 ≤ x1)) (h1 : (x2 = x1)) (h2 : (x3 = (x2 + (1 : Nat)))) (h3 : (x4 = x2)) : (x0 ≤ x4) := (Nat.le_trans (Nat.le_trans h0 (Nat.le_of_eq (Eq.symm h1))) (Nat.le_of_eq (Eq.symm h3)))
theorem ar45 {x0 : Nat} {x1 : Nat} (h0 : (x0 = (x1 + (1 : Nat)))) : (¬ (x1 ∈ [x0])) := (nin1 (Nat.ne_of_lt (Nat.le_of_eq (Eq.symm h0))))
theorem ar46 {x0 : Nat} {x1 : Nat} {x2 : Nat} (h0 : (x0 < (2 ^ 20 : Nat))) (h1 : (x1 < x0)) (h2 : (x2 ≤ x1)) : (x2 < (2 ^ 20 : Nat)) := (Nat.le_of_succ_le (Nat.le_trans (Nat.add_le_add_right (Nat.le_trans (Nat.add_le_add_right h2 1) h1) 1) h0))
theorem ar47 {x0 : Nat} {x1 : Nat} (h0 : (x0 = (x1 + (1 : Nat)))) : (¬ (x0 ∈ [x1])) := (nin1 (Nat.ne_of_gt (Nat.le_of_eq (Eq.symm h0))))
theorem ar48 {x0 : Nat} {x1 : Nat} {x2 : Nat} {x3 : Nat} (h0 : (x0 ≤ x1)) (h1 : (x2 = x1)) (h2 : (x3 = (x2 + (1 : Nat)))) : (x0 ≤ x2) := (Nat.le_trans h0 (Nat.le_of_eq (Eq.symm h1)))
theorem ar49 {x0 : Nat} (h0 : (x0 < (2 ^ 62 : Nat))) : ((-(2 ^ 62 : Int)) ≤ ((x0 : Nat) : Int)) := Int.le_trans (by decide : (-(2 ^ 62 : Int)) ≤ 0) (Int.natCast_nonneg x0)
theorem ar50 {x0 : Nat} (h0 : (x0 < (2 ^ 62 : Nat))) : (((x0 : Nat) : Int) < (2 ^ 62 : Int)) := Int.lt_of_lt_of_le (Int.ofNat_lt.mpr h0) (by decide : ((2 ^ 62 : Nat) : Int) ≤ 2 ^ 62)
theorem ar51 {x0 : Nat} {x1 : Nat} : ((min x0 x1) ≤ x0) := Nat.min_le_left _ _
theorem ar52 {x0 : Nat} {x1 : Nat} {x2 : Nat} (h0 : (x0 = x1)) (h1 : (x2 < x1)) : (¬ (x2 ∈ [(x0 + (1 : Nat))])) := (nin1 (Nat.ne_of_lt (Nat.le_of_succ_le (Nat.le_trans (Nat.add_le_add_right h1 1) (Nat.add_le_add_right (Nat.le_of_eq (Eq.symm h0)) 1)))))
theorem ar53 {x0 : Nat} {x1 : Nat} (h0 : (x0 = x1)) (h1 : ((117 : Nat) < x1)) : ((117 : Nat) < x0) := (Nat.le_trans h1 (Nat.le_of_eq (Eq.symm h0)))
theorem ar54 {x0 : Nat} {x1 : Nat} (h0 : (x0 = x1)) (h1 : ((117 : Nat) < x0)) : (¬ (x0 ∈ [(117 : Nat)])) := (nin1 (Nat.ne_of_gt h1))
theorem ar55 {x0 : Nat} {x1 : Nat} {x2 : Nat} {x3 : Nat} {x4 : Nat} {x5 : Nat} {x6 : Nat} {x7 : Nat} {x8 : Nat} {x9 : Nat} {x10 : Nat} (h0 : (x0 = x1)) (h1 : ((x0 + (1 : Nat)) < x2)) (h2 : (x2 ≤ x3)) (h3 : (x4 ≤ x5)) (h4 : (x5 < x6)) (h5 : (x3 < x4)) (h6 : (x7 ≤ x8)) (h7 : (x8 < x9)) (h8 : (x6 < x7)) (h9 : (x10 < x1)) : (¬ (x10 ∈ [x9])) := nin1 (Nat.ne_of_lt (Nat.lt_of_lt_of_le h9 (Nat.le_trans (Nat.le_of_eq h0.symm) (Nat.le_trans (Nat.le_of_lt (Nat.lt_of_succ_lt h1)) (Nat.le_trans h2 (Nat.le_trans (Nat.le_of_lt h5) (Nat.le_trans h3 (Nat.le_trans (Nat.le_of_lt h4) (Nat.le_trans (Nat.le_of_lt h8) (Nat.le_trans h6 (Nat.le_of_lt h7)))))))))))
theorem ar56 {x0 : Nat} {x1 : Nat} {x2 : Nat} {x3 : Nat} (h0 : (x0 ≤ x1)) (h1 : (x1 < x2)) (h2 : (x3 < x0)) : (¬ (x3 ∈ [x2])) := (nin1 (Nat.ne_of_lt (Nat.le_of_succ_le (Nat.le_trans (Nat.add_le_add_right (Nat.le_trans h2 h0) 1) h1))))
theorem ar57 {x0 : Nat} {x1 : Nat} (h0 : (x0 = x1)) (h1 : ((117 : Nat) < x0)) : ((x0 + (1 : Nat)) ≠ (117 : Nat)) := (Nat.ne_of_gt (Nat.le_of_succ_le (Nat.add_le_add_right h1 1)))
theorem ar58 {x0 : Nat} : ((x0 + (1 : Nat)) ≠ x0) := (Nat.ne_of_gt (Nat.add_le_add_left (by decide : 1 ≤ 1) _))
theorem ar59 {x0 : Nat} {x1 : Nat} {x2 : Nat} {x3 : Nat} (h0 : (x0 = x1)) (h1 : ((x0 + (1 : Nat)) < x2)) (h2 : (x2 ≤ x3)) : (x3 ≠ x0) := (Nat.ne_of_gt (Nat.le_of_succ_le (Nat.le_trans h1 h2)))
theorem ar60 {x0 : Nat} {x1 : Nat} {x2 : Nat} {x3 : Nat} (h0 : (x0 = x1)) (h1 : ((x0 + (1 : Nat)) < x2)) (h2 : (x2 ≤ x3)) (h3 : ((117 : Nat) < x0)) : (x3 ≠ (117 : Nat)) := (Nat.ne_of_gt (Nat.le_trans (Nat.add_le_add_left (show 1 ≤ 3 by decide) _) (Nat.le_trans (Nat.le_trans (Nat.add_le_add_right h3 2) h1) h2)))
theorem ar61 {x0 : Nat} {x1 : Nat} {x2 : Nat} {x3 : Nat} {x4 : Nat} {x5 : Nat} {x6 : Nat} (h0 : (x0 = x1)) (h1 : ((x0 + (1 : Nat)) < x2)) (h2 : (x2 ≤ x3)) (h3 : ((117 : Nat) < x0)) (h4 : (x4 ≤ x5)) (h5 : (x5 < x6)) (h6 : (x3 < x4)) : (x6 ≠ (117 : Nat)) := (Nat.ne_of_gt (Nat.le_trans (Nat.add_le_add_left (show 1 ≤ 5 by decide) _) (Nat.le_trans (Nat.add_le_add_right (Nat.le_trans (Nat.le_trans (Nat.add_le_add_right (Nat.le_trans (Nat.le_trans (Nat.add_le_add_right h3 2) h1) h2) 1) h6) h4) 1) h5)))
theorem ar62 {x0 : Nat} {x1 : Nat} {x2 : Nat} {x3 : Nat} {x4 : Nat} {x5 : Nat} {x6 : Nat} (h0 : (x0 = x1)) (h1 : ((x0 + (1 : Nat)) < x2)) (h2 : (x2 ≤ x3)) (h3 : (x4 ≤ x5)) (h4 : (x5 < x6)) (h5 : (x3 < x4)) : (x6 ≠ x0) := (Nat.ne_of_gt (Nat.le_trans (Nat.add_le_add_left (show 1 ≤ 4 by decide) _) (Nat.le_trans (Nat.add_le_add_right (Nat.le_trans (Nat.le_trans (Nat.add_le_add_right (Nat.le_trans h1 h2) 1) h5) h3) 1) h4)))
theorem ar63 {x0 : Nat} {x1 : Nat} {x2 : Nat} {x3 : Nat} (h0 : (x0 = x1)) (h1 : ((117 : Nat) < x0)) (h2 : (x2 ≤ x3)) (h3 : ((x0 + (1 : Nat)) < x2)) : (x3 ≠ (117 : Nat)) := (Nat.ne_of_gt (Nat.le_trans (Nat.add_le_add_left (show 1 ≤ 3 by decide) _) (Nat.le_trans (Nat.le_trans (Nat.add_le_add_right h1 2) h3) h2)))
theorem ar64 {x0 : Nat} {x1 : Nat} {x2 : Nat} (h0 : (x0 < x1)) (h1 : (x1 < x2)) : (x0 < x2) := (Nat.le_of_succ_le (Nat.le_trans (Nat.add_le_add_right h0 1) h1))
theorem ar65 {x0 : Nat} {x1 : Nat} {x2 : Nat} {x3 : Nat} (h0 : (x0 = x1)) (h1 : (x2 ≤ x3)) (h2 : ((x0 + (1 : Nat)) < x2)) : (x3 ≠ x0) := (Nat.ne_of_gt (Nat.le_of_succ_le (Nat.le_trans h2 h1)))
theorem ar66 {x0 : Nat} {x1 : Nat} {x2 : Nat} {x3 : Nat} (h0 : (x0 = x1)) (h1 : ((x0 + (1 : Nat)) < x2)) (h2 : (x2 ≤ x3)) : (x1 ≤ x3) := (Nat.le_trans (Nat.add_le_add_left (show 0 ≤ 2 by decide) _) (Nat.le_trans (Nat.le_trans (Nat.add_le_add_right (Nat.le_of_eq (Eq.symm h0)) 2) h1) h2))
theorem ar67 {x0 : Nat} {x1 : Nat} {x2 : Nat} {x3 : Nat} {x4 : Nat} {x5 : Nat} {x6 : Nat} {x7 : Nat} {x8 : Nat} {x9 : Nat} (h0 : (x0 = x1)) (h1 : ((x0 + (1 : Nat)) < x2)) (h2 : (x2 ≤ x3)) (h3 : ((117 : Nat) < x0)) (h4 : (x4 ≤ x5)) (h5 : (x5 < x6)) (h6 : (x3 < x4)) (h7 : (x7 ≤ x8)) (h8 : (x8 < x9)) (h9 : (x6 < x7)) : (¬ ((117 : Nat) ∈ [x9])) := nin1 (Nat.ne_of_lt (Nat.lt_of_lt_of_le h3 (Nat.le_trans (Nat.le_of_lt (Nat.lt_of_succ_lt h1)) (Nat.le_trans h2 (Nat.le_trans (Nat.le_of_lt h6) (Nat.le_trans h4 (Nat.le_trans (Nat.le_of_lt h5) (Nat.le_trans (Nat.le_of_lt h9) (Nat.le_trans h7 (Nat.le_of_lt h8))))))))))
theorem ar68 {x0 : Nat} {x1 : Nat} {x2 : Nat} {x3 : Nat} {x4 : Nat} {x5 : Nat} {x6 : Nat} {x7 : Nat} {x8 : Nat} {x9 : Nat} {x10 : Nat} (h0 : (x0 = x1)) (h1 : ((x0 + (1 : Nat)) < x2)) (h2 : (x2 ≤ x3)) (h3 : (x4 ≤ x5)) (h4 : (x5 < x6)) (h5 : (x3 < x4)) (h6 : (x7 ≤ x8)) (h7 : (x8 < x9)) (h8 : (x6 < x7)) (h9 : (x9 < x10)) : (x1 ≤ x10) := Nat.le_trans (Nat.le_of_eq h0.symm) (Nat.le_trans (Nat.le_trans (Nat.le_of_lt (Nat.lt_of_succ_lt h1)) (Nat.le_trans h2 (Nat.le_trans (Nat.le_of_lt h5) (Nat.le_trans h3 (Nat.le_trans (Nat.le_of_lt h4) (Nat.le_trans (Nat.le_of_lt h8) (Nat.le_trans h6 (Nat.le_of_lt h7)))))))) (Nat.le_of_lt h9))
theorem ar69 {x0 : Nat} {x1 : Nat} (h0 : (x0 ≠ x1)) : (((x1 : Nat) : Int) ≠ ((x0 : Nat) : Int)) := fun q => h0 (Int.ofNat_inj.mp q).symm
theorem ar70 {x0 : Nat} {x1 : Nat} {x2 : Nat} (h0 : (x0 ≤ x1)) (h1 : (x1 ≤ x2)) : (x0 ≤ x2) := (Nat.le_trans h0 h1)
theorem ar71 {x0 : Nat} {p1 : Prop} {x2 : Nat} (h0 : ((130 : Nat) < x0)) (h1 : p1) (h2 : (x0 ≤ x2)) : (¬ (x2 ∈ [(122 : Nat)])) := (nin1 (Nat.ne_of_gt (Nat.le_of_succ_le (Nat.le_trans (Nat.le_trans (Nat.add_le_add_right (by decide : 122 + 1 ≤ 130) 1) h0) h2))))
theorem ar72 {x0 : Nat} {x1 : Nat} (h0 : (((x0 + (1 : Nat)) + (1 : Nat)) ≤ x1)) : (x0 ≤ x1) := (Nat.le_trans (Nat.add_le_add_left (show 0 ≤ 2 by decide) _) h0)
theorem ar73 {x0 : Nat} {x1 : Nat} {x2 : Nat} {x3 : Nat} (h0 : (x0 ≤ x1)) (h1 : (x2 = x1)) (h2 : ((x2 + (1 : Nat)) < x3)) : (x0 ≤ x3) := (Nat.le_trans (Nat.add_le_add_left (show 0 ≤ 2 by decide) _) (Nat.le_trans (Nat.add_le_add_right (Nat.le_trans h0 (Nat.le_of_eq (Eq.symm h1))) 2) h2))
theorem ar74 {x0 : Nat} {x1 : Nat} {x2 : Nat} (h0 : (x0 ≤ x1)) (h1 : ((130 : Nat) < x0)) (h2 : (x2 = x1)) : (¬ (x2 ∈ [(122 : Nat)])) := (nin1 (Nat.ne_of_gt (Nat.le_of_succ_le (Nat.le_trans (Nat.le_trans (Nat.le_trans (Nat.add_le_add_right (by decide : 122 + 1 ≤ 130) 1) h1) h0) (Nat.le_of_eq (Eq.symm h2))))))
theorem ar75 {x0 : Nat} {x1 : Nat} {x2 : Nat} (h0 : (x0 ≤ x1)) (h1 : ((130 : Nat) < x0)) (h2 : (x2 = x1)) : (¬ ((x2 + (1 : Nat)) ∈ [(122 : Nat)])) := (nin1 (Nat.ne_of_gt (Nat.le_trans (Nat.add_le_add_left (show 1 ≤ 3 by decide) _) (Nat.le_trans (Nat.add_le_add_right (Nat.le_trans (Nat.le_trans (Nat.add_le_add_right (by decide : 122 + 1 ≤ 130) 1) h1) h0) 1) (Nat.add_le_add_right (Nat.le_of_eq (Eq.symm h2)) 1)))))
theorem ar76 {x0 : Nat} {x1 : Nat} {x2 : Nat} {x3 : Nat} (h0 : (x0 ≤ x1)) (h1 : (x2 = x1)) (h2 : (x2 < x3)) : (x0 ≤ x3) := (Nat.le_of_succ_le (Nat.le_trans (Nat.add_le_add_right (Nat.le_trans h0 (Nat.le_of_eq (Eq.symm h1))) 1) h2))
theorem ar77 {x0 : Nat} {x1 : Nat} {x2 : Nat} {x3 : Nat} {x4 : Nat} (h0 : (x0 ≤ x1)) (h1 : ((130 : Nat) < x0)) (h2 : (x2 = x1)) (h3 : ((x2 + (1 : Nat)) < x3)) (h4 : (x3 ≤ x4)) : (¬ (x4 ∈ [(122 : Nat)])) := (nin1 (Nat.ne_of_gt (Nat.le_trans (Nat.add_le_add_left (show 1 ≤ 4 by decide) _) (Nat.le_trans (Nat.le_trans (Nat.add_le_add_right (Nat.le_trans (Nat.le_trans (Nat.le_trans (Nat.add_le_add_right (by decide : 122 + 1 ≤ 130) 1) h1) h0) (Nat.le_of_eq (Eq.symm h2))) 2) h3) h4))))
theorem ar78 {x0 : Nat} {x1 : Nat} {x2 : Nat} (h0 : (x0 ≤ x1)) (h1 : (x2 < x0)) : (¬ (x2 ∈ [x1])) := (nin1 (Nat.ne_of_lt (Nat.le_trans h1 h0)))
theorem ar79 {x0 : Nat} {x1 : Nat} {x2 : Nat} {x3 : Nat} {x4 : Nat} (h0 : (x0 ≤ x1)) (h1 : ((130 : Nat) < x0)) (h2 : (x2 = x1)) (h3 : ((x2 + (1 : Nat)) < x3)) (h4 : (x3 ≤ x4)) : (¬ ((122 : Nat) ∈ [x4])) := (nin1 (Nat.ne_of_lt (Nat.le_trans (Nat.add_le_add_left (show 1 ≤ 4 by decide) _) (Nat.le_trans (Nat.le_trans (Nat.add_le_add_right (Nat.le_trans (Nat.le_trans (Nat.le_trans (Nat.add_le_add_right (by decide : 122 + 1 ≤ 130) 1) h1) h0) (Nat.le_of_eq (Eq.symm h2))) 2) h3) h4))))
theorem ar80 {x0 : Nat} {x1 : Nat} {x2 : Nat} {x3 : Nat} {x4 : Nat} (h0 : (x0 ≤ x1)) (h1 : ((130 : Nat) < x0)) (h2 : (x2 = x1)) (h3 : ((x2 + (1 : Nat)) < x3)) (h4 : (x3 ≤ x4)) : (¬ ((126 : Nat) ∈ [x4])) := (nin1 (Nat.ne_of_lt (Nat.le_trans (Nat.add_le_add_left (show 1 ≤ 4 by decide) _) (Nat.le_trans (Nat.le_trans (Nat.add_le_add_right (Nat.le_trans (Nat.le_trans (Nat.le_trans (Nat.add_le_add_right (by decide : 126 + 1 ≤ 130) 1) h1) h0) (Nat.le_of_eq (Eq.symm h2))) 2) h3) h4))))
theorem ar81 {x0 : Nat} {x1 : Nat} {x2 : Nat} {x3 : Nat} {x4 : Nat} (h0 : (x0 ≤ x1)) (h1 : ((130 : Nat) < x0)) (h2 : (x2 = x1)) (h3 : (x3 ≤ x4)) (h4 : (x2 < x3)) : (¬ ((122 : Nat) ∈ [x4])) := (nin1 (Nat.ne_of_lt (Nat.le_trans (Nat.add_le_add_left (show 1 ≤ 3 by decide) _) (Nat.le_trans (Nat.le_trans (Nat.add_le_add_right (Nat.le_trans (Nat.le_trans (Nat.le_trans (Nat.add_le_add_right (by decide : 122 + 1 ≤ 130) 1) h1) h0) (Nat.le_of_eq (Eq.symm h2))) 1) h4) h3))))
theorem ar82 {x0 : Nat} {x1 : Nat} {x2 : Nat} {x3 : Nat} {x4 : Nat} (h0 : (x0 ≤ x1)) (h1 : ((130 : Nat) < x0)) (h2 : (x2 = x1)) (h3 : (x3 ≤ x4)) (h4 : (x2 < x3)) : (¬ ((126 : Nat) ∈ [x4])) := (nin1 (Nat.ne_of_lt (Nat.le_trans (Nat.add_le_add_left (show 1 ≤ 3 by decide) _) (Nat.le_trans (Nat.le_trans (Nat.add_le_add_right (Nat.le_trans (Nat.le_trans (Nat.le_trans (Nat.add_le_add_right (by decide : 126 + 1 ≤ 130) 1) h1) h0) (Nat.le_of_eq (Eq.symm h2))) 1) h4) h3))))
theorem ar83 {x0 : Nat} {x1 : Nat} {x2 : Nat} (h0 : ((x0 + (1 : Nat)) < x1)) (h1 : (x1 ≤ x2)) : ((x0 + (1 : Nat)) ≠ x2) := (Nat.ne_of_lt (Nat.le_trans h0 h1))
theorem ar84 {x0 : Nat} {x1 : Nat} {x2 : Nat} (h0 : (x0 < x1)) (h1 : (x1 ≤ x2)) : (x2 ≠ x0) := (Nat.ne_of_gt (Nat.le_trans h0 h1))
theorem ar85 {x0 : Nat} {x1 : Nat} (h0 : ((130 : Nat) < x0)) (h1 : (x0 ≤ x1)) : (¬ (x1 ∈ [(122 : Nat)])) := (nin1 (Nat.ne_of_gt (Nat.le_of_succ_le (Nat.le_trans (Nat.le_trans (Nat.add_le_add_right (by decide : 122 + 1 ≤ 130) 1) h0) h1))))
theorem ar86 {x0 : Nat} {x1 : Nat} {x2 : Nat} {x3 : Nat} {x4 : Nat} (h0 : (x0 < x1)) (h1 : (x1 ≤ x2)) (h2 : (x3 ≤ x4)) (h3 : (x2 < x3)) : (¬ (x0 ∈ [x4])) := (nin1 (Nat.ne_of_lt (Nat.le_of_succ_le (Nat.le_trans (Nat.le_trans (Nat.add_le_add_right (Nat.le_trans h0 h1) 1) h3) h2))))
theorem ar87 {x0 : Nat} {x1 : Nat} {x2 : Nat} {x3 : Nat} {x4 : Nat} {x5 : Nat} {x6 : Nat} (h0 : (x0 ≤ x1)) (h1 : (x2 = x1)) (h2 : ((x2 + (1 : Nat)) < x3)) (h3 : (x3 ≤ x4)) (h4 : (x4 < x5)) (h5 : (x5 ≤ x6)) : (x0 ≤ x6) := (Nat.le_trans (Nat.add_le_add_left (show 0 ≤ 3 by decide) _) (Nat.le_trans (Nat.le_trans (Nat.add_le_add_right (Nat.le_trans (Nat.le_trans (Nat.add_le_add_right (Nat.le_trans h0 (Nat.le_of_eq (Eq.symm h1))) 2) h2) h3) 1) h4) h5))
theorem ar88 {x0 : Nat} {x1 : Nat} {x2 : Nat} (h0 : (x0 ≤ x1)) (h1 : (x2 = x1)) : (x0 ≤ (x2 + (1 : Nat))) := (Nat.le_of_succ_le (Nat.le_trans (Nat.add_le_add_right h0 1) (Nat.add_le_add_right (Nat.le_of_eq (Eq.symm h1)) 1)))
theorem ar89 {x0 : Nat} {x1 : Nat} {x2 : Nat} {x3 : Nat} {x4 : Nat} (h0 : (x0 ≤ x1)) (h1 : (x2 = x1)) (h2 : ((x2 + (1 : Nat)) < x3)) (h3 : (x3 ≤ x4)) : (x0 ≤ x4) := (Nat.le_trans (Nat.add_le_add_left (show 0 ≤ 2 by decide) _) (Nat.le_trans (Nat.le_trans (Nat.add_le_add_right (Nat.le_trans h0 (Nat.le_of_eq (Eq.symm h1))) 2) h2) h3))
theorem ar90 {x0 : Nat} {x1 : Nat} {x2 : Nat} {x3 : Nat} {x4 : Nat} {x5 : Nat} {x6 : Nat} {x7 : Nat} {x8 : Nat} (h0 : (x0 ≤ x1)) (h1 : (x2 = x1)) (h2 : ((x2 + (1 : Nat)) < x3)) (h3 : (x3 ≤ x4)) (h4 : (x4 < x5)) (h5 : (x5 ≤ x6)) (h6 : (x7 ≤ x8)) (h7 : (x6 < x7)) : (x0 ≤ x8) := Nat.le_trans h0 (Nat.le_trans (Nat.le_of_eq h1.symm) (Nat.le_trans (Nat.le_of_lt (Nat.lt_of_succ_lt h2)) (Nat.le_trans h3 (Nat.le_trans (Nat.le_of_lt h4) (Nat.le_trans h5 (Nat.le_trans (Nat.le_of_lt h7) h6))))))
theorem ar91 {x0 : Nat} {x1 : Nat} {x2 : Nat} {x3 : Nat} {x4 : Nat} (h0 : (x0 = x1)) (h1 : ((x0 + (1 : Nat)) < x2)) (h2 : (x2 ≤ x3)) (h3 : (x4 < x1)) : (x4 ≠ x3) := (Nat.ne_of_lt (Nat.le_trans (Nat.add_le_add_left (show 1 ≤ 3 by decide) _) (Nat.le_trans (Nat.le_trans (Nat.add_le_add_right (Nat.le_trans h3 (Nat.le_of_eq (Eq.symm h0))) 2) h1) h2)))
theorem ar92 {x0 : Nat} {x1 : Nat} {x2 : Nat} {x3 : Nat} {x4 : Nat} (h0 : (x0 = x1)) (h1 : ((x0 + (1 : Nat)) < x2)) (h2 : (x2 ≤ x3)) (h3 : (x3 < x4)) : (x1 ≤ x4) := (Nat.le_trans (Nat.add_le_add_left (show 0 ≤ 3 by decide) _) (Nat.le_trans (Nat.add_le_add_right (Nat.le_trans (Nat.le_trans (Nat.add_le_add_right (Nat.le_of_eq (Eq.symm h0)) 2) h1) h2) 1) h3))
theorem ar93 {x0 : Nat} : (¬ (((x0 : Nat) : Int) < (0 : Int))) := Int.not_lt.mpr (Int.natCast_nonneg x0)
theorem ar94 {x0 : Nat} {x1 : Nat} (h0 : (x0 ≤ x1)) : ((max (0 : Int) (min ((x1 : Nat) : Int) ((x0 : Nat) : Int))) = ((x0 : Nat) : Int)) := by rw [Int.min_eq_right (Int.ofNat_le.mpr h0), Int.max_eq_right (Int.natCast_nonneg x0)]
theorem ar95 {x0 : Nat} {x1 : Nat} (h0 : ((max (0 : Int) (min ((x0 : Nat) : Int) ((x1 : Nat) : Int))) = ((x1 : Nat) : Int))) : ((max (0 : Int) (min ((x1 : Nat) : Int) ((x1 : Nat) : Int))) = ((x1 : Nat) : Int)) := by rw [Int.min_self, Int.max_eq_right (Int.natCast_nonneg x1)]
theorem ar96 {x0 : Nat} : ((1 : Int) ≤ (((x0 : Nat) : Int) + (1 : Int))) := Int.le_add_of_nonneg_left (Int.natCast_nonneg x0)
theorem ar97 {x0 : Nat} : (((-(1 : Int)) + (((x0 : Nat) : Int) + (1 : Int))) = ((x0 : Nat) : Int)) := (Int.add_comm _ _).trans (Int.add_neg_cancel_right _ 1)
theorem ar98 {x0 : Nat} (h0 : (x0 < (2 ^ 20 : Nat))) : (¬ (((x0 : Nat) : Int) ≥ (2 ^ 63 : Int))) := Int.not_le.mpr (Int.lt_of_lt_of_le (Int.ofNat_lt.mpr h0) (by decide : ((2 ^ 20 : Nat) : Int) ≤ 2 ^ 63))
theorem ar99 {x0 : Nat} {x1 : Nat} (h0 : (x0 < x1)) : (¬ (x0 = x1)) := (Nat.ne_of_lt h0)
theorem ar100 {x0 : Nat} {x1 : Nat} {x2 : Nat} (h0 : (x0 = x1)) (h1 : (x2 < x1)) : (¬ (x2 ∈ [x0])) := (nin1 (Nat.ne_of_lt (Nat.le_trans h1 (Nat.le_of_eq (Eq.symm h0)))))
theorem ar101 {x0 : Nat} {x1 : Nat} (h0 : (x0 < x1)) (h1 : (x1 = (1 : Nat))) : (x0 = (0 : Nat)) := Nat.lt_one_iff.mp (Nat.lt_of_lt_of_eq h0 h1)
theorem ar102 {x0 : Nat} (h0 : ((1 : Nat) < (1 : Nat))) : (x0 = (0 : Nat)) := absurd h0 (by decide)
theorem ar103 {x0 : Nat} {x1 : Nat} {x2 : Nat} {p3 : Prop} (h0 : (x0 = (0 : Nat))) (h1 : ((x1 + x2) ≤ x0)) (h2 : (x2 = (1 : Nat))) : p3 := absurd (Nat.le_trans (Nat.le_of_eq h2.symm) (Nat.le_trans (Nat.le_add_left x2 x1) (Nat.le_trans h1 (Nat.le_of_eq h0)))) (by decide : ¬ 1 ≤ 0)
theorem ar104 {x0 : Nat} : ((1 : Nat) ≤ (x0 + (1 : Nat))) := Nat.le_add_left 1 x0
theorem ar105 {x0 : Nat} {x1 : Nat} {x2 : Nat} (h0 : ((x0 + x1) ≤ x2)) : (x0 ≤ x2) := Nat.le_trans (Nat.le_add_right x0 x1) h0
theorem ar106 {x0 : Nat} {x1 : Nat} {x2 : Nat} (h0 : (x0 ≤ x1)) (h1 : ((min x2 (x1 - x0)) = x2)) : ((x0 + x2) ≤ x1) := Nat.add_le_of_le_sub' h0 (Nat.le_trans (Nat.le_of_eq h1.symm) (Nat.min_le_right _ _))
theorem ar107 {x0 : Nat} {x1 : Nat} (h0 : (x0 < (x1 + (1 : Nat)))) : (x0 ≤ x1) := Nat.le_of_lt_succ h0
theorem ar108 {x0 : Nat} {x1 : Nat} (h0 : (x0 ≤ x1)) : (x0 < (x1 + (1 : Nat))) := (Nat.add_le_add_right h0 1)
theorem ar109 {x0 : Nat} (h0 : (x0 < (2 ^ 18 : Nat))) : (x0 ≤ (16777216 : Nat)) := (Nat.le_trans (Nat.add_le_add_left (show 0 ≤ 2 by decide) _) (Nat.le_trans (Nat.add_le_add_right h0 1) (by decide : 262144 + 1 ≤ 16777216)))
theorem ar110 {x0 : Nat} {x1 : Nat} (h0 : (x0 < (2 ^ 18 : Nat))) (h1 : (x1 ≤ (x0 + (1 : Nat)))) : ((x1 + (1 : Nat)) ≤ (16777216 : Nat)) := (Nat.le_trans (Nat.add_le_add_right (Nat.le_trans h1 h0) 1) (by decide : 262144 + 1 ≤ 16777216))
theorem ar111 {x0 : Nat} {x1 : Nat} (h0 : (x0 < (2 ^ 18 : Nat))) (h1 : (x1 ≤ x0)) : (x1 ≤ (5592405 : Nat)) := (Nat.le_trans (Nat.add_le_add_left (show 0 ≤ 2 by decide) _) (Nat.le_trans (Nat.add_le_add_right (Nat.le_trans (Nat.add_le_add_right h1 1) h0) 1) (by decide : 262144 + 1 ≤ 5592405)))
theorem ar112 {x0 : Nat} {x1 : Nat} {x2 : Nat} (h0 : (x0 < x1)) (h1 : (x2 < (2 ^ 18 : Nat))) : (x2 ≤ (5592405 : Nat)) := (Nat.le_trans (Nat.add_le_add_left (show 0 ≤ 2 by decide) _) (Nat.le_trans (Nat.add_le_add_right h1 1) (by decide : 262144 + 1 ≤ 5592405)))
theorem ar113 {x0 : Nat} {x1 : Nat} {x2 : Nat} (h0 : (x0 = x1)) (h1 : (x2 < x0)) : (x2 < x1) := (Nat.le_trans h1 (Nat.le_of_eq h0))
theorem ar114 {x0 : Nat} {x1 : Nat} {x2 : Nat} (h0 : (x0 = (1 : Nat))) (h1 : ((x1 + (x2 + (1 : Nat))) ≤ (900 : Nat))) : (((x1 + x0) + x2) ≤ (900 : Nat)) := Nat.le_trans (Nat.le_of_eq (by rw [h0, Nat.add_assoc, Nat.add_comm 1 x2])) h1
theorem ar115 {x0 : Nat} {x1 : Nat} {x2 : Nat} (h0 : (x0 = (1 : Nat))) (h1 : ((x1 + ((10 : Nat) * (x2 + (1 : Nat)))) ≤ (9000 : Nat))) : (((x1 + x0) + ((10 : Nat) * x2)) ≤ (9000 : Nat)) := Nat.le_trans (by rw [h0, Nat.add_assoc]; exact Nat.add_le_add_left (by rw [Nat.mul_succ, Nat.add_comm]; exact Nat.add_le_add_left (by decide) _) x1) h1
theorem ar116 {x0 : Nat} {x1 : Nat} {x2 : Nat} {x3 : Nat} {x4 : Nat} (h0 : (x0 = x1)) (h1 : (x2 = (x0 + (1 : Nat)))) (h2 : (x3 = x4)) (h3 : (x2 < x4)) : ((x2 < x3) ∧ (x0 < x3)) := ⟨(Nat.le_trans h3 (Nat.le_of_eq (Eq.symm h2))), (Nat.le_of_succ_le (Nat.le_trans (Nat.le_trans (Nat.add_le_add_right (Nat.le_of_eq (Eq.symm h1)) 1) h3) (Nat.le_of_eq (Eq.symm h2))))⟩
theorem ar117 {x0 : Nat} {x1 : Nat} {x2 : Nat} {x3 : Nat} (h0 : (x0 = x1)) (h1 : (x2 = (x0 + (1 : Nat)))) (h2 : (x3 < x1)) : (x3 ≠ x0) := (Nat.ne_of_lt (Nat.le_trans h2 (Nat.le_of_eq (Eq.symm h0))))
theorem ar118 {x0 : Nat} {x1 : Nat} {x2 : Nat} {x3 : Nat} {x4 : Nat} (h0 : (x0 = x1)) (h1 : (x2 = (x0 + (1 : Nat)))) (h2 : (x3 = x4)) (h3 : ((x2 < x3) ∧ (x0 < x3))) : (¬ (x3 ∈ [x0])) := (nin1 (Nat.ne_of_gt h3.2))
theorem ar119 {x0 : Nat} {x1 : Nat} {x2 : Nat} (h0 : (x0 = x1)) (h1 : (x2 = (x0 + (1 : Nat)))) : (x1 ≤ x2) := (Nat.le_of_succ_le (Nat.le_trans (Nat.add_le_add_right (Nat.le_of_eq (Eq.symm h0)) 1) (Nat.le_of_eq (Eq.symm h1))))
theorem ar120 {x0 : Nat} {x1 : Nat} {x2 : Nat} {x3 : Nat} {x4 : Nat} {x5 : Nat} {x6 : Nat} (h0 : (x0 = x1)) (h1 : (x2 = (x0 + (1 : Nat)))) (h2 : (x3 = x4)) (h3 : ((x2 < x3) ∧ (x0 < x3))) (h4 : (x3 < x5)) (h5 : (x6 = x5)) : (x1 ≤ x6) := (Nat.le_trans (Nat.add_le_add_left (show 0 ≤ 2 by decide) _) (Nat.le_trans (Nat.le_trans (Nat.add_le_add_right (Nat.le_trans (Nat.add_le_add_right (Nat.le_of_eq (Eq.symm h0)) 1) h3.2) 1) h4) (Nat.le_of_eq (Eq.symm h5))))
theorem ar121 {x0 : Nat} {x1 : Nat} {x2 : Nat} {x3 : Nat} {x4 : Nat} {x5 : Nat} {x6 : Nat} (h0 : (x0 = x1)) (h1 : (x2 = (x0 + (1 : Nat)))) (h2 : (x3 = x4)) (h3 : ((x2 < x3) ∧ (x0 < x3))) (h4 : (x3 < x5)) (h5 : (x6 = x5)) : (¬ (x6 ∈ [x0])) := (nin1 (Nat.ne_of_gt (Nat.le_of_succ_le (Nat.le_trans (Nat.le_trans (Nat.add_le_add_right h3.2 1) h4) (Nat.le_of_eq (Eq.symm h5))))))
theorem ar122 {x0 : Nat} {x1 : Nat} {x2 : Nat} {x3 : Nat} {x4 : Nat} {x5 : Nat} {x6 : Nat} {x7 : Nat} {x8 : Nat} (h0 : (x0 = x1)) (h1 : (x2 = (x0 + (1 : Nat)))) (h2 : (x3 = x4)) (h3 : ((x2 < x3) ∧ (x0 < x3))) (h4 : (x3 < x5)) (h5 : (x6 = x5)) (h6 : (x6 < x7)) (h7 : (x8 = x7)) : (x1 ≤ x8) := (Nat.le_trans (Nat.add_le_add_left (show 0 ≤ 3 by decide) _) (Nat.le_trans (Nat.le_trans (Nat.add_le_add_right (Nat.le_trans (Nat.le_trans (Nat.add_le_add_right (Nat.le_trans (Nat.add_le_add_right (Nat.le_of_eq (Eq.symm h0)) 1) h3.2) 1) h4) (Nat.le_of_eq (Eq.symm h5))) 1) h6) (Nat.le_of_eq (Eq.symm h7))))
theorem ar123 {x0 : Nat} {x1 : Nat} {x2 : Nat} (h0 : (x0 < x1)) (h1 : (x2 = x1)) : (x0 ≠ x2) := (Nat.ne_of_lt (Nat.le_trans h0 (Nat.le_of_eq (Eq.symm h1))))
theorem ar124 {x0 : Nat} {x1 : Nat} {x2 : Nat} {x3 : Nat} {x4 : Nat} {x5 : Nat} {x6 : Nat} {x7 : Nat} {x8 : Nat} (h0 : (x0 = x1)) (h1 : (x2 = (x0 + (1 : Nat)))) (h2 : (x3 = x4)) (h3 : ((x2 < x3) ∧ (x0 < x3))) (h4 : (x3 < x5)) (h5 : (x6 = x5)) (h6 : (x6 < x7)) (h7 : (x8 = x7)) : (¬ (x8 ∈ [x0])) := (nin1 (Nat.ne_of_gt (Nat.le_trans (Nat.add_le_add_left (show 1 ≤ 3 by decide) _) (Nat.le_trans (Nat.le_trans (Nat.add_le_add_right (Nat.le_trans (Nat.le_trans (Nat.add_le_add_right h3.2 1) h4) (Nat.le_of_eq (Eq.symm h5))) 1) h6) (Nat.le_of_eq (Eq.symm h7))))))
theorem ar125 {x0 : Nat} (h0 : (x0 = (1 : Nat))) : (x0 ≠ (5 : Nat)) := (fun q => absurd (Eq.trans (Eq.symm h0) q) (by decide))
theorem ar126 {x0 : Nat} {x1 : Nat} (h0 : (x0 < x1)) : (¬ (x1 ∈ [x0])) := (nin1 (Nat.ne_of_gt h0))
theorem ar127 {x0 : Nat} {x1 : Nat} {x2 : Nat} {x3 : Nat} (h0 : (x0 < x1)) (h1 : (x1 < x2)) (h2 : (x2 ≤ x3)) : (¬ (x3 ∈ [x0])) := (nin1 (Nat.ne_of_gt (Nat.le_of_succ_le (Nat.le_trans (Nat.le_trans (Nat.add_le_add_right h0 1) h1) h2))))
theorem ar128 {x0 : Nat} (h0 : ((130 : Nat) < x0)) : (¬ ((122 : Nat) ∈ [x0])) := (nin1 (Nat.ne_of_lt (Nat.le_of_succ_le (Nat.le_trans (Nat.add_le_add_right (by decide : 122 + 1 ≤ 130) 1) h0))))
theorem ar129 {x0 : Nat} (h0 : ((130 : Nat) < x0)) : (¬ ((126 : Nat) ∈ [x0])) := (nin1 (Nat.ne_of_lt (Nat.le_of_succ_le (Nat.le_trans (Nat.add_le_add_right (by decide : 126 + 1 ≤ 130) 1) h0))))
theorem ar130 {x0 : Nat} {x1 : Nat} {x2 : Nat} {x3 : Nat} {x4 : Nat} (h0 : (x0 < x1)) (h1 : (x1 < x2)) (h2 : (x2 ≤ x3)) (h3 : (x3 < x4)) : (x0 < x4) := (Nat.le_trans (Nat.add_le_add_left (show 1 ≤ 3 by decide) _) (Nat.le_trans (Nat.add_le_add_right (Nat.le_trans (Nat.le_trans (Nat.add_le_add_right h0 1) h1) h2) 1) h3))
theorem ar131 {x0 : Nat} {x1 : Nat} {x2 : Nat} (h0 : (x0 < x1)) (h1 : (x2 = (x0 + (1 : Nat)))) : (x2 ≤ x1) := (Nat.le_trans (Nat.le_of_eq h1) h0)
theorem ar132 {x0 : Nat} {x1 : Nat} {x2 : Nat} {x3 : Nat} (h0 : (x0 ≤ x1)) (h1 : (x2 ≤ x3)) (h2 : (x3 < x0)) : (x2 ≤ x1) := (Nat.le_of_succ_le (Nat.le_trans (Nat.le_trans (Nat.add_le_add_right h1 1) h2) h0))
theorem ar133 {x0 : Nat} {x1 : Nat} {x2 : Nat} {x3 : Nat} {x4 : Nat} {x5 : Nat} (h0 : (x0 < x1)) (h1 : (x2 < x1)) (h2 : (x1 ≤ x3)) (h3 : (x3 < x4)) (h4 : ((x5 = x0) ∨ (x5 = x2))) : (x5 < x4) := Nat.lt_trans (h4.elim (fun q => Nat.lt_of_le_of_lt (Nat.le_of_eq q) h0) (fun q => Nat.lt_of_le_of_lt (Nat.le_of_eq q) h1)) (Nat.lt_of_le_of_lt h2 h3)
theorem ar134 {x0 : Nat} {x1 : Nat} {x2 : Nat} (h0 : (x0 < x1)) (h1 : (x0 < x2)) : (¬ (x0 ∈ [x1, x2])) := (nin2 (Nat.ne_of_lt h0) (Nat.ne_of_lt h1))
theorem ar135 {x0 : Nat} {x1 : Nat} {x2 : Nat} {x3 : Nat} (h0 : (x0 < x1)) (h1 : (x2 < x1)) (h2 : (x1 ≤ x3)) : (¬ (x3 ∈ [x0, x2])) := (nin2 (Nat.ne_of_gt (Nat.le_trans h0 h2)) (Nat.ne_of_gt (Nat.le_trans h1 h2)))
theorem ar136 {x0 : Nat} {x1 : Nat} {x2 : Nat} (h0 : ((130 : Nat) < x0)) (h1 : (x0 < x1)) (h2 : (x0 < x2)) : (¬ ((122 : Nat) ∈ [x1, x2])) := (nin2 (Nat.ne_of_lt (Nat.le_trans (Nat.add_le_add_left (show 1 ≤ 3 by decide) _) (Nat.le_trans (Nat.add_le_add_right (Nat.le_trans (Nat.add_le_add_right (by decide : 122 + 1 ≤ 130) 1) h0) 1) h1))) (Nat.ne_of_lt (Nat.le_trans (Nat.add_le_add_left (show 1 ≤ 3 by decide) _) (Nat.le_trans (Nat.add_le_add_right (Nat.le_trans (Nat.add_le_add_right (by decide : 122 + 1 ≤ 130) 1) h0) 1) h2))))
theorem ar137 {x0 : Nat} {x1 : Nat} {x2 : Nat} (h0 : ((130 : Nat) < x0)) (h1 : (x0 < x1)) (h2 : (x0 < x2)) : (¬ ((126 : Nat) ∈ [x1, x2])) := (nin2 (Nat.ne_of_lt (Nat.le_trans (Nat.add_le_add_left (show 1 ≤ 3 by decide) _) (Nat.le_trans (Nat.add_le_add_right (Nat.le_trans (Nat.add_le_add_right (by decide : 126 + 1 ≤ 130) 1) h0) 1) h1))) (Nat.ne_of_lt (Nat.le_trans (Nat.add_le_add_left (show 1 ≤ 3 by decide) _) (Nat.le_trans (Nat.add_le_add_right (Nat.le_trans (Nat.add_le_add_right (by decide : 126 + 1 ≤ 130) 1) h0) 1) h2))))
theorem ar138 {x0 : Nat} {x1 : Nat} {x2 : Nat} {x3 : Nat} {x4 : Nat} (h0 : (x0 ≤ x1)) (h1 : (x1 < x2)) (h2 : (x1 < x3)) (h3 : (x4 < x0)) : (¬ (x4 ∈ [x2, x3])) := (nin2 (Nat.ne_of_lt (Nat.le_of_succ_le (Nat.le_trans (Nat.add_le_add_right (Nat.le_trans h3 h0) 1) h1))) (Nat.ne_of_lt (Nat.le_of_succ_le (Nat.le_trans (Nat.add_le_add_right (Nat.le_trans h3 h0) 1) h2))))
theorem ar139 {x0 : Nat} {x1 : Nat} {x2 : Nat} {x3 : Nat} (h0 : (x0 < x1)) (h1 : (x1 < x2)) (h2 : (x2 ≤ x3)) : (¬ (x0 ∈ [x3])) := (nin1 (Nat.ne_of_lt (Nat.le_of_succ_le (Nat.le_trans (Nat.le_trans (Nat.add_le_add_right h0 1) h1) h2))))
theorem ar140 {x0 : Nat} {x1 : Nat} (h0 : (x0 ≤ x1)) : (x0 ≤ x1) := h0
theorem ar141 {x0 : Nat} {x1 : Nat} {x2 : Nat} (h0 : (x0 ≤ x1)) (h1 : (x0 = (x2 + (1 : Nat)))) : (¬ (x1 ∈ [x2])) := (nin1 (Nat.ne_of_gt (Nat.le_trans (Nat.le_of_eq (Eq.symm h1)) h0)))
theorem ar142 {x0 : Nat} {x1 : Nat} {x2 : Nat} {x3 : Nat} (h0 : ((130 : Nat) < x0)) (h1 : (x0 < x1)) (h2 : (x1 < x2)) (h3 : (x2 ≤ x3)) : (¬ ((122 : Nat) ∈ [x3])) := (nin1 (Nat.ne_of_lt (Nat.le_trans (Nat.add_le_add_left (show 1 ≤ 4 by decide) _) (Nat.le_trans (Nat.le_trans (Nat.add_le_add_right (Nat.le_trans (Nat.add_le_add_right (Nat.le_trans (Nat.add_le_add_right (by decide : 122 + 1 ≤ 130) 1) h0) 1) h1) 1) h2) h3))))
theorem ar143 {x0 : Nat} {x1 : Nat} {x2 : Nat} {x3 : Nat} (h0 : ((130 : Nat) < x0)) (h1 : (x0 < x1)) (h2 : (x1 < x2)) (h3 : (x2 ≤ x3)) : (¬ ((126 : Nat) ∈ [x3])) := (nin1 (Nat.ne_of_lt (Nat.le_trans (Nat.add_le_add_left (show 1 ≤ 4 by decide) _) (Nat.le_trans (Nat.le_trans (Nat.add_le_add_right (Nat.le_trans (Nat.add_le_add_right (Nat.le_trans (Nat.add_le_add_right (by decide : 126 + 1 ≤ 130) 1) h0) 1) h1) 1) h2) h3))))
theorem ar144 {x0 : Nat} {x1 : Nat} {x2 : Nat} {x3 : Nat} {x4 : Nat} {x5 : Nat} (h0 : (x0 ≤ x1)) (h1 : (x1 < x2)) (h2 : (x2 < x3)) (h3 : (x3 ≤ x4)) (h4 : (x5 < x0)) : (¬ (x5 ∈ [x4])) := (nin1 (Nat.ne_of_lt (Nat.le_trans (Nat.add_le_add_left (show 1 ≤ 3 by decide) _) (Nat.le_trans (Nat.le_trans (Nat.add_le_add_right (Nat.le_trans (Nat.add_le_add_right (Nat.le_trans h4 h0) 1) h1) 1) h2) h3))))
theorem ar145 {x0 : Nat} {x1 : Nat} {x2 : Nat} {x3 : Nat} {p4 : Prop} (h0 : (x0 < x1)) (h1 : (x1 < x2)) (h2 : (x2 ≤ x3)) (h3 : p4) : (¬ (x0 ∈ [x3])) := (nin1 (Nat.ne_of_lt (Nat.le_of_succ_le (Nat.le_trans (Nat.le_trans (Nat.add_le_add_right h0 1) h1) h2))))
theorem ar146 {x0 : Nat} {x1 : Nat} {x2 : Nat} {p3 : Prop} (h0 : (x0 < x1)) (h1 : (x1 ≤ x2)) (h2 : p3) : (¬ (x0 ∈ [x2])) := (nin1 (Nat.ne_of_lt (Nat.le_trans h0 h1)))
theorem ar147 {x0 : Nat} {x1 : Nat} {x2 : Nat} {x3 : Nat} {p4 : Prop} (h0 : ((130 : Nat) < x0)) (h1 : (x0 < x1)) (h2 : (x1 < x2)) (h3 : (x2 ≤ x3)) (h4 : p4) : (¬ ((122 : Nat) ∈ [x3])) := (nin1 (Nat.ne_of_lt (Nat.le_trans (Nat.add_le_add_left (show 1 ≤ 4 by decide) _) (Nat.le_trans (Nat.le_trans (Nat.add_le_add_right (Nat.le_trans (Nat.add_le_add_right (Nat.le_trans (Nat.add_le_add_right (by decide : 122 + 1 ≤ 130) 1) h0) 1) h1) 1) h2) h3))))
theorem ar148 {x0 : Nat} {x1 : Nat} {x2 : Nat} {x3 : Nat} {p4 : Prop} (h0 : ((130 : Nat) < x0)) (h1 : (x0 < x1)) (h2 : (x1 < x2)) (h3 : (x2 ≤ x3)) (h4 : p4) : (¬ ((126 : Nat) ∈ [x3])) := (nin1 (Nat.ne_of_lt (Nat.le_trans (Nat.add_le_add_left (show 1 ≤ 4 by decide) _) (Nat.le_trans (Nat.le_trans (Nat.add_le_add_right (Nat.le_trans (Nat.add_le_add_right (Nat.le_trans (Nat.add_le_add_right (by decide : 126 + 1 ≤ 130) 1) h0) 1) h1) 1) h2) h3))))
theorem ar149 {x0 : Nat} {x1 : Nat} {x2 : Nat} {x3 : Nat} {x4 : Nat} {p5 : Prop} {x6 : Nat} (h0 : (x0 ≤ x1)) (h1 : (x1 < x2)) (h2 : (x2 < x3)) (h3 : (x3 ≤ x4)) (h4 : p5) (h5 : (x6 < x0)) : (¬ (x6 ∈ [x4])) := (nin1 (Nat.ne_of_lt (Nat.le_trans (Nat.add_le_add_left (show 1 ≤ 3 by decide) _) (Nat.le_trans (Nat.le_trans (Nat.add_le_add_right (Nat.le_trans (Nat.add_le_add_right (Nat.le_trans h5 h0) 1) h1) 1) h2) h3))))
theorem ar150 {x0 : Nat} {x1 : Nat} {p2 : Prop} {x3 : Nat} (h0 : (x0 = x1)) (h1 : p2) (h2 : (x3 < x1)) : (x3 < x0) := (Nat.le_trans h2 (Nat.le_of_eq (Eq.symm h0)))
theorem ar151 {p0 : Prop} {x1 : Nat} {x2 : Nat} (h0 : p0) (h1 : (¬ (x1 < x2))) (h2 : (x1 < (x2 + (1 : Nat)))) : (x1 = x2) := Nat.le_antisymm (Nat.le_of_lt_succ h2) (Nat.le_of_not_lt h1)
theorem ar152 {x0 : Nat} (h0 : ((130 : Nat) < x0)) : (¬ (x0 ∈ [(122 : Nat)])) := (nin1 (Nat.ne_of_gt (Nat.le_of_succ_le (Nat.le_trans (Nat.add_le_add_right (by decide : 122 + 1 ≤ 130) 1) h0))))
theorem ar153 {x0 : Nat} {x1 : Nat} (h0 : ((130 : Nat) < x0)) (h1 : (x0 < x1)) : (¬ (x1 ∈ [(122 : Nat)])) := (nin1 (Nat.ne_of_gt (Nat.le_trans (Nat.add_le_add_left (show 1 ≤ 3 by decide) _) (Nat.le_trans (Nat.add_le_add_right (Nat.le_trans (Nat.add_le_add_right (by decide : 122 + 1 ≤ 130) 1) h0) 1) h1))))
theorem ar154 {x0 : Nat} {x1 : Nat} {x2 : Nat} {x3 : Nat} (h0 : ((130 : Nat) < x0)) (h1 : (x0 < x1)) (h2 : (x1 < x2)) (h3 : (x2 ≤ x3)) : (¬ (x3 ∈ [(122 : Nat)])) := (nin1 (Nat.ne_of_gt (Nat.le_trans (Nat.add_le_add_left (show 1 ≤ 4 by decide) _) (Nat.le_trans (Nat.le_trans (Nat.add_le_add_right (Nat.le_trans (Nat.add_le_add_right (Nat.le_trans (Nat.add_le_add_right (by decide : 122 + 1 ≤ 130) 1) h0) 1) h1) 1) h2) h3))))
theorem ar155 {x0 : Nat} {x1 : Nat} (h0 : ((x0 + x1) < (262144 : Nat))) : (x1 < (2 ^ 18 : Nat)) := Nat.lt_of_le_of_lt (Nat.le_add_left x1 x0) h0
theorem ar156 {x0 : Nat} {x1 : Nat} {x2 : Nat} (h0 : ((x0 + x1) ≤ x2)) (h1 : (x2 < (2 ^ 18 : Nat))) : (x0 < (2 ^ 18 : Nat)) := Nat.lt_of_le_of_lt (Nat.le_trans (Nat.le_add_right x0 x1) h0) h1
theorem ar157 {x0 : Nat} {x1 : Nat} {x2 : Nat} (h0 : (x0 < (2 ^ 18 : Nat))) (h1 : ((x1 + (x2 + (1 : Nat))) = x0)) : (x1 < (2 ^ 18 : Nat)) := Nat.lt_of_le_of_lt (Nat.le_trans (Nat.le_add_right x1 (x2 + 1)) (Nat.le_of_eq h1)) h0
theorem ar158 {x0 : Nat} (h0 : (x0 < (2 ^ 18 : Nat))) : (x0 < (2 ^ 20 : Nat)) := (Nat.le_of_succ_le (Nat.le_trans (Nat.add_le_add_right h0 1) (by decide : 262144 + 1 ≤ 1048576)))
theorem ar159 {x0 : Nat} {x1 : Nat} {x2 : Nat} (h0 : ((x0 + x1) ≤ x2)) (h1 : (x2 < (2 ^ 18 : Nat))) : (x1 < (2 ^ 18 : Nat)) := Nat.lt_of_le_of_lt (Nat.le_trans (Nat.le_add_left x1 x0) h0) h1
theorem ar160 {x0 : Nat} (h0 : (x0 < (2 ^ 18 : Nat))) : (x0 < (2 ^ 18 : Nat)) := h0
theorem ar161 {x0 : Nat} {x1 : Nat} {x2 : Nat} {x3 : Nat} (h0 : ((x0 + x1) ≤ x2)) (h1 : ((x3 + x2) < (262144 : Nat))) : (x0 < (2 ^ 18 : Nat)) := Nat.lt_of_le_of_lt (Nat.le_trans (Nat.le_trans (Nat.le_add_right x0 x1) h0) (Nat.le_add_left x2 x3)) h1
theorem ar162 {x0 : Nat} {x1 : Nat} {x2 : Nat} {x3 : Nat} (h0 : ((x0 + x1) ≤ x2)) (h1 : ((x3 + x2) < (262144 : Nat))) : (x1 < (2 ^ 18 : Nat)) := Nat.lt_of_le_of_lt (Nat.le_trans (Nat.le_trans (Nat.le_add_left x1 x0) h0) (Nat.le_add_left x2 x3)) h1
theorem ar163 {x0 : Nat} {x1 : Nat} {x2 : Nat} {x3 : Nat} (h0 : (x0 < (2 ^ 18 : Nat))) (h1 : (x1 ≤ x2)) (h2 : ((x2 + (x3 + (1 : Nat))) = x0)) : (x1 < (2 ^ 18 : Nat)) := Nat.lt_of_le_of_lt h1 (Nat.lt_of_le_of_lt (Nat.le_trans (Nat.le_add_right x2 (x3 + 1)) (Nat.le_of_eq h2)) h0)
theorem ar164 {x0 : Nat} {x1 : Nat} (h0 : (x0 = x1)) (h1 : (x0 < (2 ^ 18 : Nat))) : (x0 < (2 ^ 20 : Nat)) := (Nat.le_of_succ_le (Nat.le_trans (Nat.add_le_add_right h1 1) (by decide : 262144 + 1 ≤ 1048576)))
theorem ar165 {x0 : Nat} : ((x0 + (1 : Nat)) ≤ (x0 + (6 : Nat))) := (Nat.add_le_add_left (by decide : 1 ≤ 6) _)
theorem ar166 {x0 : Nat} {x1 : Nat} {x2 : Nat} {x3 : Nat} {x4 : Nat} (h0 : ((130 : Nat) < x0)) (h1 : (x1 = (x2 + (1 : Nat)))) (h2 : (x3 ≤ x2)) (h3 : (x0 < x4)) (h4 : (x4 < x3)) : ((130 : Nat) < x1) := (Nat.le_trans (Nat.add_le_add_left (show 1 ≤ 4 by decide) _) (Nat.le_trans (Nat.add_le_add_right (Nat.le_trans (Nat.le_trans (Nat.add_le_add_right (Nat.le_trans (Nat.add_le_add_right h0 1) h3) 1) h4) h2) 1) (Nat.le_of_eq (Eq.symm h1))))
theorem ar167 {x0 : Nat} {x1 : Nat} {x2 : Nat} (h0 : (x0 ≤ x1)) (h1 : (x2 < x0)) : (x2 < x1) := (Nat.le_trans h1 h0)
theorem ar168 {x0 : Nat} : ((x0 + (1 : Nat)) ≤ (x0 + (7 : Nat))) := (Nat.add_le_add_left (by decide : 1 ≤ 7) _)
theorem ar169 {x0 : Nat} : ((x0 + (2 : Nat)) ≤ (x0 + (7 : Nat))) := (Nat.add_le_add_left (by decide : 2 ≤ 7) _)
theorem ar170 {x0 : Nat} {x1 : Nat} {x2 : Nat} (h0 : (x0 < x1)) (h1 : (x1 ≤ x2)) : (x0 < x2) := (Nat.le_trans h0 h1)
theorem ar171 {x0 : Nat} {x1 : Nat} {x2 : Nat} {x3 : Nat} (h0 : (x0 ≤ x1)) (h1 : (x2 < x0)) (h2 : (x1 < x3)) : (x2 < x3) := (Nat.le_of_succ_le (Nat.le_trans (Nat.add_le_add_right (Nat.le_trans h1 h0) 1) h2))
theorem ar172 {x0 : Nat} {x1 : Nat} {x2 : Nat} (h0 : (x0 ≤ x1)) (h1 : (x2 < x0)) : (x2 ≠ x1) := (Nat.ne_of_lt (Nat.le_trans h1 h0))
theorem ar173 {x0 : Nat} {x1 : Nat} {x2 : Nat} (h0 : (x0 ≤ x1)) (h1 : (x2 < x0)) : (x1 ≠ x2) := (Nat.ne_of_gt (Nat.le_trans h1 h0))
theorem ar174 {x0 : Nat} {x1 : Nat} (h0 : ((150 : Nat) < x0)) (h1 : (x1 = x0)) : (¬ (x1 ∈ [(117 : Nat)])) := (nin1 (Nat.ne_of_gt (Nat.le_of_succ_le (Nat.le_trans (Nat.le_trans (Nat.add_le_add_right (by decide : 117 + 1 ≤ 150) 1) h0) (Nat.le_of_eq (Eq.symm h1))))))
theorem ar175 {x0 : Nat} {x1 : Nat} {x2 : Nat} (h0 : (x0 < x1)) (h1 : (x1 ≤ x2)) : (¬ (x2 ∈ [x0])) := (nin1 (Nat.ne_of_gt (Nat.le_trans h0 h1)))
theorem ar176 {x0 : Nat} {x1 : Nat} {x2 : Nat} {x3 : Nat} {x4 : Nat} {x5 : Nat} {x6 : Nat} {x7 : Nat} (h0 : (x0 < x1)) (h1 : (x1 ≤ x2)) (h2 : (x3 ≤ x4)) (h3 : (x2 < x3)) (h4 : (x4 < x5)) (h5 : (x6 = x5)) (h6 : (x6 ≤ x7)) : (¬ (x7 ∈ [x0])) := (nin1 (Nat.ne_of_gt (Nat.le_trans (Nat.add_le_add_left (show 1 ≤ 3 by decide) _) (Nat.le_trans (Nat.le_trans (Nat.le_trans (Nat.add_le_add_right (Nat.le_trans (Nat.le_trans (Nat.add_le_add_right (Nat.le_trans h0 h1) 1) h3) h2) 1) h4) (Nat.le_of_eq (Eq.symm h5))) h6))))
theorem ar177 {x0 : Nat} {x1 : Nat} (h0 : (x0 = (2 : Nat))) (h1 : (x1 = (1 : Nat))) : (x0 ≠ x1) := (Nat.ne_of_gt (Nat.le_trans (Nat.le_trans (Nat.add_le_add_right (Nat.le_of_eq h1) 1) (by decide : 1 + 1 ≤ 2)) (Nat.le_of_eq (Eq.symm h0))))
theorem ar178 {x0 : Nat} {x1 : Nat} {x2 : Nat} {x3 : Nat} (h0 : (x0 = x1)) (h1 : (x2 < x0)) (h2 : (x3 = x0)) : (¬ (x3 ∈ [x2])) := (nin1 (Nat.ne_of_gt (Nat.le_trans h1 (Nat.le_of_eq (Eq.symm h2)))))
theorem ar179 {x0 : Nat} {x1 : Nat} (h0 : ((150 : Nat) < x0)) (h1 : (x1 = x0)) : ((130 : Nat) < x1) := (Nat.le_of_succ_le (Nat.le_trans (Nat.le_trans (Nat.add_le_add_right (by decide : 130 + 1 ≤ 150) 1) h0) (Nat.le_of_eq (Eq.symm h1))))
theorem ar180 {x0 : Nat} {x1 : Nat} {x2 : Nat} {x3 : Nat} {x4 : Nat} (h0 : (x0 < x1)) (h1 : (x1 ≤ x2)) (h2 : (x3 ≤ x4)) (h3 : (x2 < x3)) : (x0 < x4) := (Nat.le_of_succ_le (Nat.le_trans (Nat.le_trans (Nat.add_le_add_right (Nat.le_trans h0 h1) 1) h3) h2))
theorem ar181 {x0 : Nat} {x1 : Nat} {x2 : Nat} {x3 : Nat} {x4 : Nat} (h0 : (x0 ≤ x1)) (h1 : (x2 < x0)) (h2 : (x1 < x3)) (h3 : (x4 = x3)) : (x2 < x3) := (Nat.le_of_succ_le (Nat.le_trans (Nat.add_le_add_right (Nat.le_trans h1 h0) 1) h2))
theorem ar182 {x0 : Nat} {x1 : Nat} {x2 : Nat} (h0 : (x0 = x1)) (h1 : (x0 ≤ x2)) : (x1 ≤ x2) := (Nat.le_trans (Nat.le_of_eq (Eq.symm h0)) h1)
theorem ar183 {x0 : Nat} {x1 : Nat} {x2 : Nat} {x3 : Nat} {x4 : Nat} {x5 : Nat} (h0 : (x0 = x1)) (h1 : (x0 ≤ x2)) (h2 : (x3 = x4)) (h3 : (x2 < x3)) (h4 : (x5 = x3)) : (x1 ≤ x5) := (Nat.le_of_succ_le (Nat.le_trans (Nat.le_trans (Nat.add_le_add_right (Nat.le_trans (Nat.le_of_eq (Eq.symm h0)) h1) 1) h3) (Nat.le_of_eq (Eq.symm h4))))
theorem ar184 {x0 : Nat} {x1 : Nat} {x2 : Nat} {x3 : Nat} (h0 : (x0 = x1)) (h1 : (x2 < x0)) (h2 : (x3 = x0)) : (x2 < (x3 + (1 : Nat))) := (Nat.le_of_succ_le (Nat.le_trans (Nat.add_le_add_right h1 1) (Nat.add_le_add_right (Nat.le_of_eq (Eq.symm h2)) 1)))
theorem ar185 {x0 : Nat} {x1 : Nat} {x2 : Nat} {x3 : Nat} (h0 : (x0 = x1)) (h1 : (x2 < x0)) (h2 : (x3 = x0)) : (x2 ≠ x3) := (Nat.ne_of_lt (Nat.le_trans h1 (Nat.le_of_eq (Eq.symm h2))))
theorem ar186 {x0 : Nat} {x1 : Nat} {x2 : Nat} {x3 : Nat} (h0 : (x0 ≤ x1)) (h1 : (x2 ≤ x3)) (h2 : (x1 < x2)) : (x0 ≤ x3) := (Nat.le_of_succ_le (Nat.le_trans (Nat.le_trans (Nat.add_le_add_right h0 1) h2) h1))
theorem ar187 {x0 : Nat} {x1 : Nat} {x2 : Nat} {x3 : Nat} {x4 : Nat} (h0 : (x0 ≤ x1)) (h1 : (x2 = x3)) (h2 : (x1 < x2)) (h3 : (x4 = x2)) : (x0 ≤ x4) := (Nat.le_of_succ_le (Nat.le_trans (Nat.le_trans (Nat.add_le_add_right h0 1) h2) (Nat.le_of_eq (Eq.symm h3))))
theorem ar188 {x0 : Nat} {x1 : Nat} (h0 : ((150 : Nat) < x0)) (h1 : (x1 = x0)) : (¬ ((117 : Nat) ∈ [x1])) := (nin1 (Nat.ne_of_lt (Nat.le_of_succ_le (Nat.le_trans (Nat.le_trans (Nat.add_le_add_right (by decide : 117 + 1 ≤ 150) 1) h0) (Nat.le_of_eq (Eq.symm h1))))))
theorem ar189 {x0 : Nat} : ((x0 + (6 : Nat)) ≤ (x0 + (7 : Nat))) := (Nat.add_le_add_left (by decide : 6 ≤ 7) _)
theorem ar190 {x0 : Nat} {x1 : Nat} {x2 : Nat} (h0 : (x0 = x1)) (h1 : (x2 = x1)) : (x2 ≤ x0) := (Nat.le_trans (Nat.le_of_eq h1) (Nat.le_of_eq (Eq.symm h0)))
theorem ar191 {x0 : Nat} {x1 : Nat} {x2 : Nat} {x3 : Nat} {x4 : Nat} {x5 : Nat} (h0 : (x0 = x1)) (h1 : (x2 = x3)) (h2 : (x0 < x2)) (h3 : (x4 = x2)) (h4 : (x5 = x1)) : (x1 ≤ x4) := (Nat.le_of_succ_le (Nat.le_trans (Nat.le_trans (Nat.add_le_add_right (Nat.le_of_eq (Eq.symm h0)) 1) h2) (Nat.le_of_eq (Eq.symm h3))))
theorem ar192 {x0 : Nat} {x1 : Nat} {x2 : Nat} {x3 : Nat} {x4 : Nat} {x5 : Nat} {x6 : Nat} {x7 : Nat} {x8 : Nat} {x9 : Nat} (h0 : (x0 = x1)) (h1 : (x0 < x2)) (h2 : (x2 ≤ x3)) (h3 : (x4 ≤ x5)) (h4 : (x3 < x4)) (h5 : (x5 < x6)) (h6 : (x7 = x6)) (h7 : (x7 ≤ x8)) (h8 : (x9 = x1)) : (x1 ≤ x8) := Nat.le_trans (Nat.le_of_eq h0.symm) (Nat.le_trans (Nat.le_of_lt h1) (Nat.le_trans h2 (Nat.le_trans (Nat.le_of_lt h4) (Nat.le_trans h3 (Nat.le_trans (Nat.le_of_lt h5) (Nat.le_trans (Nat.le_of_eq h6.symm) h7))))))
theorem ar193 {x0 : Nat} {x1 : Nat} {x2 : Nat} {x3 : Nat} {x4 : Nat} {x5 : Nat} (h0 : (x0 = x1)) (h1 : (x2 = x3)) (h2 : (x0 < x2)) (h3 : (x4 = x2)) (h4 : (x5 = x1)) : (x1 ≤ (x4 + (1 : Nat))) := (Nat.le_trans (Nat.add_le_add_left (show 0 ≤ 2 by decide) _) (Nat.le_trans (Nat.add_le_add_right (Nat.le_trans (Nat.add_le_add_right (Nat.le_of_eq (Eq.symm h0)) 1) h2) 1) (Nat.add_le_add_right (Nat.le_of_eq (Eq.symm h3)) 1)))
theorem ar194 {x0 : Nat} (h0 : (x0 < (2 ^ 20 : Nat))) : ((0 : Int) ≤ ((x0 : Nat) : Int)) := Int.natCast_nonneg x0
theorem ar195 {x0 : Nat} {x1 : Nat} {x2 : Nat} {x3 : Nat} (h0 : (x0 < (2 ^ 16 : Nat))) (h1 : (x1 = x0)) (h2 : ((x2 + x3) ≤ ((3 : Nat) * x1))) : ((x2 + x3) ≤ (2 ^ 20 : Nat)) := Nat.le_trans h2 (Nat.le_trans (Nat.mul_le_mul_left 3 (Nat.le_trans (Nat.le_of_eq h1) (Nat.le_of_lt h0))) (by decide : 3 * 2 ^ 16 ≤ 2 ^ 20))
theorem ar196 {x0 : Nat} {x1 : Nat} {x2 : Nat} (h0 : (x0 < (2 ^ 16 : Nat))) (h1 : (x1 = x0)) (h2 : (x2 ≤ ((2 : Nat) * x1))) : (((1 : Nat) + x2) ≤ (16777216 : Nat)) := Nat.le_trans (Nat.add_le_add_left (Nat.le_trans h2 (Nat.mul_le_mul_left 2 (Nat.le_trans (Nat.le_of_eq h1) (Nat.le_of_lt h0)))) 1) (by decide : 1 + 2 * 2 ^ 16 ≤ 16777216)
theorem ar197 {x0 : Nat} {x1 : Nat} {x2 : Nat} (h0 : (x0 < (2 ^ 16 : Nat))) (h1 : (x1 = x0)) (h2 : (x2 ≤ ((2 : Nat) * x1))) : ((((1 : Nat) + x2) + (1 : Nat)) ≤ (16777216 : Nat)) := Nat.le_trans (Nat.add_le_add_right (Nat.add_le_add_left (Nat.le_trans h2 (Nat.mul_le_mul_left 2 (Nat.le_trans (Nat.le_of_eq h1) (Nat.le_of_lt h0)))) 1) 1) (by decide : 1 + 2 * 2 ^ 16 + 1 ≤ 16777216)
theorem ar198 {x0 : Nat} (h0 : (x0 < (2 ^ 16 : Nat))) : (x0 < (2 ^ 20 : Nat)) := (Nat.le_of_succ_le (Nat.le_trans (Nat.add_le_add_right h0 1) (by decide : 65536 + 1 ≤ 1048576)))
theorem ar199 {x0 : Nat} (h0 : (x0 < (2 ^ 16 : Nat))) : (x0 < (2 ^ 62 : Nat)) := (Nat.le_of_succ_le (Nat.le_trans (Nat.add_le_add_right h0 1) (by decide : 65536 + 1 ≤ 4611686018427387904)))
theorem ar200 {x0 : Nat} {x1 : Nat} (h0 : (x0 < (2 ^ 16 : Nat))) (h1 : (x1 < x0)) : (x1 < (2 ^ 20 : Nat)) := (Nat.le_trans (Nat.add_le_add_left (show 1 ≤ 3 by decide) _) (Nat.le_trans (Nat.add_le_add_right (Nat.le_trans (Nat.add_le_add_right h1 1) h0) 1) (by decide : 65536 + 1 ≤ 1048576)))
theorem ar201 {x0 : Nat} {x1 : Nat} {x2 : Nat} {x3 : Nat} (h0 : (x0 < (2 ^ 16 : Nat))) (h1 : (x0 = x1)) (h2 : ((x2 + x3) ≤ ((3 : Nat) * x1))) : ((x2 + x3) ≤ (2 ^ 20 : Nat)) := Nat.le_trans h2 (Nat.le_trans (Nat.mul_le_mul_left 3 (Nat.le_trans (Nat.le_of_eq h1.symm) (Nat.le_of_lt h0))) (by decide : 3 * 2 ^ 16 ≤ 2 ^ 20))
theorem ar202 {y0 : Int} (h0 : ((0 : Int) ≤ y0)) (h1 : (y0 < (1000 : Int))) : (y0 < (10 ^ 10 : Int)) := Int.lt_of_lt_of_le h1 (by decide)
theorem ar203 {x0 : Nat} (h0 : (((48 : Nat) ≤ x0) ∧ (x0 ≤ (57 : Nat)))) : ((x0 - (48 : Nat)) < (10 : Nat)) := Nat.lt_of_le_of_lt (Nat.sub_le_sub_right h0.2 48) (by decide : 57 - 48 < 10)
theorem ar204 {x0 : Nat} (h0 : (((48 : Nat) ≤ x0) ∧ (x0 ≤ (57 : Nat)))) : (x0 < (58 : Nat)) := (Nat.le_trans (Nat.add_le_add_right h0.2 1) (by decide : 57 + 1 ≤ 58))
theorem ar205 {x0 : Nat} {x1 : Nat} {x2 : Nat} {x3 : Nat} {x4 : Nat} (h0 : (x0 = x1)) (h1 : ((x0 + (1 : Nat)) < x2)) (h2 : (x3 = x2)) (h3 : (x4 = (x2 + (1 : Nat)))) : (¬ (x3 ∈ [(x0 + (1 : Nat))])) := (nin1 (Nat.ne_of_gt (Nat.le_trans h1 (Nat.le_of_eq (Eq.symm h2)))))
theorem ar206 {x0 : Nat} {x1 : Nat} {x2 : Nat} {x3 : Nat} {x4 : Nat} {x5 : Nat} {x6 : Nat} {x7 : Nat} {x8 : Nat} {x9 : Nat} {x10 : Nat} {x11 : Nat} {x12 : Nat} {x13 : Nat} {x14 : Nat} {x15 : Nat} {x16 : Nat} {x17 : Nat} {x18 : Nat} {x19 : Nat} {x20 : Nat} (h0 : (x0 = x1)) (h1 : (x2 = (x1 + (1 : Nat)))) (h2 : (x3 = (x1 + (1 : Nat)))) (h3 : (x4 = x3)) (h4 : (x5 = (x3 + (1 : Nat)))) (h5 : (x6 = x5)) (h6 : (x7 = (x5 + (1 : Nat)))) (h7 : (x8 = x7)) (h8 : (x9 = (x7 + (1 : Nat)))) (h9 : (x10 = x9)) (h10 : (x11 = (x9 + (1 : Nat)))) (h11 : (x12 = x11)) (h12 : (x13 = (x11 + (1 : Nat)))) (h13 : (x14 = x13)) (h14 : (x15 = (x13 + (1 : Nat)))) (h15 : (x16 = x15)) (h16 : (x17 = (x15 + (1 : Nat)))) (h17 : (x18 = x17)) (h18 : (x19 = (x17 + (1 : Nat)))) (h19 : (x20 = x19)) : (x1 < x20) := Nat.lt_of_lt_of_eq (Nat.lt_trans (up h2) (Nat.lt_trans (up h4) (Nat.lt_trans (up h6) (Nat.lt_trans (up h8) (Nat.lt_trans (up h10) (Nat.lt_trans (up h12) (Nat.lt_trans (up h14) (Nat.lt_trans (up h16) (up h18))))))))) h19.symm
theorem ar207 {x0 : Nat} {x1 : Nat} {x2 : Nat} (h0 : (x0 = x1)) (h1 : (x2 = (x1 + (1 : Nat)))) : (x0 < x2) := (Nat.le_trans (Nat.add_le_add_right (Nat.le_of_eq h0) 1) (Nat.le_of_eq (Eq.symm h1)))
theorem ar208 {x0 : Nat} {x1 : Nat} {x2 : Nat} {x3 : Nat} {x4 : Nat} {x5 : Nat} {x6 : Nat} {x7 : Nat} {x8 : Nat} (h0 : (x0 = x1)) (h1 : ((x0 + (1 : Nat)) < x2)) (h2 : (x3 = x2)) (h3 : (x4 = (x2 + (1 : Nat)))) (h4 : (x5 = (x2 + (1 : Nat)))) (h5 : (x2 < x6)) (h6 : (x6 < x7)) (h7 : (x8 = x7)) : (x0 < x8) := (Nat.le_trans (Nat.add_le_add_left (show 1 ≤ 4 by decide) _) (Nat.le_trans (Nat.le_trans (Nat.add_le_add_right (Nat.le_trans (Nat.add_le_add_right h1 1) h5) 1) h6) (Nat.le_of_eq (Eq.symm h7))))
theorem ar209 {x0 : Nat} {x1 : Nat} {x2 : Nat} {x3 : Nat} {x4 : Nat} {x5 : Nat} (h0 : (x0 = x1)) (h1 : (x2 < x3)) (h2 : (x4 = x3)) (h3 : (x0 < x4)) (h4 : ((x5 = x0) ∨ (x5 = x2))) : (x5 < x4) := h4.elim (fun q => Nat.lt_of_le_of_lt (Nat.le_of_eq q) h3) (fun q => Nat.lt_of_le_of_lt (Nat.le_of_eq q) (Nat.lt_of_lt_of_eq h1 h2.symm))
theorem ar210 {x0 : Nat} {x1 : Nat} {x2 : Nat} {x3 : Nat} {x4 : Nat} {x5 : Nat} {x6 : Nat} {x7 : Nat} (h0 : (x0 = x1)) (h1 : ((x0 + (1 : Nat)) < x2)) (h2 : (x3 = x2)) (h3 : (x4 = (x2 + (1 : Nat)))) (h4 : (x5 = (x2 + (1 : Nat)))) (h5 : (x2 < x6)) (h6 : (x7 < x1)) : (¬ (x7 ∈ [x0, x6])) := (nin2 (Nat.ne_of_lt (Nat.le_trans h6 (Nat.le_of_eq (Eq.symm h0)))) (Nat.ne_of_lt (Nat.le_trans (Nat.add_le_add_left (show 1 ≤ 4 by decide) _) (Nat.le_trans (Nat.add_le_add_right (Nat.le_trans (Nat.add_le_add_right (Nat.le_trans h6 (Nat.le_of_eq (Eq.symm h0))) 2) h1) 1) h5))))
theorem ar211 {x0 : Nat} {x1 : Nat} {x2 : Nat} (h0 : (x0 = x1)) (h1 : (x0 < x2)) : (¬ (x0 ∈ [x2])) := (nin1 (Nat.ne_of_lt h1))
theorem ar212 {x0 : Nat} {x1 : Nat} {x2 : Nat} {x3 : Nat} {x4 : Nat} {x5 : Nat} {x6 : Nat} {x7 : Nat} {x8 : Nat} (h0 : (x0 = x1)) (h1 : ((x0 + (1 : Nat)) < x2)) (h2 : (x3 = x2)) (h3 : (x4 = (x2 + (1 : Nat)))) (h4 : (x5 = (x2 + (1 : Nat)))) (h5 : (x2 < x6)) (h6 : (x6 < x7)) (h7 : (x8 = x7)) : (¬ ((x0 + (1 : Nat)) ∈ [x8])) := (nin1 (Nat.ne_of_lt (Nat.le_trans (Nat.add_le_add_left (show 2 ≤ 4 by decide) _) (Nat.le_trans (Nat.le_trans (Nat.add_le_add_right (Nat.le_trans (Nat.add_le_add_right h1 1) h5) 1) h6) (Nat.le_of_eq (Eq.symm h7))))))
theorem ar213 {x0 : Nat} {x1 : Nat} {x2 : Nat} {x3 : Nat} {x4 : Nat} {x5 : Nat} {x6 : Nat} (h0 : (x0 = x1)) (h1 : (x2 = (x1 + (1 : Nat)))) (h2 : (x3 = (x1 + (1 : Nat)))) (h3 : (x1 < x4)) (h4 : (x4 < x5)) (h5 : (x6 = x5)) : (¬ (x0 ∈ [x6])) := (nin1 (Nat.ne_of_lt (Nat.le_of_succ_le (Nat.le_trans (Nat.le_trans (Nat.add_le_add_right (Nat.le_trans (Nat.add_le_add_right (Nat.le_of_eq h0) 1) h3) 1) h4) (Nat.le_of_eq (Eq.symm h5))))))
theorem ar214 {x0 : Nat} {x1 : Nat} {x2 : Nat} (h0 : (x0 < x1)) (h1 : (x2 = x1)) : (¬ (x0 ∈ [x2])) := (nin1 (Nat.ne_of_lt (Nat.le_trans h0 (Nat.le_of_eq (Eq.symm h1)))))
theorem ar215 {x0 : Nat} {x1 : Nat} {x2 : Nat} {x3 : Nat} (h0 : (x0 = x1)) (h1 : (x0 < x2)) (h2 : (x3 < x1)) : (¬ (x3 ∈ [x2])) := (nin1 (Nat.ne_of_lt (Nat.le_of_succ_le (Nat.le_trans (Nat.add_le_add_right (Nat.le_trans h2 (Nat.le_of_eq (Eq.symm h0))) 1) h1))))
theorem ar216 {x0 : Nat} (h0 : (x0 ≤ (10 : Nat))) : (x0 < (2 ^ 20 : Nat)) := (Nat.le_trans (Nat.add_le_add_right h0 1) (by decide : 10 + 1 ≤ 1048576))
theorem ar217 {x0 : Nat} {x1 : Nat} (h0 : (x0 = x1)) : (x0 ≤ x1) := (Nat.le_of_eq h0)
theorem ar218 {x0 : Nat} (h0 : (x0 < (10 : Nat))) : ((0 : Int) ≤ ((x0 : Nat) : Int)) := Int.natCast_nonneg x0
theorem ar219 {x0 : Nat} (h0 : (x0 < (10 : Nat))) : (((x0 : Nat) : Int) < (2 ^ 63 : Int)) := Int.lt_of_lt_of_le (Int.ofNat_lt.mpr h0) (by decide : ((10 : Nat) : Int) ≤ 2 ^ 63)
theorem ar220 {x0 : Nat} {x1 : Nat} {x2 : Nat} (h0 : (x0 ≤ (10 : Nat))) (h1 : (x1 = x0)) (h2 : (x2 ≤ x1)) : ((x2 + x1) ≤ (2 ^ 20 : Nat)) := Nat.le_trans (Nat.add_le_add (Nat.le_trans h2 (Nat.le_trans (Nat.le_of_eq h1) h0)) (Nat.le_trans (Nat.le_of_eq h1) h0)) (by decide : 10 + 10 ≤ 2 ^ 20)
theorem ar221 {x0 : Nat} {x1 : Nat} {x2 : Nat} (h0 : (x0 ≤ (10 : Nat))) (h1 : (x1 = x0)) (h2 : (x2 ≤ x1)) : (x2 ≤ (100 : Nat)) := (Nat.le_of_succ_le (Nat.le_trans (Nat.add_le_add_right (Nat.le_trans (Nat.le_trans h2 (Nat.le_of_eq h1)) h0) 1) (by decide : 10 + 1 ≤ 100)))
theorem ar222 {x0 : Nat} {x1 : Nat} {x2 : Nat} {x3 : Nat} {x4 : Nat} {x5 : Nat} {x6 : Nat} (h0 : (x0 = x1)) (h1 : ((x0 + (1 : Nat)) < x2)) (h2 : (x3 = x2)) (h3 : (x4 = (x2 + (1 : Nat)))) (h4 : (x5 = (x2 + (1 : Nat)))) (h5 : (x2 < x6)) : (¬ (x6 ∈ [x0])) := (nin1 (Nat.ne_of_gt (Nat.le_trans (Nat.add_le_add_left (show 1 ≤ 3 by decide) _) (Nat.le_trans (Nat.add_le_add_right h1 1) h5))))
theorem ar223 {y0 : Int} (h0 : ((0 : Int) ≤ y0)) (h1 : (y0 < (3 : Int))) : ((Int.toNat y0) < (3 : Nat)) := (Int.toNat_lt h0).mpr h1
theorem ar224 {y0 : Int} (h0 : ((0 : Int) ≤ y0)) (h1 : (y0 < (3 : Int))) : (y0 < (2 ^ 63 : Int)) := Int.lt_of_lt_of_le h1 (by decide)
theorem ar225 {x0 : Nat} {x1 : Nat} {x2 : Nat} {x3 : Nat} (h0 : (x0 ≤ (100 : Nat))) (h1 : (x1 = x2)) (h2 : (x2 < x0)) (h3 : (x3 = (8 : Nat))) : ((x3 + x2) ≤ (200 : Nat)) := Nat.le_trans (Nat.add_le_add (Nat.le_of_eq h3) (Nat.le_trans (Nat.le_of_lt h2) h0)) (by decide : 8 + 100 ≤ 200)
theorem ar226 {x0 : Nat} (h0 : (x0 ≤ (200 : Nat))) : (x0 < (2 ^ 20 : Nat)) := (Nat.le_trans (Nat.add_le_add_right h0 1) (by decide : 200 + 1 ≤ 1048576))
theorem ar227 {x0 : Nat} {x1 : Nat} {x2 : Nat} (h0 : (x0 = (x1 + (1 : Nat)))) (h1 : (x2 < x1)) : (¬ (x0 ∈ [x2])) := (nin1 (Nat.ne_of_gt (Nat.le_of_succ_le (Nat.le_trans (Nat.add_le_add_right h1 1) (Nat.le_of_eq (Eq.symm h0))))))
theorem ar228 {x0 : Nat} {x1 : Nat} {x2 : Nat} {x3 : Nat} {x4 : Nat} {x5 : Nat} {x6 : Nat} (h0 : (x0 = x1)) (h1 : ((x0 + (1 : Nat)) < x2)) (h2 : (x3 = x2)) (h3 : (x4 = (x2 + (1 : Nat)))) (h4 : (x5 = (x2 + (1 : Nat)))) (h5 : (x2 < x6)) : (¬ (x0 ∈ [x6])) := (nin1 (Nat.ne_of_lt (Nat.le_trans (Nat.add_le_add_left (show 1 ≤ 3 by decide) _) (Nat.le_trans (Nat.add_le_add_right h1 1) h5))))
theorem ar229 {x0 : Nat} {x1 : Nat} {x2 : Nat} {x3 : Nat} {x4 : Nat} {x5 : Nat} {x6 : Nat} (h0 : (x0 = x1)) (h1 : ((x0 + (1 : Nat)) < x2)) (h2 : (x3 = x2)) (h3 : (x4 = (x2 + (1 : Nat)))) (h4 : (x5 = (x2 + (1 : Nat)))) (h5 : (x2 < x6)) : (¬ ((x0 + (1 : Nat)) ∈ [x6])) := (nin1 (Nat.ne_of_lt (Nat.le_of_succ_le (Nat.le_trans (Nat.add_le_add_right h1 1) h5))))
theorem ar230 {x0 : Nat} {x1 : Nat} {x2 : Nat} {x3 : Nat} {x4 : Nat} {x5 : Nat} (h0 : (x0 = x1)) (h1 : ((x0 + (1 : Nat)) < x2)) (h2 : (x3 = x2)) (h3 : (x4 = (x2 + (1 : Nat)))) (h4 : (x5 = (x2 + (1 : Nat)))) : (¬ (x3 ∈ [x0])) := (nin1 (Nat.ne_of_gt (Nat.le_of_succ_le (Nat.le_trans h1 (Nat.le_of_eq (Eq.symm h2))))))
theorem ar231 {x0 : Nat} {x1 : Nat} {x2 : Nat} {x3 : Nat} {x4 : Nat} (h0 : (x0 = x1)) (h1 : (x2 = (x1 + (1 : Nat)))) (h2 : (x3 = (x1 + (1 : Nat)))) (h3 : (x1 < x4)) : (¬ (x0 ∈ [x4])) := (nin1 (Nat.ne_of_lt (Nat.le_trans (Nat.add_le_add_right (Nat.le_of_eq h0) 1) h3)))
theorem ar232 {x0 : Nat} {x1 : Nat} {x2 : Nat} {x3 : Nat} {x4 : Nat} {x5 : Nat} {x6 : Nat} {x7 : Nat} (h0 : (x0 = x1)) (h1 : ((x0 + (1 : Nat)) < x2)) (h2 : (x3 = x2)) (h3 : (x4 = (x2 + (1 : Nat)))) (h4 : (x5 = (x2 + (1 : Nat)))) (h5 : (x2 < x6)) (h6 : (x7 < x1)) : (¬ (x7 ∈ [x6])) := (nin1 (Nat.ne_of_lt (Nat.le_trans (Nat.add_le_add_left (show 1 ≤ 4 by decide) _) (Nat.le_trans (Nat.add_le_add_right (Nat.le_trans (Nat.add_le_add_right (Nat.le_trans h6 (Nat.le_of_eq (Eq.symm h0))) 2) h1) 1) h5))))
theorem ar233 {x0 : Nat} {x1 : Nat} {x2 : Nat} {x3 : Nat} {x4 : Nat} {x5 : Nat} {x6 : Nat} (h0 : (x0 = x1)) (h1 : ((x0 + (1 : Nat)) < x2)) (h2 : (x3 = x2)) (h3 : (x4 = (x2 + (1 : Nat)))) (h4 : (x5 = (x2 + (1 : Nat)))) (h5 : (x2 < x6)) : (x1 ≤ x6) := (Nat.le_trans (Nat.add_le_add_left (show 0 ≤ 3 by decide) _) (Nat.le_trans (Nat.add_le_add_right (Nat.le_trans (Nat.add_le_add_right (Nat.le_of_eq (Eq.symm h0)) 2) h1) 1) h5))
theorem ar234 {x0 : Nat} {x1 : Nat} {x2 : Nat} {x3 : Nat} (h0 : (x0 = x1)) (h1 : (x2 = (x0 + (1 : Nat)))) (h2 : (x3 < x1)) : (x3 ≤ x2) := (Nat.le_trans (Nat.add_le_add_left (show 0 ≤ 2 by decide) _) (Nat.le_trans (Nat.add_le_add_right (Nat.le_trans h2 (Nat.le_of_eq (Eq.symm h0))) 1) (Nat.le_of_eq (Eq.symm h1))))
theorem ar235 {x0 : Nat} (h0 : (x0 < (8999 : Nat))) : (x0 < (9000 : Nat)) := (Nat.le_of_succ_le (Nat.le_trans (Nat.add_le_add_right h0 1) (by decide : 8999 + 1 ≤ 9000)))
theorem ar236 {x0 : Nat} (h0 : (x0 < (8999 : Nat))) : (x0 < (9900 : Nat)) := (Nat.le_of_succ_le (Nat.le_trans (Nat.add_le_add_right h0 1) (by decide : 8999 + 1 ≤ 9900)))
theorem ar237 {x0 : Nat} {x1 : Nat} (h0 : ((x0 - (x1 + (1 : Nat))) = (0 : Nat))) (h1 : ((x1 + (1 : Nat)) ≤ x0)) : ((x1 + (1 : Nat)) = x0) := Nat.le_antisymm h1 (Nat.le_of_sub_eq_zero h0)
theorem ar238 {x0 : Nat} {x1 : Nat} {x2 : Nat} (h0 : ((x0 - (x1 + (1 : Nat))) = (x2 + (1 : Nat)))) (h1 : ((x1 + (1 : Nat)) ≤ x0)) : ((x1 + (1 : Nat)) < x0) := Nat.lt_of_sub_pos (Nat.lt_of_lt_of_eq (Nat.succ_pos x2) h0.symm)
theorem ar239 {x0 : Nat} {x1 : Nat} {x2 : Nat} (h0 : (x0 = x1)) (h1 : ((x2 + (1 : Nat)) < x1)) : ((x2 + (1 : Nat)) < x0) := (Nat.le_trans h1 (Nat.le_of_eq (Eq.symm h0)))
theorem ar240 {x0 : Nat} (h0 : (x0 < (8998 : Nat))) : ((x0 + (1 : Nat)) < (8999 : Nat)) := (Nat.le_trans (Nat.add_le_add_right h0 1) (by decide : 8998 + 1 ≤ 8999))
theorem ar241 {x0 : Nat} {x1 : Nat} {x2 : Nat} (h0 : ((x0 - (x1 + (1 : Nat))) = (x2 + (1 : Nat)))) (h1 : ((x1 + (1 : Nat)) < x0)) : ((x0 - ((x1 + (1 : Nat)) + (1 : Nat))) = x2) := congrArg Nat.pred h0
theorem ar242 {x0 : Nat} {x1 : Nat} {x2 : Nat} (h0 : (x0 = (x1 + (1 : Nat)))) (h1 : (x2 < x1)) : (¬ (x2 ∈ [x1])) := (nin1 (Nat.ne_of_lt h1))
theorem ar243 {x0 : Nat} (h0 : (x0 < (8998 : Nat))) : (x0 < (8998 : Nat)) := h0
theorem ar244 {x0 : Nat} {x1 : Nat} (h0 : (x0 = (x1 + (1 : Nat)))) : (x1 ≠ x0) := (Nat.ne_of_lt (Nat.le_of_eq (Eq.symm h0)))
theorem ar245 {x0 : Nat} {x1 : Nat} (h0 : ((x0 + ((10 : Nat) * (x1 + (1 : Nat)))) ≤ (9000 : Nat))) : (x0 < (8998 : Nat)) := Nat.lt_of_le_of_lt (Nat.le_sub_of_add_le (Nat.le_trans (Nat.add_le_add_left (Nat.le_mul_of_pos_right 10 (Nat.succ_pos x1)) x0) h0)) (by decide : 9000 - 10 < 8998)
theorem ar246 {x0 : Nat} {x1 : Nat} (h0 : (¬ (x0 < x1))) (h1 : (x0 < (x1 + (1 : Nat)))) : (x0 = x1) := Nat.le_antisymm (Nat.le_of_lt_succ h1) (Nat.le_of_not_lt h0)
theorem ar247 {x0 : Nat} {x1 : Nat} (h0 : (x0 < (2 ^ 16 : Nat))) (h1 : (x1 = x0)) : (x1 < (2 ^ 20 : Nat)) := (Nat.le_of_succ_le (Nat.le_trans (Nat.add_le_add_right (Nat.le_trans (Nat.add_le_add_right (Nat.le_of_eq h1) 1) h0) 1) (by decide : 65536 + 1 ≤ 1048576)))
theorem ar248 {x0 : Nat} {x1 : Nat} {x2 : Nat} (h0 : (x0 = x1)) : ((min x2 x1) ≤ x2) := Nat.min_le_left _ _
theorem ar249 {x0 : Nat} (h0 : (x0 < (2 ^ 16 : Nat))) : (x0 ≤ (16777216 : Nat)) := (Nat.le_trans (Nat.add_le_add_left (show 0 ≤ 2 by decide) _) (Nat.le_trans (Nat.add_le_add_right h0 1) (by decide : 65536 + 1 ≤ 16777216)))
theorem ar250 {x0 : Nat} {x1 : Nat} {x2 : Nat} {x3 : Nat} (h0 : (x0 = x1)) (h1 : ((x0 + (1 : Nat)) < x2)) (h2 : (x2 ≤ x3)) : (x0 < x3) := (Nat.le_of_succ_le (Nat.le_trans h1 h2))
theorem ar251 {x0 : Nat} {x1 : Nat} {x2 : Nat} {x3 : Nat} (h0 : (x0 = x1)) (h1 : ((x0 + (1 : Nat)) < x2)) (h2 : (x2 ≤ x3)) : (¬ (x3 ∈ [x0])) := (nin1 (Nat.ne_of_gt (Nat.le_of_succ_le (Nat.le_trans h1 h2))))
theorem ar252 {x0 : Nat} {x1 : Nat} {x2 : Nat} {x3 : Nat} {x4 : Nat} (h0 : (x0 ≤ x1)) (h1 : (x2 = x1)) (h2 : (x3 = (x2 + (1 : Nat)))) (h3 : (x4 = x3)) : (x0 ≤ x3) := (Nat.le_of_succ_le (Nat.le_trans (Nat.add_le_add_right (Nat.le_trans h0 (Nat.le_of_eq (Eq.symm h1))) 1) (Nat.le_of_eq (Eq.symm h2))))
theorem ar253 {x0 : Nat} {x1 : Nat} {x2 : Nat} (h0 : (x0 < x1)) (h1 : (x1 = x2)) : (x0 < x2) := (Nat.le_trans h0 (Nat.le_of_eq h1))
theorem ar254 {x0 : Nat} (h0 : (x0 ≤ (200 : Nat))) : (x0 ≤ (16777216 : Nat)) := (Nat.le_of_succ_le (Nat.le_trans (Nat.add_le_add_right h0 1) (by decide : 200 + 1 ≤ 16777216)))
theorem ar255 {x0 : Nat} {x1 : Nat} (h0 : (x0 ≤ (200 : Nat))) (h1 : (x1 ≤ x0)) : (x1 ≤ (5592405 : Nat)) := (Nat.le_of_succ_le (Nat.le_trans (Nat.add_le_add_right (Nat.le_trans h1 h0) 1) (by decide : 200 + 1 ≤ 5592405)))
theorem ar256 {x0 : Nat} {x1 : Nat} (h0 : (x0 ≤ (200 : Nat))) (h1 : (x1 = x0)) : (x1 < (2 ^ 20 : Nat)) := (Nat.le_trans (Nat.add_le_add_right (Nat.le_trans (Nat.le_of_eq h1) h0) 1) (by decide : 200 + 1 ≤ 1048576))
theorem ar257 {x0 : Nat} (h0 : (x0 ≤ (200 : Nat))) : (x0 ≤ (5592405 : Nat)) := (Nat.le_of_succ_le (Nat.le_trans (Nat.add_le_add_right h0 1) (by decide : 200 + 1 ≤ 5592405)))
theorem ar258 {x0 : Nat} {x1 : Nat} {x2 : Nat} {x3 : Nat} (h0 : (x0 = x1)) (h1 : (x0 < x2)) (h2 : (x2 ≤ x3)) : (x0 < x3) := (Nat.le_trans h1 h2)
theorem ar259 {x0 : Nat} {x1 : Nat} {x2 : Nat} {x3 : Nat} (h0 : (x0 = x1)) (h1 : (x0 < x2)) (h2 : (x2 ≤ x3)) : (¬ (x3 ∈ [x0])) := (nin1 (Nat.ne_of_gt (Nat.le_trans h1 h2)))
theorem ar260 {x0 : Nat} {x1 : Nat} (h0 : (x0 ≤ (200 : Nat))) (h1 : (x1 ≤ x0)) : (x1 ≤ (200 : Nat)) := (Nat.le_trans h1 h0)
theorem ar261 {x0 : Nat} {x1 : Nat} {x2 : Nat} (h0 : (x0 ≤ (200 : Nat))) (h1 : (x1 ≤ x0)) (h2 : (x2 ≤ ((3 : Nat) * x1))) : ((x2 + (1 : Nat)) ≤ (601 : Nat)) := Nat.add_le_add_right (Nat.le_trans h2 (Nat.mul_le_mul_left 3 (Nat.le_trans h1 h0))) 1
theorem ar262 {x0 : Nat} {x1 : Nat} {x2 : Nat} (h0 : (x0 ≤ (200 : Nat))) (h1 : (x1 ≤ x0)) (h2 : (x2 ≤ ((3 : Nat) * x1))) : (x2 < (2 ^ 20 : Nat)) := Nat.lt_of_le_of_lt (Nat.le_trans h2 (Nat.mul_le_mul_left 3 (Nat.le_trans h1 h0))) (by decide : 3 * 200 < 2 ^ 20)
theorem ar263 {x0 : Nat} {x1 : Nat} {x2 : Nat} (h0 : (x0 ≤ (200 : Nat))) (h1 : (x1 ≤ x0)) (h2 : (x2 ≤ ((3 : Nat) * x1))) : ((x2 + (1 : Nat)) < (2 ^ 62 : Nat)) := Nat.lt_of_le_of_lt (Nat.add_le_add_right (Nat.le_trans h2 (Nat.mul_le_mul_left 3 (Nat.le_trans h1 h0))) 1) (by decide : 3 * 200 + 1 < 2 ^ 62)
theorem ar264 {x0 : Nat} : (x0 ≤ (x0 + (1 : Nat))) := (Nat.le_add_right _ _)
theorem ar265 {x0 : Nat} {x1 : Nat} (h0 : (x0 < x1)) : (x0 ≤ x1) := (Nat.le_of_succ_le h0)
theorem ar266 {x0 : Nat} {x1 : Nat} {x2 : Nat} {x3 : Nat} {x4 : Nat} {x5 : Nat} (h0 : (x0 ≤ (200 : Nat))) (h1 : (x1 ≤ x0)) (h2 : (x2 ≤ ((3 : Nat) * x1))) (h3 : (x3 ≤ (x4 + x5))) (h4 : (x5 ≤ (x2 + (1 : Nat)))) (h5 : (x4 ≤ ((200 : Nat) * (601 : Nat)))) : (x3 < (2 ^ 20 : Nat)) := Nat.lt_of_le_of_lt (Nat.le_trans h3 (Nat.add_le_add h5 (Nat.le_trans h4 (Nat.succ_le_succ (Nat.le_trans h2 (Nat.mul_le_mul_left 3 (Nat.le_trans h1 h0))))))) (by decide : 200 * 601 + (3 * 200 + 1) < 2 ^ 20)
theorem ar267 {x0 : Nat} {x1 : Nat} (h0 : (x0 ≤ ((3 : Nat) * x1))) (h1 : (x1 ≤ (200 : Nat))) : (x0 ≤ (600 : Nat)) := Nat.le_trans h0 (Nat.mul_le_mul_left 3 h1)
theorem ar268 {x0 : Nat} (h0 : (x0 ≤ (600 : Nat))) : (x0 < (2 ^ 20 : Nat)) := (Nat.le_trans (Nat.add_le_add_right h0 1) (by decide : 600 + 1 ≤ 1048576))
theorem ar269 {x0 : Nat} {x1 : Nat} {x2 : Nat} (h0 : (x0 ≤ (200 : Nat))) (h1 : (x1 ≤ x0)) (h2 : (x2 ≤ ((3 : Nat) * x1))) : (x2 ≤ (16777216 : Nat)) := Nat.le_trans (Nat.le_trans h2 (Nat.mul_le_mul_left 3 (Nat.le_trans h1 h0))) (by decide : 3 * 200 ≤ 16777216)
theorem ar270 {x0 : Nat} {x1 : Nat} : ((((x0 : Nat) : Int) + ((x1 : Nat) : Int)) = (((x0 + x1) : Nat) : Int)) := rfl
theorem ar271 {x0 : Nat} {x1 : Nat} (h0 : (x0 ≤ (600 : Nat))) : (x1 ≤ (x1 + x0)) := Nat.le_add_right x1 x0
theorem ar272 {x0 : Nat} {x1 : Nat} (h0 : (x0 < (x1 + (1 : Nat)))) : ((x0 + (1 : Nat)) ≤ (x1 + (1 : Nat))) := h0
theorem ar273 {x0 : Nat} : (x0 < (x0 + (1 : Nat))) := (Nat.add_le_add_left (by decide : 1 ≤ 1) _)
theorem ar274 {x0 : Nat} {x1 : Nat} {x2 : Nat} (h0 : (x0 ≤ (x1 + x2))) : (x0 ≤ (x1 + (x2 + (1 : Nat)))) := Nat.le_trans h0 (Nat.add_le_add_left (Nat.le_succ x2) x1)
theorem ar275 {x0 : Nat} {x1 : Nat} (h0 : (x0 < (x1 + (1 : Nat)))) (h1 : (¬ (x0 = x1))) : (x0 < x1) := Nat.lt_of_le_of_ne (Nat.le_of_lt_succ h0) h1
theorem ar276 {x0 : Nat} {x1 : Nat} (h0 : (x0 < x1)) : (x0 < (x1 + (1 : Nat))) := (Nat.le_of_succ_le (Nat.add_le_add_right h0 1))
theorem ar277 {x0 : Nat} {x1 : Nat} : (((x0 + (1 : Nat)) + x1) = (x0 + (x1 + (1 : Nat)))) := by rw [Nat.add_assoc, Nat.add_comm 1 x1]
theorem ar278 {x0 : Nat} {x1 : Nat} {x2 : Nat} (h0 : (x0 < x1)) (h1 : ((x2 ≠ (9 : Nat)) ∧ (x2 ≠ (13 : Nat)))) (h2 : (((¬ (x2 = (10 : Nat))) ∧ (¬ (x2 = (32 : Nat)))) ∧ (¬ (x2 = (92 : Nat))))) : (((((¬ (x2 = (10 : Nat))) ∧ (¬ (x2 = (9 : Nat)))) ∧ (¬ (x2 = (13 : Nat)))) ∧ (¬ (x2 = (32 : Nat)))) ∧ (¬ (x2 = (92 : Nat)))) := ⟨⟨⟨⟨h2.1.1, h1.1⟩, h1.2⟩, h2.1.2⟩, h2.2⟩
theorem ar279 {x0 : Nat} (h0 : ((x0 ≠ (9 : Nat)) ∧ (x0 ≠ (13 : Nat)))) (h1 : ((((¬ (x0 = (10 : Nat))) ∧ (¬ (x0 = (32 : Nat)))) ∧ (¬ (x0 = (92 : Nat)))) ∧ (¬ (x0 = (34 : Nat))))) : (((((¬ (x0 = (10 : Nat))) ∧ (¬ (x0 = (9 : Nat)))) ∧ (¬ (x0 = (13 : Nat)))) ∧ (¬ (x0 = (32 : Nat)))) ∧ ((¬ (x0 = (92 : Nat))) ∧ (¬ (x0 = (34 : Nat))))) := ⟨⟨⟨⟨h1.1.1.1, h0.1⟩, h0.2⟩, h1.1.1.2⟩, ⟨h1.1.2, h1.2⟩⟩
theorem ar280 {x0 : Nat} {x1 : Nat} (h0 : (x0 ≤ ((2 : Nat) * x1))) : (x0 ≤ ((2 : Nat) * x1)) := h0
theorem ar281 {x0 : Nat} {x1 : Nat} (h0 : (x0 ≤ ((2 : Nat) * x1))) : (x0 ≤ (((2 : Nat) * x1) + (2 : Nat))) := Nat.le_trans h0 (Nat.le_add_right _ 2)
theorem ar282 {x0 : Nat} {x1 : Nat} {x2 : Nat} (h0 : (x0 ≤ (((2 : Nat) * x1) + (2 : Nat)))) (h1 : (x2 ≤ (8 : Nat))) (h2 : (x1 ≤ (100 : Nat))) : ((((x2 + ((0 : Nat) + (1 : Nat))) + x0) + ((0 : Nat) + (1 : Nat))) ≤ (250 : Nat)) := Nat.le_trans (Nat.add_le_add_right (Nat.add_le_add (Nat.add_le_add_right h1 _) (Nat.le_trans h0 (Nat.add_le_add_right (Nat.mul_le_mul_left 2 h2) 2))) _) (by decide : 8 + (0 + 1) + (2 * 100 + 2) + (0 + 1) ≤ 250)
theorem ar283 {x0 : Nat} {x1 : Nat} {x2 : Nat} (h0 : (x0 ≤ ((250 : Nat) * x1))) (h1 : (x2 ≤ (250 : Nat))) : ((x2 + x0) ≤ ((250 : Nat) * (x1 + (1 : Nat)))) := Nat.le_trans (Nat.add_le_add h1 h0) (Nat.le_of_eq (by rw [Nat.mul_succ, Nat.add_comm]))
theorem ar284 {x0 : Nat} : (¬ ((((x0 : Nat) : Int) + (1 : Int)) = (0 : Int))) := fun q => absurd (Int.ofNat_inj.mp (q : ((x0 + 1 : Nat) : Int) = ((0 : Nat) : Int))) (Nat.succ_ne_zero x0)
theorem ar285 {y0 : Int} {x1 : Nat} (h0 : (y0 < ((x1 : Nat) : Int))) : (¬ (((x1 : Nat) : Int) = y0)) := (Int.ne_of_lt h0).symm
theorem ar286 {y0 : Int} {x1 : Nat} (h0 : (¬ (y0 < ((x1 : Nat) : Int)))) : (¬ ((y0 + (1 : Int)) < (((x1 : Nat) : Int) + (1 : Int)))) := fun q => h0 (Int.lt_of_add_lt_add_right q)
theorem ar287 {x0 : Nat} : ((-(1 : Int)) < (((x0 : Nat) : Int) + (1 : Int))) := Int.lt_of_lt_of_le (by decide : (-(1 : Int)) < 1) (Int.le_add_of_nonneg_left (Int.natCast_nonneg x0))
theorem ar288 {x0 : Nat} (h0 : (x0 ≤ (63 : Nat))) : (x0 ≤ (16777216 : Nat)) := (Nat.le_of_succ_le (Nat.le_trans (Nat.add_le_add_right h0 1) (by decide : 63 + 1 ≤ 16777216)))
theorem ar289 {x0 : Nat} {x1 : Nat} {x2 : Nat} (h0 : (x0 ≤ (63 : Nat))) (h1 : (x1 ≤ x2)) (h2 : (x2 = x0)) : (x1 ≤ (63 : Nat)) := (Nat.le_trans (Nat.le_trans h1 (Nat.le_of_eq h2)) h0)
theorem ar290 {x0 : Nat} (h0 : (x0 ≤ (63 : Nat))) : (x0 ≤ (100 : Nat)) := (Nat.le_of_succ_le (Nat.le_trans (Nat.add_le_add_right h0 1) (by decide : 63 + 1 ≤ 100)))
theorem ar291 {x0 : Nat} {x1 : Nat} {x2 : Nat} (h0 : (x0 = (x1 + (2 : Nat)))) (h1 : (x0 ≤ x2)) : (x1 < x2) := (Nat.le_of_succ_le (Nat.le_trans (Nat.le_of_eq (Eq.symm h0)) h1))
theorem ar292 {x0 : Nat} {x1 : Nat} {x2 : Nat} {x3 : Nat} (h0 : ((x0 + (1 : Nat)) < x1)) (h1 : (x2 = (x1 + (2 : Nat)))) (h2 : (x2 ≤ x3)) : (¬ (x3 ∈ [(x0 + (1 : Nat))])) := (nin1 (Nat.ne_of_gt (Nat.le_trans (Nat.add_le_add_left (show 2 ≤ 4 by decide) _) (Nat.le_trans (Nat.le_trans (Nat.add_le_add_right h0 2) (Nat.le_of_eq (Eq.symm h1))) h2))))
theorem ar293 {x0 : Nat} {x1 : Nat} {x2 : Nat} (h0 : (x0 ≤ (63 : Nat))) (h1 : (x1 = x0)) (h2 : (x2 = (8 : Nat))) : ((x2 + x0) ≤ (71 : Nat)) := Nat.le_trans (Nat.add_le_add (Nat.le_of_eq h2) h0) (by decide : 8 + 63 ≤ 71)
theorem ar294 {x0 : Nat} (h0 : (x0 < (2 ^ 20 : Nat))) : (((x0 : Nat) : Int) < (2 ^ 63 : Int)) := Int.lt_of_lt_of_le (Int.ofNat_lt.mpr h0) (by decide : ((2 ^ 20 : Nat) : Int) ≤ 2 ^ 63)
theorem ar295 {x0 : Nat} {x1 : Nat} (h0 : (x0 ≤ (71 : Nat))) (h1 : (x1 = x0)) : (((x1 : Nat) : Int) < (2 ^ 63 : Int)) := Int.lt_of_lt_of_le (Int.ofNat_lt.mpr (Nat.lt_of_le_of_lt (Nat.le_trans (Nat.le_of_eq h1) h0) (by decide : 71 < 72))) (by decide : ((72 : Nat) : Int) ≤ 2 ^ 63)
theorem ar296 {x0 : Nat} {x1 : Nat} (h0 : (x0 ≤ (71 : Nat))) (h1 : (x1 = x0)) : (x1 < (2 ^ 62 : Nat)) := (Nat.le_trans (Nat.add_le_add_right (Nat.le_trans (Nat.le_of_eq h1) h0) 1) (by decide : 71 + 1 ≤ 4611686018427387904))
theorem ar297 {x0 : Nat} {x1 : Nat} (h0 : (x0 ≤ (71 : Nat))) (h1 : (x1 = x0)) : (x1 < (2 ^ 20 : Nat)) := (Nat.le_trans (Nat.add_le_add_right (Nat.le_trans (Nat.le_of_eq h1) h0) 1) (by decide : 71 + 1 ≤ 1048576))
theorem ar298 {x0 : Nat} {x1 : Nat} {x2 : Nat} (h0 : (x0 = x1)) (h1 : (x2 ≤ x1)) : ((min x2 x1) ≤ x2) := Nat.min_le_left _ _
theorem ar299 {x0 : Nat} {x1 : Nat} {x2 : Nat} (h0 : (x0 ≤ (71 : Nat))) (h1 : (x1 = x0)) (h2 : (x2 < x1)) : (x2 < (2 ^ 20 : Nat)) := (Nat.le_of_succ_le (Nat.le_trans (Nat.add_le_add_right (Nat.le_trans (Nat.le_trans h2 (Nat.le_of_eq h1)) h0) 1) (by decide : 71 + 1 ≤ 1048576)))
theorem ar300 {x0 : Nat} : ((((x0 : Nat) : Int) % (2 : Int)) = (((x0 % (2 : Nat)) : Nat) : Int)) := (Int.natCast_emod x0 2).symm
theorem ar301 {y0 : Int} {x1 : Nat} (h0 : (y0 = (((x1 % (2 : Nat)) : Nat) : Int))) : ((0 : Int) ≤ (((x1 % (2 : Nat)) : Nat) : Int)) := Int.natCast_nonneg _
theorem ar302 {y0 : Int} {x1 : Nat} (h0 : (y0 = (((x1 % (2 : Nat)) : Nat) : Int))) : ((((x1 % (2 : Nat)) : Nat) : Int) < (2 ^ 63 : Int)) := Int.lt_of_lt_of_le (Int.ofNat_lt.mpr (Nat.mod_lt x1 (by decide : 2 > 0))) (by decide : ((2 : Nat) : Int) ≤ 2 ^ 63)
theorem ar303 {x0 : Nat} (h0 : (x0 ≤ (8 : Nat))) : ((x0 + ((0 : Nat) + (1 : Nat))) ≤ (16777216 : Nat)) := (Nat.le_trans (Nat.add_le_add_right h0 1) (by decide : 8 + 1 ≤ 16777216))
theorem ar304 {x0 : Nat} {x1 : Nat} {x2 : Nat} {y3 : Int} (h0 : (x0 ≤ (71 : Nat))) (h1 : (x1 = x0)) (h2 : (x2 < x1)) (h3 : (y3 = (((x2 % (2 : Nat)) : Nat) : Int))) : (x2 < (2 ^ 20 : Nat)) := Nat.lt_of_lt_of_le h2 (Nat.le_trans (Nat.le_of_eq h1) (Nat.le_trans h0 (by decide : 71 ≤ 2 ^ 20)))
theorem ar305 {x0 : Nat} (h0 : (x0 ≤ (100 : Nat))) : (x0 < (2 ^ 20 : Nat)) := (Nat.le_trans (Nat.add_le_add_right h0 1) (by decide : 100 + 1 ≤ 1048576))
theorem ar306 {y0 : Int} {x1 : Nat} {x2 : Nat} (h0 : (y0 = (((x1 % (2 : Nat)) : Nat) : Int))) : (((((x1 : Nat) : Int) + ((x2 : Nat) : Int)) % (3 : Int)) = ((((x1 + x2) % (3 : Nat)) : Nat) : Int)) := (Int.natCast_emod (x1 + x2) 3).symm
theorem ar307 {x0 : Nat} (h0 : (x0 ≤ (100 : Nat))) : (x0 < (2 ^ 16 : Nat)) := (Nat.le_trans (Nat.add_le_add_right h0 1) (by decide : 100 + 1 ≤ 65536))
theorem ar308 {x0 : Nat} {x1 : Nat} {x2 : Nat} (h0 : (x0 ≤ (8 : Nat))) (h1 : (x1 ≤ (100 : Nat))) (h2 : (x2 ≤ (((2 : Nat) * x1) + (2 : Nat)))) : (((x0 + ((0 : Nat) + (1 : Nat))) + x2) ≤ (16777216 : Nat)) := Nat.le_trans (Nat.add_le_add (Nat.add_le_add_right h0 _) (Nat.le_trans h2 (Nat.add_le_add_right (Nat.mul_le_mul_left 2 h1) 2))) (by decide : 8 + (0 + 1) + (2 * 100 + 2) ≤ 16777216)
theorem ar309 {x0 : Nat} {x1 : Nat} {x2 : Nat} (h0 : (x0 ≤ (8 : Nat))) (h1 : (x1 ≤ (100 : Nat))) (h2 : (x2 ≤ (((2 : Nat) * x1) + (2 : Nat)))) : ((((x0 + ((0 : Nat) + (1 : Nat))) + x2) + ((0 : Nat) + (1 : Nat))) ≤ (16777216 : Nat)) := Nat.le_trans (Nat.add_le_add_right (Nat.add_le_add (Nat.add_le_add_right h0 _) (Nat.le_trans h2 (Nat.add_le_add_right (Nat.mul_le_mul_left 2 h1) 2))) _) (by decide : 8 + (0 + 1) + (2 * 100 + 2) + (0 + 1) ≤ 16777216)
theorem ar310 {x0 : Nat} {x1 : Nat} {x2 : Nat} {y3 : Int} {y4 : Int} {x5 : Nat} (h0 : (x0 = x1)) (h1 : (x2 < x0)) (h2 : (y3 = (((x2 % (2 : Nat)) : Nat) : Int))) (h3 : (y4 = ((((x2 + x5) % (3 : Nat)) : Nat) : Int))) : ((x2 + (1 : Nat)) ≤ x1) := Nat.succ_le_of_lt (Nat.lt_of_lt_of_eq h1 h0)
theorem ar311 {x0 : Nat} {x1 : Nat} {x2 : Nat} {y3 : Int} {y4 : Int} {x5 : Nat} (h0 : (x0 = x1)) (h1 : (x2 < x0)) (h2 : (y3 = (((x2 % (2 : Nat)) : Nat) : Int))) (h3 : (y4 = ((((x2 + x5) % (3 : Nat)) : Nat) : Int))) : ((min x2 x1) = x2) := Nat.min_eq_left (Nat.le_of_lt (Nat.lt_of_lt_of_eq h1 h0))
theorem ar312 {x0 : Nat} {x1 : Nat} {x2 : Nat} (h0 : (x0 ≤ (71 : Nat))) (h1 : (x1 = x0)) (h2 : (x2 ≤ ((250 : Nat) * x0))) : ((x2 + x0) ≤ (2 ^ 20 : Nat)) := Nat.le_trans (Nat.add_le_add (Nat.le_trans h2 (Nat.mul_le_mul_left 250 h0)) h0) (by decide : 250 * 71 + 71 ≤ 2 ^ 20)
theorem ar313 {x0 : Nat} {x1 : Nat} (h0 : (x0 ≤ (71 : Nat))) (h1 : (x1 ≤ ((250 : Nat) * x0))) : (x1 < (2 ^ 18 : Nat)) := Nat.lt_of_le_of_lt (Nat.le_trans h1 (Nat.mul_le_mul_left 250 h0)) (by decide : 250 * 71 < 2 ^ 18)
theorem ar314 {x0 : Nat} (h0 : (x0 ≤ (71 : Nat))) : (x0 < (2 ^ 18 : Nat)) := (Nat.le_trans (Nat.add_le_add_right h0 1) (by decide : 71 + 1 ≤ 262144))
theorem ar315 {x0 : Nat} {x1 : Nat} (h0 : ((147 : Nat) < x0)) (h1 : ((x0 + (2 : Nat)) < x1)) : ((150 : Nat) < x1) := Nat.lt_of_le_of_lt (Nat.add_le_add_right h0 2) h1
theorem ar316 {x0 : Nat} (h0 : ((147 : Nat) < x0)) : (¬ (x0 ∈ [(117 : Nat), (122 : Nat)])) := (nin2 (Nat.ne_of_gt (Nat.le_of_succ_le (Nat.le_trans (Nat.add_le_add_right (by decide : 117 + 1 ≤ 147) 1) h0))) (Nat.ne_of_gt (Nat.le_of_succ_le (Nat.le_trans (Nat.add_le_add_right (by decide : 122 + 1 ≤ 147) 1) h0))))
theorem ar317 {x0 : Nat} (h0 : ((147 : Nat) < x0)) : (¬ ((x0 + (2 : Nat)) ∈ [(117 : Nat), (122 : Nat)])) := (nin2 (Nat.ne_of_gt (Nat.le_trans (Nat.add_le_add_left (show 1 ≤ 4 by decide) _) (Nat.le_trans (Nat.add_le_add_right (by decide : 117 + 1 ≤ 147) 3) (Nat.add_le_add_right h0 2)))) (Nat.ne_of_gt (Nat.le_trans (Nat.add_le_add_left (show 1 ≤ 4 by decide) _) (Nat.le_trans (Nat.add_le_add_right (by decide : 122 + 1 ≤ 147) 3) (Nat.add_le_add_right h0 2)))))
theorem ar318 {x0 : Nat} {x1 : Nat} {x2 : Nat} {x3 : Nat} (h0 : ((x0 + (2 : Nat)) < x1)) (h1 : (x1 ≤ x2)) (h2 : ((x3 = x0) ∨ (x3 = (x0 + (2 : Nat))))) : (x3 < x2) := Nat.lt_of_lt_of_le (h2.elim (fun q => Nat.lt_of_le_of_lt (Nat.le_of_eq q) (Nat.lt_of_le_of_lt (Nat.le_add_right x0 2) h0)) (fun q => Nat.lt_of_le_of_lt (Nat.le_of_eq q) h0)) h1
theorem ar319 {x0 : Nat} {x1 : Nat} {x2 : Nat} (h0 : ((x0 + (2 : Nat)) < x1)) (h1 : (x1 ≤ x2)) : (¬ (x2 ∈ [x0, (x0 + (2 : Nat))])) := (nin2 (Nat.ne_of_gt (Nat.le_trans (Nat.add_le_add_left (show 1 ≤ 3 by decide) _) (Nat.le_trans h0 h1))) (Nat.ne_of_gt (Nat.le_trans h0 h1)))
theorem ar320 {x0 : Nat} (h0 : ((147 : Nat) < x0)) : (¬ ((117 : Nat) ∈ [x0, (x0 + (2 : Nat))])) := (nin2 (Nat.ne_of_lt (Nat.le_of_succ_le (Nat.le_trans (Nat.add_le_add_right (by decide : 117 + 1 ≤ 147) 1) h0))) (Nat.ne_of_lt (Nat.le_trans (Nat.add_le_add_left (show 1 ≤ 4 by decide) _) (Nat.le_trans (Nat.add_le_add_right (by decide : 117 + 1 ≤ 147) 3) (Nat.add_le_add_right h0 2)))))
theorem ar321 {x0 : Nat} (h0 : ((147 : Nat) < x0)) : (¬ ((122 : Nat) ∈ [x0, (x0 + (2 : Nat))])) := (nin2 (Nat.ne_of_lt (Nat.le_of_succ_le (Nat.le_trans (Nat.add_le_add_right (by decide : 122 + 1 ≤ 147) 1) h0))) (Nat.ne_of_lt (Nat.le_trans (Nat.add_le_add_left (show 1 ≤ 4 by decide) _) (Nat.le_trans (Nat.add_le_add_right (by decide : 122 + 1 ≤ 147) 3) (Nat.add_le_add_right h0 2)))))
theorem ar322 {x0 : Nat} {x1 : Nat} {x2 : Nat} (h0 : ((x0 + (2 : Nat)) < x1)) (h1 : (x1 ≤ x2)) : (x0 < x2) := (Nat.le_trans (Nat.add_le_add_left (show 1 ≤ 3 by decide) _) (Nat.le_trans h0 h1))
theorem ar323 {x0 : Nat} {x1 : Nat} (h0 : ((x0 + ((10 : Nat) * (x1 + (1 : Nat)))) ≤ (9000 : Nat))) : ((x0 + (1 : Nat)) < (9900 : Nat)) := Nat.lt_of_le_of_lt (Nat.add_le_add_right (Nat.le_trans (Nat.le_add_right x0 _) h0) 1) (by decide : 9000 + 1 < 9900)
theorem ar324 {x0 : Nat} : (((3 : Nat) + ((3 : Nat) * x0)) = ((3 : Nat) * (x0 + (1 : Nat)))) := by rw [Nat.mul_succ, Nat.add_comm]
theorem ar325 {x0 : Nat} (h0 : (x0 ≤ (100 : Nat))) : (x0 ≤ (101 : Nat)) := (Nat.le_of_succ_le (Nat.le_trans (Nat.add_le_add_right h0 1) (by decide : 100 + 1 ≤ 101)))
theorem ar326 {x0 : Nat} (h0 : (x0 ≤ (100 : Nat))) : ((x0 - (1 : Nat)) ≤ (101 : Nat)) := Nat.le_trans (Nat.sub_le x0 1) (Nat.le_trans h0 (by decide : 100 ≤ 101))
theorem ar327 {x0 : Nat} (h0 : (x0 ≤ (100 : Nat))) : ((x0 + (1 : Nat)) ≤ (101 : Nat)) := (Nat.le_trans (Nat.add_le_add_right h0 1) (by decide : 100 + 1 ≤ 101))
theorem ar328 {x0 : Nat} (h0 : (x0 ≤ (100 : Nat))) : (x0 ≤ (16777216 : Nat)) := (Nat.le_of_succ_le (Nat.le_trans (Nat.add_le_add_right h0 1) (by decide : 100 + 1 ≤ 16777216)))
theorem ar329 {x0 : Nat} (h0 : (x0 ≤ (100 : Nat))) : ((x0 + ((0 : Nat) + (1 : Nat))) ≤ (16777216 : Nat)) := (Nat.le_trans (Nat.add_le_add_right h0 1) (by decide : 100 + 1 ≤ 16777216))
theorem ar330 {x0 : Nat} {x1 : Nat} {x2 : Nat} {x3 : Nat} (h0 : (x0 ≤ x1)) (h1 : (x2 = x1)) (h2 : (x3 = (x1 + (1 : Nat)))) : (x0 ≤ x2) := (Nat.le_trans h0 (Nat.le_of_eq (Eq.symm h1)))
theorem ar331 {x0 : Nat} {x1 : Nat} {x2 : Nat} {x3 : Nat} {x4 : Nat} (h0 : (x0 ≤ (71 : Nat))) (h1 : (x1 = x0)) (h2 : (x2 < x1)) (h3 : (x3 ≤ (3 : Nat))) (h4 : (x4 = (3 : Nat))) : ((((3 : Nat) * (min x2 x0)) + (min x3 x4)) < (2 ^ 20 : Nat)) := Nat.lt_of_le_of_lt (Nat.add_le_add (Nat.mul_le_mul_left 3 (Nat.le_trans (Nat.min_le_right x2 x0) h0)) (Nat.le_trans (Nat.min_le_left x3 x4) h3)) (by decide : 3 * 71 + 3 < 2 ^ 20)
theorem ar332 {x0 : Nat} {x1 : Nat} {x2 : Nat} (h0 : (x0 = x1)) (h1 : (x2 < x0)) : ((x2 + (1 : Nat)) ≤ x1) := (Nat.le_trans h1 (Nat.le_of_eq h0))
theorem ar333 {x0 : Nat} (h0 : (x0 < (3 : Nat))) : ((x0 + (1 : Nat)) ≤ (3 : Nat)) := h0
theorem ar334 {x0 : Nat} {x1 : Nat} (h0 : (x0 ≤ (71 : Nat))) (h1 : (x1 = x0)) : (((3 : Nat) * x0) ≤ (213 : Nat)) := Nat.mul_le_mul_left 3 h0
theorem ar335 {x0 : Nat} (h0 : (x0 ≤ (213 : Nat))) : ((((0 : Nat) + (1 : Nat)) + x0) ≤ (16777216 : Nat)) := Nat.le_trans (Nat.add_le_add_left h0 _) (by decide : 0 + 1 + 213 ≤ 16777216)
theorem ar336 {x0 : Nat} {x1 : Nat} (h0 : ((x0 + (1 : Nat)) < x1)) : (x0 < x1) := (Nat.le_of_succ_le h0)
theorem ar337 {x0 : Nat} (h0 : (x0 ≤ (101 : Nat))) : (x0 < (2 ^ 18 : Nat)) := (Nat.le_trans (Nat.add_le_add_right h0 1) (by decide : 101 + 1 ≤ 262144))
theorem ar338 {x0 : Nat} (h0 : (x0 ≤ (100 : Nat))) : (x0 < (2 ^ 18 : Nat)) := (Nat.le_trans (Nat.add_le_add_right h0 1) (by decide : 100 + 1 ≤ 262144))
theorem ar339 {x0 : Nat} (h0 : (x0 ≤ (71 : Nat))) : ((((3 : Nat) * x0) + (1 : Nat)) < (2 ^ 18 : Nat)) := Nat.lt_of_le_of_lt (Nat.add_le_add_right (Nat.mul_le_mul_left 3 h0) 1) (by decide : 3 * 71 + 1 < 2 ^ 18)
theorem ar340 {x0 : Nat} (h0 : (x0 ≤ (71 : Nat))) : (x0 < (2 ^ 16 : Nat)) := (Nat.le_trans (Nat.add_le_add_right h0 1) (by decide : 71 + 1 ≤ 65536))
theorem ar341 {x0 : Nat} (h0 : (x0 ≤ (101 : Nat))) : (x0 < (2 ^ 16 : Nat)) := (Nat.le_trans (Nat.add_le_add_right h0 1) (by decide : 101 + 1 ≤ 65536))
theorem ar342 {x0 : Nat} {x1 : Nat} (h0 : ((x0 + ((10 : Nat) * (x1 + (2 : Nat)))) ≤ (9000 : Nat))) : ((x0 + (1 : Nat)) < (9900 : Nat)) := Nat.lt_of_le_of_lt (Nat.add_le_add_right (Nat.le_trans (Nat.le_add_right x0 _) h0) 1) (by decide : 9000 + 1 < 9900)
theorem ar343 {x0 : Nat} (h0 : (x0 ≤ (100 : Nat))) : (x0 ≤ (200 : Nat)) := (Nat.le_of_succ_le (Nat.le_trans (Nat.add_le_add_right h0 1) (by decide : 100 + 1 ≤ 200)))
theorem ar344 {x0 : Nat} (h0 : (x0 ≤ (71 : Nat))) : (x0 ≤ (200 : Nat)) := (Nat.le_of_succ_le (Nat.le_trans (Nat.add_le_add_right h0 1) (by decide : 71 + 1 ≤ 200)))
theorem ar345 {x0 : Nat} (h0 : (x0 ≤ (101 : Nat))) : (x0 ≤ (200 : Nat)) := (Nat.le_of_succ_le (Nat.le_trans (Nat.add_le_add_right h0 1) (by decide : 101 + 1 ≤ 200)))
theorem ar346 {x0 : Nat} {x1 : Nat} {x2 : Nat} (h0 : ((x0 + (2 : Nat)) < x1)) (h1 : (x1 < x2)) : (¬ (x2 ∈ [x0])) := (nin1 (Nat.ne_of_gt (Nat.le_trans (Nat.add_le_add_left (show 1 ≤ 4 by decide) _) (Nat.le_trans (Nat.add_le_add_right h0 1) h1))))
theorem ar347 {x0 : Nat} (h0 : ((147 : Nat) < x0)) : (¬ ((117 : Nat) ∈ [x0, (x0 + (1 : Nat))])) := (nin2 (Nat.ne_of_lt (Nat.le_of_succ_le (Nat.le_trans (Nat.add_le_add_right (by decide : 117 + 1 ≤ 147) 1) h0))) (Nat.ne_of_lt (Nat.le_trans (Nat.add_le_add_left (show 1 ≤ 3 by decide) _) (Nat.le_trans (Nat.add_le_add_right (by decide : 117 + 1 ≤ 147) 2) (Nat.add_le_add_right h0 1)))))
theorem ar348 {x0 : Nat} (h0 : ((147 : Nat) < x0)) : (¬ ((122 : Nat) ∈ [x0, (x0 + (1 : Nat))])) := (nin2 (Nat.ne_of_lt (Nat.le_of_succ_le (Nat.le_trans (Nat.add_le_add_right (by decide : 122 + 1 ≤ 147) 1) h0))) (Nat.ne_of_lt (Nat.le_trans (Nat.add_le_add_left (show 1 ≤ 3 by decide) _) (Nat.le_trans (Nat.add_le_add_right (by decide : 122 + 1 ≤ 147) 2) (Nat.add_le_add_right h0 1)))))
theorem ar349 {x0 : Nat} (h0 : ((147 : Nat) < x0)) : (¬ ((119 : Nat) ∈ [x0, (x0 + (1 : Nat))])) := (nin2 (Nat.ne_of_lt (Nat.le_of_succ_le (Nat.le_trans (Nat.add_le_add_right (by decide : 119 + 1 ≤ 147) 1) h0))) (Nat.ne_of_lt (Nat.le_trans (Nat.add_le_add_left (show 1 ≤ 3 by decide) _) (Nat.le_trans (Nat.add_le_add_right (by decide : 119 + 1 ≤ 147) 2) (Nat.add_le_add_right h0 1)))))
theorem ar350 {x0 : Nat} (h0 : ((147 : Nat) < x0)) : (¬ ((126 : Nat) ∈ [x0, (x0 + (1 : Nat))])) := (nin2 (Nat.ne_of_lt (Nat.le_of_succ_le (Nat.le_trans (Nat.add_le_add_right (by decide : 126 + 1 ≤ 147) 1) h0))) (Nat.ne_of_lt (Nat.le_trans (Nat.add_le_add_left (show 1 ≤ 3 by decide) _) (Nat.le_trans (Nat.add_le_add_right (by decide : 126 + 1 ≤ 147) 2) (Nat.add_le_add_right h0 1)))))
theorem ar351 {x0 : Nat} (h0 : ((147 : Nat) < x0)) : (¬ ((x0 + (1 : Nat)) ∈ [(117 : Nat), (122 : Nat), x0, (x0 + (2 : Nat))])) := (nin4 (Nat.ne_of_gt (Nat.le_trans (Nat.add_le_add_left (show 1 ≤ 3 by decide) _) (Nat.le_trans (Nat.add_le_add_right (by decide : 117 + 1 ≤ 147) 2) (Nat.add_le_add_right h0 1)))) (Nat.ne_of_gt (Nat.le_trans (Nat.add_le_add_left (show 1 ≤ 3 by decide) _) (Nat.le_trans (Nat.add_le_add_right (by decide : 122 + 1 ≤ 147) 2) (Nat.add_le_add_right h0 1)))) (Nat.ne_of_gt (Nat.add_le_add_left (by decide : 1 ≤ 1) _)) (Nat.ne_of_lt (Nat.add_le_add_left (by decide : 2 ≤ 2) _)))
theorem ar352 {x0 : Nat} {x1 : Nat} {x2 : Nat} (h0 : ((147 : Nat) < x0)) (h1 : ((x0 + (2 : Nat)) < x1)) (h2 : (x1 < x2)) : (¬ (x2 ∈ [(117 : Nat), (122 : Nat), x0, (x0 + (2 : Nat))])) := (nin4 (Nat.ne_of_gt (Nat.le_trans (Nat.add_le_add_left (show 1 ≤ 6 by decide) _) (Nat.le_trans (Nat.add_le_add_right (Nat.le_trans (Nat.add_le_add_right (Nat.le_trans (Nat.add_le_add_right (by decide : 117 + 1 ≤ 147) 1) h0) 3) h1) 1) h2))) (Nat.ne_of_gt (Nat.le_trans (Nat.add_le_add_left (show 1 ≤ 6 by decide) _) (Nat.le_trans (Nat.add_le_add_right (Nat.le_trans (Nat.add_le_add_right (Nat.le_trans (Nat.add_le_add_right (by decide : 122 + 1 ≤ 147) 1) h0) 3) h1) 1) h2))) (Nat.ne_of_gt (Nat.le_trans (Nat.add_le_add_left (show 1 ≤ 4 by decide) _) (Nat.le_trans (Nat.add_le_add_right h1 1) h2))) (Nat.ne_of_gt (Nat.le_of_succ_le (Nat.le_trans (Nat.add_le_add_right h1 1) h2))))
theorem ar353 {x0 : Nat} (h0 : ((147 : Nat) < x0)) : (¬ ((117 : Nat) ∈ [x0])) := (nin1 (Nat.ne_of_lt (Nat.le_of_succ_le (Nat.le_trans (Nat.add_le_add_right (by decide : 117 + 1 ≤ 147) 1) h0))))
theorem ar354 {x0 : Nat} (h0 : ((147 : Nat) < x0)) : (¬ ((122 : Nat) ∈ [x0])) := (nin1 (Nat.ne_of_lt (Nat.le_of_succ_le (Nat.le_trans (Nat.add_le_add_right (by decide : 122 + 1 ≤ 147) 1) h0))))
end Mine

end
section -- B1
open PySem PySem.W PyProof.Rows PySem.Calls PySem.Builtin PySem.Builtin.ObjectAttr
set_option maxRecDepth 100000
namespace Mine

theorem fnGa : typeLookup (.type "function") "__getattribute__" = pure (some (.builtin "object.__getattribute__")) := by kernel_rfl
theorem fnHook : typeLookup (.type "function") "__getattr__" = pure none := by kernel_rfl
theorem fnInst : isSubtype (.type "function") (.type "object") = pure true := by kernel_rfl

section
variable {prog : Program} {w : World} {A : Around} {E : Value → Shared → Prop} {s : Shared} {f d : Addr} {fd : FuncData} {od : Obj} {sl : Array (Option Value)} {name : Str} {v : Value}

theorem fnType {M : Model} {h : Heap} {o : Obj} (hf : h.get? f = some o) (hc : o.cls = .type "function") : Looks M h (typeOf (.ref f)) (.type "function") := hc ▸ (Looks.ld hf).andThen .now
theorem fn_getAttr {ex : Bool} {Q : Value → Shared → Prop} (hf : s.heap.get? f = some ⟨.type "function", some d, .func fd, sl⟩) (hd : s.heap.get? d = some od) (hl : lookIn name od = some (some v))
    (ht : typeLookup (.type "function") name = pure none) (hh : handedIn v = true) (h : Q v { s with toks := s.toks + 1 }) : wpAny (model prog w) A (getAttr (.ref f) name ex) Q E s := by
  obtain ⟨hp, g, dr, t, os⟩ := s
  have L0 : Looks (model prog w) hp (typeOf (.ref f)) (.type "function") := fnType hf rfl
  have LI : Looks (model prog w) hp (isInstance (.ref f) (.type "object")) true := L0.andThen (Looks.of_pure fnInst)
  unfold getAttr getAttrBy
  refine wpAny_bind (wpAny_mkText (wpAny_holding (wpAny_bind (L0.at (wpAny_bind ((Looks.of_pure fnGa).at ?_))))))
  show wpAny _ _ (getAttrByItsOwn _ _ _ _ _ _) _ _ _
  unfold getAttrByItsOwn
  refine wpAny_bind (wpAny_pure (wpAny_bind (wpAny_attempt (wpAny_holding ?_))))
  rw [show ∀ a b : Value, callGetattribute a b (.builtin "object.__getattribute__") ex = boundAndCalled (.builtin "object.__getattribute__") a b from fun a b => by cases ex <;> rfl]
  unfold boundAndCalled
  refine wpAny_bind ((Looks.of_pure (show bindSpecial (.builtin "object.__getattribute__") (.ref f) = pure (.builtin "object.__getattribute__", [.ref f]) from by kernel_rfl)).at ?_)
  refine wpAny_call (codeAny_call_builtin (b := Builtin.«object.__getattribute__») (by decide +kernel) PySem.F.entry_object_getattribute (check_slot (i := "object.__getattribute__") (owner := "object") (n := "__getattribute__") (by decide +kernel) (by decide +kernel) LI (PySem.F.args_object_getattribute_2 _ _) ?_))
  unfold Builtin.«object.__getattribute__»
  refine wpAny_bind ((Looks.of_pure (show slotArgs "__getattribute__" 1 ⟨[.ref f, .str name t], []⟩ = pure (.ref f, [.str name t]) from rfl)).at ?_)
  refine wpAny_bind ((Looks.of_pure (show attrName (.str name t) = pure name from rfl)).at ?_)
  have LF : Looks (model prog w) hp (find (.ref f) (.type "function") name) (.value v) := by
    unfold find
    refine (Looks.of_pure ht).andThen ((Looks.now).andThen ((Looks.now).andThen ?_))
    unfold ownThenClass
    refine Looks.andThen (a := some v) ?_ (Looks.tag .now)
    show Looks _ _ (ObjectAttr.ownDict f >>= fun r => inDict name r) _
    refine Looks.andThen (a := some d) ?_ ?_
    · unfold ObjectAttr.ownDict instanceDict
      exact (Looks.ld hf).andThen ((Looks.ld hf).andThen .now)
    · exact (Looks.ld hd).andThen (Looks.of_pure (nsLook_of hl))
  refine wpAny_bind (L0.at (wpAny_bind (LF.at ?_)))
  refine wpAny_pure ?_
  show wpAny _ _ (handedOut v) _ _ _
  rw [handedOut_of hh]; exact wpAny_pure h

theorem fn_getMethod {pl : Sem Bool} {Q : Value × List Value → Shared → Prop} (hf : s.heap.get? f = some ⟨.type "function", some d, .func fd, sl⟩) (hd : s.heap.get? d = some od) (hl : lookIn name od = some (some v))
    (ht : typeLookup (.type "function") name = pure none) (hh : handedIn v = true) (h : Q (v, []) { s with toks := s.toks + 1 }) : wpAny (model prog w) A (getMethod (.ref f) name pl) Q E s := by
  have L0 : Looks (model prog w) s.heap (typeOf (.ref f)) (.type "function") := fnType hf rfl
  unfold getMethod specialOf
  refine wpAny_bind (wpAny_bind (L0.here ((Looks.of_pure fnGa).here ?_)))
  dsimp only
  rw [PySem.F.canon_object_ga, if_neg (by decide)]
  refine wpAny_bind (wpAny_bind (L0.here ((Looks.of_pure fnHook).here ?_)))
  refine wpAny_bind (wpAny_bind (L0.here ((Looks.of_pure ht).here ?_)))
  exact wpAny_bind (fn_getAttr hf hd hl ht hh (wpAny_pure h))
end
end Mine

end
section -- M0
open PySem PySem.W PyProof.Rows PySem.Calls
set_option maxRecDepth 100000
namespace Mine
noncomputable abbrev Lo : List Str := looseW hd.view_39 [] ++ List.map (fun x => x.name) (recsOf hd.view_39) ++ List.map (fun x => x.fst) (litsOf hd.view_39) ++ List.map (fun x => x.name) (clssOf hd.view_39 (looseW hd.view_39 []))
noncomputable abbrev PR : Program := Challenge.rw_of0008_01.row.prog

theorem iteT {c : Prop} [Decidable c] {P Q : Prop} (h : c) (p : P) : if c then P else Q := by rw [if_pos h]; exact p
theorem iteF {c : Prop} [Decidable c] {P Q : Prop} (h : ¬ c) (q : Q) : if c then P else Q := by rw [if_neg h]; exact q
theorem opq {α β : Type} (F : α → β → Prop) : ∃ I : α → β → Prop, ∀ a b, I a b ↔ F a b := ⟨F, fun _ _ => Iff.rfl⟩
/- all that stood stands -/
noncomputable def Kp (h h' : Heap) : Prop := ∀ (b : Nat) (o : Obj), h.get? b = some o → h'.get? b = some o
/- all that stood stands, but at the places W -/
noncomputable def KpB (W : List Nat) (h h' : Heap) : Prop := ∀ (b : Nat) (o : Obj), b ∉ W → h.get? b = some o → h'.get? b = some o
theorem ltS {h : Heap} {a : Nat} {o : Obj} (e : h.get? a = some o) : a < h.objs.size := Heap.lt_size e
theorem Kp.refl (h : Heap) : Kp h h := fun _ _ e => e
theorem Kp.trans {a b c : Heap} (x : Kp a b) (y : Kp b c) : Kp a c := fun _ _ e => y _ _ (x _ _ e)
theorem Kp.b {W : List Nat} {a b : Heap} (x : Kp a b) : KpB W a b := fun _ _ _ e => x _ _ e
theorem KpB.trans {W : List Nat} {a b c : Heap} (x : KpB W a b) (y : KpB W b c) : KpB W a c := fun _ _ n e => y _ _ n (x _ _ n e)
theorem KpB.nil {a b : Heap} (x : KpB [] a b) : Kp a b := fun _ _ e => x _ _ (by simp) e
theorem Kp.push (h : Heap) (o : Obj) : Kp h (h.push o) := fun _ _ e => Heap.get?_push_of_some _ e
theorem kp_same {L : Nat} {h h' : Heap} (s : Heap.SameBut L h h') : KpB [L] h h' := fun b _ n e => (s.2 b (by simpa using n)).trans e
/- places that are not of the old heap may turn -/
theorem KpB.old {W : List Nat} {a b c : Heap} (x : Kp a b) (y : KpB W b c) (n : ∀ x ∈ W, a.get? x = none) : Kp a c := fun p o e => y p o (fun q => by have := n p q; rw [e] at this; cases this) (x p o e)
theorem KpB.mono {W V : List Nat} {a b : Heap} (x : KpB W a b) (h : ∀ y ∈ W, y ∈ V) : KpB V a b := fun p o n e => x p o (fun q => n (h p q)) e
theorem fresh_none {a b : Heap} (x : Kp a b) {p : Nat} (hp : b.objs.size ≤ p) : a.get? p = none := by
  cases q : a.get? p with
  | none => rfl
  | some o => exact absurd (Heap.lt_size (x _ _ q)) (Nat.not_lt.mpr hp)

/- what the top has laid, as far as the walk asks it -/
structure Gd (w : World) (mean : ExcName → Option Value) (mg mb : Str → Option Value) (h : Heap) : Prop where
  X : (hd.heap_39 w.params).In h
  T : Top topProg Lo mean mg mb h
theorem Gd.keeps {w : World} {mean : ExcName → Option Value} {mg mb : Str → Option Value} {h h' : Heap} (g : Gd w mean mg mb h) (k : Kp h h') : Gd w mean mg mb h' := ⟨g.X.keeps k, g.T.keeps k⟩

structure OkA (A : Around) (n : Nat) : Prop where
  hn : A.handled = none
  dp : A.depth + n ≤ 900
  un : A.units + 10 * n ≤ 9000
theorem OkA.room {A : Around} {n : Nat} (k : OkA A n) : A.depth < recursionLimit := Nat.lt_of_le_of_lt (Nat.le_trans (Nat.le_add_right _ _) k.dp) (by decide : 900 < 1000)
theorem OkA.units {A : Around} {n : Nat} (k : OkA A n) : A.units < cLine := Nat.lt_of_le_of_lt (Nat.le_trans (Nat.le_add_right _ _) k.un) (by decide : 9000 < 9900)
theorem OkA.deeper {A : Around} {n : Nat} (k : OkA A (n + 1)) (env : Env) : OkA (A.deeper env) n := ⟨k.hn, ar114 rfl k.dp, as20 k.un⟩
theorem OkA.in1 {A : Around} {n : Nat} (k : OkA A (n + 1)) : OkA A.in1 n := ⟨k.hn, Nat.le_of_succ_le k.dp, ar115 rfl k.un⟩
theorem OkA.less {A : Around} {n m : Nat} (k : OkA A n) (h : m ≤ n) : OkA A m := ⟨k.hn, Nat.le_trans (Nat.add_le_add_left h _) k.dp, Nat.le_trans (Nat.add_le_add_left (Nat.mul_le_mul_left 10 h) _) k.un⟩

section
variable {prog : Program} {w : World} {A : Around} {E : Value → Shared → Prop} {R : Result → Shared → Prop} {s : Shared}
  {name qual : Str} {params : Arguments} {body : List Stmt} {scope : Scope} {cl : List (Str × Addr)} {doc pm cdv ct oc : Value} {an od : Option Addr} {sl : Array (Option Value)} {f : Nat} {binds : List (Str × Value)} {vals : List Value}

/- a def without cells of its own is called -/
theorem callF {n : Nat} (k : OkA A (n + 1)) (ho : s.heap.get? f = some ⟨oc, od, .func (fnX name qual params body scope cl .none .none doc pm an cdv ct), sl⟩) (hlim : s.heap.NoLimit) (hcd : s.heap.CodeRec cdv qual)
    (hbind : bindArgs (fnX name qual params body scope cl .none .none doc pm an cdv ct) ⟨vals, []⟩ = pure binds)
    (hcell : ∀ x ∈ scope.names, x.2 ≠ .cell) (hloc : (binds.all fun x => decide (scope.names.lookup x.1 = some .local)) = true)
    (h : ∀ L h₁ tk, L = s.heap.objs.size → h₁.Ns L (fun x => binds.reverse.lookup x) → Kp s.heap h₁ → OkA (A.deeper (envX qual scope L f cdv cl)) n →
      wpAny (model prog w) (A.deeper (envX qual scope L f cdv cl)) (execs body (envX qual scope L f cdv cl)) (fun fl s' => R (.ok (.ret (match fl with | .ret v => v | _ => .none))) s') (fun _ _ => False) { s with heap := h₁, toks := tk })
    (hco : scope.isCoroutine = false := by rfl) (hgen : scope.isGenerator = false := by rfl) (hk : scope.kind = .function := by rfl) :
    codeAny (model prog w) A (.call (.ref f) ⟨vals, []⟩) R s :=
  codeAny_call_def k.room ho rfl hlim hcd rfl (BindsTo.of_eq hbind) hcell (locs hloc) (fun h₁ hns hk₁ => wpAny_mono (h _ h₁ _ rfl hns hk₁ (k.deeper _)) (fun _ _ x => x) fun _ _ x => x.elim) hco hgen hk

/- a lambda without cells of its own is called -/
theorem callE {e : Expr} {n : Nat} (k : OkA A (n + 1)) (ho : s.heap.get? f = some ⟨oc, od, .func (kla_fn name qual params e scope cl pm cdv ct), sl⟩) (hlim : s.heap.NoLimit) (hcd : s.heap.CodeRec cdv qual)
    (hbind : bindArgs (kla_fn name qual params e scope cl pm cdv ct) ⟨vals, []⟩ = pure binds)
    (hcell : ∀ x ∈ scope.names, x.2 ≠ .cell) (hloc : (binds.all fun x => decide (scope.names.lookup x.1 = some .local)) = true)
    (h : ∀ L h₁ tk, L = s.heap.objs.size → h₁.Ns L (fun x => binds.reverse.lookup x) → Kp s.heap h₁ → OkA (A.deeper (envX qual scope L f cdv cl)) n →
      wpAny (model prog w) (A.deeper (envX qual scope L f cdv cl)) (eval e (envX qual scope L f cdv cl)) (fun v s' => R (.ok (.ret v)) s') (fun _ _ => False) { s with heap := h₁, toks := tk })
    (hco : scope.isCoroutine = false := by rfl) (hgen : scope.isGenerator = false := by rfl) (hk : scope.kind = .function := by rfl) :
    codeAny (model prog w) A (.call (.ref f) ⟨vals, []⟩) R s := by
  refine kla_callFunE k.room ho rfl hco hgen rfl hcd ?_
  rw [hbind]
  refine wpAny_pure (wpAny_newFunctionEnv hcell (locs hloc) (fun h₁ hns hsb => ⟨hlim.fresh _ hsb, ?_⟩) hk)
  exact kla_codeExpr (wpAny_mono (h _ h₁ _ rfl hns (fun b o e => hsb.extBut b o (Nat.ne_of_lt (Heap.lt_size e)) (Heap.get?_push_of_some _ e)) (k.deeper _)) (fun _ _ x => x) fun _ _ x => x.elim)
end
end Mine

end
section -- M1
open PySem PySem.W PyProof.Rows PySem.Calls
set_option maxRecDepth 100000
namespace Mine

/- the body of the text's k-th statement, a def -/
noncomputable def a0 : Arguments := { posonlyargs := [], args := [], vararg := none, kwonlyargs := [], kw_defaults := [], kwarg := none, defaults := [] }
noncomputable def c0 : Scope := { kind := .module, names := [], isGenerator := false, isCoroutine := false }
noncomputable def e0 : Expr := .Constant .none 0 ⟨0, 0, 0, 0⟩
noncomputable def sp (s : Stmt) : Arguments × List Stmt × List Stmt × Scope × Expr := by
  cases s with
  | FunctionDef _ a b _ _ _ s _ _ _ => exact (a, b, [], s, e0)
  | ClassDef _ _ _ b _ _ _ _ _ _ _ => exact (a0, b, [], c0, e0)
  | For t _ b _ _ => exact (a0, b, [], c0, t)
  | If _ b e _ => exact (a0, b, e, c0, e0)
  | While t b _ _ => exact (a0, b, [], c0, t)
  | Assign _ v _ => exact (a0, [], [], c0, v)
  | _ => exact (a0, [], [], c0, e0)
noncomputable def dArgs (s : Stmt) : Arguments := (sp s).1
noncomputable def dBody (s : Stmt) : List Stmt := (sp s).2.1
noncomputable def dElse (s : Stmt) : List Stmt := (sp s).2.2.1
noncomputable def dScope (s : Stmt) : Scope := (sp s).2.2.2.1
noncomputable def dTest (s : Stmt) : Expr := (sp s).2.2.2.2
noncomputable def bodyAt (k : Nat) : List Stmt := dBody PR.main.body[k]!
/- _law_stream's own def, read -/
noncomputable def readD : Stmt := (bodyAt 8)[1]!

/- the one sign c as a text -/
noncomputable abbrev one (c : Nat) : Str := ⟨#[c]⟩
/- a list at l -/
noncomputable def LAt (h : Heap) (l : Nat) (vs : List Value) : Prop := ∃ n, h.get? l = some (listOf vs.toArray n)
theorem LAt.is {h : Heap} {l : Nat} {vs : List Value} (x : LAt h l vs) : h.IsList l vs.toArray := x.elim fun n e => ⟨_, e, rfl, n, rfl⟩
theorem LAt.kp {h h' : Heap} {l : Nat} {vs : List Value} (x : LAt h l vs) (k : Kp h h') : LAt h' l vs := x.imp fun _ e => k _ _ e
theorem LAt.kpB {h h' : Heap} {l : Nat} {vs : List Value} {W : List Nat} (x : LAt h l vs) (k : KpB W h h') (hn : l ∉ W) : LAt h' l vs := x.imp fun _ e => k _ _ hn e

section
variable {prog : Program} {w : World} {A : Around} {E : Value → Shared → Prop} {s : Shared} {l : Nat} {vs : List Value}
/- pop(0) of a list with an item -/
theorem pop0 {v : Value} {u : Tok} {Q : Value → Shared → Prop} (hl : LAt s.heap l (v :: vs)) (hz : vs.length < 2 ^ 20) (h : ∀ h', KpB [l] s.heap h' → LAt h' l vs → Q v { s with heap := h' }) :
    wpAny (model prog w) A (call (.builtin "list.pop") [.ref l, .int 0 u]) Q E s := by
  obtain ⟨n, e⟩ := hl
  have hT : s.TypeIs (.ref l) "list" := ⟨_, e, rfl⟩
  have hz' : (v :: vs).toArray.size ≤ sizeLine := by rw [sizeLine_eq, List.size_toArray, List.length_cons]; exact ar1 hz
  refine call_meets PySem.F.slot_list_pop hT PySem.F.entry_list_pop (PySem.F.args_list_pop_2 _ _) (PySem.MeetsSeq.list_pop_at l (v :: vs).toArray n 0 u 0 v (by decide) (by simp [seqIndex?]) (by simp) hz') ⟨e, ?_⟩
  refine h _ (fun b o nb eb => (Heap.get?_update_ne _ _ _ _ (by simpa using nb)).trans eb) ?_
  have := Heap.get?_update_self (Obj.mapSeq fun xs => xs.eraseIdxIfInBounds 0) e rfl
  refine ⟨if (vs.length == vs.length + 1) then n else n + 1, this.trans ?_⟩
  simp [Obj.mapSeq, W.listOf]
theorem getM_list {name : Str} {id : String} {pl : Sem Bool} {Q : Value × List Value → Shared → Prop} (slot : Slot "list" name id) (hty : typeOf (.builtin id) = pure (.type "method_descriptor")) (hl : LAt s.heap l vs)
    (h : Q (.builtin id, [.ref l]) s) : wpAny (model prog w) A (getMethod (.ref l) name pl) Q E s :=
  getMethod_builtin hl.is.typeIs PySem.F.plainAttrs_list slot hty (fun a e => by cases e; obtain ⟨n, e⟩ := hl; exact ⟨_, e, rfl⟩) h
/- the truth of a list -/
theorem truthyL {Q : Bool → Shared → Prop} (hl : LAt s.heap l vs) (hz : vs.length < 2 ^ 20) (h : ∀ tk, Q (!vs.isEmpty) { s with toks := tk }) : wpAny (model prog w) A (truthy (.ref l)) Q E s := by
  refine wpAny_truthy_list hl.is (by simp; omega) ?_
  have e : (!vs.toArray.isEmpty) = !vs.isEmpty := by cases vs <;> rfl
  rw [e]; exact h _
end

/- the lexer's stream: what read asks -/
structure ReadAt (B : Nat) (h : Heap) (rd lf : Nat) : Prop where
  at_ : ∃ (cl : Nat) (doc pm : Value) (crd : Nat) (ctv : Value) (ocl ocr : Obj) (vs : Array Value) (t : Tok), h.get? rd = some (fnMade (Str.ofString "read") (Str.ofString "_law_stream.<locals>.read") (dArgs readD) (dBody readD) (dScope readD) [(Str.ofString "left", cl)] doc pm crd ctv) ∧
    (h.get? crd = some ocr ∧ ocr.data = .fields vs ∧ vs[1]? = some (.str (Str.ofString "_law_stream.<locals>.read") t)) ∧ (h.get? cl = some ocl ∧ ocl.data = .cell (some (.ref lf))) ∧ rd < B ∧ crd < B ∧ cl < B

section
variable {w : World} {A : Around} {E : Value → Shared → Prop} {s : Shared} {R : Result → Shared → Prop} {rd lf : Nat} {vs : List Value}
theorem read_call {n : Nat} (k : OkA A (n + 1)) {B : Nat} (hR : ReadAt B s.heap rd lf) (hlim : s.heap.NoLimit) (hl : LAt s.heap lf vs) (hz : vs.length < 2 ^ 20) {u : Tok}
    (h0 : vs = [] → ∀ h' tk t, Kp s.heap h' → R (.ok (.ret (.str (Str.ofString "") t))) { s with heap := h', toks := tk })
    (h1 : ∀ v r, vs = v :: r → ∀ h' tk, KpB [lf] s.heap h' → LAt h' lf r → R (.ok (.ret v)) { s with heap := h', toks := tk }) :
    codeAny (model PR w) A (.call (.ref rd) ⟨[.int 1 u], []⟩) R s := by
  obtain ⟨cl, doc, pm, crd, ctv, ocl, ocr, cvs, ct, e1, ⟨e21, e22, e23⟩, ⟨e3, e4⟩, _⟩ := hR.at_
  have e2 : s.heap.CodeRec (.ref crd) (Str.ofString "_law_stream.<locals>.read") := ⟨_, _, _, _, rfl, e21, e22, e23⟩
  refine callF k e1 hlim e2 rfl (by decide) rfl ?_
  intro L h₁ tk hL hns kp ok
  refine wpAny_execs_cons ?_
  refine wpAny_Return_some ?_
  refine wpAny_IfExp ?_
  refine isTrue_plain ?_
  refine wpAny_Name (wpAny_loadName_free rfl rfl rfl ⟨ocl, kp _ _ e3, e4⟩ ?_ (by decide)) (by decide)
  refine truthyL (hl.kp kp) hz ?_
  intro tk2
  cases vs with
  | nil =>
    refine wpAny_Constant_str ?_
    exact h0 rfl _ _ _ kp
  | cons v r =>
    refine MethodCall_ ?_
    refine wpAny_Name (wpAny_loadName_free rfl rfl rfl ⟨ocl, kp _ _ e3, e4⟩ ?_ (by decide)) (by decide)
    have hl1 := hl.kp kp
    refine getM_list PySem.F.slot_list_pop PySem.F.type_list_pop hl1 ?_
    refine callWith_method1 (args_cons (wpAny_Constant_int (args_nil ?_)))
    refine pop0 hl1 (by simp at hz; exact ar2 hz) ?_
    intro h' k' l'
    exact h1 v r rfl _ _ (fun b o nb e => k' b o nb (kp b o e)) l'
end
end Mine

end
section -- M2
open PySem PySem.W PyProof.Rows PySem.Calls PySem.Builtin PySem.Builtin.ObjectAttr
set_option maxRecDepth 100000
namespace Mine

theorem ns_look {h : Heap} {d : Nat} {m : Str → Option Value} (n : h.Ns d m) : ∃ od, h.get? d = some od ∧ (∃ es ep, od.data = .dict es ep) ∧ ∀ name, lookIn name od = some (m name) := by
  obtain ⟨o, es, ep, e, hd, hk, hf⟩ := n
  refine ⟨o, e, ⟨es, ep, hd⟩, fun name => ?_⟩
  have hr : es.toList.any (·.refKey) = false := by
    rw [List.any_eq_false]
    intro x hx
    obtain ⟨n, t, e⟩ := hk x (by simpa using hx)
    simp [DictEntry.refKey, e]
  unfold lookIn
  rw [hd, ← hf name]
  unfold nsFind findBy
  rw [← Array.find?_toList]
  dsimp only
  cases es.toList.find? (fun x => x.key.isStr name) with
  | some e => rfl
  | none => simp [hr]

theorem ns_kpB {h h' : Heap} {a : Nat} {m : Str → Option Value} {W : List Nat} (n : h.Ns a m) (k : KpB W h h') (hn : a ∉ W) : h'.Ns a m := Exists.imp (fun _ => Exists.imp fun _ => Exists.imp fun _ => And.imp_left (k _ _ hn)) n

theorem ns1_kpB {h h' : Heap} {a : Nat} {m : Str → Option Value} {W : List Nat} (n : h.Ns1 a m) (k : KpB W h h') (hn : a ∉ W) : h'.Ns1 a m := n.at fun _ e => k _ _ hn e

section
variable {w : World} {A : Around} {E : Value → Shared → Prop} {s : Shared} {x d C : Nat} {m : Str → Option Value} {name : Str} {v : Value}

/- a thing with its dict -/
structure InstN (h : Heap) (x C d : Nat) (m : Str → Option Value) : Prop where
  at_ : h.get? x = some (instObj C d)
  ns : h.Ns1 d m
theorem InstN.kp {h h' : Heap} (I : InstN h x C d m) (k : Kp h h') : InstN h' x C d m := ⟨k _ _ I.at_, I.ns.at fun _ e => k _ _ e⟩
theorem InstN.kpB {h h' : Heap} {W : List Nat} (I : InstN h x C d m) (k : KpB W h h') (h1 : x ∉ W) (h2 : d ∉ W) : InstN h' x C d m := ⟨k _ _ h1 I.at_, ns1_kpB I.ns k h2⟩

theorem inst_get {K : Frag} {ex : Bool} {Q : Value → Shared → Prop} (X : K.In s.heap) (I : InstN s.heap x C d m) (hg : plainGet K C name = true) (hh : hasDictIn K C = true) (ha : findIn K (.ref C) name = some none)
    (hv : m name = some v) (hd : handedIn v = true) (h : ∀ tk, Q v { s with toks := tk }) : wpAny (model PR w) A (getAttr (.ref x) name ex) Q E s := by
  obtain ⟨od, e, _, l⟩ := ns_look I.ns.ns
  exact get_value X ⟨I.at_, rfl, rfl, e⟩ (plainGet_of hg).1 (findObj_own hh ha rfl ((l name).trans (by rw [hv]))) hd (h _)

theorem inst_method {K : Frag} {pl : Sem Bool} {f : Nat} {Q : Value × List Value → Shared → Prop} (X : K.In s.heap) (I : InstN s.heap x C d m) (hg : plainGet K C name = true)
    (hf : findIn K (.ref C) name = some (some (.ref f))) (ht : isFn K (.ref f) = true) (hv : m name = none) (h : Q (.ref f, [.ref x]) s) : wpAny (model PR w) A (getMethod (.ref x) name pl) Q E s := by
  obtain ⟨od, e, _, l⟩ := ns_look I.ns.ns
  have hs : shadowIn (some od) name = some false := by unfold shadowIn; dsimp only; rw [l name, hv]; rfl
  exact method_fn (od := some od) X ⟨I.at_, rfl, rfl, e⟩ (plainGet_of hg).1 (plainGet_of hg).2 hf (beq_iff_eq.mp ht) hs h

/- the store of a name in a dict that is a namespace -/
theorem store_ns {ns : List Str} {R : Result → Shared → Prop} (nv : Tok) (n : s.heap.Ns1 d m) (hw : Within m ns) (hz : ns.length ≤ 1000) (h : ∀ h' tk, h'.Ns1 d (fun y => if y = name then some v else m y) → KpB [d] s.heap h' → R (.ok (.ret .none)) { s with heap := h', toks := tk }) :
    wpAny (model PR w) A.in1 (storeInDict d (.str name nv) name v) (fun fin s' => match fin with | .done f => R (.ok f) s' | .again c' => c'.quiet = true ∧ codeAny (model PR w) A c' R s') (fun e s' => R (.error e) s') s := by
  unfold storeInDict
  refine wpAny_bind (wpAny_pure (wpAny_bind (wpAny_nsSet1 n fun h' n' sb => ?_)))
  obtain ⟨oD, esD, epD, hoD, hdD, hcD⟩ := n'.count (Within.cons name v hw)
  refine wpAny_bind (wpAny_lookBehind hoD (by rw [hdD]; exact pastItsLine_dict (Nat.le_trans hcD (by rw [List.length_cons, sizeLine_eq]; exact ar3 hz))) ?_)
  exact wpAny_pure (h _ _ n' (kp_same sb))

theorem inst_set {K : Frag} {ns : List Str} {Q : Unit → Shared → Prop} (X : K.In s.heap) (I : InstN s.heap x C d m) (hs : findIn K (.ref C) "__setattr__" = some (some (.builtin "object.__setattr__")))
    (hp : plainOver K C = true) (ht : takerIn K C name = some none) (hh : hasDictIn K C = true) (hw : Within m ns) (hz : ns.length ≤ 1000)
    (h : ∀ h' tk, InstN h' x C d (fun y => if y = name then some v else m y) → KpB [d] s.heap h' → Q () { s with heap := h', toks := tk }) : wpAny (model PR w) A (setAttr (.ref x) name v) Q E s := by
  obtain ⟨od, e, ⟨es, ep, hdat⟩, l⟩ := ns_look I.ns.ns
  have IA : InstAt s.heap x (instObj C d) C (some od) := ⟨I.at_, rfl, rfl, e⟩
  have hxd : x ≠ d := fun q => by have := I.at_; rw [q, e] at this; cases this; cases hdat
  refine set_plain X IA hs (osa_open (s := { s with toks := s.toks + 1 }) X IA hp ht fun b => ?_)
  obtain ⟨cd, hc, hd'⟩ := any_some hh
  dsimp only
  unfold storeInOwnDict
  refine wpAny_bind (wpAny_pure (wpAny_bind ?_))
  unfold ownDictForStores instanceDict
  refine wpAny_bind (wpAny_loadPart I.at_ ?_)
  refine wpAny_bind (looks_clsIn X hc _ _ _ _ (fun _ _ e => e) ?_)
  rw [hd']
  refine wpAny_pure (a := some d) ?_
  exact store_ns (s := { s with toks := s.toks + 1 }) (R := fun r s' => match r with | .ok (.ret _) => Q () s' | .ok _ => False | .error e => E e s') _ I.ns hw hz fun h' tk n' k =>
    h _ _ ⟨k _ _ (by simpa using hxd) I.at_, n'⟩ k
/- a function object with its dict, or without one -/
theorem fnSa : typeLookup (.type "function") "__setattr__" = pure (some (.builtin "object.__setattr__")) := by kernel_rfl
theorem fnMro : mroOf (.type "function") = pure [.type "function", .type "object"] := by kernel_rfl
theorem fnPass (self : Value) : refuseLoop self "__setattr__" [.type "function", .type "object"] = pure () := by kernel_rfl
theorem fn_osa {f : Nat} {o : Obj} {R : Result → Shared → Prop} {tk : Tok} (hf : s.heap.get? f = some o) (hc : o.cls = .type "function") (ht : typeLookup (.type "function") name = pure none)
    (h : wpAny (model PR w) A.in1 (storeInOwnDict (.ref f) (.type "function") (.str name tk) name v false) (fun fin s' => match fin with | .done f => R (.ok f) s' | .again c' => c'.quiet = true ∧ codeAny (model PR w) A c' R s') (fun e s' => R (.error e) s') s) :
    codeAny (model PR w) A (.call (.builtin "object.__setattr__") ⟨[.ref f, .str name tk, v], []⟩) R s := by
  have L0 : Looks (model PR w) s.heap (typeOf (.ref f)) (.type "function") := fnType hf hc
  have LI : Looks (model PR w) s.heap (isInstance (.ref f) (.type "object")) true := L0.andThen (Looks.of_pure fnInst)
  have SF := PySem.F.store_object
  refine codeAny_call_builtin SF.slot.plain SF.entry (@check_slot (model PR w) _ _ s "object.__setattr__" "object" "__setattr__" (.ref f) [.str name tk, v] [] _ SF.kind SF.split LI (SF.args _ _ _) ?_)
  rw [osa_eq, refuse_eq]
  refine wpAny_bind (wpAny_bind (L0 _ _ _ _ (fun _ _ e => e) (wpAny_bind ((Looks.of_pure fnMro) _ _ _ _ (fun _ _ e => e) ?_))))
  rw [fnPass]
  exact wpAny_pure (wpAny_bind (L0 _ _ _ _ (fun _ _ e => e) (wpAny_bind ((Looks.of_pure ht) _ _ _ _ (fun _ _ e => e) (wpAny_bind (wpAny_pure h))))))
theorem fn_setA {f : Nat} {o : Obj} {Q : Unit → Shared → Prop} (hf : s.heap.get? f = some o) (hc : o.cls = .type "function")
    (h : codeAny (model PR w) A (.call (.builtin "object.__setattr__") ⟨[.ref f, .str name s.toks, v], []⟩) (fun r s' => match r with | .ok (.ret _) => Q () s' | .ok _ => False | .error e => E e s') { s with toks := s.toks + 1 }) :
    wpAny (model PR w) A (setAttr (.ref f) name v) Q E s := by
  have L0 : Looks (model PR w) s.heap (typeOf (.ref f)) (.type "function") := fnType hf hc
  refine wpAny_bind (wpAny_mkText (wpAny_bind (wpAny_bind (wpAny_bind (L0 _ _ _ _ (fun _ _ e => e) ((Looks.of_pure fnSa) _ _ _ _ (fun _ _ e => e) (wpAny_holding ?_)))))))
  rw [PySem.F.store_object.slot.bind]
  refine wpAny_bind (wpAny_pure (wpAny_bind (wpAny_call (codeAny_mono h fun r s' z => ?_))))
  rcases r with e | (v | _ | _ | _) <;> first | exact z | exact wpAny_pure (wpAny_pure z)
theorem fn_set0 {f : Nat} {fd : FuncData} {sl : Array (Option Value)} {Q : Unit → Shared → Prop} (hf : s.heap.get? f = some ⟨.type "function", none, .func fd, sl⟩) (ht : typeLookup (.type "function") name = pure none)
    (h : ∀ d h' tk, h'.get? f = some ⟨.type "function", some d, .func fd, sl⟩ → h'.Ns1 d (fun y => if y = name then some v else none) → s.heap.objs.size ≤ d → KpB [f] s.heap h' → Q () { s with heap := h', toks := tk }) :
    wpAny (model PR w) A (setAttr (.ref f) name v) Q E s := by
  refine fn_setA hf rfl (fn_osa (s := { s with toks := s.toks + 1 }) hf rfl ht ?_)
  unfold storeInOwnDict
  refine wpAny_bind (wpAny_pure (wpAny_bind ?_))
  unfold ownDictForStores instanceDict
  refine wpAny_bind (wpAny_loadPart hf ?_)
  have hfs : f ≠ s.heap.objs.size := Nat.ne_of_lt (Heap.lt_size hf)
  have hx₁ : (s.heap.push { cls := .type "dict", data := .dict #[] }).get? f = some ⟨.type "function", none, .func fd, sl⟩ := Heap.get?_push_of_some _ hf
  refine wpAny_bind (wpAny_alloc ?_)
  refine wpAny_bind (wpAny_update hx₁ ?_)
  refine wpAny_pure (a := some s.heap.objs.size) ?_
  have hgd : ((s.heap.push { cls := .type "dict", data := .dict #[] }).update f fun o => { o with dict := some s.heap.objs.size }).Ns s.heap.objs.size (fun _ => none) :=
    ⟨_, #[], _, (Heap.get?_update_ne _ _ _ _ hfs.symm).trans (Heap.get?_push_size _ rfl), rfl, fun e he => absurd he (by simp), fun _ => rfl⟩
  refine store_ns (s := { s with heap := (s.heap.push { cls := .type "dict", data := .dict #[] }).update f fun o => { o with dict := some s.heap.objs.size }, toks := s.toks + 1 })
    (R := fun r s' => match r with | .ok (.ret _) => Q () s' | .ok _ => False | .error e => E e s') _ (Heap.Ns1.of_empty hgd) Within.nil (by decide) fun h' tk n' k => ?_
  refine h _ _ _ (k _ _ (by simpa using hfs) (Heap.get?_update_self _ hx₁ rfl)) n' (Nat.le_refl _) fun b o nb e => ?_
  exact k _ _ (by simpa using Nat.ne_of_lt (Heap.lt_size e)) ((Heap.get?_update_ne _ _ _ _ (by simpa using nb)).trans (Heap.get?_push_of_some _ e))
theorem fn_set1 {f : Nat} {fd : FuncData} {sl : Array (Option Value)} {ns : List Str} {Q : Unit → Shared → Prop} (hf : s.heap.get? f = some ⟨.type "function", some d, .func fd, sl⟩) (hn : s.heap.Ns1 d m) (hw : Within m ns) (hz : ns.length ≤ 1000) (ht : typeLookup (.type "function") name = pure none)
    (h : ∀ h' tk, h'.Ns1 d (fun y => if y = name then some v else m y) → KpB [d] s.heap h' → Q () { s with heap := h', toks := tk }) :
    wpAny (model PR w) A (setAttr (.ref f) name v) Q E s := by
  refine fn_setA hf rfl (fn_osa (s := { s with toks := s.toks + 1 }) hf rfl ht ?_)
  unfold storeInOwnDict
  refine wpAny_bind (wpAny_pure (wpAny_bind ?_))
  unfold ownDictForStores instanceDict
  refine wpAny_bind (wpAny_loadPart hf ?_)
  refine wpAny_pure (a := some d) ?_
  exact store_ns (s := { s with toks := s.toks + 1 }) (R := fun r s' => match r with | .ok (.ret _) => Q () s' | .ok _ => False | .error e => E e s') _ hn hw hz fun h' tk n' k => h _ _ n' k
/- what a function object bears -/
theorem fn_get {f : Nat} {fd : FuncData} {sl : Array (Option Value)} {ex : Bool} {Q : Value → Shared → Prop} (hf : s.heap.get? f = some ⟨.type "function", some d, .func fd, sl⟩) (hn : s.heap.Ns1 d m) (hv : m name = some v) (hd : handedIn v = true)
    (ht : typeLookup (.type "function") name = pure none) (h : ∀ tk, Q v { s with toks := tk }) : wpAny (model PR w) A (getAttr (.ref f) name ex) Q E s := by
  obtain ⟨od, e, _, l⟩ := ns_look hn.ns
  exact fn_getAttr hf e ((l name).trans (by rw [hv])) ht hd (h _)
theorem fn_meth {f : Nat} {fd : FuncData} {sl : Array (Option Value)} {pl : Sem Bool} {Q : Value × List Value → Shared → Prop} (hf : s.heap.get? f = some ⟨.type "function", some d, .func fd, sl⟩) (hn : s.heap.Ns1 d m) (hv : m name = some v) (hd : handedIn v = true)
    (ht : typeLookup (.type "function") name = pure none) (h : ∀ tk, Q (v, []) { s with toks := tk }) : wpAny (model PR w) A (getMethod (.ref f) name pl) Q E s := by
  obtain ⟨od, e, _, l⟩ := ns_look hn.ns
  exact fn_getMethod hf e ((l name).trans (by rw [hv])) ht hd (h _)
end
end Mine

end
section -- M3
open PySem PySem.W PyProof.Rows PySem.Calls PySem.Builtin PySem.Builtin.ObjectAttr
set_option maxRecDepth 100000
namespace Mine

/- the kind of an object's data -/
noncomputable def dkD (d : Data) : Nat := by
  cases d with
  | plain => exact 0
  | seq => exact 1
  | dict => exact 2
  | cell => exact 3
  | func => exact 4
  | fields => exact 5
  | _ => exact 6
noncomputable def dk (o : Obj) : Nat := dkD o.data
theorem ne_dk {h : Heap} {a b : Nat} {o o' : Obj} (e : h.get? a = some o) (e' : h.get? b = some o') (n : dk o ≠ dk o') : a ≠ b := fun q => by subst q; rw [e] at e'; cases e'; exact n rfl
theorem dk_of {o : Obj} {d : Data} (e : o.data = d) : dk o = dk ⟨.none, none, d, #[]⟩ := by unfold dk; rw [e]

theorem ReadAt.kpB {B : Nat} {h h' : Heap} {rd lf : Nat} {W : List Nat} (R : ReadAt B h rd lf) (k : KpB W h h') (hW : ∀ x ∈ W, B ≤ x ∨ ∃ o, h.get? x = some o ∧ (dk o = 1 ∨ dk o = 2)) : ReadAt B h' rd lf := by
  obtain ⟨cl, doc, pm, crd, ctv, ocl, ocr, cvs, ct, e1, ⟨e21, e22, e23⟩, ⟨e3, e4⟩, b1, b2, b3⟩ := R.at_
  have key : ∀ (a : Nat) (o : Obj), h.get? a = some o → a < B → dk o ≠ 1 → dk o ≠ 2 → h'.get? a = some o := fun a o e hb n1 n2 => k a o (fun q => by
    rcases hW a q with hq | ⟨o', e', hq⟩
    · exact absurd hb (Nat.not_lt.mpr hq)
    · rw [e] at e'; cases e'; exact hq.elim n1 n2) e
  refine ⟨cl, doc, pm, crd, ctv, ocl, ocr, cvs, ct, key _ _ e1 b1 (show (4 : Nat) ≠ 1 by decide) (show (4 : Nat) ≠ 2 by decide), ⟨key _ _ e21 b2 ?_ ?_, e22, e23⟩, ⟨key _ _ e3 b3 ?_ ?_, e4⟩, b1, b2, b3⟩
  · rw [dk_of e22]; show (5 : Nat) ≠ 1; decide
  · rw [dk_of e22]; show (5 : Nat) ≠ 2; decide
  · rw [dk_of e4]; show (3 : Nat) ≠ 1; decide
  · rw [dk_of e4]; show (3 : Nat) ≠ 2; decide

/- the lexer lx, its dict dx, its stream's read rd over the list lf, at the line ln -/
structure LexAt (B : Nat) (h : Heap) (lx dx pb rd lf : Nat) (ln : Int) : Prop where
  obj : ∃ (m : Str → Option Value) (t tw : Tok) (st ds : Nat) (ms : Str → Option Value) (fd : FuncData) (sl : Array (Option Value)), InstN h lx 101 dx m ∧ m (Str.ofString "lineno") = some (.int ln t) ∧ m (Str.ofString "instream") = some (.ref st) ∧ m (Str.ofString "whitespace") = some (.str (Str.ofString "\n\t\r ") tw) ∧
    m (Str.ofString "pushback") = some (.ref pb) ∧ m (Str.ofString "_read_char") = none ∧ m (Str.ofString "get_token") = none ∧ Within m [Str.ofString "lineno", Str.ofString "instream", Str.ofString "whitespace", Str.ofString "pushback"] ∧
    h.get? st = some ⟨.type "function", some ds, .func fd, sl⟩ ∧ h.Ns1 ds ms ∧ ms (Str.ofString "read") = some (.ref rd) ∧ st < B ∧ ds < B ∧ ds ≠ dx
  read : ReadAt B h rd lf
  pbl : LAt h pb []
  blx : lx < B
  bdx : dx < B
  bpb : pb < B
  blf : lf < B
  npl : pb ≠ lf

theorem Ns1.dk {h : Heap} {a : Nat} {m : Str → Option Value} (n : h.Ns1 a m) : ∃ o, h.get? a = some o ∧ Mine.dk o = 2 := Exists.imp (fun _ y => y.elim fun _ y => y.elim fun _ z => ⟨z.1, by rw [dk_of z.2.1]; rfl⟩) n
theorem LAt.dk {h : Heap} {a : Nat} {vs : List Value} (n : LAt h a vs) : ∃ o, h.get? a = some o ∧ Mine.dk o = 1 := n.elim fun _ e => ⟨_, e, rfl⟩

/- the list turns, or what is behind B -/
theorem LexAt.kpB {B : Nat} {h h' : Heap} {lx dx pb rd lf : Nat} {ln : Int} {vs : List Value} {W : List Nat} (x : LexAt B h lx dx pb rd lf ln) (hl : LAt h lf vs) (k : KpB W h h') (hW : ∀ y ∈ W, B ≤ y ∨ y = lf) : LexAt B h' lx dx pb rd lf ln := by
  obtain ⟨⟨m, t, tw, st, ds, ms, fd, sl, I, m1, m2, m3, m4, m5, m6, hw, e1, n1, m7, b1, b2, nd⟩, R, P, blx, bdx, bpb, blf, npl⟩ := x
  obtain ⟨ol, el, dl⟩ := hl.dk
  have key : ∀ (a : Nat) (o : Obj), h.get? a = some o → a < B → Mine.dk o ≠ 1 → a ∉ W := fun a o e hb n q => by
    rcases hW a q with hq | hq
    · exact absurd hb (Nat.not_lt.mpr hq)
    · subst hq; rw [e] at el; cases el; exact n dl
  obtain ⟨o2, e2, d2⟩ := Ns1.dk I.ns
  obtain ⟨o3, e3, d3⟩ := Ns1.dk n1
  refine ⟨⟨m, t, tw, st, ds, ms, fd, sl, I.kpB k (key _ _ I.at_ blx (show (0 : Nat) ≠ 1 by decide)) (key _ _ e2 bdx (by exact ar4 d2)), m1, m2, m3, m4, m5, m6, hw, k _ _ (key _ _ e1 b1 (by simp [Mine.dk, dkD])) e1, ns1_kpB n1 k (key _ _ e3 b2 (by exact ar4 d3)), m7, b1, b2, nd⟩, ?_, ?_, blx, bdx, bpb, blf, npl⟩
  · exact R.kpB k fun y hy => (hW y hy).imp id fun (q : y = lf) => ⟨ol, by rw [q]; exact el, .inl dl⟩
  · refine P.kpB k fun q => ?_
    rcases hW pb q with hq | hq
    · exact absurd bpb (Nat.not_lt.mpr hq)
    · exact npl hq

/- the line turns -/
theorem LexAt.line {B : Nat} {h h' : Heap} {lx dx pb rd lf : Nat} {ln ln' : Int} {t' : Tok} (x : LexAt B h lx dx pb rd lf ln) (k : KpB [dx] h h')
    (hn : ∀ m, InstN h lx 101 dx m → InstN h' lx 101 dx (fun y => if y = Str.ofString "lineno" then some (.int ln' t') else m y)) : LexAt B h' lx dx pb rd lf ln' := by
  obtain ⟨⟨m, t, tw, st, ds, ms, fd, sl, I, m1, m2, m3, m4, m5, m6, hw, e1, n1, m7, b1, b2, nd⟩, R, P, blx, bdx, bpb, blf, npl⟩ := x
  obtain ⟨o2, e2, d2⟩ := Ns1.dk I.ns
  have key : ∀ (a : Nat) (o : Obj), h.get? a = some o → Mine.dk o ≠ 2 → a ∉ [dx] := fun a o e n q => by
    rw [List.mem_singleton] at q; subst q; rw [e] at e2; cases e2; exact n d2
  refine ⟨⟨_, t', tw, st, ds, ms, fd, sl, hn m I, if_pos rfl, (if_neg (by decide)).trans m2, (if_neg (by decide)).trans m3, (if_neg (by decide)).trans m4, (if_neg (by decide)).trans m5, (if_neg (by decide)).trans m6, fun y hy => ?_,
    k _ _ (key _ _ e1 (by simp [Mine.dk, dkD])) e1, ns1_kpB n1 k (by simpa using nd), m7, b1, b2, nd⟩, ?_, ?_, blx, bdx, bpb, blf, npl⟩
  · by_cases q : y = Str.ofString "lineno"
    · rw [q]; exact .head _
    · exact hw y (by simpa [q] using hy)
  · exact R.kpB k fun y hy => .inr ⟨o2, by rw [List.mem_singleton.mp hy]; exact e2, .inr d2⟩
  · obtain ⟨op, ep, dp⟩ := P.dk
    exact P.kpB k (key _ _ ep (by exact ar5 dp))
end Mine

end
section -- M4
open PySem PySem.W PyProof.Rows PySem.Calls PySem.Builtin PySem.Builtin.ObjectAttr
set_option maxRecDepth 100000
namespace Mine

theorem k_plain (P : Params) (n : Str) : plainGet (hd.heap_39 P) 101 n = true := by kernel_rfl
theorem k_has (P : Params) : hasDictIn (hd.heap_39 P) 101 = true := by kernel_rfl
theorem k_instream (P : Params) : findIn (hd.heap_39 P) (.ref 101) (Str.ofString "instream") = some none := by kernel_rfl
theorem k_lineno (P : Params) : findIn (hd.heap_39 P) (.ref 101) (Str.ofString "lineno") = some none := by kernel_rfl
theorem k_sa (P : Params) : findIn (hd.heap_39 P) (.ref 101) "__setattr__" = some (some (.builtin "object.__setattr__")) := by kernel_rfl
theorem k_over (P : Params) : plainOver (hd.heap_39 P) 101 = true := by kernel_rfl
theorem k_tlineno (P : Params) : takerIn (hd.heap_39 P) 101 (Str.ofString "lineno") = some none := by kernel_rfl
theorem k_c83 (P : Params) : codeIn (hd.heap_39 P) (.ref 83) (Str.ofString "_netrclex._read_char") = true := by kernel_rfl

theorem InstN.uniq {h : Heap} {x C d : Nat} {m m' : Str → Option Value} (a : InstN h x C d m) (b : InstN h x C d m') : m' = m := by
  obtain ⟨o, es, ep, e, hd, _, _, f⟩ := a.ns
  obtain ⟨o', es', ep', e', hd', _, _, f'⟩ := b.ns
  rw [e] at e'; cases e'; rw [hd] at hd'; cases hd'
  funext y; rw [← f y, ← f' y]
theorem Gd.lim {w : World} {mean : ExcName → Option Value} {mg mb : Str → Option Value} {h : Heap} (g : Gd w mean mg mb h) : h.NoLimit := g.T.nolimit

section
variable {w : World} {mean : ExcName → Option Value} {mg mb : Str → Option Value} {A : Around} {E : Value → Shared → Prop} {s : Shared} {R : Result → Shared → Prop} {h₀ : Heap} {B lx dx pb rd lf : Nat} {ln : Int} {vs : List Value}

/- _read_char -/
theorem read_char {n : Nat} (k : OkA A (n + 4)) (G : Gd w mean mg mb h₀) (K0 : Kp h₀ s.heap) (hlf : h₀.get? lf = none) (hBs : B ≤ s.heap.objs.size) (x : LexAt B s.heap lx dx pb rd lf ln) (hl : LAt s.heap lf vs) (hz : vs.length < 2 ^ 20)
    (hc : ∀ v ∈ vs, ∃ c t, v = .str (one c) t)
    (h0 : vs = [] → ∀ h' tk t, KpB [dx, lf] s.heap h' → LexAt B h' lx dx pb rd lf ln → LAt h' lf [] → R (.ok (.ret (.str (Str.ofString "") t))) { s with heap := h', toks := tk })
    (h1 : ∀ c t r, vs = .str (one c) t :: r → ∀ h' tk, KpB [dx, lf] s.heap h' → LexAt B h' lx dx pb rd lf (if c = 10 then ln + 1 else ln) → LAt h' lf r → R (.ok (.ret (.str (one c) t))) { s with heap := h', toks := tk }) :
    codeAny (model PR w) A (.call (.ref 84) ⟨[.ref lx], []⟩) R s := by
  have GS := G.keeps K0
  refine callF (n := n + 3) (binds := [(Str.ofString "self", .ref lx)]) (k.less (by exact ar6)) (GS.X _ _ (by rfl)) GS.lim (codeRec_of GS.X (k_c83 _)) rfl (by decide) rfl ?_
  intro L h₁ tk hL hns kp ok
  have x1 := x.kpB hl (kp.b (W := [])) (by simp)
  have GS1 := GS.keeps kp
  obtain ⟨m, t, tw, st, ds, ms, fd, sl, I, m1, m2, m3, m4, m5, m6, hw, e1, n1, m7, b1, b2, nd⟩ := x1.obj
  refine wpAny_execs_cons (wpAny_Assign_Name ?_)
  refine MethodCall_ ?_
  refine Attribute_Name_ ?_
  refine wpAny_Name (wpAny_loadName_local rfl rfl hns rfl ?_) (by decide)
  refine inst_get GS1.X I (k_plain _ _) (k_has _) (k_instream _) m2 rfl fun tk2 => ?_
  refine fn_meth e1 n1 m7 rfl (by kernel_rfl) fun tk3 => ?_
  have hrd : FnAt rd h₁ := by obtain ⟨cl, doc, pm, crd, ctv, ocl, ocr, cvs, ct, e1, _⟩ := x1.read.at_; exact ⟨_, _, _, _, e1⟩
  refine callWith_F hrd (args_cons (wpAny_Constant_int (args_nil ⟨hrd, ?_⟩)))
  refine wpAny_call (read_call (n := n + 2) ok x1.read GS1.lim (hl.kp kp) hz ?_ ?_)
  · intro hv h' tk' t' k'
    dsimp only at k' ⊢
    subst hv
    have x2 := x1.kpB (hl.kp kp) (k'.b (W := [])) (by simp)
    have hL' : lx < L ∧ dx < L ∧ pb < L ∧ lf < L := by have := x.blx; have := x.bdx; have := x.bpb; have := x.blf; exact ar7 hBs hL ‹lx < B› ‹dx < B› ‹pb < B› this
    refine wpAny_storeName_local rfl (hns.keeps k') (fun h2 hn2 sb => ?_)
    dsimp only
    have x3 := x2.kpB ((hl.kp kp).kp k') (kp_same sb) (by simp; omega)
    refine wpAny_execs_cons (wpAny_If (wpAny_isTrue_Compare1 ?_))
    refine wpAny_Name (wpAny_loadName_local rfl rfl hn2 rfl ?_) (by decide)
    refine wpAny_Constant_str (PyProof.Rows.eq_str (wpAny_truthy_bool ?_))
    rw [if_neg (by decide)]
    refine wpAny_execs_nil (wpAny_execs_cons (wpAny_Return_some ?_))
    refine wpAny_Name (wpAny_loadName_local rfl rfl hn2 rfl ?_) (by decide)
    dsimp only
    refine h0 rfl _ _ _ ?_ x3 ?_
    · intro b o nb e
      exact kp_same sb _ _ (by have := ltS e; exact as1 hL this) (k' _ _ (kp _ _ e))
    · exact ((hl.kp kp).kp k').kpB (kp_same sb) (by exact nlt hL'.2.2.2)
  · intro v r hv h' tk' k' l'
    dsimp only at k' l' ⊢
    subst hv
    obtain ⟨c, tc, rfl⟩ := hc v (.head _)
    have hl1 := hl.kp kp
    have x2 := x1.kpB hl1 k' (by simp)
    have hL' : lx < L ∧ dx < L ∧ pb < L ∧ lf < L := by have := x.blx; have := x.bdx; have := x.bpb; have := x.blf; exact ar7 hBs hL ‹lx < B› ‹dx < B› ‹pb < B› this
    refine wpAny_storeName_local rfl (ns_kpB hns k' (by exact ngt hL'.2.2.2)) (fun h2 hn2 sb => ?_)
    dsimp only
    have x3 := x2.kpB l' (kp_same sb) (by simp; omega)
    have l3 := l'.kpB (kp_same sb) (by exact nlt hL'.2.2.2)
    have kk : KpB [lf] s.heap h2 := fun b o nb e => kp_same sb _ _ (by have := ltS e; exact as1 hL this) (k' _ _ nb (kp _ _ e))
    refine wpAny_execs_cons (wpAny_If (wpAny_isTrue_Compare1 ?_))
    refine wpAny_Name (wpAny_loadName_local rfl rfl hn2 rfl ?_) (by decide)
    refine wpAny_Constant_str (PyProof.Rows.eq_str (wpAny_truthy_bool ?_))
    have hb : (one c == Str.ofString "\n") = decide (c = 10) := by
      by_cases q : c = 10
      · subst q; decide
      · rw [decide_eq_false q]
        refine beq_eq_false_iff_ne.mpr fun e => q ?_
        have e2 : (one c).cps = #[10] := e ▸ (by decide)
        simpa using e2
    rw [hb]
    by_cases q : c = 10
    · rw [if_pos (by simp [q])]
      obtain ⟨m', t', tw', st', ds', ms', fd', sl', I', m1', _, _, _, _, _, hw', _⟩ := x3.obj
      have GS3 := G.keeps (KpB.old K0 kk (by simpa using hlf))
      refine wpAny_execs_cons (wpAny_AugAssign_AttributeAny ?_)
      refine wpAny_Name (wpAny_loadName_local rfl rfl hn2 rfl ?_) (by decide)
      refine inst_get GS3.X I' (k_plain _ _) (k_has _) (k_lineno _) m1' rfl fun tk5 => ?_
      refine wpAny_Constant_int (PyProof.Rows.iadd_int ?_)
      refine inst_set GS3.X I' (k_sa _) (k_over _) (k_tlineno _) (k_has _) hw' (by decide) fun h4 tk6 I4 k4 => ?_
      dsimp only
      have x4 := x3.line k4 (fun mm II => (II.uniq I') ▸ I4)
      have nl : lf ≠ dx := by obtain ⟨o1, e1, d1⟩ := Ns1.dk I'.ns; obtain ⟨o2, e2, d2⟩ := l3.dk; exact ne_dk e2 e1 (by exact ar8 d1 d2)
      refine wpAny_execs_nil (wpAny_execs_cons (wpAny_Return_some ?_))
      refine wpAny_Name (wpAny_loadName_local rfl rfl (ns_kpB hn2 k4 (by exact ngt hL'.2.1)) rfl ?_) (by decide)
      dsimp only
      refine h1 c tc r rfl _ _ (fun b o nb e => k4 _ _ (by simp at nb ⊢; exact nb.1) (kk _ _ (by simp at nb ⊢; exact nb.2) e)) ?_ (l3.kpB k4 (by simpa using nl))
      rw [if_pos q]; exact x4
    · rw [if_neg (by simp [q])]
      refine wpAny_execs_nil (wpAny_execs_cons (wpAny_Return_some ?_))
      refine wpAny_Name (wpAny_loadName_local rfl rfl hn2 rfl ?_) (by decide)
      dsimp only
      refine h1 c tc r rfl _ _ (kk.mono (by simp)) ?_ l3
      rw [if_neg q]; exact x3
end
end Mine

end
section -- M5
open PySem PySem.W PyProof.Rows PySem.Calls PySem.Builtin PySem.Builtin.ObjectAttr
set_option maxRecDepth 100000
namespace Mine

noncomputable abbrev ciObj (a b c : Value) : Obj := { cls := .type "callable_iterator", data := .fields #[a, b, c] }
theorem slot_ci_next : Slot "callable_iterator" "__next__" "callable_iterator.__next__" :=
  .of (owner := "callable_iterator") (n := "__next__") (by rw [typeLookup_type, builtinLookup_eq_fast]; kernel_rfl) (by decide +kernel) (by decide +kernel) (by decide +kernel)
    (by first | exact .inl (by decide +kernel) | exact .inr (by decide +kernel)) (by rw [isSubtype_type]; kernel_rfl)
theorem slot_ci_iter : Slot "callable_iterator" "__iter__" "callable_iterator.__iter__" :=
  .of (owner := "callable_iterator") (n := "__iter__") (by rw [typeLookup_type, builtinLookup_eq_fast]; kernel_rfl) (by decide +kernel) (by decide +kernel) (by decide +kernel)
    (by first | exact .inl (by decide +kernel) | exact .inr (by decide +kernel)) (by rw [isSubtype_type]; kernel_rfl)
theorem entry_ci_next : entryFor table "callable_iterator.__next__" = some Builtin.«callable_iterator.__next__» := entryFor_of_fast (by kernel_rfl)
theorem entry_ci_iter : entryFor table "callable_iterator.__iter__" = some Builtin.«dict_keyiterator.__iter__» :=
  entryFor_alias (id' := "dict_keyiterator.__iter__") (by kernel_rfl) rfl (by decide +kernel) (by kernel_rfl)
theorem args_ci_next (a : Value) : argsOk "callable_iterator.__next__" ⟨[a], []⟩ := by unfold argsOk; kernel_rfl
theorem args_ci_iter (a : Value) : argsOk "callable_iterator.__iter__" ⟨[a], []⟩ := by unfold argsOk; kernel_rfl
theorem entry_iter : entryFor table "iter" = some Builtin.«iter» := entryFor_of_fast (by kernel_rfl)
theorem args_iter2 (a b : Value) : argsOk "iter" ⟨[a, b], []⟩ := by unfold argsOk; kernel_rfl
theorem meth_call : typeLookup (.type "method") "__call__" = pure (some (.builtin "method.__call__")) := by kernel_rfl

section
variable {w : World} {A : Around} {E : Value → Shared → Prop} {s : Shared} {it bm : Nat} {f self a b c : Value}

theorem ci_iter {Q : Value → Shared → Prop} (hi : s.heap.get? it = some (ciObj a b c)) (h : Q (.ref it) s) : wpAny (model PR w) A (pyIter (.ref it)) Q E s := by
  have hT : s.TypeIs (.ref it) "callable_iterator" := ⟨_, hi, rfl⟩
  refine wpAny_pyIter_slot hT slot_ci_iter (wpAny_call_entry slot_ci_iter hT entry_ci_iter ?_ (args_ci_iter _))
  show wpAny _ _ (ret (.ref it)) _ _ s
  exact wpAny_pure ⟨_, rfl, "callable_iterator", _, hT, slot_ci_next.lookup, h⟩

/- a method as a value -/
theorem inst_bound {K : Frag} {x C d f : Nat} {m : Str → Option Value} {name : Str} {ex : Bool} {Q : Value → Shared → Prop} (X : K.In s.heap) (I : InstN s.heap x C d m) (hg : plainGet K C name = true) (hh : hasDictIn K C = true)
    (ha : findIn K (.ref C) name = some (some (.ref f))) (hf : isFn K (.ref f) = true) (hgf : specialIn K (.ref f) "__get__" = some (some (.builtin "function.__get__"))) (ht : takesIn K (.ref f) = some false) (hc : copiedNames.contains name = false)
    (hv : m name = none) (h : ∀ tk, Q (.ref s.heap.objs.size) { s with heap := s.heap.push (methodObj (.ref f) (.ref x)), toks := tk }) : wpAny (model PR w) A (getAttr (.ref x) name ex) Q E s := by
  obtain ⟨od, e, _, l⟩ := ns_look I.ns.ns
  exact get_bind X ⟨I.at_, rfl, rfl, e⟩ (plainGet_of hg).1 (findObj_fn hh ha hgf ht hc ((l name).trans (by rw [hv]))) (plainGet_of hg).2
    (wpAny_call (PySem.W.fn_get (s := { s with toks := s.toks + 1 }) X (beq_iff_eq.mp hf) (handed_on rfl (h _))))
theorem iter_make {t : Tok} {x : Str} {Q : Value → Shared → Prop} (hb : s.heap.get? bm = some (methodObj f self)) (h : Q (.ref s.heap.objs.size) { s with heap := s.heap.push (ciObj (.ref bm) (.str x t) (.bool false)) }) :
    wpAny (model PR w) A (call (.builtin "iter") [.ref bm, .str x t]) Q E s := by
  refine call_function_entry (by decide +kernel) (by decide +kernel) entry_iter (args_iter2 _ _) ?_
  have hT : s.TypeIs (.ref bm) "method" := ⟨_, hb, rfl⟩
  unfold Builtin.«iter»
  refine wpAny_bind (wpAny_pure (a := ([Value.ref bm, Value.str x t] : List Value)) ?_)
  refine wpAny_bind (wpAny_specialOf hT meth_call ?_)
  refine wpAny_bind (wpAny_rule (wpAny_bind (wpAny_newObj_type (wpAny_pure ⟨_, rfl, h⟩) (by size_fits))))

/- a raise of StopIteration -/
theorem ci_stop {α : Type} {Q : α → Shared → Prop} (hh : A.handled = none) (h : ∀ e h', Kp s.heap h' → (∃ o, h'.get? e = some o ∧ o.cls = .type "StopIteration") → E (.ref e) { s with heap := h' }) :
    wpAny (model PR w) A (SmallTypes.stopIteration : Sem α) Q E s := by
  unfold SmallTypes.stopIteration
  refine wpAny_bind ?_
  simp only [newExc, newTuple]
  refine wpAny_bind (wpAny_newObj_type ?_ (by size_fits))
  refine wpAny_bind (m := firstArgMember _ _) (wpAny_of_eq (a := Value.none) (by first | rfl | (simp only [firstArgMember]; rfl)) ?_)
  refine wpAny_newObj_type ?_ (by size_fits)
  unfold raiseNew
  refine wpAny_bind (wpAny_handled ?_)
  rw [hh]
  refine wpAny_bind (wpAny_pure (wpAny_throw ?_))
  exact h _ _ (fun b o e => Heap.get?_push_of_some _ (Heap.get?_push_of_some _ e)) ⟨_, Heap.get?_push_size _ rfl, rfl⟩

theorem ci_next {t : Tok} {f : Nat} {oc : Value} {od : Option Addr} {fd : FuncData} {sl : Array (Option Value)} {Q : Option Value → Shared → Prop} (hh : A.handled = none) (hi : s.heap.get? it = some (ciObj (.ref bm) (.str (Str.ofString "") t) (.bool false))) (hb : s.heap.get? bm = some (methodObj (.ref f) self)) (hf : s.heap.get? f = some ⟨oc, od, .func fd, sl⟩)
    (h : codeAny (model PR w) A.in1 (.call (.ref f) ⟨[self], []⟩) (fun r s' => ∃ h' tk x u, r = .ok (.ret (.str x u)) ∧ s' = { s with heap := h', toks := tk } ∧ h'.get? it = some (ciObj (.ref bm) (.str (Str.ofString "") t) (.bool false)) ∧ h'.get? bm = some (methodObj (.ref f) self) ∧ h'.get? f = some ⟨oc, od, .func fd, sl⟩ ∧
      (x ≠ Str.ofString "" → Q (some (.str x u)) s') ∧ (x = Str.ofString "" → ∀ h'', KpB [it] h' h'' → Q none { s' with heap := h'' })) s) :
    wpAny (model PR w) A (pyNext (.ref it)) Q E s := by
  have hT : s.TypeIs (.ref it) "callable_iterator" := ⟨_, hi, rfl⟩
  unfold pyNext
  refine wpAny_bind (wpAny_attempt (wpAny_callSpecial?_slot (name := Str.ofString "__next__") hT slot_ci_next
    (wpAny_call_entry slot_ci_next hT entry_ci_next ?_ (args_ci_next _))))
  unfold Builtin.«callable_iterator.__next__»
  refine wpAny_bind (wpAny_pure (a := (Value.ref it, ([] : List Value))) ?_)
  refine wpAny_bind (wpAny_field hi rfl (x := .bool false) rfl ?_)
  refine wpAny_bind (wpAny_field hi rfl (x := .ref bm) rfl ?_)
  refine wpAny_bind (wpAny_attempt ?_)
  unfold callOutOfASlot
  have LB : ∀ h', h'.get? bm = some (methodObj (.ref f) self) → h'.get? f = some ⟨oc, od, .func fd, sl⟩ → Looks (model PR w) h' (borrowsExactly (.ref bm)) true := fun h' e1 e2 =>
    (Looks.ld (part := none) e1).andThen ((Looks.ld (part := none) e2).andThen .now)
  refine wpAny_bind (LB _ hb hf _ _ _ _ (fun _ _ e => e) ?_)
  rw [if_pos rfl]
  refine PySem.W.X.x_call (hd := none) ?_ (by intro q; cases q)
  show codeAny _ A.in1 _ _ _
  refine method_call hb (codeAny_mono h fun r s' hr => ?_)
  obtain ⟨h', tk, x, u, rfl, rfl, hi', hb', hf', hq1, hq2⟩ := hr
  refine wpAny_pure (a := Value.str x u) ?_
  dsimp only at hq1 hq2 ⊢
  refine wpAny_bind (wpAny_field hi' rfl (x := .bool false) rfl ?_)
  refine wpAny_bind (wpAny_field hi' rfl (x := .str (Str.ofString "") t) rfl ?_)
  refine wpAny_bind (wpAny_holding (eqBool_str ?_))
  by_cases q : x = Str.ofString ""
  · subst q
    rw [beq_self_eq_true]
    refine wpAny_bind (wpAny_rule (wpAny_bind ?_))
    k_node
    refine wpAny_bind (wpAny_field hi' rfl (x := .ref bm) rfl ?_)
    refine wpAny_bind ?_
    unfold slotLetsGo
    refine wpAny_bind (LB _ hb' hf' _ _ _ _ (fun _ _ e => e) ?_)
    refine wpAny_pure ?_
    refine wpAny_bind (wpAny_setField_rec hi' (by simp) fun h1 e1 k1 => ?_)
    refine wpAny_bind (wpAny_setField_rec e1 (by simp) fun h2 e2 k2 => ?_)
    refine wpAny_setField_rec e2 (by simp) fun h3 e3 k3 => ?_
    refine ci_stop (show A.in1.handled = none from hh) fun e h4 k4 he => ?_
    dsimp only at k1 k2 k3 k4 ⊢
    refine wpAny_bind (wpAny_isInstance (T := "StopIteration") (b := true) he isSubtype_stop ?_)
    exact wpAny_pure (hq2 rfl _ fun b o nb eb => k4 _ _ (kp_same k3 _ _ nb (kp_same k2 _ _ nb (kp_same k1 _ _ nb eb))))
  · rw [beq_eq_false_iff_ne.mpr (Ne.symm q)]
    exact wpAny_pure ⟨_, rfl, wpAny_pure (hq1 q)⟩
end
end Mine

end
section -- M6
open PySem PySem.W PyProof.Rows PySem.Calls PySem.Builtin PySem.Builtin.ObjectAttr
set_option maxRecDepth 100000
namespace Mine

/- the values vs are the signs cs -/
noncomputable def All2 {α β : Type} (R : α → β → Prop) : List α → List β → Prop
  | [], [] => True
  | a :: as, b :: bs => R a b ∧ All2 R as bs
  | _, _ => False
theorem All2.imp {α β : Type} {R S : α → β → Prop} (f : ∀ a b, R a b → S a b) {as : List α} {bs : List β} (h : All2 R as bs) : All2 S as bs := by
  induction as generalizing bs with
  | nil => cases bs with
    | nil => trivial
    | cons b bs => exact h.elim
  | cons a as ih => cases bs with
    | nil => exact h.elim
    | cons b bs => exact ⟨f _ _ h.1, ih h.2⟩
theorem All2.len {α β : Type} {R : α → β → Prop} {as : List α} {bs : List β} (h : All2 R as bs) : as.length = bs.length := by
  induction as generalizing bs with
  | nil => cases bs with
    | nil => rfl
    | cons b bs => exact h.elim
  | cons a as ih => cases bs with
    | nil => exact h.elim
    | cons b bs => exact congrArg (· + 1) (ih h.2)
theorem All2.snoc {α β : Type} {R : α → β → Prop} {a : α} {b : β} (z : R a b) {as : List α} {bs : List β} (h : All2 R as bs) : All2 R (as ++ [a]) (bs ++ [b]) := by
  induction as generalizing bs with
  | nil => cases bs with
    | nil => exact ⟨z, trivial⟩
    | cons b bs => exact h.elim
  | cons a as ih => cases bs with
    | nil => exact h.elim
    | cons b bs => exact ⟨h.1, ih (bs := bs) h.2⟩
theorem All2.get {α β : Type} {R : α → β → Prop} {as : List α} {bs : List β} {i : Nat} {a : α} (h : All2 R as bs) (e : as[i]? = some a) : ∃ b, bs[i]? = some b ∧ R a b := by
  induction as generalizing bs i with
  | nil => cases e
  | cons x as ih => cases bs with
    | nil => exact h.elim
    | cons b bs => cases i with
      | zero => cases e; exact ⟨b, rfl, h.1⟩
      | succ i => exact ih (bs := bs) h.2 e
noncomputable def ChV : List Value → List Nat → Prop := All2 fun v c => ∃ t, v = .str (one c) t
theorem ChV.all {vs : List Value} {cs : List Nat} (h : ChV vs cs) : ∀ v ∈ vs, ∃ c t, v = .str (one c) t := by
  induction vs generalizing cs with
  | nil => intro v hv; cases hv
  | cons a vs ih =>
    cases cs with
    | nil => exact h.elim
    | cons c cs =>
      intro v hv
      rcases List.mem_cons.mp hv with rfl | hv
      · exact ⟨c, h.1⟩
      · exact ih h.2 v hv
theorem ChV.len {vs : List Value} {cs : List Nat} (h : ChV vs cs) : vs.length = cs.length := All2.len h
/- the list lf holds the signs cs -/
noncomputable def LCh (h : Heap) (lf : Nat) (cs : List Nat) : Prop := ∃ vs, LAt h lf vs ∧ ChV vs cs
theorem LCh.kpB {h h' : Heap} {lf : Nat} {cs : List Nat} {W : List Nat} (x : LCh h lf cs) (k : KpB W h h') (hn : lf ∉ W) : LCh h' lf cs := x.imp fun _ => And.imp_left fun a => a.kpB k hn
theorem LCh.kp {h h' : Heap} {lf : Nat} {cs : List Nat} (x : LCh h lf cs) (k : Kp h h') : LCh h' lf cs := x.imp fun _ => And.imp_left fun a => a.kp k
theorem LexAt.kpC {B : Nat} {h h' : Heap} {lx dx pb rd lf : Nat} {ln : Int} {cs : List Nat} {W : List Nat} (x : LexAt B h lx dx pb rd lf ln) (hl : LCh h lf cs) (k : KpB W h h') (hW : ∀ y ∈ W, B ≤ y ∨ y = lf) : LexAt B h' lx dx pb rd lf ln := hl.elim fun _ a => x.kpB a.1 k hW

/- the line behind a sign -/
noncomputable def bump (ln : Int) (c : Nat) : Int := if c = 10 then ln + 1 else ln

section
variable {w : World} {mean : ExcName → Option Value} {mg mb : Str → Option Value} {A : Around} {E : Value → Shared → Prop} {s : Shared} {R : Result → Shared → Prop} {h₀ : Heap} {B lx dx pb rd lf : Nat} {ln : Int} {cs : List Nat}

theorem read_charC {n : Nat} (k : OkA A (n + 4)) (G : Gd w mean mg mb h₀) (K0 : Kp h₀ s.heap) (hlf : h₀.get? lf = none) (hBs : B ≤ s.heap.objs.size) (x : LexAt B s.heap lx dx pb rd lf ln) (hl : LCh s.heap lf cs) (hz : cs.length < 2 ^ 20)
    (h : ∀ h' tk c t, KpB [dx, lf] s.heap h' → (match cs with | [] => c = Str.ofString "" ∧ LexAt B h' lx dx pb rd lf ln ∧ LCh h' lf [] | a :: r => c = one a ∧ LexAt B h' lx dx pb rd lf (bump ln a) ∧ LCh h' lf r) →
      R (.ok (.ret (.str c t))) { s with heap := h', toks := tk }) :
    codeAny (model PR w) A (.call (.ref 84) ⟨[.ref lx], []⟩) R s := by
  obtain ⟨vs, hv, hc⟩ := hl
  have hln := hc.len
  refine read_char k G K0 hlf hBs x hv (by exact ar9 hz hln) hc.all ?_ ?_
  · intro e h' tk t kb x' l'
    subst e
    cases cs with
    | nil => exact h _ _ _ _ kb ⟨rfl, x', [], l', trivial⟩
    | cons => exact hc.elim
  · intro c t r e h' tk kb x' l'
    subst e
    cases cs with
    | nil => exact hc.elim
    | cons a q =>
      obtain ⟨⟨t', e⟩, hc'⟩ := hc
      have : c = a := by injection e with e1 e2; injection e1 with e1; injection e1 with e1; injection e1
      subst this
      exact h _ _ _ _ kb ⟨rfl, x', r, l', hc'⟩
end
end Mine

end
section -- M7
open PySem PySem.W PyProof.Rows PySem.Calls PySem.Builtin PySem.Builtin.ObjectAttr
set_option maxRecDepth 100000
namespace Mine

noncomputable abbrev cBody := dBody
noncomputable abbrev fT := dTest
noncomputable abbrev fB := dBody
noncomputable abbrev iB := dBody
noncomputable abbrev iE := dElse
noncomputable def gtD : Stmt := (cBody (PR.main.body[4]!))[2]!
noncomputable def oS : Stmt := (dBody gtD)[3]!
noncomputable def qS : Stmt := (iB ((fB oS)[1]!))[0]!
noncomputable def bS : Stmt := (iE ((fB oS)[1]!))[2]!
noncomputable abbrev gtEnv (L : Nat) : Env := envX (Str.ofString "_netrclex.get_token") (dScope gtD) L 91 (.ref 90) []

/- get_token's frame, the token so far, the signs left -/
structure GT (w : World) (mean : ExcName → Option Value) (mg mb : Str → Option Value) (h₀ hs : Heap) (B L lx dx pb rd lf it bm : Nat) (ti : Tok) (h : Heap) (m : Str → Option Value) (tok : Str) (cs : List Nat) (ln : Int) : Prop where
  ns : h.Ns L m
  self : m (Str.ofString "self") = some (.ref lx)
  tok : ∃ t, m (Str.ofString "token") = some (.str tok t)
  fit : m (Str.ofString "fiter") = some (.ref it)
  lex : LexAt B h lx dx pb rd lf ln
  lst : LCh h lf cs
  k0 : Kp h₀ h
  ci : h.get? it = some (ciObj (.ref bm) (.str (Str.ofString "") ti) (.bool false))
  bmo : h.get? bm = some (methodObj (.ref 84) (.ref lx))
  kb : KpB [dx, lf] hs h
/- what does not turn -/
structure GTk (w : World) (mean : ExcName → Option Value) (mg mb : Str → Option Value) (h₀ hs : Heap) (B L dx lf it bm : Nat) : Prop where
  G : Gd w mean mg mb h₀
  hdx : h₀.get? dx = none
  hlf : h₀.get? lf = none
  bL : B ≤ L
  bit : B ≤ it
  bbm : B ≤ bm
  nLi : L ≠ it
  nLb : L ≠ bm
  nib : it ≠ bm
  new : hs.objs.size ≤ L
  newi : hs.objs.size ≤ it
  h0L : h₀.get? L = none
  h0i : h₀.get? it = none

section
variable {w : World} {mean : ExcName → Option Value} {mg mb : Str → Option Value} {A : Around} {E : Value → Shared → Prop} {s : Shared} {h₀ hs : Heap} {B L lx dx pb rd lf it bm : Nat} {ti : Tok} {m : Str → Option Value} {tok : Str} {cs : List Nat} {ln : Int}

/- a local name is stored -/
theorem GT.store (g : GTk w mean mg mb h₀ hs B L dx lf it bm) (x : GT w mean mg mb h₀ hs B L lx dx pb rd lf it bm ti s.heap m tok cs ln) {name : Str} {v : Value} {tok' : Str} {Q : Unit → Shared → Prop} (hk : (gtEnv L).kindOf name = some .local)
    (h1 : name ≠ Str.ofString "self") (h2 : name ≠ Str.ofString "fiter") (h3 : (name = Str.ofString "token" ∧ ∃ t, v = .str tok' t) ∨ (name ≠ Str.ofString "token" ∧ tok' = tok))
    (h : ∀ h' tk, GT w mean mg mb h₀ hs B L lx dx pb rd lf it bm ti h' (fun y => if y = name then some v else m y) tok' cs ln → Q () { s with heap := h', toks := tk }) : wpAny (model PR w) A (storeName (gtEnv L) name v) Q E s := by
  refine wpAny_storeName_local hk x.ns (fun h' hn sb => ?_) rfl
  have hlfB := x.lex.blf
  have hdxB := x.lex.bdx
  have bL := g.bL
  refine h _ _ ⟨hn, (if_neg (Ne.symm h1)).trans x.self, ?_, (if_neg (Ne.symm h2)).trans x.fit, x.lex.kpC x.lst (kp_same sb) (by simp; omega), x.lst.kpB (kp_same sb) (by simp; omega), KpB.old x.k0 (kp_same sb) (by simpa using g.h0L),
    kp_same sb _ _ (by simpa using Ne.symm g.nLi) x.ci, kp_same sb _ _ (by simpa using Ne.symm g.nLb) x.bmo, fun b o nb e => kp_same sb _ _ (by have := ltS e; have := g.new; simp; omega) (x.kb _ _ nb e)⟩
  rcases h3 with ⟨e, t, rfl⟩ | ⟨e, rfl⟩
  · exact ⟨t, if_pos e.symm⟩
  · obtain ⟨t, ht⟩ := x.tok
    exact ⟨t, (if_neg (Ne.symm e)).trans ht⟩

theorem k_rc (P : Params) : findIn (hd.heap_39 P) (.ref 101) (Str.ofString "_read_char") = some (some (.ref 84)) := by kernel_rfl
theorem k_fn84 (P : Params) : isFn (hd.heap_39 P) (.ref 84) = true := by kernel_rfl
/- behind a read -/
theorem GT.after {h' : Heap} {c : Nat} {r : List Nat} {h : Heap} (g : GTk w mean mg mb h₀ hs B L dx lf it bm) (x : GT w mean mg mb h₀ hs B L lx dx pb rd lf it bm ti h m tok (c :: r) ln) (kb : KpB [dx, lf] h h') (x' : LexAt B h' lx dx pb rd lf (bump ln c)) (l' : LCh h' lf r) :
    GT w mean mg mb h₀ hs B L lx dx pb rd lf it bm ti h' m tok r (bump ln c) := by
  have hlfB := x.lex.blf
  have hdxB := x.lex.bdx
  have bL := g.bL; have bit := g.bit; have bbm := g.bbm
  exact ⟨ns_kpB x.ns kb (by exact ar10 hlfB hdxB bL), x.self, x.tok, x.fit, x', l', KpB.old x.k0 kb (by simp [g.hdx, g.hlf]), kb _ _ (by exact ar10 hlfB hdxB bit) x.ci, kb _ _ (by exact ar10 hlfB hdxB bbm) x.bmo, fun b o nb e => kb _ _ nb (x.kb _ _ nb e)⟩
/- the next sign -/
theorem GT.next {n c : Nat} {r : List Nat} (k : OkA A (n + 5)) (g : GTk w mean mg mb h₀ hs B L dx lf it bm) (x : GT w mean mg mb h₀ hs B L lx dx pb rd lf it bm ti s.heap m tok (c :: r) ln) (hz : r.length < 2 ^ 19) {Q : Option Value → Shared → Prop}
    (h : ∀ h' tk t, GT w mean mg mb h₀ hs B L lx dx pb rd lf it bm ti h' m tok r (bump ln c) → Q (some (.str (one c) t)) { s with heap := h', toks := tk }) : wpAny (model PR w) A (pyNext (.ref it)) Q E s := by
  have GS := g.G.keeps x.k0
  have hlfB := x.lex.blf
  have hdxB := x.lex.bdx
  have bL := g.bL; have bit := g.bit; have bbm := g.bbm
  have hBs : B ≤ s.heap.objs.size := by have := ltS x.ci; exact ar11 bit this
  refine ci_next k.hn x.ci x.bmo (GS.X _ _ (by rfl)) (read_charC (n := n) (k.in1) g.G x.k0 g.hlf hBs x.lex x.lst (by simp; omega) ?_)
  rintro h' tk cc t kb ⟨rfl, x', l'⟩
  have x2 := x.after g kb x' l'
  refine ⟨h', tk, _, t, rfl, rfl, x2.ci, x2.bmo, (g.G.keeps x2.k0).X _ _ (by rfl), fun _ => h _ _ _ x2, fun q => ?_⟩
  exact absurd (congrArg Str.length q) (show ¬ (1 = 0) by decide)

/- no sign is left -/
theorem GT.last {n : Nat} (k : OkA A (n + 5)) (g : GTk w mean mg mb h₀ hs B L dx lf it bm) (x : GT w mean mg mb h₀ hs B L lx dx pb rd lf it bm ti s.heap m tok [] ln) {Q : Option Value → Shared → Prop}
    (h : ∀ h' tk, h'.Ns L m → LexAt B h' lx dx pb rd lf ln → LCh h' lf [] → Kp h₀ h' → KpB [dx, lf] hs h' → Q none { s with heap := h', toks := tk }) : wpAny (model PR w) A (pyNext (.ref it)) Q E s := by
  have GS := g.G.keeps x.k0
  have hlfB := x.lex.blf
  have hdxB := x.lex.bdx
  have bL := g.bL; have bit := g.bit; have bbm := g.bbm
  have hBs : B ≤ s.heap.objs.size := by have := ltS x.ci; exact ar11 bit this
  refine ci_next k.hn x.ci x.bmo (GS.X _ _ (by rfl)) (read_charC (n := n) (k.in1) g.G x.k0 g.hlf hBs x.lex x.lst (by simp) ?_)
  rintro h' tk cc t kb ⟨rfl, x', l'⟩
  have k0' : Kp h₀ h' := KpB.old x.k0 kb (by simp [g.hdx, g.hlf])
  have hci := kb _ _ (by exact ar10 hlfB hdxB bit) x.ci
  refine ⟨h', tk, _, t, rfl, rfl, hci, kb _ _ (by exact ar10 hlfB hdxB bbm) x.bmo, (g.G.keeps k0').X _ _ (by rfl), fun q => absurd rfl q, fun _ h'' k'' => ?_⟩
  refine h _ _ (ns_kpB (ns_kpB x.ns kb (by exact ar10 hlfB hdxB bL)) k'' (by simpa using g.nLi)) (x'.kpC l' k'' (by simp; omega)) (l'.kpB k'' (by exact ar12 hlfB bit)) (KpB.old k0' k'' (by simpa using g.h0i)) fun b o nb e => ?_
  exact k'' _ _ (by have := ltS e; have := g.newi; exact ar12 ‹b < hs.objs.size› this) (kb _ _ nb (x.kb _ _ nb e))

/- self._read_char(), as an expression -/
theorem GT.read {n c : Nat} {r : List Nat} {p1 p3 : Pos} {pl : Sem Bool} (k : OkA A (n + 5)) (g : GTk w mean mg mb h₀ hs B L dx lf it bm) (x : GT w mean mg mb h₀ hs B L lx dx pb rd lf it bm ti s.heap m tok (c :: r) ln) (hz : r.length < 2 ^ 19) {Q : Value → Shared → Prop}
    (h : ∀ h' tk t, GT w mean mg mb h₀ hs B L lx dx pb rd lf it bm ti h' m tok r (bump ln c) → Q (.str (one c) t) { s with heap := h', toks := tk }) :
    wpAny (model PR w) A (PySem.eval (.Name (Str.ofString "self") p1) (gtEnv L)) (fun ov s₁ => wpAny (model PR w) A (getMethod ov (Str.ofString "_read_char") pl) (fun fx s₂ => wpAny (model PR w) A (callWith p3 fx.1 fx.2 (backTo p3 (starEach [] (gtEnv L))) []) Q E s₂) E s₁) E s := by
  have GS := g.G.keeps x.k0
  have bit := g.bit
  have hBs : B ≤ s.heap.objs.size := by have := ltS x.ci; exact ar11 bit this
  obtain ⟨mm, t, tw, st, ds, ms, fd, sl, I, m1, m2, m3, m4, m5, m6, hw, e1, n1, m7, b1, b2, nd⟩ := x.lex.obj
  refine wpAny_Name (wpAny_loadName_local rfl rfl x.ns x.self ?_) (by decide)
  refine inst_method GS.X I (k_plain _ _) (k_rc _) (k_fn84 _) m5 ?_
  have hf : FnAt 84 s.heap := ⟨_, _, _, _, GS.X _ _ (by rfl)⟩
  refine callWith_F0 hf ?_
  refine wpAny_call (read_charC (n := n + 1) k g.G x.k0 g.hlf hBs x.lex x.lst (by simp; omega) ?_)
  rintro h' tk cc t kb ⟨rfl, x', l'⟩
  exact h _ _ _ (x.after g kb x' l')
end
end Mine

end
section -- M8
open PySem PySem.W PyProof.Rows PySem.Calls PySem.Builtin PySem.Builtin.ObjectAttr
set_option maxRecDepth 100000
namespace Mine

/- a spelled text: each sign with a backslash ahead of it, or not -/
noncomputable def enc : List (Bool × Nat) → List Nat
  | [] => []
  | (b, c) :: r => (if b then [92, c] else [c]) ++ enc r
noncomputable def bumps (ln : Int) (cs : List Nat) : Int := cs.foldl bump ln
theorem bumps_cons (ln : Int) (c : Nat) (cs : List Nat) : bumps ln (c :: cs) = bumps (bump ln c) cs := rfl
noncomputable abbrev wd (cs : List Nat) : Str := ⟨cs.toArray⟩
theorem wd_snoc (tok : Str) (c : Nat) (cs : List Nat) : tok ++ wd (c :: cs) = (tok ++ one c) ++ wd cs := by
  apply Str.ext'
  simp [Str.cps_append]
theorem wd_nil (tok : Str) : tok ++ wd [] = tok := by
  apply Str.ext'
  simp [Str.cps_append]
theorem one_beq {c k : Nat} {S : Str} (h : S = one k) : (one c == S) = decide (c = k) := by
  subst h
  by_cases q : c = k
  · subst q; simp
  · rw [decide_eq_false q]
    refine beq_eq_false_iff_ne.mpr fun e => q ?_
    have := congrArg Str.cps e
    simpa using this
theorem k_white (P : Params) : findIn (hd.heap_39 P) (.ref 101) (Str.ofString "whitespace") = some none := by kernel_rfl
theorem lit_quote : Str.ofString "\"" = one 34 := by decide
theorem lit_back : Str.ofString "\\" = one 92 := by decide

section
variable {w : World} {mean : ExcName → Option Value} {mg mb : Str → Option Value} {A : Around} {E : Value → Shared → Prop} {s : Shared} {R : Result → Shared → Prop} {h₀ hs : Heap} {B L lx dx pb rd lf it bm : Nat} {ti : Tok} {m : Str → Option Value} {tok : Str} {cs : List Nat} {ln : Int}

/- token += ch -/
theorem GT.glue (g : GTk w mean mg mb h₀ hs B L dx lf it bm) (x : GT w mean mg mb h₀ hs B L lx dx pb rd lf it bm ti s.heap m tok cs ln) {c : Nat} {tc : Tok} {p1 p2 p3 : Pos} (hc : m (Str.ofString "ch") = some (.str (one c) tc)) (hz : tok.length < 2 ^ 20) {Q : Flow → Shared → Prop}
    (h : ∀ h' tk m', GT w mean mg mb h₀ hs B L lx dx pb rd lf it bm ti h' m' (tok ++ one c) cs ln → Q .next { s with heap := h', toks := tk }) :
    wpAny (model PR w) A (exec (.AugAssign (.Name (Str.ofString "token") p1) .Add (.Name (Str.ofString "ch") p2) p3) (gtEnv L)) Q E s := by
  obtain ⟨t, ht⟩ := x.tok
  refine wpAny_AugAssign_Name ?_
  refine wpAny_loadName_local rfl rfl x.ns ht ?_
  refine wpAny_Name (wpAny_loadName_local rfl rfl x.ns hc ?_) (by decide)
  refine PyProof.Rows.iadd_str (fun t' tk => ?_) (by rw [sizeLine_eq]; have : (one c).length = 1 := rfl; exact ar13 hz this)
  refine GT.store (s := { s with toks := tk }) g x rfl (by decide) (by decide) (.inl ⟨rfl, _, rfl⟩) fun h' tk x' => ?_
  exact h _ _ _ x'

theorem q_loop {n : Nat} (k : OkA A (n + 5)) (g : GTk w mean mg mb h₀ hs B L dx lf it bm) (items : List (Bool × Nat)) (rest : List Nat) (hok : ∀ p ∈ items, p.1 = true ∨ (p.2 ≠ 34 ∧ p.2 ≠ 92)) (hz : (enc items ++ 34 :: rest).length < 2 ^ 19) (hz2 : (tok ++ wd (items.map (·.2))).length < 2 ^ 19)
    (x : GT w mean mg mb h₀ hs B L lx dx pb rd lf it bm ti s.heap m tok (enc items ++ 34 :: rest) ln)
    (h : ∀ h' tk t m', GT w mean mg mb h₀ hs B L lx dx pb rd lf it bm ti h' m' (tok ++ wd (items.map (·.2))) rest (bumps ln (enc items ++ [34])) → R (.ok (.ret (.str (tok ++ wd (items.map (·.2))) t))) { s with heap := h', toks := tk }) :
    codeAny (model PR w) A (.forLoop (fT qS) (.ref it) (fB qS) [] (gtEnv L)) R s := by
  generalize hT : tok ++ wd (items.map (·.2)) = T at hz2 h
  generalize hN : bumps ln (enc items ++ [34]) = N at h
  obtain ⟨I, hI⟩ := opq (fun (k : Nat) (s' : Shared) => ∃ (items : List (Bool × Nat)) (tok : Str) (ln : Int) (m : Str → Option Value) (h' : Heap) (tk : Nat), k = items.length ∧ s' = { s with heap := h', toks := tk } ∧ (∀ p ∈ items, p.1 = true ∨ (p.2 ≠ 34 ∧ p.2 ≠ 92)) ∧
    (enc items ++ 34 :: rest).length < 2 ^ 19 ∧ tok ++ wd (items.map (·.2)) = T ∧ bumps ln (enc items ++ [34]) = N ∧ GT w mean mg mb h₀ hs B L lx dx pb rd lf it bm ti h' m tok (enc items ++ 34 :: rest) ln)
  refine codeAny_forLoop I ?_ items.length ((hI _ _).mpr ⟨items, tok, ln, m, s.heap, s.toks, rfl, rfl, hok, hz, hT, hN, x⟩)
  intro k' s' hs'
  obtain ⟨items, tok, ln, m, h', tk, rfl, rfl, hok, hz, hT, hN, x⟩ := (hI _ _).mp hs'
  have hlen : tok.length < 2 ^ 19 := by rw [← hT, Str.length_append] at hz2; exact ar14 hz2
  cases items with
  | nil =>
    refine GT.next (s := { s with heap := h', toks := tk }) k g x (by simp [enc] at hz ⊢; exact ar15 hz) fun h2 tk2 t2 x2 => ?_
    dsimp only
    refine wpAny_assign_Name (GT.store (s := { s with heap := h2, toks := tk2 }) g x2 rfl (by decide) (by decide) (.inr ⟨by decide, rfl⟩) fun h3 tk3 x3 => ?_)
    dsimp only
    refine wpAny_execs_cons (wpAny_If (wpAny_isTrue_Compare1 ?_))
    refine wpAny_Name (wpAny_loadName_local rfl rfl x3.ns rfl ?_) (by decide)
    refine wpAny_Constant_str (PyProof.Rows.eq_str (wpAny_truthy_bool ?_))
    rw [one_beq lit_quote, if_pos (by decide)]
    refine wpAny_execs_cons (wpAny_Return_some ?_)
    obtain ⟨t3, ht3⟩ := x3.tok
    refine wpAny_Name (wpAny_loadName_local rfl rfl x3.ns ht3 ?_) (by decide)
    dsimp only
    rw [List.map_nil, wd_nil] at hT
    subst hT hN
    exact h _ _ _ _ x3
  | cons p r =>
    obtain ⟨b, c⟩ := p
    have hok' : ∀ p ∈ r, p.1 = true ∨ (p.2 ≠ 34 ∧ p.2 ≠ 92) := fun p hp => hok p (.tail _ hp)
    rw [List.map_cons, wd_snoc] at hT
    cases b with
    | true =>
      have hcs : enc ((true, c) :: r) ++ 34 :: rest = 92 :: c :: (enc r ++ 34 :: rest) := by simp [enc]
      rw [hcs] at x hz
      have hz' : (enc r ++ 34 :: rest).length < 2 ^ 19 := by simp only [List.length_cons] at hz ⊢; exact ar16 hz
      have hN' : bumps (bump (bump ln 92) c) (enc r ++ [34]) = N := by rw [← hN]; simp [enc, bumps]
      refine GT.next (s := { s with heap := h', toks := tk }) k g x (by simp only [List.length_cons] at hz ⊢; exact ar17 hz) fun h2 tk2 t2 x2 => ?_
      dsimp only
      refine wpAny_assign_Name (GT.store (s := { s with heap := h2, toks := tk2 }) g x2 rfl (by decide) (by decide) (.inr ⟨by decide, rfl⟩) fun h3 tk3 x3 => ?_)
      dsimp only
      refine wpAny_execs_cons (wpAny_If (wpAny_isTrue_Compare1 ?_))
      refine wpAny_Name (wpAny_loadName_local rfl rfl x3.ns rfl ?_) (by decide)
      refine wpAny_Constant_str (PyProof.Rows.eq_str (wpAny_truthy_bool ?_))
      rw [one_beq lit_quote, if_neg (by decide)]
      refine wpAny_execs_cons (wpAny_If (wpAny_isTrue_Compare1 ?_))
      refine wpAny_Name (wpAny_loadName_local rfl rfl x3.ns rfl ?_) (by decide)
      refine wpAny_Constant_str (PyProof.Rows.eq_str (wpAny_truthy_bool ?_))
      rw [one_beq lit_back, if_pos (by decide)]
      refine wpAny_execs_cons (wpAny_Assign_Name (MethodCall_ ?_))
      refine GT.read (s := { s with heap := h3, toks := _ }) k g x3 (by simp only [List.length_cons] at hz ⊢; exact ar18 hz') fun h4 tk4 t4 x4 => ?_
      dsimp only
      refine GT.store (s := { s with heap := h4, toks := tk4 }) g x4 rfl (by decide) (by decide) (.inr ⟨by decide, rfl⟩) fun h5 tk5 x5 => ?_
      dsimp only
      refine wpAny_execs_nil (wpAny_execs_nil (wpAny_execs_cons ?_))
      refine GT.glue (s := { s with heap := h5, toks := tk5 }) g x5 (if_pos rfl) (by exact ar19 hlen) fun h6 tk6 m6 x6 => ?_
      dsimp only
      exact wpAny_execs_nil ⟨r.length, by simp, (hI _ _).mpr ⟨r, _, _, _, _, _, rfl, rfl, hok', hz', hT, hN', x6⟩⟩
    | false =>
      obtain ⟨n1, n2⟩ : c ≠ 34 ∧ c ≠ 92 := by
        rcases hok _ (.head _) with q | q
        · cases q
        · exact q
      have hcs : enc ((false, c) :: r) ++ 34 :: rest = c :: (enc r ++ 34 :: rest) := by simp [enc]
      rw [hcs] at x hz
      have hz' : (enc r ++ 34 :: rest).length < 2 ^ 19 := by simp only [List.length_cons] at hz ⊢; exact ar20 hz
      have hN' : bumps (bump ln c) (enc r ++ [34]) = N := by rw [← hN]; simp [enc, bumps]
      refine GT.next (s := { s with heap := h', toks := tk }) k g x hz' fun h2 tk2 t2 x2 => ?_
      dsimp only
      refine wpAny_assign_Name (GT.store (s := { s with heap := h2, toks := tk2 }) g x2 rfl (by decide) (by decide) (.inr ⟨by decide, rfl⟩) fun h3 tk3 x3 => ?_)
      dsimp only
      refine wpAny_execs_cons (wpAny_If (wpAny_isTrue_Compare1 ?_))
      refine wpAny_Name (wpAny_loadName_local rfl rfl x3.ns rfl ?_) (by decide)
      refine wpAny_Constant_str (PyProof.Rows.eq_str (wpAny_truthy_bool ?_))
      rw [one_beq lit_quote, if_neg (by simp [n1])]
      refine wpAny_execs_cons (wpAny_If (wpAny_isTrue_Compare1 ?_))
      refine wpAny_Name (wpAny_loadName_local rfl rfl x3.ns rfl ?_) (by decide)
      refine wpAny_Constant_str (PyProof.Rows.eq_str (wpAny_truthy_bool ?_))
      rw [one_beq lit_back, if_neg (by simp [n2])]
      refine wpAny_execs_nil (wpAny_execs_nil (wpAny_execs_cons ?_))
      refine GT.glue (s := { s with heap := h3, toks := _ }) g x3 (if_pos rfl) (by exact ar19 hlen) fun h6 tk6 m6 x6 => ?_
      dsimp only
      exact wpAny_execs_nil ⟨r.length, by simp, (hI _ _).mpr ⟨r, _, _, _, _, _, rfl, rfl, hok', hz', hT, hN', x6⟩⟩

/- the white signs -/
noncomputable def ws (c : Nat) : Bool := c == 10 || c == 9 || c == 13 || c == 32
theorem in_ws (c : Nat) : (!(Builtin.Str.occurrences (Str.ofString "\n\t\r ") (one c) 0 (Str.ofString "\n\t\r ").length 1).isEmpty) = ws c := by
  rw [StrLaws.found_one]
  have : (Str.ofString "\n\t\r ").cps.toList = [10, 9, 13, 32] := by decide
  rw [this]
  rw [Bool.eq_iff_iff]
  simp [ws, or_assoc]
/- ch in self.whitespace, as a test -/
theorem GT.white (g : GTk w mean mg mb h₀ hs B L dx lf it bm) (x : GT w mean mg mb h₀ hs B L lx dx pb rd lf it bm ti s.heap m tok cs ln) {c : Nat} {tc : Tok} {p1 p2 p3 p4 : Pos} {whole : Sem Value} (hc : m (Str.ofString "ch") = some (.str (one c) tc)) {Q : Bool → Shared → Prop}
    (h : ∀ tk, Q (ws c) { s with toks := tk }) :
    wpAny (model PR w) A (isTrue (.Compare (.Name (Str.ofString "ch") p1) [.In] [.Attribute (.Name (Str.ofString "self") p2) (Str.ofString "whitespace") p3] p4) (gtEnv L) whole) Q E s := by
  have GS := g.G.keeps x.k0
  obtain ⟨mm, t, tw, st, ds, ms, fd, sl, I, m1, m2, m3, m4, m5, m6, hw, e1, n1, m7, b1, b2, nd⟩ := x.lex.obj
  refine wpAny_isTrue_Compare1 ?_
  refine wpAny_Name (wpAny_loadName_local rfl rfl x.ns hc ?_) (by decide)
  refine Attribute_Name_ ?_
  refine wpAny_Name (wpAny_loadName_local rfl rfl x.ns x.self ?_) (by decide)
  refine inst_get GS.X I (k_plain _ _) (k_has _) (k_white _) m3 rfl fun tk2 => ?_
  refine PyProof.Rows.in_str (wpAny_truthy_bool ?_)
  rw [in_ws]
  exact h _
end
end Mine

end
section -- M9
open PySem PySem.W PyProof.Rows PySem.Calls PySem.Builtin PySem.Builtin.ObjectAttr
set_option maxRecDepth 100000
namespace Mine
section
variable {w : World} {mean : ExcName → Option Value} {mg mb : Str → Option Value} {A : Around} {E : Value → Shared → Prop} {s : Shared} {R : Result → Shared → Prop} {h₀ hs : Heap} {B L lx dx pb rd lf it bm : Nat} {ti : Tok} {m : Str → Option Value} {tok : Str} {cs : List Nat} {ln : Int}

theorem b_loop {n wc : Nat} (k : OkA A (n + 5)) (g : GTk w mean mg mb h₀ hs B L dx lf it bm) (hwc : ws wc = true) (items : List (Bool × Nat)) (rest : List Nat) (hok : ∀ p ∈ items, p.1 = true ∨ (ws p.2 = false ∧ p.2 ≠ 92)) (hz : (enc items ++ wc :: rest).length < 2 ^ 19) (hz2 : (tok ++ wd (items.map (·.2))).length < 2 ^ 19)
    (x : GT w mean mg mb h₀ hs B L lx dx pb rd lf it bm ti s.heap m tok (enc items ++ wc :: rest) ln)
    (h : ∀ h' tk t m', GT w mean mg mb h₀ hs B L lx dx pb rd lf it bm ti h' m' (tok ++ wd (items.map (·.2))) rest (bumps ln (enc items ++ [wc])) → R (.ok (.ret (.str (tok ++ wd (items.map (·.2))) t))) { s with heap := h', toks := tk }) :
    codeAny (model PR w) A (.forLoop (fT bS) (.ref it) (fB bS) [] (gtEnv L)) R s := by
  generalize hT : tok ++ wd (items.map (·.2)) = T at hz2 h
  generalize hN : bumps ln (enc items ++ [wc]) = N at h
  obtain ⟨I, hI⟩ := opq (fun (k : Nat) (s' : Shared) => ∃ (items : List (Bool × Nat)) (tok : Str) (ln : Int) (m : Str → Option Value) (h' : Heap) (tk : Nat), k = items.length ∧ s' = { s with heap := h', toks := tk } ∧ (∀ p ∈ items, p.1 = true ∨ (ws p.2 = false ∧ p.2 ≠ 92)) ∧
    (enc items ++ wc :: rest).length < 2 ^ 19 ∧ tok ++ wd (items.map (·.2)) = T ∧ bumps ln (enc items ++ [wc]) = N ∧ GT w mean mg mb h₀ hs B L lx dx pb rd lf it bm ti h' m tok (enc items ++ wc :: rest) ln)
  refine codeAny_forLoop I ?_ items.length ((hI _ _).mpr ⟨items, tok, ln, m, s.heap, s.toks, rfl, rfl, hok, hz, hT, hN, x⟩)
  intro k' s' hs'
  obtain ⟨items, tok, ln, m, h', tk, rfl, rfl, hok, hz, hT, hN, x⟩ := (hI _ _).mp hs'
  have hlen : tok.length < 2 ^ 19 := by rw [← hT, Str.length_append] at hz2; exact ar14 hz2
  cases items with
  | nil =>
    refine GT.next (s := { s with heap := h', toks := tk }) k g x (by simp [enc] at hz ⊢; exact ar15 hz) fun h2 tk2 t2 x2 => ?_
    dsimp only
    refine wpAny_assign_Name (GT.store (s := { s with heap := h2, toks := tk2 }) g x2 rfl (by decide) (by decide) (.inr ⟨by decide, rfl⟩) fun h3 tk3 x3 => ?_)
    dsimp only
    refine wpAny_execs_cons (wpAny_If ?_)
    refine GT.white (s := { s with heap := h3, toks := tk3 }) g x3 (if_pos rfl) fun tk4 => ?_
    rw [hwc, if_pos rfl]
    refine wpAny_execs_cons (wpAny_Return_some ?_)
    obtain ⟨t3, ht3⟩ := x3.tok
    refine wpAny_Name (wpAny_loadName_local rfl rfl x3.ns ht3 ?_) (by decide)
    dsimp only
    rw [List.map_nil, wd_nil] at hT
    subst hT hN
    exact h _ _ _ _ x3
  | cons p r =>
    obtain ⟨b, c⟩ := p
    have hok' : ∀ p ∈ r, p.1 = true ∨ (ws p.2 = false ∧ p.2 ≠ 92) := fun p hp => hok p (.tail _ hp)
    rw [List.map_cons, wd_snoc] at hT
    cases b with
    | true =>
      have hcs : enc ((true, c) :: r) ++ wc :: rest = 92 :: c :: (enc r ++ wc :: rest) := by simp [enc]
      rw [hcs] at x hz
      have hz' : (enc r ++ wc :: rest).length < 2 ^ 19 := by simp only [List.length_cons] at hz ⊢; exact ar16 hz
      have hN' : bumps (bump (bump ln 92) c) (enc r ++ [wc]) = N := by rw [← hN]; simp [enc, bumps]
      refine GT.next (s := { s with heap := h', toks := tk }) k g x (by simp only [List.length_cons] at hz ⊢; exact ar17 hz) fun h2 tk2 t2 x2 => ?_
      dsimp only
      refine wpAny_assign_Name (GT.store (s := { s with heap := h2, toks := tk2 }) g x2 rfl (by decide) (by decide) (.inr ⟨by decide, rfl⟩) fun h3 tk3 x3 => ?_)
      dsimp only
      refine wpAny_execs_cons (wpAny_If ?_)
      refine GT.white (s := { s with heap := h3, toks := tk3 }) g x3 (if_pos rfl) fun tk4 => ?_
      rw [show ws 92 = false from rfl, if_neg (by decide)]
      refine wpAny_execs_cons (wpAny_If (wpAny_isTrue_Compare1 ?_))
      refine wpAny_Name (wpAny_loadName_local rfl rfl x3.ns rfl ?_) (by decide)
      refine wpAny_Constant_str (PyProof.Rows.eq_str (wpAny_truthy_bool ?_))
      rw [one_beq lit_back, if_pos (by decide)]
      refine wpAny_execs_cons (wpAny_Assign_Name (MethodCall_ ?_))
      refine GT.read (s := { s with heap := h3, toks := _ }) k g x3 (by simp only [List.length_cons] at hz ⊢; exact ar18 hz') fun h4 tk4 t4 x4 => ?_
      dsimp only
      refine GT.store (s := { s with heap := h4, toks := tk4 }) g x4 rfl (by decide) (by decide) (.inr ⟨by decide, rfl⟩) fun h5 tk5 x5 => ?_
      dsimp only
      refine wpAny_execs_nil (wpAny_execs_nil (wpAny_execs_cons ?_))
      refine GT.glue (s := { s with heap := h5, toks := tk5 }) g x5 (if_pos rfl) (by exact ar19 hlen) fun h6 tk6 m6 x6 => ?_
      dsimp only
      exact wpAny_execs_nil ⟨r.length, by simp, (hI _ _).mpr ⟨r, _, _, _, _, _, rfl, rfl, hok', hz', hT, hN', x6⟩⟩
    | false =>
      obtain ⟨n1, n2⟩ : ws c = false ∧ c ≠ 92 := by
        rcases hok _ (.head _) with q | q
        · cases q
        · exact q
      have hcs : enc ((false, c) :: r) ++ wc :: rest = c :: (enc r ++ wc :: rest) := by simp [enc]
      rw [hcs] at x hz
      have hz' : (enc r ++ wc :: rest).length < 2 ^ 19 := by simp only [List.length_cons] at hz ⊢; exact ar20 hz
      have hN' : bumps (bump ln c) (enc r ++ [wc]) = N := by rw [← hN]; simp [enc, bumps]
      refine GT.next (s := { s with heap := h', toks := tk }) k g x hz' fun h2 tk2 t2 x2 => ?_
      dsimp only
      refine wpAny_assign_Name (GT.store (s := { s with heap := h2, toks := tk2 }) g x2 rfl (by decide) (by decide) (.inr ⟨by decide, rfl⟩) fun h3 tk3 x3 => ?_)
      dsimp only
      refine wpAny_execs_cons (wpAny_If ?_)
      refine GT.white (s := { s with heap := h3, toks := tk3 }) g x3 (if_pos rfl) fun tk4 => ?_
      rw [n1, if_neg (by decide)]
      refine wpAny_execs_cons (wpAny_If (wpAny_isTrue_Compare1 ?_))
      refine wpAny_Name (wpAny_loadName_local rfl rfl x3.ns rfl ?_) (by decide)
      refine wpAny_Constant_str (PyProof.Rows.eq_str (wpAny_truthy_bool ?_))
      rw [one_beq lit_back, if_neg (by simp [n2])]
      refine wpAny_execs_nil (wpAny_execs_nil (wpAny_execs_cons ?_))
      refine GT.glue (s := { s with heap := h3, toks := _ }) g x3 (if_pos rfl) (by exact ar19 hlen) fun h6 tk6 m6 x6 => ?_
      dsimp only
      exact wpAny_execs_nil ⟨r.length, by simp, (hI _ _).mpr ⟨r, _, _, _, _, _, rfl, rfl, hok', hz', hT, hN', x6⟩⟩
end
end Mine

end
section -- M10
open PySem PySem.W PyProof.Rows PySem.Calls PySem.Builtin PySem.Builtin.ObjectAttr
set_option maxRecDepth 100000
namespace Mine

/- a token's text behind the blanks, its word and what is left -/
inductive Tkn : List Nat → List Nat → List Nat → Prop
  | q (items : List (Bool × Nat)) (rest : List Nat) : (∀ p ∈ items, p.1 = true ∨ (p.2 ≠ 34 ∧ p.2 ≠ 92)) → Tkn (34 :: (enc items ++ 34 :: rest)) (items.map (·.2)) rest
  | b (b0 : Bool) (c0 : Nat) (items : List (Bool × Nat)) (wc : Nat) (rest : List Nat) : ws wc = true → (b0 = true ∨ (ws c0 = false ∧ c0 ≠ 92 ∧ c0 ≠ 34)) → (∀ p ∈ items, p.1 = true ∨ (ws p.2 = false ∧ p.2 ≠ 92)) →
      Tkn ((if b0 then [92, c0] else [c0]) ++ (enc items ++ wc :: rest)) (c0 :: items.map (·.2)) rest
  | e : Tkn [] [] []

theorem bumps_app (ln : Int) (a b : List Nat) : bumps ln (a ++ b) = bumps (bumps ln a) b := by simp [bumps]

section
variable {w : World} {mean : ExcName → Option Value} {mg mb : Str → Option Value} {A : Around} {E : Value → Shared → Prop} {s : Shared} {R : Result → Shared → Prop} {h₀ hs : Heap} {B L lx dx pb rd lf it bm : Nat} {ti : Tok} {m : Str → Option Value} {tok : Str} {cs : List Nat} {ln : Int}

/- what get_token leaves -/
structure Left (h₀ hs : Heap) (B L lx dx pb rd lf : Nat) (h' : Heap) (f : Flow) (word rest : List Nat) (ln : Int) : Prop where
  lex : LexAt B h' lx dx pb rd lf ln
  lst : LCh h' lf rest
  k0 : Kp h₀ h'
  kb : KpB [dx, lf] hs h'
  out : (∃ t, f = .ret (.str (wd word) t)) ∨ (f = .next ∧ ∃ m' t, h'.Ns L m' ∧ m' (Str.ofString "token") = some (.str (wd word) t))
theorem GT.left {h : Heap} {word : List Nat} {t : Tok} {tk : Str} (x : GT w mean mg mb h₀ hs B L lx dx pb rd lf it bm ti h m tk cs ln) : Left h₀ hs B L lx dx pb rd lf h (.ret (.str (wd word) t)) word cs ln := ⟨x.lex, x.lst, x.k0, x.kb, .inl ⟨_, rfl⟩⟩
theorem nil_wd (cs : List Nat) : Str.ofString "" ++ wd cs = wd cs := by
  apply Str.ext'
  simp [Str.cps_append]
  decide
theorem nil_one (c : Nat) (cs : List Nat) : (Str.ofString "" ++ one c) ++ wd cs = wd (c :: cs) := by
  rw [← wd_snoc, nil_wd]

theorem o_loop {n : Nat} (k : OkA A (n + 5)) (g : GTk w mean mg mb h₀ hs B L dx lf it bm) {pre body word rest : List Nat} {N : Int} (hpre : ∀ c ∈ pre, ws c = true) (ht : Tkn body word rest) (hz : (pre ++ body).length < 2 ^ 18) (hz2 : word.length < 2 ^ 18)
    (x : GT w mean mg mb h₀ hs B L lx dx pb rd lf it bm ti s.heap m (Str.ofString "") (pre ++ body) ln) {used : List Nat} (hu : pre ++ body = used ++ rest) (hN : bumps ln used = N)
    (h : ∀ h' tk f, Left h₀ hs B L lx dx pb rd lf h' f word rest N → R (.ok f) { s with heap := h', toks := tk }) :
    codeAny (model PR w) A (.forLoop (fT oS) (.ref it) (fB oS) [] (gtEnv L)) R s := by
  have hw0 : (Str.ofString "").length = 0 := by decide
  obtain ⟨I, hI⟩ := opq (fun (k : Nat) (s' : Shared) => ∃ (pre used : List Nat) (ln : Int) (m : Str → Option Value) (h' : Heap) (tk : Nat), k = pre.length ∧ s' = { s with heap := h', toks := tk } ∧ (∀ c ∈ pre, ws c = true) ∧ (pre ++ body).length < 2 ^ 18 ∧
    pre ++ body = used ++ rest ∧ bumps ln used = N ∧ GT w mean mg mb h₀ hs B L lx dx pb rd lf it bm ti h' m (Str.ofString "") (pre ++ body) ln)
  refine codeAny_forLoop I ?_ pre.length ((hI _ _).mpr ⟨pre, used, ln, m, s.heap, s.toks, rfl, rfl, hpre, hz, hu, hN, x⟩)
  clear hpre hz x hu hN
  intro k' s' hs'
  obtain ⟨pre, used, ln, m, h', tk, rfl, rfl, hpre, hz, hu, hN, x⟩ := (hI _ _).mp hs'
  cases pre with
  | cons c r =>
    rw [List.cons_append] at x hz hu
    refine GT.next (s := { s with heap := h', toks := tk }) k g x (by simp only [List.length_cons] at hz; exact ar21 hz) fun h2 tk2 t2 x2 => ?_
    dsimp only
    refine wpAny_assign_Name (GT.store (s := { s with heap := h2, toks := tk2 }) g x2 rfl (by decide) (by decide) (.inr ⟨by decide, rfl⟩) fun h3 tk3 x3 => ?_)
    dsimp only
    refine wpAny_execs_cons (wpAny_If ?_)
    refine GT.white (s := { s with heap := h3, toks := tk3 }) g x3 (if_pos rfl) fun tk4 => ?_
    rw [hpre c (.head _), if_pos rfl]
    refine wpAny_execs_cons (wpAny_Continue ?_)
    cases used with
    | nil =>
      exfalso
      have := congrArg List.length hu
      cases ht <;> simp at this <;> omega
    | cons u us =>
      obtain ⟨rfl, hu'⟩ := List.cons.inj hu
      exact ⟨r.length, by simp, (hI _ _).mpr ⟨r, us, _, _, _, _, rfl, rfl, fun c hc => hpre c (.tail _ hc), by simp only [List.length_cons] at hz; exact ar22 hz, hu', hN, x3⟩⟩
  | nil =>
    rw [List.nil_append] at x hz hu
    cases ht with
    | e =>
      refine GT.last (s := { s with heap := h', toks := tk }) k g x fun h2 tk2 hns hlex hl hk0 hkb => ?_
      dsimp only
      obtain ⟨t, ht⟩ := x.tok
      have : used = [] := by simpa using hu.symm
      subst this hN
      exact wpAny_execs_nil (h _ _ _ ⟨hlex, hl, hk0, hkb, .inr ⟨rfl, _, _, hns, ht⟩⟩)
    | q items _ hok =>
      have hus : used = 34 :: (enc items ++ [34]) := by
        have : used ++ rest = (34 :: (enc items ++ [34])) ++ rest := by rw [← hu]; simp
        exact List.append_cancel_right this
      refine GT.next (s := { s with heap := h', toks := tk }) k g x (by simp only [List.length_cons] at hz; exact ar21 hz) fun h2 tk2 t2 x2 => ?_
      dsimp only
      refine wpAny_assign_Name (GT.store (s := { s with heap := h2, toks := tk2 }) g x2 rfl (by decide) (by decide) (.inr ⟨by decide, rfl⟩) fun h3 tk3 x3 => ?_)
      dsimp only
      refine wpAny_execs_cons (wpAny_If ?_)
      refine GT.white (s := { s with heap := h3, toks := tk3 }) g x3 (if_pos rfl) fun tk4 => ?_
      rw [show ws 34 = false from rfl, if_neg (by decide)]
      refine wpAny_execs_nil (wpAny_execs_cons (wpAny_If (wpAny_isTrue_Compare1 ?_)))
      refine wpAny_Name (wpAny_loadName_local rfl rfl x3.ns rfl ?_) (by decide)
      refine wpAny_Constant_str (PyProof.Rows.eq_str (wpAny_truthy_bool ?_))
      rw [one_beq lit_quote, if_pos (by decide)]
      refine wpAny_execs_cons (wpAny_For ?_)
      refine wpAny_Name (wpAny_loadName_local rfl rfl x3.ns x3.fit ?_) (by decide)
      refine ci_iter x3.ci ?_
      refine q_loop (s := { s with heap := h3, toks := _ }) k g items rest hok (by simp only [List.length_cons] at hz; exact ar21 hz) (by rw [nil_wd]; simp only [Str.length, List.size_toArray]; exact ar23 hz2) x3 fun h4 tk4 t4 m4 x4 => ?_
      dsimp only
      rw [nil_wd]
      refine h _ _ _ ?_
      subst hN hus
      exact x4.left
    | b b0 c0 items wc _ hwc hb0 hok =>
      have hus : used = (if b0 then [92, c0] else [c0]) ++ (enc items ++ [wc]) := by
        have : used ++ rest = ((if b0 then [92, c0] else [c0]) ++ (enc items ++ [wc])) ++ rest := by rw [← hu]; simp
        exact List.append_cancel_right this
      cases b0 with
      | true =>
        simp only [if_true, List.cons_append, List.nil_append] at hus hu x hz
        refine GT.next (s := { s with heap := h', toks := tk }) k g x (by simp only [List.length_cons] at hz ⊢; exact ar24 hz) fun h2 tk2 t2 x2 => ?_
        dsimp only
        refine wpAny_assign_Name (GT.store (s := { s with heap := h2, toks := tk2 }) g x2 rfl (by decide) (by decide) (.inr ⟨by decide, rfl⟩) fun h3 tk3 x3 => ?_)
        dsimp only
        refine wpAny_execs_cons (wpAny_If ?_)
        refine GT.white (s := { s with heap := h3, toks := tk3 }) g x3 (if_pos rfl) fun tk4 => ?_
        rw [show ws 92 = false from rfl, if_neg (by decide)]
        refine wpAny_execs_nil (wpAny_execs_cons (wpAny_If (wpAny_isTrue_Compare1 ?_)))
        refine wpAny_Name (wpAny_loadName_local rfl rfl x3.ns rfl ?_) (by decide)
        refine wpAny_Constant_str (PyProof.Rows.eq_str (wpAny_truthy_bool ?_))
        rw [one_beq lit_quote, if_neg (by decide)]
        refine wpAny_execs_cons (wpAny_If (wpAny_isTrue_Compare1 ?_))
        refine wpAny_Name (wpAny_loadName_local rfl rfl x3.ns rfl ?_) (by decide)
        refine wpAny_Constant_str (PyProof.Rows.eq_str (wpAny_truthy_bool ?_))
        rw [one_beq lit_back, if_pos (by decide)]
        refine wpAny_execs_cons (wpAny_Assign_Name (MethodCall_ ?_))
        refine GT.read (s := { s with heap := h3, toks := _ }) k g x3 (by simp only [List.length_cons] at hz ⊢; exact ar25 hz) fun h4 tk4 t4 x4 => ?_
        dsimp only
        refine GT.store (s := { s with heap := h4, toks := tk4 }) g x4 rfl (by decide) (by decide) (.inr ⟨by decide, rfl⟩) fun h5 tk5 x5 => ?_
        dsimp only
        refine wpAny_execs_nil (wpAny_execs_cons ?_)
        refine GT.glue (s := { s with heap := h5, toks := tk5 }) g x5 (if_pos rfl) (by exact ar26 hw0) fun h6 tk6 m6 x6 => ?_
        dsimp only
        refine wpAny_execs_cons (wpAny_For ?_)
        refine wpAny_Name (wpAny_loadName_local rfl rfl x6.ns x6.fit ?_) (by decide)
        refine ci_iter x6.ci ?_
        refine b_loop (s := { s with heap := h6, toks := tk6 }) k g hwc items rest hok (by simp only [List.length_cons] at hz; exact ar25 hz) (by rw [nil_one]; simp only [Str.length, List.size_toArray]; exact ar23 hz2) x6 fun h7 tk7 t7 m7 x7 => ?_
        dsimp only
        rw [nil_one]
        refine h _ _ _ ?_
        subst hN hus
        exact x7.left
      | false =>
        obtain ⟨n1, n2, n3⟩ : ws c0 = false ∧ c0 ≠ 92 ∧ c0 ≠ 34 := by
          rcases hb0 with q | q
          · cases q
          · exact q
        simp only [Bool.false_eq_true, if_false, List.cons_append, List.nil_append] at hus hu x hz
        refine GT.next (s := { s with heap := h', toks := tk }) k g x (by simp only [List.length_cons] at hz ⊢; exact ar21 hz) fun h2 tk2 t2 x2 => ?_
        dsimp only
        refine wpAny_assign_Name (GT.store (s := { s with heap := h2, toks := tk2 }) g x2 rfl (by decide) (by decide) (.inr ⟨by decide, rfl⟩) fun h3 tk3 x3 => ?_)
        dsimp only
        refine wpAny_execs_cons (wpAny_If ?_)
        refine GT.white (s := { s with heap := h3, toks := tk3 }) g x3 (if_pos rfl) fun tk4 => ?_
        rw [n1, if_neg (by decide)]
        refine wpAny_execs_nil (wpAny_execs_cons (wpAny_If (wpAny_isTrue_Compare1 ?_)))
        refine wpAny_Name (wpAny_loadName_local rfl rfl x3.ns rfl ?_) (by decide)
        refine wpAny_Constant_str (PyProof.Rows.eq_str (wpAny_truthy_bool ?_))
        rw [one_beq lit_quote, if_neg (by simp [n3])]
        refine wpAny_execs_cons (wpAny_If (wpAny_isTrue_Compare1 ?_))
        refine wpAny_Name (wpAny_loadName_local rfl rfl x3.ns rfl ?_) (by decide)
        refine wpAny_Constant_str (PyProof.Rows.eq_str (wpAny_truthy_bool ?_))
        rw [one_beq lit_back, if_neg (by simp [n2])]
        refine wpAny_execs_nil (wpAny_execs_cons ?_)
        refine GT.glue (s := { s with heap := h3, toks := _ }) g x3 (if_pos rfl) (by exact ar26 hw0) fun h6 tk6 m6 x6 => ?_
        dsimp only
        refine wpAny_execs_cons (wpAny_For ?_)
        refine wpAny_Name (wpAny_loadName_local rfl rfl x6.ns x6.fit ?_) (by decide)
        refine ci_iter x6.ci ?_
        refine b_loop (s := { s with heap := h6, toks := tk6 }) k g hwc items rest hok (by simp only [List.length_cons] at hz; exact ar21 hz) (by rw [nil_one]; simp only [Str.length, List.size_toArray]; exact ar23 hz2) x6 fun h7 tk7 t7 m7 x7 => ?_
        dsimp only
        rw [nil_one]
        refine h _ _ _ ?_
        subst hN hus
        exact x7.left
end
end Mine

end
section -- M11
open PySem PySem.W PyProof.Rows PySem.Calls PySem.Builtin PySem.Builtin.ObjectAttr
set_option maxRecDepth 100000
namespace Mine
section
variable {w : World} {mean : ExcName → Option Value} {mg mb : Str → Option Value} {A : Around} {E : Value → Shared → Prop} {s : Shared} {R : Result → Shared → Prop} {h₀ hs : Heap} {env : Env} {x : Str} {v : Value} {pos : Pos} {Q : Value → Shared → Prop}

/- a name of the module -/
theorem nameG (G : Gd w mean mg mb s.heap) (e : nsIn (hd.heap_39 w.params) mainGlobals x = some (some v)) (h : Q v s) (hg : env.globals = mainGlobals := by rfl) (hk : env.scope.kind = .function := by rfl) (hx : env.kindOf x = some .globalImplicit := by rfl) (hd : (x == ("__debug__" : Str)) = false := by decide) :
    wpAny (model PR w) A (PySem.eval (.Name x pos) env) Q E s := Name_function_global hk hx (loadGlobal_global (hg ▸ G.T.g) (mg_of G.X G.T.g e) h) hd
/- a name of the builtins -/
theorem nameB (G : Gd w mean mg mb s.heap) (e : nsIn (hd.heap_39 w.params) mainGlobals x = some none) (hv : bootBuiltins x = some v) (h : Q v s) (hn : x ≠ "__name__" := by decide) (hg : env.globals = mainGlobals := by rfl) (hb : env.builtins = builtinsNs := by rfl) (hk : env.scope.kind = .function := by rfl) (hx : env.kindOf x = some .globalImplicit := by rfl) (hd : (x == ("__debug__" : Str)) = false := by decide) :
    wpAny (model PR w) A (PySem.eval (.Name x pos) env) Q E s := Name_function_global hk hx (loadGlobal_builtin (hg ▸ G.T.g) (mg_none_of G.X G.T.g e) (hb ▸ G.T.b) ((G.T.builtins x hn).trans hv) h) hd
end
section
variable {M : Model} {A : Around} {E : Value → Shared → Prop} {s : Shared} {Q : Value → Shared → Prop} {pos : Pos} {id : String}
theorem callB2 {t u : Sem Value} (h : wpAny M A t (fun v s₁ => wpAny M A u (fun v' s₂ => wpAny M A (call (.builtin id) [v, v']) Q E s₂) E s₁) E s) : wpAny M A (callWith pos (.builtin id) [] [(false, t), (false, u)] []) Q E s :=
  callWith_builtin rfl (evalArgs_plain (spliced_cons (wpAny_mono h (fun _ _ h₁ => spliced_cons (wpAny_mono h₁ (fun _ _ h₂ => spliced_nil h₂) fun _ _ e => e)) fun _ _ e => e)))
end
theorem g_iter (P : Params) : nsIn (hd.heap_39 P) mainGlobals (Str.ofString "iter") = some none := by kernel_rfl
theorem k_pb (P : Params) : findIn (hd.heap_39 P) (.ref 101) (Str.ofString "pushback") = some none := by kernel_rfl
theorem k_c90 (P : Params) : codeIn (hd.heap_39 P) (.ref 90) (Str.ofString "_netrclex.get_token") = true := by kernel_rfl
theorem k_get84 (P : Params) : specialIn (hd.heap_39 P) (.ref 84) "__get__" = some (some (.builtin "function.__get__")) := by kernel_rfl
theorem k_t84 (P : Params) : takesIn (hd.heap_39 P) (.ref 84) = some false := by kernel_rfl

section
variable {w : World} {mean : ExcName → Option Value} {mg mb : Str → Option Value} {A : Around} {E : Value → Shared → Prop} {s : Shared} {R : Result → Shared → Prop} {h₀ hs : Heap} {B L lx dx pb rd lf it bm : Nat} {ti : Tok} {m : Str → Option Value} {tok : Str} {cs : List Nat} {ln : Int}

theorem get_token {n : Nat} (k : OkA A (n + 6)) (G : Gd w mean mg mb h₀) (K0 : Kp h₀ s.heap) (hdx : h₀.get? dx = none) (hlf : h₀.get? lf = none) (hBs : B ≤ s.heap.objs.size) (x : LexAt B s.heap lx dx pb rd lf ln) {pre body word rest used : List Nat} (hl : LCh s.heap lf (pre ++ body))
    (hpre : ∀ c ∈ pre, ws c = true) (ht : Tkn body word rest) (hz : (pre ++ body).length < 2 ^ 18) (hz2 : word.length < 2 ^ 18) (hu : pre ++ body = used ++ rest)
    (h : ∀ h' tk t, LexAt B h' lx dx pb rd lf (bumps ln used) → LCh h' lf rest → KpB [dx, lf] s.heap h' → R (.ok (.ret (.str (wd word) t))) { s with heap := h', toks := tk }) :
    codeAny (model PR w) A (.call (.ref 91) ⟨[.ref lx], []⟩) R s := by
  have GS := G.keeps K0
  refine callF (n := n + 5) (binds := [(Str.ofString "self", .ref lx)]) k (GS.X _ _ (by rfl)) GS.lim (codeRec_of GS.X (k_c90 _)) rfl (by decide) rfl ?_
  intro L h₁ tk hL hns kp ok
  have x1 := x.kpC hl (kp.b (W := [])) (by simp)
  have l1 := hl.kp kp
  have GS1 := GS.keeps kp
  have LL : L < h₁.objs.size := by obtain ⟨o, _, _, e, _⟩ := hns; exact ltS e
  obtain ⟨mm, t, tw, st, ds, ms, fd, sl, I, m1, m2, m3, m4, m5, m6, hw, e1, n1, m7, b1, b2, nd⟩ := x1.obj
  refine wpAny_execs_cons (wpAny_If (isTrue_plain ?_))
  refine Attribute_Name_ ?_
  refine wpAny_Name (wpAny_loadName_local rfl rfl hns rfl ?_) (by decide)
  refine inst_get GS1.X I (k_plain _ _) (k_has _) (k_pb _) m4 rfl fun tk2 => ?_
  refine truthyL x1.pbl (by decide) fun tk3 => ?_
  rw [if_neg (by decide)]
  refine wpAny_execs_nil (wpAny_execs_cons (wpAny_Assign_Name (wpAny_Constant_str ?_)))
  refine wpAny_storeName_local rfl hns (fun h2 hn2 sb2 => ?_)
  dsimp only
  have k2 := kp_same sb2
  have hB : lx < L ∧ dx < L ∧ pb < L ∧ lf < L ∧ B ≤ L := by have := x.blx; have := x.bdx; have := x.bpb; have := x.blf; exact ar27 hBs hL ‹lx < B› ‹dx < B› ‹pb < B› this
  have K2 : Kp s.heap h2 := fun b o e => k2 _ _ (by have := ltS e; simp; omega) (kp _ _ e)
  have x2 := x.kpC hl (K2.b (W := [])) (by simp)
  have l2 := hl.kp K2
  have GS2 := GS.keeps K2
  obtain ⟨mm, t, tw, st, ds, ms, fd, sl, I, m1, m2, m3, m4, m5, m6, hw, e1, n1, m7, b1, b2, nd⟩ := x2.obj
  have LL2 : L < h2.objs.size := by obtain ⟨o, _, _, e, _⟩ := hn2; exact ltS e
  refine wpAny_execs_cons (wpAny_Assign_Name (Call_ ?_))
  refine nameB (v := .builtin "iter") GS2 (g_iter _) (by kernel_rfl) ?_
  refine callB2 ?_
  refine Attribute_Name_ ?_
  refine wpAny_Name (wpAny_loadName_local rfl rfl hn2 rfl ?_) (by decide)
  refine inst_bound GS2.X I (k_plain _ _) (k_has _) (k_rc _) (k_fn84 _) (k_get84 _) (k_t84 _) (by decide) m5 fun tk4 => ?_
  rw [if_neg Bool.false_ne_true]
  refine wpAny_Constant_str ?_
  refine iter_make (Heap.get?_push_size _ rfl) ?_
  have K3 : Kp h2 ((h2.push (methodObj (.ref 84) (.ref lx))).push (ciObj (.ref h2.objs.size) (.str (Str.ofString "") (tk4)) (.bool false))) := (Kp.push _ _).trans (Kp.push _ _)
  refine wpAny_storeName_local rfl (hn2.keeps K3) (fun h4 hn4 sb4 => ?_)
  dsimp only
  have k4 := kp_same sb4
  have nbm : h2.objs.size ≠ L := by exact ar28 LL2
  have sz : (h2.push (methodObj (.ref 84) (.ref lx))).objs.size = h2.objs.size + 1 := by simp [Heap.push]
  have K4 : Kp s.heap h4 := fun b o e => k4 _ _ (by have := ltS e; simp; omega) (K3 _ _ (K2 _ _ e))
  have hci := k4 (h2.push (methodObj (.ref 84) (.ref lx))).objs.size _ (by simp [sz]; exact ar29 LL2 sz) (Heap.get?_push_size (h2.push (methodObj (.ref 84) (.ref lx))) (o := ciObj (.ref h2.objs.size) (.str (Str.ofString "") (tk4)) (.bool false)) rfl)
  have hbm := k4 h2.objs.size _ (by simpa using nbm) (Kp.push _ (ciObj (.ref h2.objs.size) (.str (Str.ofString "") (tk4)) (.bool false)) _ _ (Heap.get?_push_size h2 (o := methodObj (.ref 84) (.ref lx)) rfl))
  have x4 := x.kpC hl (K4.b (W := [])) (by simp)
  have l4 := hl.kp K4
  have hL0 : h₀.get? L = none := fresh_none K0 (by exact ar30 hL)
  have hi0 : h₀.get? (h2.push (methodObj (.ref 84) (.ref lx))).objs.size = none := fresh_none (K0.trans K2) (by exact ar31 sz)
  have g : GTk w mean mg mb h₀ s.heap B L dx lf (h2.push (methodObj (.ref 84) (.ref lx))).objs.size h2.objs.size :=
    ⟨G, hdx, hlf, hB.2.2.2.2, by exact ar32 hBs hL LL2 sz, by exact ar33 hBs hL LL2 sz, by exact ar34 LL2 sz, by exact ar35 LL2 sz, by exact ar36 sz, by exact ar30 hL, by exact ar37 hL LL2 sz, hL0, hi0⟩
  refine wpAny_execs_cons (wpAny_For ?_)
  refine wpAny_Name (wpAny_loadName_local rfl rfl hn4 rfl ?_) (by decide)
  refine ci_iter hci ?_
  refine o_loop (s := { s with heap := h4, toks := _ }) (n := n) (ok.less (by exact ar38)) g hpre ht hz hz2 ⟨hn4, rfl, ⟨_, rfl⟩, rfl, x4, l4, K0.trans K4, hci, hbm, K4.b⟩ hu rfl fun h5 tk5 f lft => ?_
  dsimp only
  rcases lft.out with ⟨t, rfl⟩ | ⟨rfl, m5, t5, hn5, ht5⟩
  · exact h _ _ _ lft.lex lft.lst lft.kb
  · refine wpAny_execs_cons (wpAny_Return_some ?_)
    refine wpAny_Name (wpAny_loadName_local rfl rfl hn5 ht5 ?_) (by decide)
    exact h _ _ _ lft.lex lft.lst lft.kb
end
end Mine

end
section -- M12
open PySem PySem.W PyProof.Rows PySem.Calls PySem.Builtin PySem.Builtin.ObjectAttr
set_option maxRecDepth 100000
set_option linter.unusedVariables false
namespace Mine

noncomputable abbrev testsOf (ifs : List Expr) (env : Env) : Sem Bool := forIn ifs true fun c r => if r = true then do let ok ← isTrue c env (PySem.eval c env); pure (ForInStep.yield ok) else pure (ForInStep.yield r)
/- a turn of a comprehension -/
noncomputable abbrev turnOf (e : Expr) (d : Nat) (ip : Pos) (target : Expr) (ifs : List Expr) (emit : Sem Fin → Sem Fin) (it acc : Value) (env : Env) : Sem Fin := do
  standAt ip
  match ← pyNext it with
  | none => pure (.done .next)
  | some v =>
    letOwnedTupleGo target it v
    assign target env v
    let ok ← testsOf ifs env
    if ok = true then emit (again (.compLoop e d it acc env)) else again (.compLoop e d it acc env)
noncomputable abbrev emitOf (elt : Expr) (acc : Value) (env : Env) (k : Sem Fin) : Sem Fin := do
  (do let _ ← call (.builtin "list.append") [acc, ← PySem.eval elt env])
  k
noncomputable abbrev emit2 (e : Expr) (iter : Expr) (d : Nat) (acc : Value) (env : Env) (k : Sem Fin) : Sem Fin := do
  let x ← PySem.eval iter env
  standAt iter.pos
  let x ← foldedSetIterable iter env x
  let _ ← runOwn (.compStart e d (← holding [x] (pyIter x)) acc env) env
  k
theorem turn1 (elt target iter : Expr) (ifs : List Expr) (scope : Scope) (pos : Pos) (it acc : Value) (env : Env) :
    compTurn (.ListComp elt [⟨target, iter, ifs, 0⟩] scope pos) 0 it acc env = turnOf (.ListComp elt [⟨target, iter, ifs, 0⟩] scope pos) 0 iter.pos target ifs (emitOf elt acc env) it acc env := by rfl
theorem turn20 (elt target iter target' iter' : Expr) (ifs ifs' : List Expr) (scope : Scope) (pos : Pos) (it acc : Value) (env : Env) :
    compTurn (.ListComp elt [⟨target, iter, ifs, 0⟩, ⟨target', iter', ifs', 0⟩] scope pos) 0 it acc env = turnOf (.ListComp elt [⟨target, iter, ifs, 0⟩, ⟨target', iter', ifs', 0⟩] scope pos) 0 iter.pos target ifs
      (emit2 (.ListComp elt [⟨target, iter, ifs, 0⟩, ⟨target', iter', ifs', 0⟩] scope pos) iter' 1 acc env) it acc env := by rfl
theorem turn21 (elt target iter target' iter' : Expr) (ifs ifs' : List Expr) (scope : Scope) (pos : Pos) (it acc : Value) (env : Env) :
    compTurn (.ListComp elt [⟨target, iter, ifs, 0⟩, ⟨target', iter', ifs', 0⟩] scope pos) 1 it acc env = turnOf (.ListComp elt [⟨target, iter, ifs, 0⟩, ⟨target', iter', ifs', 0⟩] scope pos) 1 iter'.pos target' ifs' (emitOf elt acc env) it acc env := by rfl

section
variable {prog : Program} {w : World} {A : Around} {E : Value → Shared → Prop} {s : Shared} {R : Result → Shared → Prop}

/- a way of handing on: what the tree does ahead of k -/
noncomputable def Emits (prog : Program) (w : World) (A : Around) (emit : Sem Fin → Sem Fin) (Do : (Unit → Shared → Prop) → (Value → Shared → Prop) → Shared → Prop) : Prop :=
  ∀ (k : Sem Fin) (Q : Fin → Shared → Prop) (E : Value → Shared → Prop) (s : Shared), Do (fun _ s' => wpAny (model prog w) A k Q E s') E s → wpAny (model prog w) A (emit k) Q E s
theorem emits1 {elt : Expr} {acc : Value} {env : Env} : Emits prog w A (emitOf elt acc env) (fun Q E s => wpAny (model prog w) A (PySem.eval elt env) (fun x s₄ => wpAny (model prog w) A (call (.builtin "list.append") [acc, x]) (fun _ s₅ => Q () s₅) E s₄) E s) := fun k Q E s h =>
  wpAny_bind (wpAny_bind (wpAny_mono h (fun x s₄ h₄ => wpAny_bind (wpAny_mono h₄ (fun _ s₅ h₅ => wpAny_pure h₅) fun _ _ h' => h')) fun _ _ h' => h'))
theorem emits2 {e iter : Expr} {d : Nat} {acc : Value} {env : Env} (hs : ∀ x, foldedSetIterable iter env x = pure x) : Emits prog w A (emit2 e iter d acc env) (fun Q E s => wpAny (model prog w) A (PySem.eval iter env) (fun x s₁ => wpAny (model prog w) A (pyIter x) (fun it s₂ =>
    codeAny (model prog w) A (.compStart e d it acc env) (fun r s' => match r with | .ok _ => Q () s' | .error e => cameBackBy (model prog w) A env E e s') s₂) E s₁) E s) := fun k Q E s h =>
  wpAny_bind (wpAny_mono h (fun x s₁ h₁ => wpAny_bind (wpAny_standAt (wpAny_bind (wpAny_of_eq (hs x) (wpAny_bind (wpAny_holding (wpAny_mono h₁ (fun it s₂ h₂ => wpAny_bind (wpAny_runOwn h₂)) fun _ _ h' => h'))))))) fun _ _ h' => h')
noncomputable def DoMono (Do : (Unit → Shared → Prop) → (Value → Shared → Prop) → Shared → Prop) : Prop := ∀ Q Q' E s, (∀ s', Q () s' → Q' () s') → Do Q E s → Do Q' E s

theorem cloop {elt : Expr} {gens : List Comprehension} {scope : Scope} {pos : Pos} {d : Nat} {ip : Pos} {target : Expr} {ifs : List Expr} {emit : Sem Fin → Sem Fin} {Do : (Unit → Shared → Prop) → (Value → Shared → Prop) → Shared → Prop} {it acc : Value} {env : Env} (hE : Emits prog w A emit Do) (hM : DoMono Do) (hT : compTurn (.ListComp elt gens scope pos) d it acc env = turnOf (.ListComp elt gens scope pos) d ip target ifs emit it acc env) (I : Nat → Shared → Prop)
    (turn : ∀ n s, I n s → ∀ E', wpAny (model prog w) A (pyNext it) (fun r s₁ => match r with
      | none => R (.ok .next) s₁
      | some v => wpAny (model prog w) A (letOwnedTupleGo target it v) (fun _ s₀ => wpAny (model prog w) A (assign target env v) (fun _ s₂ => wpAny (model prog w) A (testsOf ifs env) (fun ok s₃ =>
            if ok = true then Do (fun _ s₅ => ∃ m, m < n ∧ I m s₅) E' s₃ else ∃ m, m < n ∧ I m s₃) E' s₂) E' s₀) E' s₁) E' s)
    (n : Nat) (h : I n s) : codeAny (model prog w) A (.compLoop (.ListComp elt gens scope pos) d it acc env) R s := by
  refine codeAny_loop rfl I (fun n s hI => ?_) n h
  show wpAny _ A ((compTurn (.ListComp elt gens scope pos) d it acc env).onRaise (fun x => do noteFrame x env; theTreesLotGoes x)) _ _ s
  refine wpAny_noted ?_
  rw [hT]
  refine wpAny_bind (wpAny_standAt (wpAny_bind (wpAny_mono (turn n s hI _) (fun r s₁ h₁ => ?_) fun _ _ h' => h')))
  cases r with
  | none => exact wpAny_pure h₁
  | some v =>
    refine wpAny_bind (wpAny_mono h₁ (fun _ s₀ h₀ => wpAny_bind (wpAny_mono h₀ (fun _ s₂ h₂ => wpAny_bind (wpAny_mono h₂ (fun ok s₃ h₃ => ?_) fun _ _ h' => h')) fun _ _ h' => h')) fun _ _ h' => h')
    cases ok with
    | false => exact wpAny_pure ⟨rfl, h₃⟩
    | true => exact hE _ _ _ _ (hM _ _ _ _ (fun s₅ h₅ => wpAny_pure ⟨rfl, h₅⟩) h₃)

/- what a turn leaves -/
noncomputable def Turned (s : Shared) (C D : Nat) (Inv : List Value → Heap → Prop) (h : Heap) (s' : Shared) : Prop :=
  ∃ h' tk' m' ys', s' = { s with heap := h', toks := tk' } ∧ h'.Ns C m' ∧ LAt h' D ys' ∧ Inv ys' h' ∧ KpB [C, D] h h'

theorem cwalk {elt : Expr} {gens : List Comprehension} {scope : Scope} {pos : Pos} {d I D n : Nat} {ip : Pos} {target : Expr} {ifs : List Expr} {emit : Sem Fin → Sem Fin} {Do : (Unit → Shared → Prop) → (Value → Shared → Prop) → Shared → Prop} {cenv : Env} {fp wr : List Nat} {P : Nat → Value → Prop} {St : Nat → Heap → Prop} {m : Str → Option Value} {ys : List Value}
    (W : Walks prog w A I fp wr n P St) (hE : Emits prog w A emit Do) (hM : DoMono Do) (hT : compTurn (.ListComp elt gens scope pos) d (.ref I) (.ref D) cenv = turnOf (.ListComp elt gens scope pos) d ip target ifs emit (.ref I) (.ref D) cenv)
    (hDf : D ∉ fp) (hCf : cenv.locals ∉ fp) (hst : St 0 s.heap) (hn : s.heap.Ns cenv.locals m) (hl : LAt s.heap D ys) (Inv : Nat → List Value → Heap → Prop)
    (stab : ∀ i ys h h', Inv i ys h → KpB wr h h' → Inv i ys h') (h0 : Inv 0 ys s.heap)
    (turn : ∀ i v ys h tk m E', i < n → P i v → St (i + 1) h → h.Ns cenv.locals m → LAt h D ys → Inv i ys h → KpB (cenv.locals :: D :: wr) s.heap h →
      wpAny (model prog w) A (letOwnedTupleGo target (.ref I) v) (fun _ s₀ => wpAny (model prog w) A (assign target cenv v) (fun _ s₂ => wpAny (model prog w) A (testsOf ifs cenv) (fun ok s₃ =>
        if ok = true then Do (fun _ s₅ => Turned s cenv.locals D (Inv (i + 1)) h s₅) E' s₃ else Turned s cenv.locals D (Inv (i + 1)) h s₃) E' s₂) E' s₀) E' { s with heap := h, toks := tk })
    (hR : ∀ h' tk m' ys', h'.Ns cenv.locals m' → LAt h' D ys' → Inv n ys' h' → KpB (cenv.locals :: D :: wr) s.heap h' → R (.ok .next) { s with heap := h', toks := tk }) :
    codeAny (model prog w) A (.compLoop (.ListComp elt gens scope pos) d (.ref I) (.ref D) cenv) R s := by
  refine cloop hE hM hT (fun k s' => ∃ i h tk m ys, k = n - i ∧ i ≤ n ∧ s' = { s with heap := h, toks := tk } ∧ St i h ∧ h.Ns cenv.locals m ∧ LAt h D ys ∧ Inv i ys h ∧ KpB (cenv.locals :: D :: wr) s.heap h) ?_ n
    ⟨0, s.heap, s.toks, m, ys, rfl, Nat.zero_le _, rfl, hst, hn, hl, h0, fun _ _ _ e => e⟩
  rintro k s' ⟨i, h, tk, m, ys, rfl, hi, rfl, st, hn, hl, hI, kb⟩ E'
  have hCw : cenv.locals ∉ wr := fun q => hCf (W.sub _ q)
  have hDw : D ∉ wr := fun q => hDf (W.sub _ q)
  by_cases hlt : i < n
  · refine W.item i _ _ _ hlt st fun v h₁ tk₁ hPv hst₁ hk₁ => ?_
    have kw : KpB wr h h₁ := fun b o nb e => hk₁ b o nb e
    refine wpAny_mono (turn i v ys h₁ tk₁ m E' hlt hPv hst₁ (ns_kpB hn kw hCw) (hl.kpB kw hDw) (stab _ _ _ _ hI kw) (kb.trans (kw.mono (by simp +contextual)))) (fun _ s₀ h₀ => wpAny_mono h₀ (fun _ s₂ h₂ => wpAny_mono h₂ (fun ok s₃ h₃ => ?_) fun _ _ x => x) fun _ _ x => x) fun _ _ x => x
    have fin : ∀ s₅, Turned s cenv.locals D (Inv (i + 1)) h₁ s₅ → ∃ m, m < n - i ∧ ∃ i h tk m_1 ys, m = n - i ∧ i ≤ n ∧ s₅ = { s with heap := h, toks := tk } ∧ St i h ∧ h.Ns cenv.locals m_1 ∧ LAt h D ys ∧ Inv i ys h ∧ KpB (cenv.locals :: D :: wr) s.heap h := by
      rintro s₅ ⟨h', tk', m', ys', rfl, hn', hl', hI', kb'⟩
      refine ⟨n - (i + 1), by exact ar39 hlt, i + 1, h', tk', m', ys', rfl, hlt, rfl, W.frame _ _ _ hst₁ fun b hb o e => kb' b o ?_ e, hn', hl', hI', (kb.trans (kw.mono (by simp +contextual))).trans (kb'.mono (by simp))⟩
      intro q
      rcases List.mem_cons.mp q with q | q
      · exact hCf (q ▸ hb)
      · exact hDf ((List.mem_singleton.mp q) ▸ hb)
    cases ok with
    | false => exact fin _ h₃
    | true => exact hM _ _ _ _ (fun s₅ h₅ => fin _ h₅) h₃
  · have : i = n := by exact ar40 hi hlt
    subst this
    refine W.done _ _ _ st fun h' tk' hk' => ?_
    have kw : KpB wr h h' := fun b o nb e => hk' b o nb e
    exact hR _ _ _ _ (ns_kpB hn kw hCw) (hl.kpB kw hDw) (stab _ _ _ _ hI kw) (kb.trans (kw.mono (by simp +contextual)))

/- a list comprehension -/
theorem lcomp {elt target iter : Expr} {ifs : List Expr} {rest : List Comprehension} {scope : Scope} {pos : Pos} {env : Env} {cl : List (Str × Addr)} {Q : Value → Shared → Prop}
    (hclos : closureFor scope env = pure cl) (hcell : ∀ y ∈ scope.names, y.2 ≠ .cell) (hkind : scope.kind = .function) (hnames : ∀ y ∈ scope.names, y.2 = .local → scope.names.lookup y.1 = some .local)
    (h : wpAny (model prog w) A (PySem.eval iter env) (fun xv s₁ => wpAny (model prog w) A (pyIter xv) (fun it s₂ => ∃ (I n : Nat) (fp wr : List Nat) (P : Nat → Value → Prop) (St : Nat → Heap → Prop), it = .ref I ∧ Walks prog w A I fp wr n P St ∧ St 0 s₂.heap ∧ (∀ b ∈ fp, b < s₂.heap.objs.size) ∧
      ∀ D C h tk, D = s₂.heap.objs.size → C = D + 1 → D ∉ fp → C ∉ fp → Kp s₂.heap h → St 0 h → h.Ns C (fun _ => none) → LAt h D [] →
        codeAny (model prog w) A (.compLoop (.ListComp elt (⟨target, iter, ifs, 0⟩ :: rest) scope pos) 0 (.ref I) (.ref D) (compEnvC scope cl C env))
          (fun r s' => r = .ok .next ∧ ∃ h' tk' m', s' = { s₂ with heap := h', toks := tk' } ∧ h'.Ns C m' ∧ ∀ h'', KpB [C] h' h'' → Q (.ref D) { s₂ with heap := h'', toks := tk' }) { s₂ with heap := h, toks := tk }) E s₁) E s)
    (hs : ∀ x, foldedSetIterable iter env x = pure x := by intro _; rfl) :
    wpAny (model prog w) A (PySem.eval (.ListComp elt (⟨target, iter, ifs, 0⟩ :: rest) scope pos) env) Q E s := by
  rw [eval_ListComp]
  refine wpAny_comprehension_free (use := none) rfl hs hclos hkind hnames (wpAny_mono h (fun xv s₁ h₁ => wpAny_mono h₁ (fun it s₂ h₂ => ?_) fun _ _ e => e) fun _ _ e => e)
  obtain ⟨I, n, fp, wr, P, St, rfl, W, hst, hfp, hq⟩ := h₂
  refine wpAny_newObj_type (wpAny_newFunctionEnv hcell (by intro y hy; simp at hy) (fun h₁ hns₁ hsb₁ => ?_) hkind)
  dsimp only at hns₁ hsb₁ ⊢
  have hC : (s₂.heap.push { cls := .type "list", dict := none, data := .seq ([] : List Value).toArray }).objs.size = s₂.heap.objs.size + 1 := Heap.size_push ..
  rw [hC] at hns₁ hsb₁ ⊢
  have old : Kp s₂.heap h₁ := fun b o e => hsb₁.extBut b o (by have := ltS e; show b ≠ s₂.heap.objs.size + 1; exact ar41 this) (Heap.get?_push_of_some _ (Heap.get?_push_of_some _ e))
  have hacc : LAt h₁ s₂.heap.objs.size [] := ⟨0, hsb₁.extBut _ _ (show s₂.heap.objs.size ≠ s₂.heap.objs.size + 1 by exact ar42) (Heap.get?_push_of_some _ (Heap.get?_push_size _ rfl))⟩
  have hst₁ : St 0 h₁ := W.frame _ _ _ hst fun b _ o e => old b o e
  have fin : ∀ s₃ : Shared, s₃ = { s₂ with heap := h₁, toks := s₂.toks + ([] : List (Str × Value)).length } → codeAny (model prog w) A (.compLoop (.ListComp elt (⟨target, iter, ifs, 0⟩ :: rest) scope pos) 0 (.ref I) (.ref s₂.heap.objs.size) (compEnvC scope cl (s₂.heap.objs.size + 1) env)) (compPost (model prog w) A E none Q (.ref s₂.heap.objs.size) (s₂.heap.objs.size + 1)) s₃ := by
    rintro s₃ rfl
    refine codeAny_mono (hq _ _ h₁ _ rfl rfl (fun q => Nat.lt_irrefl _ (hfp _ q)) (fun q => by have := hfp _ q; omega) old hst₁ hns₁ hacc) ?_
    rintro r s' ⟨rfl, h', tk', m', rfl, hn', hq'⟩
    exact ⟨m', hn', fun h'' sb => hq' h'' (kp_same sb)⟩
  exact codeAny_compStart_list (fin _ rfl) (W.self 0 _ _ _ hst₁ (fin _ rfl))
end
end Mine

end
section -- M13
open PySem PySem.W PyProof.Rows PySem.Calls PySem.Builtin PySem.Builtin.ObjectAttr
set_option maxRecDepth 100000
set_option linter.unusedVariables false
namespace Mine

section
variable {w : World} {A : Around} {E : Value → Shared → Prop} {s : Shared} {R : Result → Shared → Prop}

theorem emits1M {elt : Expr} {acc : Value} {env : Env} : DoMono (fun Q E s => wpAny (model PR w) A (PySem.eval elt env) (fun x s₄ => wpAny (model PR w) A (call (.builtin "list.append") [acc, x]) (fun _ s₅ => Q () s₅) E s₄) E s) :=
  fun Q Q' E s h x => wpAny_mono x (fun _ _ y => wpAny_mono y (fun _ _ z => h _ z) fun _ _ e => e) fun _ _ e => e

/- a thing to run over: n items, the i-th as P says -/
noncomputable def Src (w : World) (A : Around) (target : Expr) (s₁ : Shared) (xv : Value) (n : Nat) (P : Nat → Value → Prop) : Prop :=
  ∀ (Q : Value → Shared → Prop) (E : Value → Shared → Prop), (∀ I h tk fp wr St, Walks PR w A I fp wr n P St → St 0 h → (∀ b ∈ fp, b < h.objs.size) → (∀ b ∈ wr, s₁.heap.objs.size ≤ b) → s₁.heap.objs.size ≤ h.objs.size → Kp s₁.heap h →
      (∀ i v (s' : Shared) Q' E', St i s'.heap → Q' () s' → wpAny (model PR w) A (letOwnedTupleGo target (.ref I) v) Q' E' s') → Q (.ref I) { s₁ with heap := h, toks := tk }) → wpAny (model PR w) A (pyIter xv) Q E s₁

theorem kp_lt {a b : Heap} {W : List Nat} (x : KpB W a b) {c : Heap} (k : Kp c a) (h : ∀ y ∈ W, c.objs.size ≤ y) : Kp c b := fun p o e => x p o (fun q => by have := h p q; have := ltS e; omega) (k p o e)

theorem append1 {l : Nat} {ys : List Value} {x : Value} {Q : Value → Shared → Prop} (hl : LAt s.heap l ys) (h : ∀ h', LAt h' l (ys ++ [x]) → KpB [l] s.heap h' → Q .none { s with heap := h' }) (hz : ys.length < 2 ^ 20) :
    wpAny (model PR w) A (call (.builtin "list.append") [.ref l, x]) Q E s := by
  obtain ⟨n, e⟩ := hl
  have hT : s.TypeIs (.ref l) "list" := ⟨_, e, rfl⟩
  refine wpAny_call_entry slot_list_append hT entry_list_append ?_ (args_list_append _ _)
  show wpAny _ _ (updateSeq l (·.push x) >>= fun _ => ret .none) _ _ s
  refine wpAny_bind ?_
  refine wpAny_updateSeq e rfl (wpAny_pure ⟨.none, rfl, h _ ?_ (kp_same (Heap.SameBut.update ..))⟩)
  have := Heap.get?_update_self (Obj.mapSeq (·.push x)) e rfl
  refine ⟨if (ys.length == ys.length + 1) then n else n + 1, this.trans ?_⟩
  simp [Obj.mapSeq, W.listOf]

/- a list comprehension with one for, over what does not turn -/
theorem lcB {elt target iter : Expr} {ifs : List Expr} {scope : Scope} {pos : Pos} {env : Env} {cl : List (Str × Addr)} {Q : Value → Shared → Prop} (Inv : Nat → List Value → Prop)
    (hclos : closureFor scope env = pure cl) (hcell : ∀ y ∈ scope.names, y.2 ≠ .cell) (hkind : scope.kind = .function) (hnames : ∀ y ∈ scope.names, y.2 = .local → scope.names.lookup y.1 = some .local)
    (h : wpAny (model PR w) A (PySem.eval iter env) (fun xv s₁ => ∃ (n : Nat) (P : Nat → Value → Prop) (B : Nat → Value → (Str → Option Value) → Prop), Src w A target s₁ xv n P ∧ Inv 0 [] ∧ n < 2 ^ 20 ∧ (∀ i ys, Inv i ys → ys.length ≤ i) ∧
      (∀ i v C h tk m Q' E', P i v → h.Ns C m → Kp s₁.heap h → s₁.heap.objs.size ≤ C → (∀ h' m' tk', h'.Ns C m' → B i v m' → KpB [C] h h' → Q' () { s₁ with heap := h', toks := tk' }) → wpAny (model PR w) A (assign target (compEnvC scope cl C env) v) Q' E' { s₁ with heap := h, toks := tk }) ∧
      (∀ i v ys C h tk m E', i < n → P i v → h.Ns C m → B i v m → Kp s₁.heap h → s₁.heap.objs.size ≤ C → Inv i ys →
        wpAny (model PR w) A (testsOf ifs (compEnvC scope cl C env)) (fun ok s₃ => ∃ h3 tk3, s₃ = { s₁ with heap := h3, toks := tk3 } ∧ Kp h h3 ∧
          if ok = true then wpAny (model PR w) A (PySem.eval elt (compEnvC scope cl C env)) (fun y s₄ => ∃ h4 tk4, s₄ = { s₁ with heap := h4, toks := tk4 } ∧ Kp h h4 ∧ Inv (i + 1) (ys ++ [y])) E' s₃ else Inv (i + 1) ys) E' { s₁ with heap := h, toks := tk }) ∧
      (∀ D h' tk' ys, s₁.heap.objs.size ≤ D → LAt h' D ys → Inv n ys → Kp s₁.heap h' → Q (.ref D) { s₁ with heap := h', toks := tk' })) E s)
    (hs : ∀ x, foldedSetIterable iter env x = pure x := by intro _; rfl) :
    wpAny (model PR w) A (PySem.eval (.ListComp elt [⟨target, iter, ifs, 0⟩] scope pos) env) Q E s := by
  refine lcomp hclos hcell hkind hnames (wpAny_mono h (fun xv s₁ h₁ => ?_) fun _ _ e => e) hs
  obtain ⟨n, P, B, src, h0, hz, hlen, hasg, hel, hQ⟩ := h₁
  refine src _ _ fun I h2 tk2 fp wr St W st hfp hwr sz k2 hgo => ⟨I, n, fp, wr, P, St, rfl, W, st, hfp, ?_⟩
  intro D C h3 tk3 hD hC hDf hCf k3 st3 hn3 hl3
  dsimp only at hD k3 ⊢
  refine cwalk (s := { s₁ with heap := h3, toks := tk3 }) W emits1 emits1M (turn1 ..) hDf hCf st3 hn3 hl3 (fun i ys _ => Inv i ys) (fun _ _ _ _ x _ => x) h0 ?_ ?_
  · intro i v ys h4 tk4 m4 E' hi hP st4 hn4 hl4 hI kb4
    have K4 : Kp s₁.heap h4 := kp_lt kb4 (k2.trans k3) (by
      intro y hy
      rcases List.mem_cons.mp hy with q | hy
      · rw [q]; show s₁.heap.objs.size ≤ C; exact ar43 sz hD hC
      · rcases List.mem_cons.mp hy with q | hy
        · exact ar44 sz hD hC q
        · exact hwr _ hy)
    refine hgo _ _ _ _ _ st4 ?_
    refine hasg i v C h4 tk4 m4 _ _ hP hn4 K4 (by exact ar43 sz hD hC) fun h5 m5 tk5 hn5 hB k5 => ?_
    have K5 : Kp s₁.heap h5 := kp_lt k5 K4 (by simp; omega)
    refine wpAny_mono (hel i v ys C h5 tk5 m5 E' hi hP hn5 hB K5 (by exact ar43 sz hD hC) hI) ?_ fun _ _ e => e
    rintro ok s₃ ⟨h6, tk6, rfl, k6, hok⟩
    have hl5 : LAt h5 D ys := hl4.kpB k5 (by exact ar45 hC)
    cases ok with
    | false =>
      refine ⟨h6, tk6, m5, ys, rfl, hn5.keeps k6, hl5.kp k6, hok, (k5.trans k6.b).mono (by simp; exact .inl rfl)⟩
    | true =>
      refine wpAny_mono hok ?_ fun _ _ e => e
      rintro y s₄ ⟨h7, tk7, rfl, k7, hI7⟩
      refine append1 (hl5.kp k7) (fun h8 hl8 k8 => ?_) (by have := hlen _ _ hI; exact ar46 hz hi this)
      refine ⟨h8, tk7, m5, ys ++ [y], rfl, ns_kpB (hn5.keeps k7) k8 ?_, hl8, hI7, ?_⟩
      · show C ∉ [D]; exact ar47 hC
      · exact ((k5.trans k7.b).mono (by simp; exact .inl rfl)).trans (k8.mono (by simp))
  · intro h' tk' m' ys' hn' hl' hI' kb'
    refine ⟨rfl, h', tk', m', rfl, hn', fun h'' k'' => ?_⟩
    have K' : Kp s₁.heap h' := kp_lt kb' (k2.trans k3) (by
      intro y hy
      rcases List.mem_cons.mp hy with q | hy
      · rw [q]; show s₁.heap.objs.size ≤ C; exact ar43 sz hD hC
      · rcases List.mem_cons.mp hy with q | hy
        · exact ar44 sz hD hC q
        · exact hwr _ hy)
    exact hQ D h'' tk' ys' (by exact ar48 sz hD hC) (hl'.kpB k'' (by exact ar45 hC)) hI' (kp_lt k'' K' (by simp; omega))
end
end Mine

end
section -- M14
open PySem PySem.W PyProof.Rows PySem.Calls PySem.Builtin PySem.Builtin.ObjectAttr
set_option maxRecDepth 100000
set_option linter.unusedVariables false
namespace Mine
section
variable {w : World} {A : Around} {E : Value → Shared → Prop} {s : Shared} {R : Result → Shared → Prop}

theorem srcStr {target : Expr} {x : Str} {t : Tok} (hh : A.handled = none) (hgo : ∀ it v, letOwnedTupleGo target it v = pure ()) : Src w A target s (.str x t) x.cps.size (SignAt x) := by
  intro Q E hQ
  refine wpAny_pyIter_str fun o St W st => ?_
  exact hQ _ _ _ _ _ _ (W A hh) st (by simp [Heap.push]) (by simp) (by simp [Heap.push]) (Kp.push _ _) fun i v s' Q' E' _ q => wpAny_of_eq (hgo _ _) q

theorem go_li {target : Expr} {r : Nat} {od : Option Addr} {vs : Array Value} {sl : Array (Option Value)} {v : Value} {Q : Unit → Shared → Prop} (e : s.heap.get? r = some ⟨.type "list_iterator", od, .fields vs, sl⟩) (q : Q () s) :
    wpAny (model PR w) A (letOwnedTupleGo target (.ref r) v) Q E s := by
  cases target with
  | Tuple => cases v with
    | ref a => exact wpAny_bind (wpAny_load e (wpAny_pure q))
    | _ => exact wpAny_pure q
  | List => cases v with
    | ref a => exact wpAny_bind (wpAny_load e (wpAny_pure q))
    | _ => exact wpAny_pure q
  | _ => exact wpAny_pure q
theorem srcList {target : Expr} {l : Nat} {vs : List Value} (hh : A.handled = none) (hl : LAt s.heap l vs) : Src w A target s (.ref l) vs.length (fun i v => vs[i]? = some v) := by
  intro Q E hQ
  refine wpAny_pyIter_list hl.is ?_
  have W := Walks.list (prog := PR) (w := w) hh s.heap.objs.size l (by obtain ⟨n, e⟩ := hl; have := ltS e; exact Nat.ne_of_lt this) vs.toArray
  simp only [List.size_toArray, List.getElem?_toArray] at W
  refine hQ _ _ _ _ _ _ W ⟨⟨_, Heap.get?_push_size _ rfl, rfl, rfl⟩, hl.is.push _⟩ ?_ (by simp) (by simp [Heap.push]) (Kp.push _ _) fun i v s' Q' E' st q => ?_
  · obtain ⟨n, e⟩ := hl; have := ltS e; simp [Heap.push]; exact Nat.lt_succ_of_lt this
  · obtain ⟨o, e, c, d⟩ := st.1
    obtain ⟨oc, od, odd, os⟩ := o
    cases c; cases d
    exact go_li e q

theorem srcRange {target : Expr} {r : Nat} {b : Nat} {t u v : Tok} (hh : A.handled = none) (hgo : ∀ it v, letOwnedTupleGo target it v = pure ()) (hr : IsRange s.heap r 0 b 1 t u v) (hb : b < 2 ^ 62) : Src w A target s (.ref r) b (fun i v => ∃ t, v = .int (i : Int) t) := by
  intro Q E hQ
  refine wpAny_pyIter_range hr (small_one (by decide) (by decide) (by exact ar49 hb) (by exact ar50 hb)) ?_
  have W := Walks.range (prog := PR) (w := w) hh s.heap.objs.size 0 1 b
  simp only [Int.mul_one, Int.zero_add] at W
  refine hQ _ _ _ _ _ _ W ?_ (by simp [Heap.push]) (by simp) (by simp [Heap.push]) (Kp.push _ _) fun i v s' Q' E' _ q => wpAny_of_eq (hgo _ _) q
  have e : Builtin.Range.rangeSize 0 (b : Int) 1 = (b : Int) - ((0 : Nat) : Int) := by rw [rangeSize_one]; split <;> omega
  rw [e]
  exact Heap.get?_push_size _ rfl

/- a list comprehension over one name -/
theorem lcN {elt iter : Expr} {x : Str} {px : Pos} {ifs : List Expr} {scope : Scope} {pos : Pos} {env : Env} {cl : List (Str × Addr)} {Q : Value → Shared → Prop} (Inv : Nat → List Value → Prop)
    (hclos : closureFor scope env = pure cl) (hcell : ∀ y ∈ scope.names, y.2 ≠ .cell) (hkind : scope.kind = .function) (hnames : ∀ y ∈ scope.names, y.2 = .local → scope.names.lookup y.1 = some .local) (hx : scope.names.lookup x = some .local)
    (h : wpAny (model PR w) A (PySem.eval iter env) (fun xv s₁ => ∃ (n : Nat) (P : Nat → Value → Prop), Src w A (.Name x px) s₁ xv n P ∧ Inv 0 [] ∧ n < 2 ^ 20 ∧ (∀ i ys, Inv i ys → ys.length ≤ i) ∧
      (∀ i v ys C h tk m E', i < n → P i v → h.Ns C m → m x = some v → Kp s₁.heap h → s₁.heap.objs.size ≤ C → Inv i ys →
        wpAny (model PR w) A (testsOf ifs (compEnvC scope cl C env)) (fun ok s₃ => ∃ h3 tk3, s₃ = { s₁ with heap := h3, toks := tk3 } ∧ Kp h h3 ∧
          if ok = true then wpAny (model PR w) A (PySem.eval elt (compEnvC scope cl C env)) (fun y s₄ => ∃ h4 tk4, s₄ = { s₁ with heap := h4, toks := tk4 } ∧ Kp h h4 ∧ Inv (i + 1) (ys ++ [y])) E' s₃ else Inv (i + 1) ys) E' { s₁ with heap := h, toks := tk }) ∧
      (∀ D h' tk' ys, s₁.heap.objs.size ≤ D → LAt h' D ys → Inv n ys → Kp s₁.heap h' → Q (.ref D) { s₁ with heap := h', toks := tk' })) E s)
    (hs : ∀ x, foldedSetIterable iter env x = pure x := by intro _; rfl) :
    wpAny (model PR w) A (PySem.eval (.ListComp elt [⟨.Name x px, iter, ifs, 0⟩] scope pos) env) Q E s := by
  refine lcB Inv hclos hcell hkind hnames (wpAny_mono h (fun xv s₁ h₁ => ?_) fun _ _ e => e) hs
  obtain ⟨n, P, src, h0, hz, hlen, hel, hQ⟩ := h₁
  refine ⟨n, P, fun _ v m => m x = some v, src, h0, hz, hlen, fun i v C h tk m Q' E' hP hn K hC hq => ?_, hel, hQ⟩
  refine wpAny_assign_Name (wpAny_storeName_local (lookup_relabel_local hx) hn (fun h' hn' sb => ?_) (by simp [compEnvC, relabel, hkind]))
  exact hq _ _ _ hn' (if_pos rfl) (kp_same sb)

/- a list comprehension over a pair of names -/
theorem lcP {elt iter : Expr} {x y : Str} {px py pp : Pos} {kk : Nat} {ifs : List Expr} {scope : Scope} {pos : Pos} {env : Env} {cl : List (Str × Addr)} {Q : Value → Shared → Prop} (Inv : Nat → List Value → Prop) (hh : A.handled = none)
    (hclos : closureFor scope env = pure cl) (hcell : ∀ y ∈ scope.names, y.2 ≠ .cell) (hkind : scope.kind = .function) (hnames : ∀ y ∈ scope.names, y.2 = .local → scope.names.lookup y.1 = some .local) (hx : scope.names.lookup x = some .local) (hy : scope.names.lookup y = some .local) (hxy : x ≠ y)
    (h : wpAny (model PR w) A (PySem.eval iter env) (fun xv s₁ => ∃ (n : Nat) (P : Nat → Value → Value → Prop), Src w A (.Tuple [.Name x px, .Name y py] kk pp) s₁ xv n (fun i v => ∃ T a b, v = .ref T ∧ s₁.heap.IsTuple T #[a, b] ∧ P i a b) ∧ Inv 0 [] ∧ n < 2 ^ 20 ∧ (∀ i ys, Inv i ys → ys.length ≤ i) ∧
      (∀ i a b ys C h tk m E', i < n → P i a b → h.Ns C m → m x = some a → m y = some b → Kp s₁.heap h → s₁.heap.objs.size ≤ C → Inv i ys →
        wpAny (model PR w) A (testsOf ifs (compEnvC scope cl C env)) (fun ok s₃ => ∃ h3 tk3, s₃ = { s₁ with heap := h3, toks := tk3 } ∧ Kp h h3 ∧
          if ok = true then wpAny (model PR w) A (PySem.eval elt (compEnvC scope cl C env)) (fun y s₄ => ∃ h4 tk4, s₄ = { s₁ with heap := h4, toks := tk4 } ∧ Kp h h4 ∧ Inv (i + 1) (ys ++ [y])) E' s₃ else Inv (i + 1) ys) E' { s₁ with heap := h, toks := tk }) ∧
      (∀ D h' tk' ys, s₁.heap.objs.size ≤ D → LAt h' D ys → Inv n ys → Kp s₁.heap h' → Q (.ref D) { s₁ with heap := h', toks := tk' })) E s)
    (hs : ∀ x, foldedSetIterable iter env x = pure x := by intro _; rfl) :
    wpAny (model PR w) A (PySem.eval (.ListComp elt [⟨.Tuple [.Name x px, .Name y py] kk pp, iter, ifs, 0⟩] scope pos) env) Q E s := by
  refine lcB Inv hclos hcell hkind hnames (wpAny_mono h (fun xv s₁ h₁ => ?_) fun _ _ e => e) hs
  obtain ⟨n, P, src, h0, hz, hlen, hel, hQ⟩ := h₁
  refine ⟨n, _, fun i _ m => ∃ a b, m x = some a ∧ m y = some b ∧ P i a b, src, h0, hz, hlen, fun i v C h tk m Q' E' hP hn K hC hq => ?_, fun i v ys C h tk m E' hi hP hn hB K hC hI => ?_, hQ⟩
  · obtain ⟨T, a, b, rfl, ⟨oT, eT, rT⟩, hP⟩ := hP
    refine kcp_assign (s := { s₁ with heap := h, toks := tk }) hh ⟨oT, K _ _ eT, rT⟩ (lookup_relabel_local hx) (lookup_relabel_local hy) (by simp [compEnvC, relabel, hkind]) hn fun h' tk' hn' k' => ?_
    exact hq _ _ _ hn' ⟨a, b, by simp [hxy], by simp, hP⟩ fun b o nb e => k' b o (by show b ≠ C; simpa using nb) e
  · obtain ⟨a, b, ha, hb, hP⟩ := hB
    exact hel i a b ys C h tk m E' hi hP hn ha hb K hC hI
end
end Mine

end
section -- M15
open PySem PySem.W PyProof.Rows PySem.Calls PySem.Builtin PySem.Builtin.ObjectAttr
set_option maxRecDepth 100000
set_option linter.unusedVariables false
namespace Mine
section
variable {prog : Program} {w : World} {A : Around} {E : Value → Shared → Prop} {R : Result → Shared → Prop} {s : Shared}
  {name qual : Str} {params : Arguments} {body : List Stmt} {scope : Scope} {doc pm cdv ct oc : Value} {an od : Option Addr} {sl : Array (Option Value)} {f : Nat} {binds : List (Str × Value)} {vals : List Value}

/- a def with cells of its own is called -/
theorem callC {n : Nat} (k : OkA A (n + 1)) (ho : s.heap.get? f = some ⟨oc, od, .func (fnX name qual params body scope [] .none .none doc pm an cdv ct), sl⟩) (hlim : s.heap.NoLimit) (hcd : s.heap.CodeRec cdv qual)
    (hbind : bindArgs (fnX name qual params body scope [] .none .none doc pm an cdv ct) ⟨vals, []⟩ = pure binds)
    (hkind : ∀ L, (binds.all fun x => decide (scope.names.lookup x.1 = some .local) || (decide (scope.names.lookup x.1 = some .cell) && ((cellsFrom (L + 1) scope.names []).lookup x.1).isSome)) = true)
    (h : ∀ (L : Nat) h₁ tk, L = s.heap.objs.size → h₁.Ns L (bindL (envX qual scope L f cdv (cellsFrom (L + 1) scope.names [])).kindOf binds fun _ => none) →
      (∀ n c, (cellsFrom (L + 1) scope.names []).lookup n = some c → h₁.IsCell c (bindC (envX qual scope L f cdv (cellsFrom (L + 1) scope.names [])).kindOf binds (fun _ => none) n)) → Kp s.heap h₁ → OkA (A.deeper (envX qual scope L f cdv (cellsFrom (L + 1) scope.names []))) n →
      wpAny (model prog w) (A.deeper (envX qual scope L f cdv (cellsFrom (L + 1) scope.names []))) (execs body (envX qual scope L f cdv (cellsFrom (L + 1) scope.names []))) (fun fl s' => R (.ok (.ret (match fl with | .ret v => v | _ => .none))) s') (fun _ _ => False) { s with heap := h₁, toks := tk })
    (hco : scope.isCoroutine = false := by rfl) (hgen : scope.isGenerator = false := by rfl) (hk : scope.kind = .function := by rfl) :
    codeAny (model prog w) A (.call (.ref f) ⟨vals, []⟩) R s := by
  refine codeAny_call_cells k.room ho rfl hlim hcd rfl hbind rfl (fun x hx => ?_) (fun s₁ X => ?_) hco hgen hk
  · have := List.all_eq_true.mp (hkind s.heap.objs.size) x hx
    simp only [Bool.or_eq_true, decide_eq_true_eq, Bool.and_eq_true] at this
    exact this
  · obtain ⟨h₁, tk, rfl⟩ := X.toInCall.same
    exact wpAny_mono (h s.heap.objs.size h₁ tk rfl X.toInCall.ns X.cell X.toInCall.keep (k.deeper _)) (fun _ _ x => x) fun _ _ x => x.elim
end

section
variable {w : World} {mean : ExcName → Option Value} {mg mb : Str → Option Value} {A : Around} {E : Value → Shared → Prop} {s : Shared} {h₀ : Heap} {c P : Nat} {ps : Array Value} {env : Env}
  {name qual : Str} {params : Arguments} {body : List Stmt} {lb : Expr} {scope : Scope} {pos : Pos} {firstLine : Nat} {clos : List (Str × Addr)} {Q : Value → Shared → Prop}

theorem bAt (G : Gd w mean mg mb h₀) (K0 : Kp h₀ s.heap) (hP0 : h₀.get? P = none) : s.heap.BuiltinsAt mg P ∧ mainGlobals ≠ P := by
  obtain ⟨bm, ob, b1, b2, b3, b4, b5, b6⟩ := G.T.bmain
  have hbG : bm ≠ mainGlobals := fun q => by
    obtain ⟨o, es, ep, e, hd, _⟩ := G.T.g
    rw [q, e] at b3; cases b3; rw [hd] at b6; cases b6
  refine ⟨⟨bm, ob, b1, b2, hbG, fun q => ?_, K0 _ _ b3, b4, b5, b6⟩, fun q => ?_⟩
  · rw [q, hP0] at b3; cases b3
  · obtain ⟨o, es, ep, e, hd, _⟩ := G.T.g
    rw [q, hP0] at e; cases e

/- a def inside a def, made the first time -/
theorem mkDef (G : Gd w mean mg mb h₀) (K0 : Kp h₀ s.heap) (hP0 : h₀.get? P = none) (C : CodeHd s.heap c P) (hP : s.heap.get? P = some (tabObj ps)) (ht : TriplesOk ps.toList) (hnf : codeAmong pos ps.toList = none)
    (hcl : closureFor scope env = pure clos)
    (h : ∀ (f c' : Nat) oc vs t ctv doc h' tk, KpB [P] s.heap h' → h'.get? f = some (fnMade name qual params body scope clos doc ((mg "__name__").getD .none) c' ctv) → h'.get? c' = some oc → oc.data = .fields vs → vs[1]? = some (.str qual t) →
      h'.get? P = some (tabObj (ps ++ #[rawInt pos.line, rawInt pos.col, .ref c'])) → s.heap.objs.size ≤ c' → c' < f → Q (.ref f) { s with heap := h', toks := tk })
    (hg : env.globals = mainGlobals := by rfl) (hcd : env.code = .ref c := by rfl) :
    wpAny (model PR w) A (makeFunction name qual params (.stmts body) scope env [] [] [] pos firstLine) Q E s := by
  obtain ⟨hb, hgP⟩ := bAt G K0 hP0
  refine makeFunction_K (mg := mg) hcl hg (G.keeps K0).T.g hcd C hP ht hnf hgP hb fun c' ctv doc h' tk hx hge hlt hrec htb => ?_
  obtain ⟨c₂, oc, vs, t, e2, hoc, hd, hv⟩ := hrec
  cases e2
  exact h h'.objs.size c' oc vs t ctv doc _ tk (fun b o nb e => Heap.get?_push_of_some _ (hx b o (by simpa using nb) e)) (Heap.get?_push_size _ rfl) (Heap.get?_push_of_some _ hoc) hd hv (Heap.get?_push_of_some _ htb) hge hlt
/- a lambda, made the first time -/
theorem mkLam (G : Gd w mean mg mb h₀) (K0 : Kp h₀ s.heap) (hP0 : h₀.get? P = none) (C : CodeHd s.heap c P) (hP : s.heap.get? P = some (tabObj ps)) (ht : TriplesOk ps.toList) (hnf : codeAmong pos ps.toList = none)
    (hcl : closureFor scope env = pure clos)
    (h : ∀ (f c' : Nat) oc vs t ctv h' tk, KpB [P] s.heap h' → h'.get? f = some (kla_obj "<lambda>" (env.qual ++ "<lambda>") params lb scope clos ((mg "__name__").getD .none) c' ctv) → h'.get? c' = some oc → oc.data = .fields vs → vs[1]? = some (.str (env.qual ++ "<lambda>") t) →
      h'.get? P = some (tabObj (ps ++ #[rawInt pos.line, rawInt pos.col, .ref c'])) → s.heap.objs.size ≤ c' → c' < f → Q (.ref f) { s with heap := h', toks := tk })
    (hdef : defaultsOf params env = ([], []) := by rfl) (hg : env.globals = mainGlobals := by rfl) (hcd : env.code = .ref c := by rfl) :
    wpAny (model PR w) A (PySem.eval (.Lambda params lb scope pos) env) Q E s := by
  obtain ⟨hb, hgP⟩ := bAt G K0 hP0
  refine kla_eval hdef ?_
  refine kla_makeFunction (mg := mg) hcl hg (G.keeps K0).T.g hcd C hP ht hnf hgP hb fun c' ctv h' tk hx hge hlt hrec htb => ?_
  obtain ⟨c₂, oc, vs, t, e2, hoc, hd, hv⟩ := hrec
  cases e2
  exact h h'.objs.size c' oc vs t ctv _ tk (fun b o nb e => Heap.get?_push_of_some _ (hx b o (by simpa using nb) e)) (Heap.get?_push_size _ rfl) (Heap.get?_push_of_some _ hoc) hd hv (Heap.get?_push_of_some _ htb) hge hlt
/- a lambda, made again -/
theorem mkLamHit {c' : Nat} (G : Gd w mean mg mb h₀) (K0 : Kp h₀ s.heap) (hP0 : h₀.get? P = none) (C : CodeHd s.heap c P) (hP : s.heap.get? P = some (tabObj ps)) (ht : TriplesOk ps.toList) (hf : codeAmong pos ps.toList = some (.ref c'))
    (hcl : closureFor scope env = pure clos)
    (h : ∀ (f : Nat) ctv h' tk, Kp s.heap h' → h'.get? f = some (kla_obj "<lambda>" (env.qual ++ "<lambda>") params lb scope clos ((mg "__name__").getD .none) c' ctv) → s.heap.objs.size ≤ f → Q (.ref f) { s with heap := h', toks := tk })
    (hdef : defaultsOf params env = ([], []) := by rfl) (hg : env.globals = mainGlobals := by rfl) (hcd : env.code = .ref c := by rfl) :
    wpAny (model PR w) A (PySem.eval (.Lambda params lb scope pos) env) Q E s := by
  obtain ⟨hb, hgP⟩ := bAt G K0 hP0
  refine kla_eval hdef ?_
  refine kla_makeFunctionHit (mg := mg) hcl hg (G.keeps K0).T.g hcd C hP ht hf hb fun ctv h' tk hk hsz => ?_
  exact h h'.objs.size ctv _ tk (fun b o e => Heap.get?_push_of_some _ (hk b o e)) (Heap.get?_push_size _ rfl) hsz
end
end Mine

end
section -- M16
open PySem PySem.W PyProof.Rows PySem.Calls PySem.Builtin PySem.Builtin.ObjectAttr
set_option maxRecDepth 100000
set_option linter.unusedVariables false
namespace Mine
theorem k_c119 (P : Params) : codeIn (hd.heap_39 P) (.ref 119) (Str.ofString "_law_stream") = true := by kernel_rfl

theorem codeHd_kpB {h h' : Heap} {c P : Nat} {W : List Nat} (x : CodeHd h c P) (k : KpB W h h') (hn : c ∉ W) : CodeHd h' c P :=
  Exists.imp (fun _ => Exists.imp fun _ => Exists.imp fun _ => Exists.imp fun _ => Exists.imp fun _ => Exists.imp fun _ => Exists.imp fun _ => Exists.imp fun _ => Exists.imp fun _ => And.imp_left (k _ _ hn)) x
/- the first i signs -/
theorem ChV.snoc {vs : List Value} {cs : List Nat} {c : Nat} {t : Tok} (h : ChV vs cs) : ChV (vs ++ [.str (one c) t]) (cs ++ [c]) := All2.snoc ⟨_, rfl⟩ h

section
variable {w : World} {mean : ExcName → Option Value} {mg mb : Str → Option Value} {A : Around} {E : Value → Shared → Prop} {s : Shared} {R : Result → Shared → Prop} {h₀ : Heap}

theorem law_stream {n : Nat} (k : OkA A (n + 1)) (G : Gd w mean mg mb h₀) (K0 : Kp h₀ s.heap) (hT0 : h₀.get? 117 = none) (C : CodeHd s.heap 119 117) (hP : s.heap.get? 117 = some (tabObj #[])) {cs : List Nat} {tx : Tok} (hz : cs.length < 2 ^ 18)
    (h : ∀ (st ds rd lf : Nat) ms fd sl h' tk, h'.get? st = some ⟨.type "function", some ds, .func fd, sl⟩ → h'.Ns1 ds ms → ms (Str.ofString "read") = some (.ref rd) → ReadAt h'.objs.size h' rd lf → LCh h' lf cs → h₀.get? lf = none → s.heap.objs.size ≤ lf → KpB [117] s.heap h' → s.heap.objs.size ≤ h'.objs.size → (∃ ps, h'.get? 117 = some (tabObj ps)) →
      R (.ok (.ret (.ref st))) { s with heap := h', toks := tk }) :
    codeAny (model PR w) A (.call (.ref 120) ⟨[.str (wd cs) tx], []⟩) R s := by
  have GS := G.keeps K0
  refine callC (n := n) (binds := [(Str.ofString "text", .str (wd cs) tx)]) k (GS.X _ _ (by rfl)) GS.lim (codeRec_of GS.X (k_c119 _)) rfl (fun L => by rfl) ?_
  intro L h₁ tk hL hns hcell kp ok
  obtain ⟨oc1, ec1, dc1⟩ := hcell (Str.ofString "left") (L + 1) rfl
  have hsz1 : L + 1 < h₁.objs.size := ltS ec1
  refine wpAny_execs_cons (wpAny_Assign_Name ?_)
  refine lcN (fun i vs => ChV vs (cs.take i)) rfl (by decide) rfl (by decide) rfl ?_
  refine wpAny_Name (wpAny_loadName_local rfl rfl hns rfl ?_) (by decide)
  refine ⟨_, _, srcStr ok.hn (fun _ _ => rfl), trivial, by simp; omega, fun i ys hv => by rw [hv.len, List.length_take]; exact ar51, ?_, ?_⟩
  · intro i v ys C h2 tk2 m2 E' hi hP2 hn2 hm2 k2 hC hI
    refine wpAny_tests_nil ⟨h2, tk2, rfl, Kp.refl _, ?_⟩
    rw [if_pos rfl]
    refine wpAny_Name (wpAny_loadName_local rfl rfl hn2 hm2 ?_) (by decide)
    refine ⟨h2, _, rfl, Kp.refl _, ?_⟩
    obtain ⟨c, u, hc, rfl⟩ := hP2
    have e : cs.take (i + 1) = cs.take i ++ [c] := by
      have : cs[i]? = some c := by simpa using hc
      rw [List.take_add_one, this]; rfl
    rw [e]
    exact hI.snoc
  · intro D h2 tk2 ys hD hl2 hv2 k2
    dsimp only at k2 hD ⊢
    have hv2' : ChV ys cs := by have := hv2; simpa using this
    refine wpAny_storeName_cell rfl rfl (show _ = some (L + 1) from rfl) ⟨_, k2 _ _ ec1, dc1⟩ (fun h3 hc3 sb3 => ?_)
    dsimp only
    have k3 := kp_same sb3
    have K3 : Kp s.heap h3 := fun b o e => k3 _ _ (by have := ltS e; exact ar52 hL this) (k2 _ _ (kp _ _ e))
    have hn3 := ns_kpB (hns.keeps k2) k3 (by simp)
    have hl3 : LAt h3 D ys := hl2.kpB k3 (by obtain ⟨oc, e, _⟩ := hl2.is; have := ltS ec1; simp; intro q; omega)
    have hL117 : 117 < L := by have := ltS hP; exact ar53 hL this
    refine wpAny_execs_cons (nestDef_K rfl rfl rfl ?_)
    refine mkDef (s := { s with heap := h3, toks := _ }) G (K0.trans K3) hT0 (C.keeps K3) (K3 _ _ hP) trivial rfl rfl ?_
    intro f c' oc vs t ctv doc h4 tk4 k4 ef ec dcv hv1 eT hsz hcf
    dsimp only at k4 hsz ⊢
    have hLh3 : L < h3.objs.size := by obtain ⟨o, _, _, e, _⟩ := hn3; exact ltS e
    have hDh3 : D < h3.objs.size := by obtain ⟨_, e⟩ := hl3; exact ltS e
    obtain ⟨oc3, ec3, dc3⟩ := hc3
    have hCh3 : L + 1 < h3.objs.size := ltS ec3
    have hn4 := ns_kpB hn3 k4 (by exact ar54 hL hL117)
    refine wpAny_storeName_local rfl hn4 (fun h5 hn5 sb5 => ?_)
    dsimp only
    have k5 := kp_same sb5
    have K5 : KpB [117] s.heap h5 := fun b o nb e => k5 _ _ (by have := ltS e; exact as1 hL this) (k4 _ _ nb (K3 _ _ e))
    have K05 : Kp h₀ h5 := KpB.old K0 K5 (by simpa using hT0)
    refine wpAny_execs_cons (wpAny_Assign_Name ?_)
    refine mkLam (s := { s with heap := h5, toks := _ }) G K05 hT0 (codeHd_kpB C K5 (by simp)) (k5 _ _ (by exact nlt hL117) eT) trivial rfl rfl ?_
    intro f2 c2 oc2 vs2 t2 ctv2 h6 tk6 k6 ef2 ec2 dcv2 hv2 eT2 hsz2 hcf2
    dsimp only at k6 hsz2 ⊢
    have hLh5 : L < h5.objs.size := by obtain ⟨o, _, _, e, _⟩ := hn5; exact ltS e
    have hn6 := ns_kpB hn5 k6 (by exact ngt hL117)
    refine wpAny_storeName_local rfl hn6 (fun h7 hn7 sb7 => ?_)
    dsimp only
    have k7 := kp_same sb7
    have hf5 : f < h5.objs.size := by have := ltS (k5 _ _ (by exact ngt (as4 hsz1 hD hsz hcf hDh3)) ef); exact this
    refine wpAny_execs_cons (plainObj_wpAny_Assign_Attribute ?_)
    refine wpAny_Name (wpAny_loadName_local rfl rfl hn7 rfl ?_) (by decide)
    refine wpAny_Name (wpAny_loadName_local rfl rfl hn7 rfl ?_) (by decide)
    refine fn_set0 (k7 _ _ (by exact ngt (as5 hsz1 hD hsz hcf hDh3 hsz2 hcf2 hf5)) ef2) (by kernel_rfl) fun d h8 tk8 ef8 n8 hd8 k8 => ?_
    dsimp only at hd8 k8 ⊢
    have K8 : KpB [117] s.heap h8 := fun b o nb e => k8 _ _ (by have := ltS e; exact ar55 hL hsz1 hD hsz hcf hDh3 hsz2 hcf2 hf5 this) (k7 _ _ (by have := ltS e; exact as1 hL this) (k6 _ _ nb (K5 _ _ nb e)))
    have up : ∀ (b : Nat) o, b ≠ 117 → b < h5.objs.size → b ≠ L → h5.get? b = some o → h8.get? b = some o := fun b o n1 n2 n3 e => k8 _ _ (by exact ar56 hsz2 hcf2 n2) (k7 _ _ (by simpa using n3) (k6 _ _ (by simpa using n1) e))
    have up3 : ∀ (b : Nat) o, b ≠ 117 → b ≠ L → h3.get? b = some o → h8.get? b = some o := fun b o n1 n3 e => by
      have e5 := k5 b o (by simpa using n3) (k4 b o (by simpa using n1) e)
      exact up b o n1 (ltS e5) n3 e5
    refine wpAny_execs_cons (wpAny_Return_some ?_)
    refine wpAny_Name (wpAny_loadName_local rfl rfl (ns_kpB hn7 k8 (by exact nlt (as5 hsz1 hD hsz hcf hDh3 hsz2 hcf2 hf5))) rfl ?_) (by decide)
    dsimp only
    have eL := up3 (L + 1) _ (by exact ar57 hL hL117) (by exact ar58) ec3
    obtain ⟨nD, eD⟩ := hl3
    have hDL : D ≠ L := by exact ar59 hL hsz1 hD
    have eD8 := up3 D _ (by exact ar60 hL hsz1 hD hL117) hDL eD
    have ef8' := up f _ (by exact ar61 hL hsz1 hD hL117 hsz hcf hDh3) hf5 (by exact ar62 hL hsz1 hD hsz hcf hDh3) (k5 _ _ (by exact ngt (as4 hsz1 hD hsz hcf hDh3)) ef)
    have ec8 := up c' _ (by exact ar63 hL hL117 hsz hCh3) (by exact ar64 hcf hf5) (by exact ar65 hL hsz hCh3) (k5 _ _ (by exact ngt (as7 hCh3 hsz)) ec)
    refine h f2 d f D _ _ _ h8 _ ef8 n8 (if_pos rfl) ?_ ⟨ys, ⟨nD, eD8⟩, hv2'⟩ ?_ (by exact ar66 hL hsz1 hD) K8 ?_ ⟨_, k8 _ _ (by exact ar67 hL hsz1 hD hL117 hsz hcf hDh3 hsz2 hcf2 hf5) (k7 _ _ (by exact nlt hL117) eT2)⟩
    · exact ⟨L + 1, doc, _, c', ctv, oc3, oc, vs, t, ef8', ⟨ec8, dcv, hv1⟩, ⟨eL, dc3⟩, ltS ef8', ltS ec8, ltS eL⟩
    · exact fresh_none K0 (by have := ltS ec1; exact ar66 hL hsz1 hD)
    · have := ltS ef8; exact ar68 hL hsz1 hD hsz hcf hDh3 hsz2 hcf2 hf5 this
end
end Mine

end
section -- M17
open PySem PySem.W PyProof.Rows PySem.Calls PySem.Builtin PySem.Builtin.ObjectAttr
set_option maxRecDepth 100000
set_option linter.unusedVariables false
namespace Mine
theorem k_c126 (P : Params) : codeIn (hd.heap_39 P) (.ref 126) (Str.ofString "_law_rule") = true := by kernel_rfl
noncomputable abbrev aV := dTest
noncomputable def lp (e : Expr) : Pos × Arguments × Expr × Scope := by
  cases e with
  | Lambda a b s p => exact (p, a, b, s)
  | _ => exact (⟨0, 0, 0, 0⟩, a0, e0, c0)
noncomputable def lPos (e : Expr) : Pos := (lp e).1
noncomputable def lArgs (e : Expr) : Arguments := (lp e).2.1
noncomputable def lBody (e : Expr) : Expr := (lp e).2.2.1
noncomputable def lScope (e : Expr) : Scope := (lp e).2.2.2
noncomputable def lam1 : Expr := aV ((bodyAt 9)[0]!)
noncomputable def lam2 : Expr := aV ((bodyAt 9)[1]!)
noncomputable abbrev apQ : Str := Str.ofString "_law_rule.<locals>.<lambda>"
/- a code object's record -/
noncomputable def CRec (h : Heap) (c : Nat) (q : Str) : Prop := ∃ oc vs t, h.get? c = some oc ∧ oc.data = .fields vs ∧ vs[1]? = some (.str q t)
theorem CRec.rec {h : Heap} {c : Nat} {q : Str} (x : CRec h c q) : h.CodeRec (.ref c) q := ⟨c, x.imp fun _ => Exists.imp fun _ => Exists.imp fun _ y => ⟨rfl, y⟩⟩
theorem CRec.kpB {h h' : Heap} {c : Nat} {q : Str} {W : List Nat} (x : CRec h c q) (k : KpB W h h') (hn : c ∉ W) : CRec h' c q := x.imp fun _ => Exists.imp fun _ => Exists.imp fun _ => And.imp_left (k _ _ hn)

theorem trip {P : List Value → Prop} (h0 : P []) (h3 : ∀ a t b u x r, P r → P (.int a t :: .int b u :: x :: r)) : ∀ (n : Nat) (l : List Value), l.length ≤ n → TriplesOk l → P l := by
  intro n
  induction n with
  | zero => intro l hl h; cases l with
    | nil => exact h0
    | cons => exact absurd hl (Nat.not_succ_le_zero _)
  | succ n ih =>
    intro l hl h
    cases l with
    | nil => exact h0
    | cons a l => cases a with
      | int a t => cases l with
        | nil => exact h.elim
        | cons b l => cases b with
          | int b u => cases l with
            | nil => exact h.elim
            | cons x r => exact h3 a t b u x r (ih r (Nat.le_trans (Nat.le_add_right _ 2) (Nat.le_of_succ_le_succ hl)) h)
          | _ => exact h.elim
      | _ => exact h.elim
theorem among_other {pos pos' : Pos} {c : Value} (hp : pos'.line ≠ pos.line ∨ pos'.col ≠ pos.col) (l : List Value) (h : TriplesOk l) : codeAmong pos' (l ++ [rawInt pos.line, rawInt pos.col, c]) = codeAmong pos' l ∧ TriplesOk (l ++ [rawInt pos.line, rawInt pos.col, c]) := by
  have q : ((pos.line : Int) == pos'.line && (pos.col : Int) == pos'.col) = false := by
    rw [Bool.and_eq_false_iff, beq_eq_false_iff_ne, beq_eq_false_iff_ne]
    exact hp.imp ar69 ar69
  refine trip (P := fun l => codeAmong pos' (l ++ [rawInt pos.line, rawInt pos.col, c]) = codeAmong pos' l ∧ TriplesOk (l ++ [rawInt pos.line, rawInt pos.col, c])) ⟨?_, trivial⟩ (fun a t b u x r ih => ⟨?_, ih.2⟩) l.length l (Nat.le_refl _) h
  · show (if ((pos.line : Int) == pos'.line && (pos.col : Int) == pos'.col) = true then some c else none) = none
    rw [q]; rfl
  · exact congrArg (fun z => if (a == (pos'.line : Int) && b == (pos'.col : Int)) = true then some x else z) ih.1
theorem among_same {pos pos' : Pos} (e1 : pos'.line = pos.line) (e2 : pos'.col = pos.col) (l : List Value) : codeAmong pos' l = codeAmong pos l := by cases pos; cases pos'; cases e1; cases e2; kernel_rfl
/- _law_rule's table -/
structure TabAt (B : Nat) (h : Heap) : Prop where
  hd : CodeHd h 126 122
  tab : ∃ ps, h.get? 122 = some (tabObj ps) ∧ TriplesOk ps.toList ∧ ∀ pos, pos = lPos lam1 ∨ pos = lPos lam2 → codeAmong pos ps.toList = none ∨ ∃ c : Nat, codeAmong pos ps.toList = some (.ref c) ∧ B ≤ c ∧ CRec h c apQ
theorem TabAt.kpB {B : Nat} {h h' : Heap} {W : List Nat} (x : TabAt B h) (k : KpB W h h') (h1 : 122 ∉ W) (h2 : 126 ∉ W) (hW : ∀ y ∈ W, y < B ∨ ∃ o, h.get? y = some o ∧ dk o ≠ 5) : TabAt B h' := by
  obtain ⟨c, ps, e, t, r⟩ := x
  refine ⟨codeHd_kpB c k h2, ps, k _ _ h1 e, t, fun pos hp => (r pos hp).imp id (Exists.imp fun cb => And.imp_right fun y => ⟨y.1, CRec.kpB y.2 k fun q => ?_⟩)⟩
  rcases hW _ q with hq | ⟨o, ho, hd⟩
  · exact absurd y.1 (Nat.not_le.mpr hq)
  · obtain ⟨oc, vs, t, e, d, _⟩ := y.2
    rw [ho] at e; cases e
    exact hd (by rw [dk_of d]; rfl)
theorem ns_dk {h : Heap} {a : Nat} {m : Str → Option Value} (n : h.Ns a m) : ∃ o, h.get? a = some o ∧ Mine.dk o ≠ 5 := Exists.imp (fun _ y => y.elim fun _ y => y.elim fun _ z => ⟨z.1, by rw [dk_of z.2.1]; show (2 : Nat) ≠ 5; decide⟩) n
/- a rule's applies_to -/
structure ApAt (B : Nat) (h : Heap) (ap : Nat) (word : List Nat) : Prop where
  at_ : ∃ (cl crd : Nat) (ctv pm : Value) (ocl : Obj) (t : Tok), h.get? ap = some (kla_obj (Str.ofString "<lambda>") apQ (lArgs lam2) (lBody lam2) (lScope lam2) [(Str.ofString "path", cl)] pm crd ctv) ∧ CRec h crd apQ ∧ (h.get? cl = some ocl ∧ ocl.data = .cell (some (.str (wd word) t))) ∧ B ≤ ap ∧ B ≤ crd ∧ B ≤ cl
theorem ApAt.kpB {B : Nat} {h h' : Heap} {W : List Nat} {ap : Nat} {word : List Nat} (x : ApAt B h ap word) (k : KpB W h h') (hW : ∀ y ∈ W, y < B) : ApAt B h' ap word := by
  obtain ⟨cl, crd, ctv, pm, ocl, t, e1, e2, ⟨e3, d3⟩, b1, b2, b3⟩ := x.at_
  have hn : ∀ a, B ≤ a → a ∉ W := fun a ha q => by have := hW _ q; omega
  exact ⟨cl, crd, ctv, pm, ocl, t, k _ _ (hn _ b1) e1, e2.kpB k (hn _ b2), ⟨k _ _ (hn _ b3) e3, d3⟩, b1, b2, b3⟩
/- a rule -/
structure RuleAt (B : Nat) (h : Heap) (r : Nat) (word : List Nat) (b : Bool) : Prop where
  at_ : ∃ (dr ap : Nat) (mr : Str → Option Value) (fd : FuncData) (sl : Array (Option Value)), h.get? r = some ⟨.type "function", some dr, .func fd, sl⟩ ∧ h.Ns1 dr mr ∧ mr (Str.ofString "applies_to") = some (.ref ap) ∧ mr (Str.ofString "allowance") = some (.bool b) ∧ ApAt B h ap word ∧ B ≤ r ∧ B ≤ dr
theorem RuleAt.kpB {B : Nat} {h h' : Heap} {W : List Nat} {r : Nat} {word : List Nat} {b : Bool} (x : RuleAt B h r word b) (k : KpB W h h') (hW : ∀ y ∈ W, y < B) : RuleAt B h' r word b := by
  obtain ⟨dr, ap, mr, fd, sl, e1, n1, m1, m2, a, b1, b2⟩ := x.at_
  have hn : ∀ a, B ≤ a → a ∉ W := fun a ha q => by have := hW _ q; omega
  exact ⟨dr, ap, mr, fd, sl, k _ _ (hn _ b1) e1, ns1_kpB n1 k (hn _ b2), m1, m2, a.kpB k hW, b1, b2⟩

section
variable {w : World} {mean : ExcName → Option Value} {mg mb : Str → Option Value} {A : Around} {E : Value → Shared → Prop} {s : Shared} {R : Result → Shared → Prop} {h₀ : Heap}

/- a lambda of _law_rule is made -/
theorem mkRL {B : Nat} {env : Env} {params : Arguments} {lb : Expr} {scope : Scope} {pos : Pos} {clos : List (Str × Addr)} {Q : Value → Shared → Prop} (G : Gd w mean mg mb h₀) (K0 : Kp h₀ s.heap) (hT0 : h₀.get? 122 = none) (hB : B ≤ s.heap.objs.size) (hB2 : 130 < B) (T : TabAt B s.heap)
    (hpos : pos = lPos lam1 ∨ pos = lPos lam2) (hcl : closureFor scope env = pure clos)
    (h : ∀ (f c' : Nat) ctv h' tk, KpB [122] s.heap h' → h'.get? f = some (kla_obj "<lambda>" (env.qual ++ "<lambda>") params lb scope clos ((mg "__name__").getD .none) c' ctv) → s.heap.objs.size ≤ f → TabAt B h' → B ≤ c' → CRec h' c' apQ → Q (.ref f) { s with heap := h', toks := tk })
    (hq : env.qual ++ "<lambda>" = apQ := by rfl) (hdef : defaultsOf params env = ([], []) := by rfl) (hg : env.globals = mainGlobals := by rfl) (hcd : env.code = .ref 126 := by rfl) :
    wpAny (model PR w) A (PySem.eval (.Lambda params lb scope pos) env) Q E s := by
  obtain ⟨hCH, ps, eP, tP, hps⟩ := T
  rcases hps pos hpos with hnf | ⟨c', hf, hc', cr⟩
  · refine mkLam G K0 hT0 hCH eP tP hnf hcl (fun f c' oc vs t ctv h' tk kb ef ec d v eT hsz hcf => ?_) hdef hg hcd
    have cr : CRec h' c' apQ := ⟨oc, vs, t, ec, d, by rw [← hq]; exact v⟩
    refine h f c' ctv h' tk kb ef (by exact ar11 hsz hcf) ⟨codeHd_kpB hCH kb (by simp), _, eT, ?_, fun pos' hp' => ?_⟩ (by exact ar70 hB hsz) cr
    · rw [Array.toList_append]; exact (among_other (pos := pos) (pos' := ⟨pos.line + 1, 0, 0, 0⟩) (.inl (by simp)) _ tP).2
    · by_cases hpp : pos'.line ≠ pos.line ∨ pos'.col ≠ pos.col
      · rw [Array.toList_append, (among_other hpp _ tP).1]
        exact (hps pos' hp').imp id (Exists.imp fun cb => And.imp_right fun y => ⟨y.1, y.2.kpB kb (by exact ar71 hB2 trivial y.1)⟩)
      · refine .inr ⟨c', ?_, by exact ar70 hB hsz, cr⟩
        have e1 : pos'.line = pos.line := Decidable.byContradiction fun q => hpp (.inl q)
        have e2 : pos'.col = pos.col := Decidable.byContradiction fun q => hpp (.inr q)
        rw [among_same e1 e2, Array.toList_append]
        exact codeAmong_snoc _ tP hnf
  · refine mkLamHit G K0 hT0 hCH eP tP hf hcl (fun f ctv h' tk kp ef hsz => ?_) hdef hg hcd
    refine h f c' ctv h' tk kp.b ef hsz (TabAt.kpB ⟨hCH, ps, eP, tP, hps⟩ (kp.b (W := [])) (by simp) (by simp) (by simp)) hc' (cr.kpB (kp.b (W := [])) (by simp))

theorem law_rule {n B : Nat} (k : OkA A (n + 1)) (G : Gd w mean mg mb h₀) (K0 : Kp h₀ s.heap) (hT0 : h₀.get? 122 = none) (hB : B ≤ s.heap.objs.size) (hB2 : 130 < B) (T : TabAt B s.heap) {word : List Nat} {tp : Tok} {b : Bool}
    (h : ∀ r h' tk, RuleAt B h' r word b → TabAt B h' → KpB [122] s.heap h' → s.heap.objs.size ≤ h'.objs.size → R (.ok (.ret (.ref r))) { s with heap := h', toks := tk }) :
    codeAny (model PR w) A (.call (.ref 127) ⟨[.str (wd word) tp, .bool b], []⟩) R s := by
  have GS := G.keeps K0
  refine callC (n := n) (binds := [(Str.ofString "path", .str (wd word) tp), (Str.ofString "allowed", .bool b)]) k (GS.X _ _ (by rfl)) GS.lim (codeRec_of GS.X (k_c126 _)) rfl (fun L => by rfl) ?_
  intro L h₁ tk hL hns hcell kp ok
  obtain ⟨oc1, ec1, dc1⟩ := hcell (Str.ofString "path") (L + 1) rfl
  have hsz1 : L + 1 < h₁.objs.size := ltS ec1
  refine wpAny_execs_cons (wpAny_Assign_Name ?_)
  have T1 := T.kpB (kp.b (W := [])) (by simp) (by simp) (by simp)
  refine mkRL (s := { s with heap := h₁, toks := tk }) G (K0.trans kp) hT0 (by show B ≤ h₁.objs.size; exact ar73 hB hL hsz1) hB2 T1 (.inl rfl) rfl fun f1 c1 ctv1 h2 tk2 k2 ef1 hf1 T2 hc1 cr1 => ?_
  dsimp only at k2 hf1 ⊢
  have hn2 := ns_kpB hns k2 (by exact ar74 hB hB2 hL)
  refine wpAny_storeName_local rfl hn2 (fun h3 hn3 sb3 => ?_)
  dsimp only
  have k3 := kp_same sb3
  have K3 : KpB [122] s.heap h3 := fun b o nb e => k3 _ _ (by have := ltS e; exact as1 hL this) (k2 _ _ nb (kp _ _ e))
  have T3 := T2.kpB k3 (by exact nlt (as8 (by decide) hB hB2 hL)) (by exact nlt (as8 (by decide) hB hB2 hL)) (by rintro y hy; rw [List.mem_singleton.mp hy]; exact .inr (ns_dk hn2))
  have L3 : L < h3.objs.size := by obtain ⟨o, _, _, e, _⟩ := hn3; exact ltS e
  have ef3 := k3 f1 _ (by exact ngt (as7 hsz1 hf1)) ef1
  have lf3 := ltS ef3
  have ec3 := k3 (L + 1) _ (by simp) (k2 _ _ (by exact ar75 hB hB2 hL) ec1)
  refine wpAny_execs_cons (plainObj_wpAny_Assign_Attribute ?_)
  refine mkRL (s := { s with heap := h3, toks := _ }) G (KpB.old K0 K3 (by simpa using hT0)) hT0 (by show B ≤ h3.objs.size; exact ar76 hB hL L3) hB2 T3 (.inr rfl) rfl fun f2 c2 ctv2 h4 tk4 k4 ef2 hf2 T4 hc2 cr2 => ?_
  dsimp only at k4 hf2 ⊢
  have hn4 := ns_kpB hn3 k4 (by exact ngt (as8 (by decide) hB hB2 hL))
  refine wpAny_Name (wpAny_loadName_local rfl rfl hn4 rfl ?_) (by decide)
  refine fn_set0 (k4 _ _ (by exact ar77 hB hB2 hL hsz1 hf1) ef3) (by kernel_rfl) fun d h5 tk5 ef5 n5 hd5 k5 => ?_
  dsimp only at hd5 k5 ⊢
  have l2 := ltS ef2
  have L5 : L < h4.objs.size := by obtain ⟨o, _, _, e, _⟩ := hn4; exact ltS e
  have hn5 := ns_kpB hn4 k5 (by exact nlt (as7 hsz1 hf1))
  refine wpAny_execs_cons (plainObj_wpAny_Assign_Attribute ?_)
  refine wpAny_Name (wpAny_loadName_local rfl rfl hn5 rfl ?_) (by decide)
  refine wpAny_Name (wpAny_loadName_local rfl rfl hn5 rfl ?_) (by decide)
  refine fn_set1 ef5 n5 (ns := [Str.ofString "applies_to"]) (fun y hy => ?_) (by decide) (by kernel_rfl) fun h6 tk6 n6 k6 => ?_
  · by_cases q : y = Str.ofString "applies_to"
    · rw [q]; exact .head _
    · simp [q] at hy
  dsimp only at k6 ⊢
  have hn6 := ns_kpB hn5 k6 (by exact nlt (Nat.lt_of_lt_of_le L5 hd5))
  refine wpAny_execs_cons (wpAny_Return_some ?_)
  refine wpAny_Name (wpAny_loadName_local rfl rfl hn6 rfl ?_) (by decide)
  dsimp only
  have up : ∀ (b : Nat) o, b ≠ f1 → b < h4.objs.size → h4.get? b = some o → h6.get? b = some o := fun b o n1 n2 e => k6 _ _ (by exact ar78 hd5 n2) (k5 _ _ (by simpa using n1) e)
  have T6 : TabAt B h6 := by
    have T5 := T4.kpB k5 (by exact ar79 hB hB2 hL hsz1 hf1) (by exact ar80 hB hB2 hL hsz1 hf1) (by rintro y hy; rw [List.mem_singleton.mp hy]; exact .inr ⟨_, k4 _ _ (by exact ar77 hB hB2 hL hsz1 hf1) ef3, show (4 : Nat) ≠ 5 by decide⟩)
    exact T5.kpB k6 (by exact ar81 hB hB2 hL hd5 L5) (by exact ar82 hB hB2 hL hd5 L5) (by rintro y hy; rw [List.mem_singleton.mp hy]; exact .inr (ns_dk n5.ns))
  refine h f1 h6 _ ?_ T6 ?_ ?_
  · have ec4 := k4 (L + 1) _ (by exact ar75 hB hB2 hL) ec3
    have ec6 := up (L + 1) _ (by exact ar83 hsz1 hf1) (ltS ec4) ec4
    have ea6 := up f2 _ (by exact ar84 lf3 hf2) l2 ef2
    have ecr6 : CRec h6 c2 apQ := by
      obtain ⟨oc, vs, t, e, r⟩ := cr2
      exact ⟨oc, vs, t, up c2 _ (fun q => by subst q; rw [k4 _ _ (by exact ar85 hB2 hc2) ef3] at e; cases e; cases r.1) (ltS e) e, r⟩
    exact ⟨d, f2, _, _, _, k6 _ _ (by have := ltS ef3; exact ar86 lf3 hf2 hd5 l2) ef5, n6, rfl, rfl, ⟨L + 1, c2, ctv2, _, oc1, _, ea6, ecr6, ⟨ec6, dc1⟩, by exact ar87 hB hL hsz1 hf1 lf3 hf2, hc2, by exact ar88 hB hL⟩, by exact ar89 hB hL hsz1 hf1, by exact ar90 hB hL hsz1 hf1 lf3 hf2 hd5 l2⟩
  · intro b o nb e
    have e4 := k4 b o nb (K3 b o nb e)
    exact up b o (by have := ltS e; exact ar91 hL hsz1 hf1 this) (ltS e4) e4
  · have := ltS (k6 f1 _ (by have := ltS ef3; exact ar86 lf3 hf2 hd5 l2) ef5); exact ar92 hL hsz1 hf1 this
end
end Mine

end
section -- M18
open PySem PySem.W PyProof.Rows PySem.Calls PySem.Builtin PySem.Builtin.ObjectAttr PySem.Builtin.Str PySem.StrLaws
set_option maxRecDepth 100000
set_option linter.unusedVariables false
namespace Mine
theorem idx_hi (a b len : Nat) (hb : len ≤ b) : strSliceIndices (some (a : Int)) (some (b : Int)) 1 len = strSliceIndices (some (a : Int)) (some (len : Int)) 1 len := by
  have a1 : ¬ ((b : Int) < 0) := by exact ar93
  have a2 : ¬ ((len : Int) < 0) := by exact ar93
  have e1 : max (0 : Int) (min (b : Int) (len : Int)) = len := by exact ar94 hb
  have e2 : max (0 : Int) (min (len : Int) (len : Int)) = len := by exact ar95 e1
  simp only [strSliceIndices, a1, a2, e1, e2, if_false]
  rfl
theorem slice_ab (xs : List Nat) (a b : Nat) (ha : a ≤ xs.length) (hab : a ≤ b) : Txt.slice (wd xs) (some (a : Int)) (some (b : Int)) = wd ((xs.drop a).take (b - a)) := by
  have hl : (wd xs).length = xs.length := by simp [Str.length]
  show sliceText (wd xs) _ _ = _
  by_cases hb : b ≤ xs.length
  · rw [sliceText_nat _ hab (by rw [hl]; exact hb)]
  · have hb' : xs.length ≤ b := Nat.le_of_lt (Nat.not_le.mp hb)
    have e : sliceText (wd xs) (some (a : Int)) (some (b : Int)) = sliceText (wd xs) (some (a : Int)) (some (xs.length : Int)) := by
      unfold sliceText; rw [hl, idx_hi _ _ _ hb']
    rw [e, sliceText_nat _ ha (by rw [hl]; exact Nat.le_refl _)]
    have h1 : (xs.drop a).length = xs.length - a := List.length_drop
    show wd ((xs.drop a).take (xs.length - a)) = _
    rw [List.take_of_length_le (Nat.le_of_eq h1), List.take_of_length_le (by rw [h1]; exact Nat.sub_le_sub_right hb' a)]
theorem slice_to (xs : List Nat) (b : Nat) : Txt.slice (wd xs) none (some (b : Int)) = wd (xs.take b) := by
  have : Txt.slice (wd xs) none (some (b : Int)) = Txt.slice (wd xs) (some ((0 : Nat) : Int)) (some (b : Int)) := by
    unfold Txt.slice; rw [sliceIdx_none_lo]; rfl
  rw [this, slice_ab _ _ _ (Nat.zero_le _) (Nat.zero_le _)]; rfl
theorem slice_m1 (xs : List Nat) : Txt.slice (wd xs) none (some (-1)) = wd xs.dropLast := by
  cases xs with
  | nil => decide
  | cons x r =>
    have : Txt.slice (wd (x :: r)) none (some (-1)) = Txt.slice (wd (x :: r)) none (some ((r.length : Nat) : Int)) := by
      show sliceText _ _ _ = sliceText _ _ _
      rw [sliceText_neg_hi _ _ (by decide) (by simp [Str.length]; exact ar96)]
      congr 2
      simp [Str.length]; exact ar97
    rw [this, slice_to, List.dropLast_eq_take]; simp
theorem wd_len (xs : List Nat) : (wd xs).length = xs.length := by simp [Str.length]
theorem wd_beq (xs ys : List Nat) : (wd xs == wd ys) = decide (xs = ys) := by
  by_cases q : xs = ys
  · subst q; simp
  · rw [decide_eq_false q]
    refine beq_eq_false_iff_ne.mpr fun e => q ?_
    have := congrArg Str.cps e
    simpa using this
theorem g_len (P : Params) : nsIn (hd.heap_39 P) mainGlobals (Str.ofString "len") = some none := by kernel_rfl

section
variable {w : World} {mean : ExcName → Option Value} {mg mb : Str → Option Value} {A : Around} {E : Value → Shared → Prop} {s : Shared} {R : Result → Shared → Prop} {h₀ : Heap} {env : Env}

/- value[:upper] -/
theorem sub_to {value up : Expr} {p pos : Pos} {Q : Value → Shared → Prop}
    (h : wpAny (model PR w) A (PySem.eval value env) (fun o s₁ => wpAny (model PR w) A (PySem.eval up env) (fun u s₂ => ∃ x t j tj, o = .str x t ∧ u = .int j tj ∧ x.length ≤ sizeLine ∧ ∀ h' t' k, Kp s₂.heap h' → Q (.str (Txt.slice x none (some j)) t') { s₂ with heap := h', toks := k }) E s₁) E s)
    (ht : ∀ o r, letTemporaryGo value o r = pure () := by intro _ _; rfl) :
    wpAny (model PR w) A (PySem.eval (.Subscript value (.Slice none (some up) none p) pos) env) Q E s := by
  refine Subscript_Slice (wpAny_mono h (fun o s₁ h₁ => ?_) fun _ _ e => e) ht
  refine wpAny_Slice (evalPart_none_step (evalPart_some_step (wpAny_mono h₁ (fun u s₂ h₂ => evalPart_none_step ?_) fun _ _ e => e)))
  obtain ⟨x, t, j, tj, rfl, rfl, hz, hq⟩ := h₂
  exact SBH.sliceItem_ns (P := Kp s₂.heap) (fun h ob k => k.trans (Kp.push _ _)) (Kp.refl _) hq hz
/- value[lower:upper] -/
theorem sub_ab {value lo up : Expr} {p pos : Pos} {Q : Value → Shared → Prop}
    (h : wpAny (model PR w) A (PySem.eval value env) (fun o s₁ => wpAny (model PR w) A (PySem.eval lo env) (fun l s₃ => wpAny (model PR w) A (PySem.eval up env) (fun u s₂ => ∃ x t i ti j tj, o = .str x t ∧ l = .int i ti ∧ u = .int j tj ∧ x.length ≤ sizeLine ∧ ∀ h' t' k, Kp s₂.heap h' → Q (.str (Txt.slice x (some i) (some j)) t') { s₂ with heap := h', toks := k }) E s₃) E s₁) E s)
    (ht : ∀ o r, letTemporaryGo value o r = pure () := by intro _ _; rfl) :
    wpAny (model PR w) A (PySem.eval (.Subscript value (.Slice (some lo) (some up) none p) pos) env) Q E s := by
  refine Subscript_Slice (wpAny_mono h (fun o s₁ h₁ => ?_) fun _ _ e => e) ht
  refine wpAny_Slice (evalPart_some_step (wpAny_mono h₁ (fun l s₃ h₃ => evalPart_some_step (wpAny_mono h₃ (fun u s₂ h₂ => evalPart_none_step ?_) fun _ _ e => e)) fun _ _ e => e))
  obtain ⟨x, t, i, ti, j, tj, rfl, rfl, rfl, hz, hq⟩ := h₂
  exact SBH.sliceItem_ss (P := Kp s₂.heap) (fun h ob k => k.trans (Kp.push _ _)) (Kp.refl _) hq hz
/- len(e) of a text -/
theorem len_of {e : Expr} {p1 p2 : Pos} {Q : Value → Shared → Prop} (G : Gd w mean mg mb s.heap) (h : wpAny (model PR w) A (PySem.eval e env) (fun v s₁ => ∃ xs t, v = .str (wd xs) t ∧ xs.length < 2 ^ 20 ∧ ∀ t' tk, Q (.int (xs.length : Int) t') { s₁ with toks := tk }) E s)
    (hb : backTo p2 (starEach [e] env) = [(false, PySem.eval e env)])
    (hg : env.globals = mainGlobals := by rfl) (hb2 : env.builtins = builtinsNs := by rfl) (hk : env.scope.kind = .function := by rfl) (hx : env.kindOf (Str.ofString "len") = some .globalImplicit := by rfl) :
    wpAny (model PR w) A (PySem.eval (.Call (.Name (Str.ofString "len") p1) [e] [] p2) env) Q E s := by
  refine Call_ (nameB (v := .builtin "len") G (g_len _) (by kernel_rfl) ?_ (by decide) hg hb2 hk hx)
  rw [hb]
  refine callWith_builtin1 (wpAny_mono h ?_ fun _ _ e => e)
  rintro v s₁ ⟨xs, t, rfl, hz, hq⟩
  refine PyProof.Rows.len_str (by rw [wd_len]; exact ar98 hz) ?_
  rw [wd_len]
  exact hq _ _
end
end Mine

end
section -- M19
open PySem PySem.W PyProof.Rows PySem.Calls PySem.Builtin PySem.Builtin.ObjectAttr PySem.Builtin.Str PySem.StrLaws
set_option maxRecDepth 100000
set_option linter.unusedVariables false
namespace Mine
/- what a rule says of a name -/
noncomputable def fits (word nm : List Nat) : Int := if nm.take word.length = word then (word.length : Int) + 1 else 0
section
variable {w : World} {mean : ExcName → Option Value} {mg mb : Str → Option Value} {A : Around} {E : Value → Shared → Prop} {s : Shared} {R : Result → Shared → Prop} {h₀ : Heap}

theorem rule_applies {n B ap : Nat} (k : OkA A (n + 1)) (G : Gd w mean mg mb h₀) (K0 : Kp h₀ s.heap) {word nm : List Nat} {tn : Tok} (a : ApAt B s.heap ap word) (hz : word.length < 2 ^ 18) (hz2 : nm.length < 2 ^ 18)
    (h : ∀ h' tk t, Kp s.heap h' → R (.ok (.ret (.int (fits word nm) t))) { s with heap := h', toks := tk }) :
    codeAny (model PR w) A (.call (.ref ap) ⟨[.str (wd nm) tn], []⟩) R s := by
  have GS := G.keeps K0
  obtain ⟨cl, crd, ctv, pm, ocl, t, e1, e2, ⟨e3, d3⟩, b1, b2, b3⟩ := a.at_
  refine callE (n := n) (binds := [(Str.ofString "name", .str (wd nm) tn)]) k e1 GS.lim e2.rec rfl (by decide) rfl ?_
  intro L h₁ tk hL hns kp ok
  have G1 := GS.keeps kp
  refine wpAny_IfExp (wpAny_isTrue_Compare1 (sub_to ?_))
  refine wpAny_Name (wpAny_loadName_local rfl rfl hns rfl ?_) (by decide)
  refine len_of G1 ?_ rfl
  refine wpAny_Name (wpAny_loadName_free rfl rfl rfl ⟨ocl, kp _ _ e3, d3⟩ ?_ (by decide)) (by decide)
  refine ⟨word, t, rfl, by omega, fun t2 tk2 => ?_⟩
  refine ⟨_, _, _, _, rfl, rfl, by rw [wd_len, sizeLine_eq]; omega, fun h2 t3 tk3 k2 => ?_⟩
  dsimp only at k2 ⊢
  rw [slice_to]
  refine wpAny_Name (wpAny_loadName_free rfl rfl rfl ⟨ocl, k2 _ _ (kp _ _ e3), d3⟩ ?_ (by decide)) (by decide)
  refine PyProof.Rows.eq_str (wpAny_truthy_bool ?_)
  rw [wd_beq]
  by_cases q : nm.take word.length = word
  · rw [if_pos (by simp [q])]
    refine wpAny_BinOp ?_
    refine len_of (G1.keeps k2) ?_ rfl
    refine wpAny_Name (wpAny_loadName_free rfl rfl rfl ⟨ocl, k2 _ _ (kp _ _ e3), d3⟩ ?_ (by decide)) (by decide)
    refine ⟨word, t, rfl, by omega, fun t4 tk4 => ?_⟩
    refine wpAny_Constant_int (PyProof.Rows.add_int ?_)
    have : fits word nm = (word.length : Int) + 1 := if_pos q
    rw [← this]
    exact h _ _ _ (kp.trans k2)
  · rw [if_neg (by simp [q])]
    refine wpAny_Constant_int ?_
    have : fits word nm = 0 := if_neg q
    rw [← this]
    exact h _ _ _ (kp.trans k2)
end
end Mine

end
section -- M20
open PySem PySem.W PyProof.Rows PySem.Calls PySem.Builtin PySem.Builtin.ObjectAttr PySem.Builtin.Str PySem.StrLaws
set_option maxRecDepth 100000
set_option linter.unusedVariables false
namespace Mine
section
variable {w : World} {mean : ExcName → Option Value} {mg mb : Str → Option Value} {A : Around} {E : Value → Shared → Prop} {s : Shared} {R : Result → Shared → Prop} {h₀ : Heap}

/- a for over a list, by one name -/
theorem floop {x : Str} {px : Pos} {body : List Stmt} {env : Env} {l : Nat} {vs : List Value} (hh : A.handled = none) (hl : LAt s.heap l vs) (Wl : List Nat) (hW : ∀ y ∈ Wl, y < s.heap.objs.size) (hlW : l ∉ Wl) (Inv : Nat → Heap → Prop)
    (stab : ∀ i h h', Inv i h → (∀ o, h.get? s.heap.objs.size = some o → o.cls = .type "list_iterator") → KpB [s.heap.objs.size] h h' → Inv i h') (h0 : Inv 0 s.heap)
    (turn : ∀ i v h tk E', vs[i]? = some v → Inv i h → KpB (s.heap.objs.size :: Wl) s.heap h → wpAny (model PR w) A (assign (.Name x px) env v) (fun _ s2 => wpAny (model PR w) A (execs body env) (fun f s3 => match f with
      | .next | .cont => ∃ h' tk', s3 = { s with heap := h', toks := tk' } ∧ Inv (i + 1) h' ∧ KpB Wl h h'
      | .brk => False
      | .ret v => R (.ok (.ret v)) s3) E' s2) E' { s with heap := h, toks := tk })
    (done : ∀ h tk, Inv vs.length h → KpB (s.heap.objs.size :: Wl) s.heap h → R (.ok .next) { s with heap := h, toks := tk }) :
    wpAny (model PR w) A (pyIter (.ref l)) (fun it s2 => codeAny (model PR w) A (.forLoop (.Name x px) it body [] env) R s2) E s := by
  have hlt : l < s.heap.objs.size := by obtain ⟨n, e⟩ := hl; exact ltS e
  refine wpAny_pyIter_list hl.is ?_
  have kp : Kp s.heap (s.heap.push { cls := .type "list_iterator", data := .fields #[.ref l, .int 0 0] }) := Kp.push _ _
  refine codeAny_forLoop (fun k s' => ∃ i h tk, k = vs.length - i ∧ i ≤ vs.length ∧ s' = { s with heap := h, toks := tk } ∧ h.IsListIter s.heap.objs.size l i ∧ Inv i h ∧ KpB (s.heap.objs.size :: Wl) s.heap h) ?_ vs.length
    ⟨0, _, _, rfl, Nat.zero_le _, rfl, ⟨_, Heap.get?_push_size _ rfl, rfl, rfl⟩, stab _ _ _ h0 (fun o e => absurd (ltS e) (Nat.lt_irrefl _)) kp.b, kp.b⟩
  rintro k s' ⟨i, h, tk, rfl, hi, rfl, hit, hI, kb⟩
  have hic : ∀ o, h.get? s.heap.objs.size = some o → o.cls = .type "list_iterator" := fun o e => by obtain ⟨o', e', c, _⟩ := hit; rw [e] at e'; cases e'; exact c
  have hl' : LAt h l vs := hl.kpB kb (by simp; exact ⟨by exact ar99 hlt, hlW⟩)
  by_cases q : i < vs.length
  · refine wpAny_pyNext_list_item (x := vs[i]) hit hl'.is (by simp [q]) fun h1 hit1 hs1 => ?_
    have k1 := kp_same hs1
    refine wpAny_mono (turn i vs[i] h1 tk _ (by simp [q]) (stab _ _ _ hI hic k1) (kb.trans (k1.mono (by simp)))) (fun _ s2 h2 => wpAny_mono h2 (fun f s3 h3 => ?_) fun _ _ e => e) fun _ _ e => e
    have fin : (∃ h' tk', s3 = { s with heap := h', toks := tk' } ∧ Inv (i + 1) h' ∧ KpB Wl h1 h') → ∃ m, m < vs.length - i ∧ ∃ i h tk, m = vs.length - i ∧ i ≤ vs.length ∧ s3 = { s with heap := h, toks := tk } ∧ h.IsListIter s.heap.objs.size l i ∧ Inv i h ∧ KpB (s.heap.objs.size :: Wl) s.heap h := by
      rintro ⟨h', tk', rfl, hI', k'⟩
      refine ⟨vs.length - (i + 1), by exact ar39 q, i + 1, h', tk', rfl, q, rfl, ?_, hI', (kb.trans (k1.mono (by simp))).trans (k'.mono (by simp +contextual))⟩
      obtain ⟨o, e, r⟩ := hit1
      exact ⟨o, k' _ _ (fun hq => by have := hW _ hq; omega) e, r⟩
    cases f with
    | next => exact fin h3
    | cont => exact fin h3
    | brk => exact h3.elim
    | ret v => exact h3
  · have : i = vs.length := by exact ar40 hi q
    subst this
    refine wpAny_pyNext_list_end hh hit hl'.is (by simp) fun h1 he1 => ?_
    have k1 : KpB [s.heap.objs.size] h h1 := fun b o nb e => he1 b o (by simpa using nb) e
    exact wpAny_execs_nil (done _ _ (stab _ _ _ hI hic k1) (kb.trans (k1.mono (by simp))))

/- the rules of a list -/
noncomputable def RulesAt (B : Nat) (h : Heap) : List Value → List (List Nat × Bool) → Prop := All2 fun v r => ∃ a : Nat, v = .ref a ∧ RuleAt B h a r.1 r.2
theorem RulesAt.kpB {B : Nat} {h h' : Heap} {W : List Nat} (k : KpB W h h') (hW : ∀ y ∈ W, y < B) {vs : List Value} {rs : List (List Nat × Bool)} (x : RulesAt B h vs rs) : RulesAt B h' vs rs := All2.imp (fun _ _ => Exists.imp fun _ => And.imp_right fun x => x.kpB k hW) x
theorem RulesAt.get {B : Nat} {h : Heap} {vs : List Value} {rs : List (List Nat × Bool)} {i : Nat} {v : Value} (x : RulesAt B h vs rs) (q : vs[i]? = some v) : ∃ (a : Nat) (r : List Nat × Bool), v = .ref a ∧ rs[i]? = some r ∧ RuleAt B h a r.1 r.2 :=
  (All2.get x q).elim fun r y => y.2.elim fun a z => ⟨a, r, z.1, y.1, z.2⟩
theorem RulesAt.len {B : Nat} {h : Heap} {vs : List Value} {rs : List (List Nat × Bool)} (x : RulesAt B h vs rs) : vs.length = rs.length := All2.len x
theorem RulesAt.snoc {B : Nat} {h : Heap} {a : Nat} {r : List Nat × Bool} (z : RuleAt B h a r.1 r.2) {vs : List Value} {rs : List (List Nat × Bool)} (x : RulesAt B h vs rs) : RulesAt B h (vs ++ [.ref a]) (rs ++ [r]) := All2.snoc ⟨a, rfl, z⟩ x
/- the entry en, its dict de, its lists ua and rl -/
structure EntAt (B : Nat) (h : Heap) (en de ua rl : Nat) (agents : List (List Nat)) (rules : List (List Nat × Bool)) : Prop where
  obj : ∃ m : Str → Option Value, InstN h en 59 de m ∧ m (Str.ofString "useragents") = some (.ref ua) ∧ m (Str.ofString "rulelines") = some (.ref rl) ∧ m (Str.ofString "applies_to") = none ∧ m (Str.ofString "allowance") = none
  uas : ∃ us, LAt h ua us ∧ us.length = agents.length ∧ ∀ (i : Nat) (a : List Nat), agents[i]? = some a → ∃ t, us[i]? = some (.str (wd a) t)
  rls : ∃ vs, LAt h rl vs ∧ RulesAt B h vs rules
theorem EntAt.kp {B : Nat} {h h' : Heap} {en de ua rl : Nat} {agents : List (List Nat)} {rules : List (List Nat × Bool)} (x : EntAt B h en de ua rl agents rules) (k : Kp h h') : EntAt B h' en de ua rl agents rules := by
  obtain ⟨⟨m, I, r⟩, ⟨us, l1, q⟩, vs, l2, y⟩ := x
  exact ⟨⟨m, I.kp k, r⟩, ⟨us, l1.kp k, q⟩, vs, l2.kp k, y.kpB (k.b (W := [])) (by simp)⟩

/- one rule of allowance -/
noncomputable def alStep (nm : List Nat) (st : Int × Bool) (r : List Nat × Bool) : Int × Bool :=
  if fits r.1 nm = 0 then st else if st.1 < fits r.1 nm then (fits r.1 nm, r.2) else if fits r.1 nm = st.1 ∧ st.2 = false then (st.1, r.2) else st
noncomputable def alFold (nm : List Nat) (rs : List (List Nat × Bool)) : Int × Bool := rs.foldl (alStep nm) (-1, true)

theorem k_c55 (P : Params) : codeIn (hd.heap_39 P) (.ref 55) (Str.ofString "Entry.allowance") = true := by kernel_rfl
theorem e_plain (P : Params) (n : Str) : plainGet (hd.heap_39 P) 59 n = true := by kernel_rfl
theorem e_has (P : Params) : hasDictIn (hd.heap_39 P) 59 = true := by kernel_rfl
theorem e_rl (P : Params) : findIn (hd.heap_39 P) (.ref 59) (Str.ofString "rulelines") = some none := by kernel_rfl
theorem e_ua (P : Params) : findIn (hd.heap_39 P) (.ref 59) (Str.ofString "useragents") = some none := by kernel_rfl
end
end Mine

end
section -- M21
open PySem PySem.W PyProof.Rows PySem.Calls PySem.Builtin PySem.Builtin.ObjectAttr PySem.Builtin.Str PySem.StrLaws
set_option maxRecDepth 100000
set_option linter.unusedVariables false
namespace Mine
theorem alFold_snoc (nm : List Nat) (rs : List (List Nat × Bool)) {i : Nat} {r : List Nat × Bool} (h : rs[i]? = some r) : alFold nm (rs.take (i + 1)) = alStep nm (alFold nm (rs.take i)) r := by
  rw [List.take_add_one, h]
  simp [alFold, List.foldl_append]
section
variable {w : World} {mean : ExcName → Option Value} {mg mb : Str → Option Value} {A : Around} {E : Value → Shared → Prop} {s : Shared} {R : Result → Shared → Prop} {h₀ : Heap}

theorem ent_allow {n B en de ua rl : Nat} (k : OkA A (n + 2)) (G : Gd w mean mg mb h₀) (K0 : Kp h₀ s.heap) {agents : List (List Nat)} {rules : List (List Nat × Bool)} {nm : List Nat} {tn : Tok} (x : EntAt B s.heap en de ua rl agents rules) (hz : nm.length < 2 ^ 18) (hz2 : ∀ r ∈ rules, r.1.length < 2 ^ 18)
    (h : ∀ h' tk, Kp s.heap h' → R (.ok (.ret (.bool (alFold nm rules).2))) { s with heap := h', toks := tk }) :
    codeAny (model PR w) A (.call (.ref 56) ⟨[.ref en, .str (wd nm) tn], []⟩) R s := by
  have GS := G.keeps K0
  refine callF (n := n + 1) (binds := [(Str.ofString "self", .ref en), (Str.ofString "filename", .str (wd nm) tn)]) k (GS.X _ _ (by rfl)) GS.lim (codeRec_of GS.X (k_c55 _)) rfl (by decide) rfl ?_
  intro L h₁ tk hL hns kp ok
  have L1 : L < h₁.objs.size := by obtain ⟨o, _, _, e, _⟩ := hns; exact ltS e
  refine wpAny_execs_cons (wpAny_Assign_Name (UnaryOp_ (wpAny_Constant_int (PyProof.Rows.neg_int ?_))))
  refine wpAny_storeName_local rfl hns (fun h2 hn2 sb2 => ?_)
  dsimp only
  refine wpAny_execs_cons (wpAny_Assign_Name (Constant_bool ?_))
  refine wpAny_storeName_local rfl hn2 (fun h3 hn3 sb3 => ?_)
  dsimp only
  have K3 : Kp s.heap h3 := fun b o e => kp_same sb3 _ _ (by have := ltS e; exact as1 hL this) (kp_same sb2 _ _ (by have := ltS e; exact as1 hL this) (kp _ _ e))
  have L3 : L < h3.objs.size := by obtain ⟨o, _, _, e, _⟩ := hn3; exact ltS e
  have x3 := x.kp K3
  obtain ⟨m, I, m1, m2, m4, m5⟩ := x3.obj
  obtain ⟨vs, hl0, hr⟩ := x.rls
  have hl := hl0.kp K3
  refine wpAny_execs_cons (wpAny_For (Attribute_Name_ ?_))
  refine wpAny_Name (wpAny_loadName_local rfl rfl hn3 rfl ?_) (by decide)
  refine inst_get (GS.keeps K3).X I (e_plain _ _) (e_has _) (e_rl _) m2 rfl fun tk4 => ?_
  obtain ⟨Inv, hI⟩ := opq (α := Nat) (β := Heap) (fun i h => (∃ m', h.Ns L m' ∧ m' (Str.ofString "filename") = some (.str (wd nm) tn) ∧ (∃ t, m' (Str.ofString "best_match") = some (.int (alFold nm (rules.take i)).1 t)) ∧ m' (Str.ofString "allowance") = some (.bool (alFold nm (rules.take i)).2)) ∧ Kp s.heap h)
  refine floop (s := { s with heap := h3, toks := _ }) ok.hn hl [L] (by simpa using L3) (by
      intro q
      obtain ⟨_, e⟩ := x.rls.choose_spec.1
      have := ltS e
      simp at q; omega) Inv ?_ ?_ ?_ ?_
  · intro i h h' hi _ kb
    obtain ⟨⟨m', hn, r⟩, kk⟩ := (hI _ _).mp hi
    exact (hI _ _).mpr ⟨⟨m', ns_kpB hn kb (by exact nlt L3), r⟩, fun b o e => kb _ _ (by have := ltS e; simp; have := ltS (K3 _ _ e); exact ar99 this) (kk _ _ e)⟩
  · exact (hI _ _).mpr ⟨⟨_, hn3, rfl, ⟨_, rfl⟩, rfl⟩, K3⟩
  · intro i v h5 tk5 E' hv hi5 kb5
    obtain ⟨⟨m', hn5, f1, ⟨tb, f2⟩, f3⟩, K5⟩ := (hI _ _).mp hi5
    obtain ⟨a, r, rfl, hri, hra⟩ := (hr.kpB (K5.b (W := [])) (by simp)).get hv
    have hzr : r.1.length < 2 ^ 18 := hz2 r (List.mem_of_getElem? hri)
    have hI2 := hI (i + 1)
    rw [alFold_snoc nm rules hri] at hI2
    generalize hst : alFold nm (rules.take i) = st at f2 f3 hI2
    refine wpAny_assign_Name (wpAny_storeName_local rfl hn5 (fun h6 hn6 sb6 => ?_))
    dsimp only
    have k6 := kp_same sb6
    have K6 : Kp s.heap h6 := fun b o e => k6 _ _ (by have := ltS e; exact as1 hL this) (K5 _ _ e)
    have hra6 := (hr.kpB (K6.b (W := [])) (by simp)).get hv
    obtain ⟨a', r', ea, er, hra6⟩ := hra6
    cases ea
    rw [hri] at er; cases er
    obtain ⟨dr, ap, mr, fd, sl, e1, n1, mr1, mr2, hap, b1, b2⟩ := hra6.at_
    refine wpAny_execs_cons (wpAny_Assign_Name (MethodCall_ ?_))
    refine wpAny_Name (wpAny_loadName_local rfl rfl hn6 rfl ?_) (by decide)
    refine fn_meth e1 n1 mr1 rfl (by kernel_rfl) fun tk7 => ?_
    have hfa : FnAt ap h6 := by obtain ⟨cl, crd, ctv, pm, ocl, t, e, _⟩ := hap.at_; exact ⟨_, _, _, _, e⟩
    refine callWith_F hfa (args_cons ?_)
    refine wpAny_Name (wpAny_loadName_local rfl rfl hn6 ((if_neg (by decide)).trans f1) ?_) (by decide)
    refine args_nil ⟨hfa, wpAny_call (rule_applies (n := n) (s := { s with heap := h6, toks := _ }) ok G (K0.trans K6) hap hzr hz fun h7 tk7 t7 K7 => ?_)⟩
    dsimp only at K7 ⊢
    refine wpAny_storeName_local rfl (hn6.keeps K7) (fun h8 hn8 sb8 => ?_)
    dsimp only
    have k8 := kp_same sb8
    have K58 : KpB [L] h5 h8 := fun b o nb e => k8 _ _ nb (K7 _ _ (k6 _ _ nb e))
    have K8 : Kp s.heap h8 := fun b o e => K58 _ _ (by have := ltS e; exact ar100 hL this) (K5 _ _ e)
    have L8 : L < h8.objs.size := by obtain ⟨o, _, _, e, _⟩ := hn8; exact ltS e
    have hra8 := (hr.kpB (K8.b (W := [])) (by simp)).get hv
    obtain ⟨a', r', ea, er, hra8⟩ := hra8
    cases ea
    rw [hri] at er; cases er
    obtain ⟨dr, ap, mr, fd, sl, e1, n1, mr1, mr2, hap, b1, b2⟩ := hra8.at_
    refine wpAny_execs_cons (wpAny_If (isTrue_plain ?_))
    refine wpAny_Name (wpAny_loadName_local rfl rfl hn8 rfl ?_) (by decide)
    refine PyProof.Rows.truthy_int ?_
    have g1 : (if (Str.ofString "filename") = Str.ofString "m" then some (Value.int (fits r.1 nm) t7) else if (Str.ofString "filename") = Str.ofString "line" then some (Value.ref a) else m' (Str.ofString "filename")) = some (.str (wd nm) tn) := (if_neg (by decide)).trans ((if_neg (by decide)).trans f1)
    have g2 : (if (Str.ofString "best_match") = Str.ofString "m" then some (Value.int (fits r.1 nm) t7) else if (Str.ofString "best_match") = Str.ofString "line" then some (Value.ref a) else m' (Str.ofString "best_match")) = some (.int st.1 tb) := (if_neg (by decide)).trans ((if_neg (by decide)).trans f2)
    have g3 : (if (Str.ofString "allowance") = Str.ofString "m" then some (Value.int (fits r.1 nm) t7) else if (Str.ofString "allowance") = Str.ofString "line" then some (Value.ref a) else m' (Str.ofString "allowance")) = some (.bool st.2) := (if_neg (by decide)).trans ((if_neg (by decide)).trans f3)
    by_cases q0 : fits r.1 nm = 0
    · rw [show (fits r.1 nm != 0) = false by simp [q0], if_neg (by decide)]
      rw [show alStep nm st r = st from if_pos q0] at hI2
      repeat refine wpAny_execs_nil ?_
      exact ⟨h8, _, rfl, (hI2 _).mpr ⟨⟨_, hn8, g1, ⟨_, g2⟩, g3⟩, K8⟩, K58⟩
    · rw [show (fits r.1 nm != 0) = true by simp [q0], if_pos rfl]
      refine wpAny_execs_cons (wpAny_If (wpAny_isTrue_Compare1 ?_))
      refine wpAny_Name (wpAny_loadName_local rfl rfl hn8 rfl ?_) (by decide)
      refine wpAny_Name (wpAny_loadName_local rfl rfl hn8 g2 ?_) (by decide)
      refine PyProof.Rows.gt_int (wpAny_truthy_bool ?_)
      by_cases q1 : st.1 < fits r.1 nm
      · rw [if_pos (by simp [q1])]
        rw [show alStep nm st r = (fits r.1 nm, r.2) from (if_neg q0).trans (if_pos q1)] at hI2
        refine wpAny_execs_cons (wpAny_Assign_Name ?_)
        refine wpAny_Name (wpAny_loadName_local rfl rfl hn8 rfl ?_) (by decide)
        refine wpAny_storeName_local rfl hn8 (fun h9 hn9 sb9 => ?_)
        dsimp only
        have k9 := kp_same sb9
        have hd9 : a ≠ L ∧ dr ≠ L := by
          obtain ⟨o1, e2, d2⟩ := ns_dk hn8
          refine ⟨fun q => ?_, fun q => ?_⟩
          · subst q; obtain ⟨o2, es, ep, e3, d3, _⟩ := hn8; rw [e1] at e3; cases e3; cases d3
          · obtain ⟨a0, r0, ea0, er0, hr0'⟩ := hr.get hv
            cases ea0
            obtain ⟨dr0, ap0, mr0, fd0, sl0, e10, n10, _⟩ := hr0'.at_
            have e1' := K8 _ _ e10
            rw [e1] at e1'
            injection e1' with e1'
            injection e1' with _ e1' _ _
            injection e1' with e1'
            obtain ⟨o3, es3, ep3, e3, _⟩ := n10
            have := ltS e3
            omega
        refine wpAny_execs_cons (wpAny_Assign_Name (Attribute_Name_ ?_))
        refine wpAny_Name (wpAny_loadName_local rfl rfl hn9 rfl ?_) (by decide)
        refine fn_get (k9 _ _ (by simpa using hd9.1) e1) (ns1_kpB n1 k9 (by simpa using hd9.2)) mr2 rfl (by kernel_rfl) fun tk10 => ?_
        refine wpAny_storeName_local rfl hn9 (fun h10 hn10 sb10 => ?_)
        dsimp only
        have k10 := kp_same sb10
        repeat refine wpAny_execs_nil ?_
        refine ⟨h10, _, rfl, (hI2 _).mpr ⟨⟨_, hn10, ?_, ⟨t7, ?_⟩, if_pos rfl⟩, ?_⟩, (K58.trans k9).trans k10⟩
        · exact (if_neg (by decide)).trans ((if_neg (by decide)).trans g1)
        · exact (if_neg (by decide)).trans (if_pos rfl)
        · exact fun b o e => k10 _ _ (by have := ltS e; exact as1 hL this) (k9 _ _ (by have := ltS e; exact as1 hL this) (K8 _ _ e))
      · rw [if_neg (by simp [q1])]
        refine wpAny_execs_cons (wpAny_If (isTrue_and (wpAny_isTrue_Compare1 ?_)))
        refine wpAny_Name (wpAny_loadName_local rfl rfl hn8 rfl ?_) (by decide)
        refine wpAny_Name (wpAny_loadName_local rfl rfl hn8 g2 ?_) (by decide)
        refine PyProof.Rows.eq_int (wpAny_truthy_bool ?_)
        by_cases q2 : fits r.1 nm = st.1
        · rw [if_pos (by simp [q2])]
          refine isTrue_and (isTrue_not (isTrue_plain ?_))
          refine wpAny_Name (wpAny_loadName_local rfl rfl hn8 g3 ?_) (by decide)
          refine wpAny_truthy_bool ?_
          cases q3 : st.2 with
          | true =>
            rw [q3] at g3
            rw [show alStep nm st r = st from (if_neg q0).trans ((if_neg q1).trans (if_neg (by simp [q3])))] at hI2
            rw [if_neg (by decide), if_neg (by decide)]
            repeat refine wpAny_execs_nil ?_
            exact ⟨h8, _, rfl, (hI2 _).mpr ⟨⟨_, hn8, g1, ⟨_, g2⟩, by rw [q3]; exact g3⟩, K8⟩, K58⟩
          | false =>
            rw [show alStep nm st r = (st.1, r.2) from (if_neg q0).trans ((if_neg q1).trans (if_pos ⟨q2, q3⟩))] at hI2
            rw [if_pos (by decide)]
            refine isTrue_and_nil ?_
            rw [if_pos rfl]
            refine wpAny_execs_cons (wpAny_Assign_Name (Attribute_Name_ ?_))
            refine wpAny_Name (wpAny_loadName_local rfl rfl hn8 rfl ?_) (by decide)
            refine fn_get e1 n1 mr2 rfl (by kernel_rfl) fun tk10 => ?_
            refine wpAny_storeName_local rfl hn8 (fun h10 hn10 sb10 => ?_)
            dsimp only
            have k10 := kp_same sb10
            repeat refine wpAny_execs_nil ?_
            refine ⟨h10, _, rfl, (hI2 _).mpr ⟨⟨_, hn10, ?_, ⟨tb, ?_⟩, if_pos rfl⟩, ?_⟩, K58.trans k10⟩
            · exact (if_neg (by decide)).trans g1
            · exact (if_neg (by decide)).trans g2
            · exact fun b o e => k10 _ _ (by have := ltS e; exact as1 hL this) (K8 _ _ e)
        · rw [if_neg (by simp [q2])]
          rw [show alStep nm st r = st from (if_neg q0).trans ((if_neg q1).trans (if_neg (by simp [q2])))] at hI2
          rw [if_neg (by decide)]
          repeat refine wpAny_execs_nil ?_
          exact ⟨h8, _, rfl, (hI2 _).mpr ⟨⟨_, hn8, g1, ⟨_, g2⟩, g3⟩, K8⟩, K58⟩
  · intro h5 tk5 hi5 kb5
    obtain ⟨⟨m', hn5, f1, ⟨tb, f2⟩, f3⟩, K5⟩ := (hI _ _).mp hi5
    refine wpAny_execs_cons (wpAny_Return_some ?_)
    rw [hr.len, List.take_length] at f3
    refine wpAny_Name (wpAny_loadName_local rfl rfl hn5 f3 ?_) (by decide)
    exact h _ _ K5
end
end Mine

end
section -- N1
open PySem PySem.W PyProof.Rows PySem.Calls PySem.Builtin PySem.Builtin.Str PySem.StrLaws
set_option maxRecDepth 100000
set_option linter.unusedVariables false
namespace Mine
noncomputable abbrev slash : Str := Str.ofString "/"
theorem slash_one : slash = one 47 := by decide
/- a name's head, in small letters -/
noncomputable def headOf (nm : List Nat) : Str := (Txt.partition (wd nm) slash).1
noncomputable def low (x : Str) : List Nat := (Txt.lower x).cps.toList
theorem low_wd (x : Str) : Txt.lower x = wd (low x) := by apply Str.ext'; simp [low]

theorem split_head (x : Str) : ∃ r, Txt.split x slash = (Txt.partition x slash).1 :: r := by
  unfold Txt.split
  split
  · rename_i h
    have hx : x.length = 0 := by
      rw [Bool.or_eq_true, decide_eq_true_eq, decide_eq_true_eq] at h
      rcases h with h | h
      · have : slash.length = 1 := by decide
        exact ar101 h this
      · have : PySem.Builtin.Str.strKind slash = 1 := by decide +kernel
        rw [this] at h
        unfold PySem.Builtin.Str.strKind at h
        split at h
        · exact ar102 h
        · split at h <;> omega
    rcases partition_head x slash with ⟨e, _⟩ | ⟨i, _, ⟨hi, _⟩, _⟩
    · exact ⟨[], by rw [e]⟩
    · have : slash.length = 1 := by decide
      exact ar103 hx hi this
  · split
    · rename_i h1 h2
      rcases partition_head x slash with ⟨e, _⟩ | ⟨i, _, hi, _⟩
      · exact ⟨[], by rw [e]⟩
      · rcases occ_head x slash (x.length + 1) (by exact ar104) with ⟨_, hn⟩ | ⟨j, r, e, _⟩
        · exact absurd hi (hn i)
        · rw [e] at h2; cases h2
    · rename_i h1 h2
      rcases occ_head x slash (x.length + 1) (by exact ar104) with ⟨e, hn⟩ | ⟨j, r, e, hj, hjn⟩
      · rw [e] at h2; exact absurd rfl h2
      · rcases partition_head x slash with ⟨_, hn⟩ | ⟨i, ei, hi, hin⟩
        · exact absurd hj (hn j)
        · have : i = j := by
            rcases Nat.lt_trichotomy i j with q | q | q
            · exact absurd hi (hjn i q)
            · exact q
            · exact absurd hj (hin j q)
          subst this
          rw [e, ei]
          exact ⟨_, rfl⟩

/- y occurs in x -/
noncomputable def occurs (as hs : List Nat) : Bool := (List.range (hs.length + 1)).any fun k => decide ((hs.drop k).take as.length = as)
theorem in_occurs (hs as : List Nat) : (!(occurrences (wd hs) (wd as) 0 (wd hs).length 1).isEmpty) = occurs as hs := by
  have key : ∀ i, At (wd hs) (wd as) (wd hs).length i ↔ i ≤ hs.length ∧ (hs.drop i).take as.length = as := by
    intro i
    unfold At subAt
    rw [wd_len, wd_len]
    have e : ((wd hs).cps.extract i (i + as.length) == (wd as).cps) = true ↔ (hs.drop i).take as.length = as := by
      rw [beq_iff_eq]
      simp [List.extract_eq_take_drop]
    rw [e]
    constructor
    · rintro ⟨a, b⟩; exact ⟨by exact ar105 a, b⟩
    · rintro ⟨a, b⟩
      refine ⟨?_, b⟩
      have := congrArg List.length b
      simp at this
      exact ar106 a this
  rw [Bool.eq_iff_iff]
  unfold occurs
  simp only [List.any_eq_true, List.mem_range, decide_eq_true_eq, Bool.not_eq_true']
  rcases occ_head (wd hs) (wd as) 1 (Nat.le_refl 1) with ⟨e, hn⟩ | ⟨j, r, e, hj, hjn⟩
  · rw [e]
    constructor
    · intro h; cases h
    · rintro ⟨k, hk, h⟩
      exact absurd ((key k).mpr ⟨by exact ar107 hk, h⟩) (hn k)
  · rw [e]
    refine ⟨fun _ => ?_, fun _ => rfl⟩
    obtain ⟨a, b⟩ := (key j).mp hj
    exact ⟨j, by exact ar108 a, b⟩
end Mine

end
section -- M22
open PySem PySem.W PyProof.Rows PySem.Calls PySem.Builtin PySem.Builtin.ObjectAttr PySem.Builtin.Str PySem.StrLaws
set_option maxRecDepth 100000
set_option linter.unusedVariables false
namespace Mine
theorem k_c48 (P : Params) : codeIn (hd.heap_39 P) (.ref 48) (Str.ofString "Entry.applies_to") = true := by kernel_rfl
/- does an agent name the head -/
noncomputable def named (nm : List Nat) (a : List Nat) : Bool := decide (a ≠ [42]) && occurs (low (wd a)) (low (headOf nm))
theorem head_le (nm : List Nat) : (headOf nm).length ≤ nm.length := by
  unfold headOf
  rcases partition_head (wd nm) slash with ⟨e, _⟩ | ⟨i, e, _⟩
  · rw [e, wd_len]; exact Nat.le_refl _
  · rw [e]; have := len_strSub (wd nm) 0 i; rw [wd_len] at this; exact this
section
variable {w : World} {mean : ExcName → Option Value} {mg mb : Str → Option Value} {A : Around} {E : Value → Shared → Prop} {s : Shared} {R : Result → Shared → Prop} {h₀ : Heap}

theorem ent_applies {n B en de ua rl : Nat} (k : OkA A (n + 2)) (G : Gd w mean mg mb h₀) (K0 : Kp h₀ s.heap) {agents : List (List Nat)} {rules : List (List Nat × Bool)} {nm : List Nat} {tn : Tok} (x : EntAt B s.heap en de ua rl agents rules) (hz : nm.length < 2 ^ 18) (hz2 : ∀ r ∈ agents, r.length < 2 ^ 18)
    (h : ∀ h' tk, Kp s.heap h' → R (.ok (.ret (.bool (agents.any (named nm))))) { s with heap := h', toks := tk }) :
    codeAny (model PR w) A (.call (.ref 49) ⟨[.ref en, .str (wd nm) tn], []⟩) R s := by
  have GS := G.keeps K0
  refine callF (n := n + 1) (binds := [(Str.ofString "self", .ref en), (Str.ofString "useragent", .str (wd nm) tn)]) k (GS.X _ _ (by rfl)) GS.lim (codeRec_of GS.X (k_c48 _)) rfl (by decide) rfl ?_
  intro L h₁ tk hL hns kp ok
  have L1 : L < h₁.objs.size := by obtain ⟨o, _, _, e, _⟩ := hns; exact ltS e
  refine wpAny_execs_cons (wpAny_If (wpAny_isTrue_Compare1 ?_))
  refine wpAny_Name (wpAny_loadName_local rfl rfl hns rfl ?_) (by decide)
  refine Constant_none (wpAny_is_other rfl (by intro q; cases q) (wpAny_truthy_bool ?_))
  rw [if_neg (by decide)]
  refine wpAny_execs_nil (wpAny_execs_cons (wpAny_Assign_Name (MethodCall_ ?_)))
  refine Subscript_ (MethodCall_ ?_)
  refine wpAny_Name (wpAny_loadName_local rfl rfl hns rfl ?_) (by decide)
  refine GM.split ?_
  refine callWith_method1 (args_cons (wpAny_Constant_str (args_nil ?_)))
  refine SCH.split1 (P := Kp h₁) (fun h ob k => k.trans (Kp.push _ _)) (Kp.refl _) (by decide) ?_ (by rw [wd_len, sizeLine_eq]; exact ar109 hz) (by
    rw [len_partsBetween]
    have := occ_length_le (wd nm) (Str.ofString "/") 0 (wd nm).length ((wd nm).length + 1)
    rw [wd_len] at this ⊢
    rw [sizeLine_eq]; exact ar110 hz this)
  intro D l h2 tk2 hl K2 hD
  dsimp only
  refine wpAny_Constant_int ?_
  obtain ⟨r, hr⟩ := split_head (wd nm)
  rw [hr] at hl
  cases l with
  | nil => cases hl
  | cons p l =>
    have hp : p.1 = headOf nm := (List.cons.inj hl).1
    refine kba_turn (value' := PySem.Expr.Name (PySem.Str.ofString "_") ⟨0, 0, 0, 0⟩) (fun _ => rfl) ?_
    refine item_listL (x := .str p.1 p.2) hD (by decide) (by decide) rfl ?_
    rw [hp]
    refine GM.lower ?_
    refine callWith_method0 ?_
    refine SCL.lower (by have := head_le nm; exact ar111 hz this) fun hlow => ?_
    rw [low_wd]
    dsimp only
    refine wpAny_storeName_local rfl (hns.keeps K2) (fun h3 hn3 sb3 => ?_)
    dsimp only
    have K3 : Kp s.heap h3 := fun b o e => kp_same sb3 _ _ (by have := ltS e; exact as1 hL this) (K2 _ _ (kp _ _ e))
    have L3 : L < h3.objs.size := by obtain ⟨o, _, _, e, _⟩ := hn3; exact ltS e
    have x3 := x.kp K3
    obtain ⟨m, I, m1, m2, m4, m5⟩ := x3.obj
    obtain ⟨us, hl0, hul, hus⟩ := x.uas
    have hl := hl0.kp K3
    refine wpAny_execs_cons (wpAny_For (Attribute_Name_ ?_))
    refine wpAny_Name (wpAny_loadName_local rfl rfl hn3 rfl ?_) (by decide)
    refine inst_get (GS.keeps K3).X I (e_plain _ _) (e_has _) (e_ua _) m1 rfl fun tk4 => ?_
    obtain ⟨Inv, hI⟩ := opq (α := Nat) (β := Heap) (fun i h => (∃ m', h.Ns L m' ∧ (∃ t, m' (Str.ofString "useragent") = some (.str (wd (low (headOf nm))) t))) ∧ (agents.take i).any (named nm) = false ∧ Kp s.heap h)
    refine floop (s := { s with heap := h3, toks := _ }) ok.hn hl [L] (by simpa using L3) (by
        intro q
        obtain ⟨_, e⟩ := hl0
        have := ltS e
        simp at q; omega) Inv ?_ ?_ ?_ ?_
    · intro i h h' hi' _ kb
      obtain ⟨⟨m', hn, r⟩, hA, kk⟩ := (hI _ _).mp hi'
      exact (hI _ _).mpr ⟨⟨m', ns_kpB hn kb (by exact nlt L3), r⟩, hA, fun b o e => kb _ _ (by have := ltS e; simp; have := ltS (K3 _ _ e); exact ar99 this) (kk _ _ e)⟩
    · exact (hI _ _).mpr ⟨⟨_, hn3, ⟨_, rfl⟩⟩, by simp, K3⟩
    · intro i v h5 tk5 E' hv hi5 kb5
      obtain ⟨⟨m', hn5, tu, f1⟩, hA, K5⟩ := (hI _ _).mp hi5
      have hi : i < agents.length := by rw [← hul]; exact (List.getElem?_eq_some_iff.mp hv).1
      obtain ⟨t, ht⟩ := hus i agents[i] (by simp [hi])
      rw [hv] at ht; cases ht
      have hza : agents[i].length < 2 ^ 18 := hz2 _ (List.getElem_mem hi)
      have hnext : ∀ b, named nm agents[i] = b → (agents.take (i + 1)).any (named nm) = b := by
        intro b hb
        rw [List.take_add_one, List.any_append, hA, List.getElem?_eq_getElem hi]
        rw [Option.toList_some, List.any_cons, List.any_nil, hb, Bool.false_or, Bool.or_false]
      refine wpAny_assign_Name (wpAny_storeName_local rfl hn5 (fun h6 hn6 sb6 => ?_))
      dsimp only
      have k6 := kp_same sb6
      have K6 : Kp s.heap h6 := fun b o e => k6 _ _ (by have := ltS e; exact as1 hL this) (K5 _ _ e)
      refine wpAny_execs_cons (wpAny_If (wpAny_isTrue_Compare1 ?_))
      refine wpAny_Name (wpAny_loadName_local rfl rfl hn6 rfl ?_) (by decide)
      refine wpAny_Constant_str (PyProof.Rows.ne_str (wpAny_truthy_bool ?_))
      have hstar : (wd agents[i] != Str.ofString "*") = decide (agents[i] ≠ [42]) := by
        have e : Str.ofString "*" = wd [42] := by decide
        rw [e, bne, wd_beq]; simp
      rw [hstar]
      by_cases q : agents[i] = [42]
      · rw [if_neg (by simp [q])]
        refine wpAny_execs_nil (wpAny_execs_nil ⟨h6, _, rfl, (hI _ _).mpr ⟨⟨_, hn6, tu, (if_neg (by decide)).trans f1⟩, hnext false (by simp [named, q]), K6⟩, k6⟩)
      · rw [if_pos (by simp [q])]
        refine wpAny_execs_cons (wpAny_Assign_Name (MethodCall_ ?_))
        refine wpAny_Name (wpAny_loadName_local rfl rfl hn6 rfl ?_) (by decide)
        refine GM.lower ?_
        refine callWith_method0 ?_
        refine SCL.lower (by rw [wd_len]; exact ar112 hi hza) fun hlow => ?_
        rw [low_wd]
        dsimp only
        refine wpAny_storeName_local rfl hn6 (fun h7 hn7 sb7 => ?_)
        dsimp only
        have k7 := kp_same sb7
        have K7 : Kp s.heap h7 := fun b o e => k7 _ _ (by have := ltS e; exact as1 hL this) (K6 _ _ e)
        refine wpAny_execs_cons (wpAny_If (wpAny_isTrue_Compare1 ?_))
        refine wpAny_Name (wpAny_loadName_local rfl rfl hn7 rfl ?_) (by decide)
        refine wpAny_Name (wpAny_loadName_local rfl rfl hn7 ((if_neg (by decide)).trans ((if_neg (by decide)).trans f1)) ?_) (by decide)
        refine PyProof.Rows.in_str (wpAny_truthy_bool ?_)
        rw [in_occurs]
        cases q2 : occurs (low (wd agents[i])) (low (headOf nm)) with
        | true =>
          rw [if_pos rfl]
          refine wpAny_execs_cons (wpAny_Return_some (Constant_bool ?_))
          dsimp only
          have : agents.any (named nm) = true := List.any_eq_true.mpr ⟨agents[i], List.getElem_mem hi, by simp [named, q, q2]⟩
          rw [← this]
          exact h _ _ K7
        | false =>
          rw [if_neg (by decide)]
          repeat refine wpAny_execs_nil ?_
          exact ⟨h7, _, rfl, (hI _ _).mpr ⟨⟨_, hn7, tu, (if_neg (by decide)).trans ((if_neg (by decide)).trans f1)⟩, hnext false (by simp [named, q2]), K7⟩, k6.trans k7⟩
    · intro h5 tk5 hi5 kb5
      obtain ⟨⟨m', hn5, tu, f1⟩, hA, K5⟩ := (hI _ _).mp hi5
      refine wpAny_execs_cons (wpAny_Return_some (Constant_bool ?_))
      dsimp only
      rw [hul, List.take_length] at hA
      rw [← hA]
      exact h _ _ K5
end
end Mine

end
section -- M23
open PySem PySem.W PyProof.Rows PySem.Calls PySem.Builtin PySem.Builtin.ObjectAttr PySem.Builtin.Str PySem.StrLaws
set_option maxRecDepth 100000
set_option linter.unusedVariables false
namespace Mine
section
variable {w : World} {mean : ExcName → Option Value} {mg mb : Str → Option Value} {A : Around} {E : Value → Shared → Prop} {s : Shared} {R : Result → Shared → Prop} {h₀ : Heap}
/- texts compared -/
theorem eqAt_str {x y : Str} {t u : Tok} : SeqAt.EqAt A s (.str x t) (.str y u) (x == y) := fun prog w E Q hq => eqBool_str (by
  have : (y == x) = (x == y) := by
    rw [Bool.eq_iff_iff, beq_iff_eq, beq_iff_eq]; exact eq_comm
  first | exact hq | (rw [this]; exact hq))

theorem ent_none {n B en de ua rl : Nat} (k : OkA A (n + 2)) (G : Gd w mean mg mb h₀) (K0 : Kp h₀ s.heap) {agents : List (List Nat)} {rules : List (List Nat × Bool)} (x : EntAt B s.heap en de ua rl agents rules)
    (h : ∀ h' tk, Kp s.heap h' → R (.ok (.ret (.bool (decide ([42] ∈ agents))))) { s with heap := h', toks := tk }) :
    codeAny (model PR w) A (.call (.ref 49) ⟨[.ref en, .none], []⟩) R s := by
  have GS := G.keeps K0
  refine callF (n := n + 1) (binds := [(Str.ofString "self", .ref en), (Str.ofString "useragent", .none)]) k (GS.X _ _ (by rfl)) GS.lim (codeRec_of GS.X (k_c48 _)) rfl (by decide) rfl ?_
  intro L h₁ tk hL hns kp ok
  refine wpAny_execs_cons (wpAny_If (wpAny_isTrue_Compare1 ?_))
  refine wpAny_Name (wpAny_loadName_local rfl rfl hns rfl ?_) (by decide)
  refine Constant_none (wpAny_is_self rfl (wpAny_truthy_bool ?_))
  rw [if_pos rfl]
  refine wpAny_execs_cons (wpAny_Return_some (wpAny_Compare1 (wpAny_Constant_str (Attribute_Name_ ?_))))
  refine wpAny_Name (wpAny_loadName_local rfl rfl hns rfl ?_) (by decide)
  have x1 := x.kp kp
  obtain ⟨m, I, m1, m2, m4, m5⟩ := x1.obj
  obtain ⟨us, hl, hul, hus⟩ := x1.uas
  refine inst_get (GS.keeps kp).X I (e_plain _ _) (e_has _) (e_ua _) m1 rfl fun tk4 => ?_
  refine SeqAt.in_listAt (fun v => match v with | .str x _ => x == wd [42] | _ => false) hl.is (fun y hy => ?_) ?_
  · obtain ⟨i, hi, rfl⟩ := List.getElem_of_mem (List.mem_toArray.mp hy)
    obtain ⟨t, ht⟩ := hus i agents[i] (by rw [List.getElem?_eq_getElem (by exact ar113 hul hi)])
    rw [List.getElem?_eq_getElem hi] at ht
    have ht := Option.some.inj ht
    rw [ht]
    have e : Str.ofString "*" = wd [42] := by decide
    rw [e]
    exact eqAt_str
  · dsimp only
    have e : (us.toArray.any fun v => match v with | .str x _ => x == wd [42] | _ => false) = decide ([42] ∈ agents) := by
      rw [List.any_toArray, Bool.eq_iff_iff, List.any_eq_true, decide_eq_true_eq]
      constructor
      · rintro ⟨v, hv, hb⟩
        obtain ⟨i, hi, rfl⟩ := List.getElem_of_mem hv
        obtain ⟨t, ht⟩ := hus i agents[i] (by rw [List.getElem?_eq_getElem (by exact ar113 hul hi)])
        rw [List.getElem?_eq_getElem hi] at ht
        have ht := Option.some.inj ht
        rw [ht] at hb
        dsimp only at hb
        rw [wd_beq, decide_eq_true_eq] at hb
        rw [← hb]
        exact List.getElem_mem _
      · intro hm
        obtain ⟨i, hi, hi2⟩ := List.getElem_of_mem hm
        obtain ⟨t, ht⟩ := hus i [42] (by rw [List.getElem?_eq_getElem hi, hi2])
        exact ⟨_, List.mem_of_getElem? ht, by dsimp only; rw [wd_beq]; decide⟩
    rw [e]
    exact h _ _ kp
end
end Mine

end
section -- M24
open PySem PySem.W PyProof.Rows PySem.Calls PySem.Builtin PySem.Builtin.ObjectAttr PySem.Builtin.Str PySem.StrLaws
set_option maxRecDepth 100000
set_option linter.unusedVariables false
namespace Mine
theorem OkA.ty {A : Around} {n : Nat} {args : Args} (k : OkA A (n + 1)) (h1 : (Code.builtin "type.__call__" args).weight = 1) (h2 : (Code.builtin "type.__call__" args).cUnits = 1) : OkA (A.under (.builtin "type.__call__" args)) n := by
  refine ⟨k.hn, ?_, ?_⟩
  · have := k.dp; show A.depth + (Code.builtin "type.__call__" args).weight + n ≤ 900; exact ar114 h1 this
  · have := k.un; show A.units + (Code.builtin "type.__call__" args).cUnits + 10 * n ≤ 9000; exact ar115 h2 this
section
variable {w : World} {mean : ExcName → Option Value} {mg mb : Str → Option Value} {A : Around} {E : Value → Shared → Prop} {s : Shared} {R : Result → Shared → Prop} {h₀ : Heap}

/- a thing is made -/
theorem mkInst {K : Frag} {C fI : Nat} {rest : List Value} (X : K.In s.heap) (hm : makesIn K C = true) (hi : findIn K (.ref C) "__init__" = some (some (.ref fI))) (hf : typeIn K (.ref fI) = some (.type "function"))
    (h : ∀ x dx h', dx = s.heap.objs.size → x = dx + 1 → InstN h' x C dx (fun _ => none) → Kp s.heap h' →
      codeAny (model PR w) (A.under (.builtin "type.__call__" ⟨.ref C :: rest, []⟩)) (.call (.ref fI) ⟨.ref x :: rest, []⟩) (InitBack x R) { s with heap := h' }) :
    codeAny (model PR w) A (.call (.ref C) ⟨rest, []⟩) R s := by
  obtain ⟨hh, g, d, t, os⟩ := s
  refine make_core (makes_of X hm) (looks_findIn X hi) (fun self => bind_fn X self hf) (.inl rfl) ?_
  refine h (hh.objs.size + 1) hh.objs.size _ rfl rfl ⟨?_, ?_⟩ ((Kp.push _ _).trans (Kp.push _ _))
  · have := Heap.get?_push_size (hh.push emptyDict) (o := instObj C hh.objs.size) rfl
    rwa [Heap.size_push] at this
  · refine Heap.Ns1.of_empty ⟨_, #[], _, Heap.get?_push_of_some _ (Heap.get?_push_size _ rfl), rfl, fun e he => absurd he (by simp), fun _ => rfl⟩
end
theorem l_makes (P : Params) : makesIn (hd.heap_39 P) 101 = true := by kernel_rfl
theorem l_init (P : Params) : findIn (hd.heap_39 P) (.ref 101) "__init__" = some (some (.ref 77)) := by kernel_rfl
theorem l_ty (P : Params) : typeIn (hd.heap_39 P) (.ref 77) = some (.type "function") := by kernel_rfl
theorem k_c76 (P : Params) : codeIn (hd.heap_39 P) (.ref 76) (Str.ofString "_netrclex.__init__") = true := by kernel_rfl
theorem k_tinstream (P : Params) : takerIn (hd.heap_39 P) 101 (Str.ofString "instream") = some none := by kernel_rfl
theorem k_twhite (P : Params) : takerIn (hd.heap_39 P) 101 (Str.ofString "whitespace") = some none := by kernel_rfl
theorem k_tpb (P : Params) : takerIn (hd.heap_39 P) 101 (Str.ofString "pushback") = some none := by kernel_rfl
theorem n_makes (P : Params) : makesIn (hd.heap_39 P) 59 = true := by kernel_rfl
theorem n_init (P : Params) : findIn (hd.heap_39 P) (.ref 59) "__init__" = some (some (.ref 35)) := by kernel_rfl
theorem n_ty (P : Params) : typeIn (hd.heap_39 P) (.ref 35) = some (.type "function") := by kernel_rfl
theorem k_c34 (P : Params) : codeIn (hd.heap_39 P) (.ref 34) (Str.ofString "Entry.__init__") = true := by kernel_rfl
theorem n_sa (P : Params) : findIn (hd.heap_39 P) (.ref 59) "__setattr__" = some (some (.builtin "object.__setattr__")) := by kernel_rfl
theorem n_over (P : Params) : plainOver (hd.heap_39 P) 59 = true := by kernel_rfl
theorem n_t1 (P : Params) : takerIn (hd.heap_39 P) 59 (Str.ofString "useragents") = some none := by kernel_rfl
theorem n_t2 (P : Params) : takerIn (hd.heap_39 P) 59 (Str.ofString "rulelines") = some none := by kernel_rfl
theorem n_t3 (P : Params) : takerIn (hd.heap_39 P) 59 (Str.ofString "delay") = some none := by kernel_rfl
theorem n_t4 (P : Params) : takerIn (hd.heap_39 P) 59 (Str.ofString "req_rate") = some none := by kernel_rfl

section
variable {w : World} {mean : ExcName → Option Value} {mg mb : Str → Option Value} {A : Around} {E : Value → Shared → Prop} {s : Shared} {R : Result → Shared → Prop} {h₀ : Heap}
/- [] -/
theorem newL {env : Env} {p : Pos} {Q : Value → Shared → Prop} (h : ∀ l h' tk, l = s.heap.objs.size → LAt h' l [] → Kp s.heap h' → Q (.ref l) { s with heap := h', toks := tk }) : wpAny (model PR w) A (PySem.eval (.List [] p) env) Q E s := by
  refine wpAny_List (args_nil ⟨by decide, ?_⟩)
  exact h _ _ _ rfl ⟨0, Heap.get?_push_size _ rfl⟩ (Kp.push _ _)

theorem lex_new {n st : Nat} (k : OkA A (n + 2)) (G : Gd w mean mg mb h₀) (K0 : Kp h₀ s.heap)
    (h : ∀ lx dx pb h' tk m t tw, s.heap.objs.size ≤ lx → s.heap.objs.size ≤ dx → s.heap.objs.size ≤ pb → InstN h' lx 101 dx m → m (Str.ofString "lineno") = some (.int 1 t) → m (Str.ofString "instream") = some (.ref st) → m (Str.ofString "whitespace") = some (.str (Str.ofString "\n\t\r ") tw) →
      m (Str.ofString "pushback") = some (.ref pb) → m (Str.ofString "_read_char") = none → m (Str.ofString "get_token") = none → Within m [Str.ofString "lineno", Str.ofString "instream", Str.ofString "whitespace", Str.ofString "pushback"] → LAt h' pb [] → Kp s.heap h' →
      R (.ok (.ret (.ref lx))) { s with heap := h', toks := tk }) :
    codeAny (model PR w) A (.call (.ref 101) ⟨[.ref st], []⟩) R s := by
  have GS := G.keeps K0
  refine mkInst GS.X (l_makes _) (l_init _) (l_ty _) fun x dx h1 hdx hx I1 K1 => ?_
  have G1 := GS.keeps K1
  refine callF (s := { s with heap := h1 }) (n := n) (binds := [(Str.ofString "self", .ref x), (Str.ofString "fp", .ref st)]) (k.ty (by kernel_rfl) (by kernel_rfl)) (G1.X _ _ (by rfl)) G1.lim (codeRec_of G1.X (k_c76 _)) rfl (by decide) rfl ?_
  intro L h2 tk hL hns kp ok
  dsimp only at hL kp ⊢
  have hxL : x < L ∧ dx < L := by have := ltS I1.at_; exact ar116 hdx hx hL this
  have I2 := I1.kp kp
  have K2 : Kp s.heap h2 := K1.trans kp
  have L2 : L < h2.objs.size := by obtain ⟨o, _, _, e, _⟩ := hns; exact ltS e
  have fr : ∀ (b : Nat) (o : Obj), s.heap.get? b = some o → b ≠ dx := fun b o e => by have := ltS e; exact ar117 hdx hx this
  refine wpAny_execs_cons (plainObj_wpAny_Assign_Attribute (wpAny_Constant_int ?_))
  refine wpAny_Name (wpAny_loadName_local rfl rfl hns rfl ?_) (by decide)
  refine inst_set (G1.keeps kp).X I2 (k_sa _) (k_over _) (k_tlineno _) (k_has _) Within.nil (by decide) fun h3 tk3 I3 k3 => ?_
  dsimp only at k3 ⊢
  have K3 : Kp s.heap h3 := fun b o e => k3 _ _ (by simpa using fr b o e) (K2 _ _ e)
  have hn3 := ns_kpB hns k3 (by exact ar118 hdx hx hL hxL)
  refine wpAny_execs_cons (plainObj_wpAny_Assign_Attribute ?_)
  refine wpAny_Name (wpAny_loadName_local rfl rfl hn3 rfl ?_) (by decide)
  refine wpAny_Name (wpAny_loadName_local rfl rfl hn3 rfl ?_) (by decide)
  refine inst_set (GS.keeps K3).X I3 (k_sa _) (k_over _) (k_tinstream _) (k_has _) (Within.cons _ _ Within.nil) (by decide) fun h4 tk4 I4 k4 => ?_
  dsimp only at k4 ⊢
  have K4 : Kp s.heap h4 := fun b o e => k4 _ _ (by simpa using fr b o e) (K3 _ _ e)
  have hn4 := ns_kpB hn3 k4 (by exact ar118 hdx hx hL hxL)
  refine wpAny_execs_cons (plainObj_wpAny_Assign_Attribute (wpAny_Constant_str ?_))
  refine wpAny_Name (wpAny_loadName_local rfl rfl hn4 rfl ?_) (by decide)
  refine inst_set (GS.keeps K4).X I4 (k_sa _) (k_over _) (k_twhite _) (k_has _) (Within.cons _ _ (Within.cons _ _ Within.nil)) (by decide) fun h5 tk5 I5 k5 => ?_
  dsimp only at k5 ⊢
  have K5 : Kp s.heap h5 := fun b o e => k5 _ _ (by simpa using fr b o e) (K4 _ _ e)
  have hn5 := ns_kpB hn4 k5 (by exact ar118 hdx hx hL hxL)
  have L5 : L < h5.objs.size := by obtain ⟨o, _, _, e, _⟩ := hn5; exact ltS e
  refine wpAny_execs_cons (plainObj_wpAny_Assign_Attribute (newL fun pb h6 tk6 hpb l6 k6 => ?_))
  dsimp only at hpb k6 ⊢
  have K6 := K5.trans k6
  refine wpAny_Name (wpAny_loadName_local rfl rfl (hn5.keeps k6) rfl ?_) (by decide)
  refine inst_set (GS.keeps K6).X (I5.kp k6) (k_sa _) (k_over _) (k_tpb _) (k_has _) (Within.cons _ _ (Within.cons _ _ (Within.cons _ _ Within.nil))) (by decide) fun h7 tk7 I7 k7 => ?_
  dsimp only at k7 ⊢
  have K7 : Kp s.heap h7 := fun b o e => k7 _ _ (by simpa using fr b o e) (K6 _ _ e)
  refine wpAny_execs_nil ?_
  refine ⟨rfl, ?_⟩
  refine h x dx pb h7 _ _ _ _ (by exact ar119 hdx hx) (by exact ar30 hdx) (by exact ar120 hdx hx hL hxL L5 hpb) I7 rfl rfl rfl rfl rfl rfl ?_ (l6.kpB k7 (by exact ar121 hdx hx hL hxL L5 hpb)) K7
  intro y hy
  by_cases q1 : y = Str.ofString "pushback"
  · rw [q1]; decide
  · by_cases q2 : y = Str.ofString "whitespace"
    · rw [q2]; decide
    · by_cases q3 : y = Str.ofString "instream"
      · rw [q3]; decide
      · by_cases q4 : y = Str.ofString "lineno"
        · rw [q4]; decide
        · simp only [q1, q2, q3, q4, if_false] at hy
          exact absurd hy (by simp)

theorem ent_new {n B : Nat} (k : OkA A (n + 2)) (G : Gd w mean mg mb h₀) (K0 : Kp h₀ s.heap)
    (h : ∀ en de ua rl h' tk, s.heap.objs.size ≤ en → s.heap.objs.size ≤ de → s.heap.objs.size ≤ ua → s.heap.objs.size ≤ rl → ua ≠ rl → EntAt B h' en de ua rl [] [] → Kp s.heap h' → R (.ok (.ret (.ref en))) { s with heap := h', toks := tk }) :
    codeAny (model PR w) A (.call (.ref 59) ⟨[], []⟩) R s := by
  have GS := G.keeps K0
  refine mkInst GS.X (n_makes _) (n_init _) (n_ty _) fun x dx h1 hdx hx I1 K1 => ?_
  have G1 := GS.keeps K1
  refine callF (s := { s with heap := h1 }) (n := n) (binds := [(Str.ofString "self", .ref x)]) (k.ty (by kernel_rfl) (by kernel_rfl)) (G1.X _ _ (by rfl)) G1.lim (codeRec_of G1.X (k_c34 _)) rfl (by decide) rfl ?_
  intro L h2 tk hL hns kp ok
  dsimp only at hL kp ⊢
  have hxL : x < L ∧ dx < L := by have := ltS I1.at_; exact ar116 hdx hx hL this
  have I2 := I1.kp kp
  have K2 : Kp s.heap h2 := K1.trans kp
  have L2 : L < h2.objs.size := by obtain ⟨o, _, _, e, _⟩ := hns; exact ltS e
  have fr : ∀ (b : Nat) (o : Obj), s.heap.get? b = some o → b ≠ dx := fun b o e => by have := ltS e; exact ar117 hdx hx this
  refine wpAny_execs_cons (plainObj_wpAny_Assign_Attribute (newL fun ua h3 tk3 hua l3 k3 => ?_))
  dsimp only at hua k3 ⊢
  have K3 := K2.trans k3
  refine wpAny_Name (wpAny_loadName_local rfl rfl (hns.keeps k3) rfl ?_) (by decide)
  refine inst_set (GS.keeps K3).X (I2.kp k3) (n_sa _) (n_over _) (n_t1 _) (e_has _) Within.nil (by decide) fun h4 tk4 I4 k4 => ?_
  dsimp only at k4 ⊢
  have K4 : Kp s.heap h4 := fun b o e => k4 _ _ (by simpa using fr b o e) (K3 _ _ e)
  have hn4 := ns_kpB (hns.keeps k3) k4 (by exact ar118 hdx hx hL hxL)
  have l4 := l3.kpB k4 (by exact ar121 hdx hx hL hxL L2 hua)
  have hu4 : ua < h4.objs.size := by obtain ⟨_, e⟩ := l4; exact ltS e
  refine wpAny_execs_cons (plainObj_wpAny_Assign_Attribute (newL fun rl h5 tk5 hrl l5 k5 => ?_))
  dsimp only at hrl k5 ⊢
  have K5 := K4.trans k5
  refine wpAny_Name (wpAny_loadName_local rfl rfl (hn4.keeps k5) rfl ?_) (by decide)
  refine inst_set (GS.keeps K5).X (I4.kp k5) (n_sa _) (n_over _) (n_t2 _) (e_has _) (Within.cons _ _ Within.nil) (by decide) fun h6 tk6 I6 k6 => ?_
  dsimp only at k6 ⊢
  have K6 : Kp s.heap h6 := fun b o e => k6 _ _ (by simpa using fr b o e) (K5 _ _ e)
  have hn6 := ns_kpB (hn4.keeps k5) k6 (by exact ar118 hdx hx hL hxL)
  refine wpAny_execs_cons (plainObj_wpAny_Assign_Attribute (Constant_none ?_))
  refine wpAny_Name (wpAny_loadName_local rfl rfl hn6 rfl ?_) (by decide)
  refine inst_set (GS.keeps K6).X I6 (n_sa _) (n_over _) (n_t3 _) (e_has _) (Within.cons _ _ (Within.cons _ _ Within.nil)) (by decide) fun h7 tk7 I7 k7 => ?_
  dsimp only at k7 ⊢
  have K7 : Kp s.heap h7 := fun b o e => k7 _ _ (by simpa using fr b o e) (K6 _ _ e)
  have hn7 := ns_kpB hn6 k7 (by exact ar118 hdx hx hL hxL)
  refine wpAny_execs_cons (plainObj_wpAny_Assign_Attribute (Constant_none ?_))
  refine wpAny_Name (wpAny_loadName_local rfl rfl hn7 rfl ?_) (by decide)
  refine inst_set (GS.keeps K7).X I7 (n_sa _) (n_over _) (n_t4 _) (e_has _) (Within.cons _ _ (Within.cons _ _ (Within.cons _ _ Within.nil))) (by decide) fun h8 tk8 I8 k8 => ?_
  dsimp only at k8 ⊢
  have K8 : Kp s.heap h8 := fun b o e => k8 _ _ (by simpa using fr b o e) (K7 _ _ e)
  refine wpAny_execs_nil ⟨rfl, h x dx ua rl h8 _ (by exact ar119 hdx hx) (by exact ar30 hdx) (by exact ar120 hdx hx hL hxL L2 hua) (by exact ar122 hdx hx hL hxL L2 hua hu4 hrl) (by exact ar123 hu4 hrl) ⟨⟨_, I8, rfl, rfl, rfl, rfl⟩, ⟨[], ?_, rfl, by simp⟩, [], ?_, trivial⟩ K8⟩
  · exact (((l4.kp k5).kpB k6 (by exact ar121 hdx hx hL hxL L2 hua)).kpB k7 (by exact ar121 hdx hx hL hxL L2 hua)).kpB k8 (by exact ar121 hdx hx hL hxL L2 hua)
  · exact ((l5.kpB k6 (by exact ar124 hdx hx hL hxL L2 hua hu4 hrl)).kpB k7 (by exact ar124 hdx hx hL hxL L2 hua hu4 hrl)).kpB k8 (by exact ar124 hdx hx hL hxL L2 hua hu4 hrl)
end
end Mine

end
section -- M25
open PySem PySem.W PyProof.Rows PySem.Calls PySem.Builtin PySem.Builtin.ObjectAttr PySem.Builtin.Str PySem.StrLaws
set_option maxRecDepth 100000
set_option linter.unusedVariables false
namespace Mine
noncomputable abbrev kAllow : List Nat := [97, 108, 108, 111, 119]
noncomputable abbrev kAgent : List Nat := [97, 103, 101, 110, 116]
theorem lit_allow : Str.ofString "allow" = wd kAllow := by decide
theorem lit_agent : Str.ofString "agent" = wd kAgent := by decide
noncomputable abbrev Rows := List (List Nat × List Nat)
/- the pages that the lexer takes apart -/
inductive Pg : Rows → List Nat → Prop
  | nil (pre : List Nat) : (∀ c ∈ pre, ws c = true) → Pg [] pre
  | cons (pre body kd rest pre' body' word rest' : List Nat) (rows : Rows) : (∀ c ∈ pre, ws c = true) → Tkn body kd rest → kd ≠ [] → rest = pre' ++ body' → (∀ c ∈ pre', ws c = true) → Tkn body' word rest' → Pg rows rest' → Pg ((kd, word) :: rows) (pre ++ body)
noncomputable def agentsOf (rows : Rows) : List (List Nat) := rows.filterMap fun p => if p.1 = kAgent then some p.2 else none
noncomputable def rulesOf (rows : Rows) : List (List Nat × Bool) := rows.filterMap fun p => if p.1 = kAgent then none else some (p.2, decide (p.1 = kAllow))

/- the rows of a list -/
noncomputable def TupsAt (B : Nat) (h : Heap) : List Value → Rows → Prop := All2 fun v r => ∃ (T : Nat) (t u : Tok), v = .ref T ∧ h.IsTuple T #[.str (wd r.1) t, .str (wd r.2) u] ∧ B ≤ T
theorem tup_kpB {h h' : Heap} {W : List Nat} {T : Nat} {xs : Array Value} (x : h.IsTuple T xs) (k : KpB W h h') (hn : T ∉ W) : h'.IsTuple T xs := x.imp fun _ => And.imp_left (k _ _ hn)
theorem TupsAt.kpB {B : Nat} {h h' : Heap} {W : List Nat} (k : KpB W h h') (hW : ∀ y ∈ W, y < B) {vs : List Value} {rs : Rows} (x : TupsAt B h vs rs) : TupsAt B h' vs rs := All2.imp (fun _ _ => Exists.imp fun _ => Exists.imp fun _ => Exists.imp fun _ => And.imp_right fun z => ⟨tup_kpB z.1 k fun q => Nat.not_lt.mpr z.2 (hW _ q), z.2⟩) x
theorem TupsAt.len {B : Nat} {h : Heap} {vs : List Value} {rs : Rows} (x : TupsAt B h vs rs) : vs.length = rs.length := All2.len x
theorem TupsAt.snoc {B : Nat} {h : Heap} {T : Nat} {r : List Nat × List Nat} {t u : Tok} (z : h.IsTuple T #[.str (wd r.1) t, .str (wd r.2) u]) (hb : B ≤ T) {vs : List Value} {rs : Rows} (x : TupsAt B h vs rs) : TupsAt B h (vs ++ [.ref T]) (rs ++ [r]) := All2.snoc ⟨T, t, u, rfl, z, hb⟩ x
theorem TupsAt.get {B : Nat} {h : Heap} {vs : List Value} {rs : Rows} {i : Nat} {v : Value} (x : TupsAt B h vs rs) (q : vs[i]? = some v) : ∃ (T : Nat) (r : List Nat × List Nat) (t u : Tok), v = .ref T ∧ rs[i]? = some r ∧ h.IsTuple T #[.str (wd r.1) t, .str (wd r.2) u] :=
  (All2.get x q).elim fun r y => y.2.elim fun T y2 => y2.elim fun t y3 => y3.elim fun u z => ⟨T, r, t, u, z.1, y.1, z.2.1⟩

/- the entry, other places turned -/
theorem EntAt.kpB {B : Nat} {h h' : Heap} {W : List Nat} {en de ua rl : Nat} {agents : List (List Nat)} {rules : List (List Nat × Bool)} (x : EntAt B h en de ua rl agents rules) (k : KpB W h h') (hW : ∀ y ∈ W, y < B) (h1 : en ∉ W) (h2 : de ∉ W) (h3 : ua ∉ W) (h4 : rl ∉ W) : EntAt B h' en de ua rl agents rules := by
  obtain ⟨⟨m, I, r⟩, ⟨us, l1, q⟩, vs, l2, y⟩ := x
  exact ⟨⟨m, I.kpB k h1 h2, r⟩, ⟨us, l1.kpB k h3, q⟩, vs, l2.kpB k h4, y.kpB k hW⟩

/- the lexer, other places turned -/
theorem LexAt.kpG {B : Nat} {h h' : Heap} {lx dx pb rd lf : Nat} {ln : Int} {W : List Nat} (x : LexAt B h lx dx pb rd lf ln) (k : KpB W h h')
    (hW : ∀ y ∈ W, B ≤ y ∨ (∃ m, h.Ns y m ∧ m (Str.ofString "lineno") = none ∧ m (Str.ofString "read") = none) ∨ (∃ ps, h.get? y = some (tabObj ps) ∧ TriplesOk ps.toList)) : LexAt B h' lx dx pb rd lf ln := by
  obtain ⟨⟨m, t, tw, st, ds, ms, fd, sl, I, m1, m2, m3, m4, m5, m6, hw, e1, n1, m7, b1, b2, nd⟩, R, P, blx, bdx, bpb, blf, npl⟩ := x
  have key : ∀ (a : Nat) (o : Obj), h.get? a = some o → a < B → Mine.dk o ≠ 2 → Mine.dk o ≠ 5 → a ∉ W := fun a o e hb n1 n2 q => by
    rcases hW a q with hq | ⟨m, ⟨o', es, ep, e', d, _⟩, _⟩ | ⟨ps, e', _⟩
    · exact absurd hb (Nat.not_lt.mpr hq)
    · rw [e] at e'; cases e'; exact n1 (by rw [dk_of d]; rfl)
    · rw [e] at e'; cases e'; exact n2 rfl
  have uniq : ∀ {a : Nat} {m m' : Str → Option Value} (y : Str), h.Ns a m → h.Ns a m' → m y = m' y := by
    intro a m m' y n n'
    obtain ⟨o, es, ep, e, hd, _, f⟩ := n
    obtain ⟨o', es', ep', e', hd', _, f'⟩ := n'
    rw [e] at e'; cases e'; rw [hd] at hd'; cases hd'
    rw [← f y, ← f' y]
  have hdx : dx ∉ W := fun q => by
    rcases hW dx q with hq | ⟨m', n', h1, h2⟩ | ⟨ps, e', _⟩
    · exact absurd bdx (Nat.not_lt.mpr hq)
    · have := uniq (Str.ofString "lineno") I.ns.ns n'; rw [m1, h1] at this; cases this
    · obtain ⟨o, es, ep, e, d, _⟩ := I.ns; rw [e] at e'; cases e'; cases d
  have hds : ds ∉ W := fun q => by
    rcases hW ds q with hq | ⟨m', n', h1, h2⟩ | ⟨ps, e', _⟩
    · exact absurd b2 (Nat.not_lt.mpr hq)
    · have := uniq (Str.ofString "read") n1.ns n'; rw [m7, h2] at this; cases this
    · obtain ⟨o, es, ep, e, d, _⟩ := n1; rw [e] at e'; cases e'; cases d
  obtain ⟨op, ep, dp⟩ := P.dk
  obtain ⟨cl, doc, pm, crd, ctv, ocl, ocr, cvs, ct, f1, ⟨f21, f22, f23⟩, ⟨f3, f4⟩, c1, c2, c3⟩ := R.at_
  have hcr : crd ∉ W := fun q => by
    rcases hW crd q with hq | ⟨m', ⟨o', es, ep, e', d, _⟩, h1, h2⟩ | ⟨ps, e', tr⟩
    · exact absurd c2 (Nat.not_lt.mpr hq)
    · rw [f21] at e'; cases e'; rw [f22] at d; cases d
    · rw [f21] at e'; cases e'
      cases f22
      rw [← Array.getElem?_toList] at f23
      cases hl : cvs.toList with
      | nil => rw [hl] at f23; cases f23
      | cons a r =>
        rw [hl] at f23 tr
        cases r with
        | nil => cases f23
        | cons b r =>
          cases f23
          cases r with
          | nil => cases a <;> exact tr.elim
          | cons => cases a <;> exact tr.elim
  refine ⟨⟨m, t, tw, st, ds, ms, fd, sl, I.kpB k (key _ _ I.at_ blx (show (0 : Nat) ≠ 2 by decide) (show (0 : Nat) ≠ 5 by decide)) hdx, m1, m2, m3, m4, m5, m6, hw, k _ _ (key _ _ e1 b1 (show (4 : Nat) ≠ 2 by decide) (show (4 : Nat) ≠ 5 by decide)) e1, ns1_kpB n1 k hds, m7, b1, b2, nd⟩, ?_, ?_, blx, bdx, bpb, blf, npl⟩
  · refine ⟨cl, doc, pm, crd, ctv, ocl, ocr, cvs, ct, k _ _ (key _ _ f1 c1 (show (4 : Nat) ≠ 2 by decide) (show (4 : Nat) ≠ 5 by decide)) f1, ⟨k _ _ hcr f21, f22, f23⟩, ⟨k _ _ (key _ _ f3 c3 ?_ ?_) f3, f4⟩, c1, c2, c3⟩
    · rw [dk_of f4]; show (3 : Nat) ≠ 2; decide
    · rw [dk_of f4]; show (3 : Nat) ≠ 5; decide
  · exact P.kpB k (key _ _ ep bpb (by exact ar5 dp) (by exact ar125 dp))
end Mine

end
section -- M26
open PySem PySem.W PyProof.Rows PySem.Calls PySem.Builtin PySem.Builtin.ObjectAttr PySem.Builtin.Str PySem.StrLaws
set_option maxRecDepth 100000
set_option linter.unusedVariables false
namespace Mine
noncomputable def rdD : Stmt := PR.main.body[10]!
noncomputable abbrev rdEnv (L : Nat) : Env := envX (Str.ofString "_law_read") (dScope rdD) L 134 (.ref 133) []
noncomputable abbrev wB := dBody
noncomputable abbrev wT := dTest
noncomputable def wS : Stmt := (dBody rdD)[4]!

structure RDk (h₀ : Heap) (B1 B2 L dx lf en de ua rl rw : Nat) : Prop where
  c0 : 130 < L
  a1 : L < dx
  a2 : L < lf
  a3 : dx < B1
  a4 : lf < B1
  a5 : B1 ≤ en
  a6 : B1 ≤ de
  a7 : B1 ≤ ua
  a8 : B1 ≤ rl
  a9 : B1 ≤ rw
  b1 : en < B2
  b2 : de < B2
  b3 : ua < B2
  b4 : rl < B2
  b5 : B2 = rw + 1
  n1 : ua ≠ rl
  n2 : ua ≠ rw
  n3 : rl ≠ rw
  n4 : en ≠ ua ∧ en ≠ rl ∧ en ≠ rw
  n5 : de ≠ ua ∧ de ≠ rl ∧ de ≠ rw
  z1 : h₀.get? dx = none
  z2 : h₀.get? lf = none
  z3 : h₀.get? 122 = none
  z4 : h₀.get? L = none
  z5 : h₀.get? ua = none
  z6 : h₀.get? rl = none
  z7 : h₀.get? rw = none

/- the state of _law_read's loop -/
structure RD (h₀ hs : Heap) (B1 B2 L lx dx pb rd lf en de ua rl rw : Nat) (m : Str → Option Value) (h : Heap) (cs : List Nat) (done : Rows) (ag : List (List Nat)) (ru : List (List Nat × Bool)) (ln : Int) : Prop where
  ns : h.Ns L m
  m1 : m (Str.ofString "lexer") = some (.ref lx)
  m2 : m (Str.ofString "entry") = some (.ref en)
  m3 : m (Str.ofString "rows") = some (.ref rw)
  m5 : m (Str.ofString "lineno") = none
  m6 : m (Str.ofString "read") = none
  lex : LexAt B1 h lx dx pb rd lf ln
  lst : LCh h lf cs
  ent : EntAt B2 h en de ua rl ag ru
  rws : ∃ vs, LAt h rw vs ∧ TupsAt B2 h vs done
  tab : TabAt B2 h
  k0 : Kp h₀ h
  ks : KpB [122] hs h

theorem k_gt (P : Params) : findIn (hd.heap_39 P) (.ref 101) (Str.ofString "get_token") = some (some (.ref 91)) := by kernel_rfl
theorem k_fn91 (P : Params) : isFn (hd.heap_39 P) (.ref 91) = true := by kernel_rfl

section
variable {w : World} {mean : ExcName → Option Value} {mg mb : Str → Option Value} {A : Around} {E : Value → Shared → Prop} {s : Shared} {R : Result → Shared → Prop} {h₀ hs : Heap} {B1 B2 L lx dx pb rd lf en de ua rl rw : Nat} {m : Str → Option Value} {cs : List Nat} {done : Rows} {ag : List (List Nat)} {ru : List (List Nat × Bool)} {ln : Int}

/- a local name is stored -/
theorem RD.store (g : RDk h₀ B1 B2 L dx lf en de ua rl rw) (hL : hs.objs.size ≤ L) (x : RD h₀ hs B1 B2 L lx dx pb rd lf en de ua rl rw m s.heap cs done ag ru ln) {name : Str} {v : Value} {Q : Unit → Shared → Prop} (hk : (rdEnv L).kindOf name = some .local)
    (h1 : name ≠ Str.ofString "lexer" ∧ name ≠ Str.ofString "entry" ∧ name ≠ Str.ofString "rows" ∧ name ≠ Str.ofString "lineno" ∧ name ≠ Str.ofString "read")
    (h : ∀ h' tk, RD h₀ hs B1 B2 L lx dx pb rd lf en de ua rl rw (fun y => if y = name then some v else m y) h' cs done ag ru ln → Q () { s with heap := h', toks := tk }) : wpAny (model PR w) A (storeName (rdEnv L) name v) Q E s := by
  refine wpAny_storeName_local hk x.ns (fun h' hn sb => ?_) rfl
  have k' := kp_same sb
  obtain ⟨vs, l1, t1⟩ := x.rws
  have := g.c0; have := g.a1; have := g.a2; have := g.a3; have := g.a4; have := g.a5; have := g.a6; have := g.a7; have := g.a8; have := g.a9; have := g.b1
  have L2 : L < h'.objs.size := by obtain ⟨o, _, _, e, _⟩ := hn; exact ltS e
  refine h _ _ ⟨hn, (if_neg (Ne.symm h1.1)).trans x.m1, (if_neg (Ne.symm h1.2.1)).trans x.m2, (if_neg (Ne.symm h1.2.2.1)).trans x.m3, (if_neg (Ne.symm h1.2.2.2.1)).trans x.m5, (if_neg (Ne.symm h1.2.2.2.2)).trans x.m6,
    x.lex.kpG k' (by rintro y hy; rw [List.mem_singleton.mp hy]; exact .inr (.inl ⟨m, x.ns, x.m5, x.m6⟩)), x.lst.kpB k' (by show lf ∉ [L]; exact ar126 ‹L < lf›),
    x.ent.kpB k' (by show ∀ y ∈ [L], y < B2; simp; omega) (by show en ∉ [L]; exact ar127 ‹L < dx› ‹dx < B1› ‹B1 ≤ en›) (by show de ∉ [L]; exact ar127 ‹L < dx› ‹dx < B1› ‹B1 ≤ de›) (by show ua ∉ [L]; exact ar127 ‹L < dx› ‹dx < B1› ‹B1 ≤ ua›) (by show rl ∉ [L]; exact ar127 ‹L < dx› ‹dx < B1› ‹B1 ≤ rl›), ⟨vs, l1.kpB k' (by show rw ∉ [L]; exact ar127 ‹L < dx› ‹dx < B1› ‹B1 ≤ rw›), t1.kpB k' (by show ∀ y ∈ [L], y < B2; simp; omega)⟩,
    x.tab.kpB k' (by show 122 ∉ [L]; exact ar128 ‹130 < L›) (by show 126 ∉ [L]; exact ar129 ‹130 < L›) (by show ∀ y ∈ [L], _; simp; exact .inl (by exact ar130 ‹L < dx› ‹dx < B1› ‹B1 ≤ en› this)), KpB.old x.k0 k' (by show ∀ y ∈ [L], _; simpa using g.z4), fun b o nb e => k' _ _ (by have := ltS e; show b ∉ [L]; exact ar78 hL this) (x.ks _ _ nb e)⟩
theorem RD.sz (g : RDk h₀ B1 B2 L dx lf en de ua rl rw) {h : Heap} (x : RD h₀ hs B1 B2 L lx dx pb rd lf en de ua rl rw m h cs done ag ru ln) : B2 ≤ h.objs.size := by
  obtain ⟨vs, ⟨n, e⟩, _⟩ := x.rws
  have := ltS e; have := g.b5; exact ar131 ‹rw < h.objs.size› this

/- lexer.get_token() -/
theorem RD.tok {n : Nat} {p1 p3 : Pos} {pl : Sem Bool} (k : OkA A (n + 6)) (G : Gd w mean mg mb h₀) (g : RDk h₀ B1 B2 L dx lf en de ua rl rw) (hL : hs.objs.size ≤ L) {pre body word rest used : List Nat} (x : RD h₀ hs B1 B2 L lx dx pb rd lf en de ua rl rw m s.heap (pre ++ body) done ag ru ln)
    (hpre : ∀ c ∈ pre, ws c = true) (ht : Tkn body word rest) (hz : (pre ++ body).length < 2 ^ 18) (hz2 : word.length < 2 ^ 18) (hu : pre ++ body = used ++ rest) {Q : Value → Shared → Prop}
    (h : ∀ h' tk t, RD h₀ hs B1 B2 L lx dx pb rd lf en de ua rl rw m h' rest done ag ru (bumps ln used) → Q (.str (wd word) t) { s with heap := h', toks := tk }) :
    wpAny (model PR w) A (PySem.eval (.Name (Str.ofString "lexer") p1) (rdEnv L)) (fun ov s₁ => wpAny (model PR w) A (getMethod ov (Str.ofString "get_token") pl) (fun fx s₂ => wpAny (model PR w) A (callWith p3 fx.1 fx.2 (backTo p3 (starEach [] (rdEnv L))) []) Q E s₂) E s₁) E s := by
  have GS := G.keeps x.k0
  have hz0 := x.sz g
  have := g.c0; have := g.a1; have := g.a2; have := g.a3; have := g.a4; have := g.a5; have := g.a6; have := g.a7; have := g.a8; have := g.a9; have := g.b1
  obtain ⟨mm, t, tw, st, ds, ms, fd, sl, I, m1, m2, m3, m4, m5, m6, hw, e1, n1, m7, b1, b2, nd⟩ := x.lex.obj
  refine wpAny_Name (wpAny_loadName_local rfl rfl x.ns x.m1 ?_) (by decide)
  refine inst_method GS.X I (k_plain _ _) (k_gt _) (k_fn91 _) m6 ?_
  have hf : FnAt 91 s.heap := ⟨_, _, _, _, GS.X _ _ (by rfl)⟩
  refine callWith_F0 hf (wpAny_call (get_token (n := n) k G x.k0 g.z1 g.z2 (by exact ar132 hz0 ‹B1 ≤ en› this) x.lex x.lst hpre ht hz hz2 hu fun h' tk t lex' lst' kb => ?_))
  obtain ⟨vs, l1, t1⟩ := x.rws
  have hW : ∀ y ∈ [dx, lf], y < B2 := by intro y hy; simp at hy; exact ar133 ‹dx < B1› ‹lf < B1› ‹B1 ≤ en› this hy
  refine h _ _ _ ⟨ns_kpB x.ns kb (by exact ar134 ‹L < dx› ‹L < lf›), x.m1, x.m2, x.m3, x.m5, x.m6, lex', lst', x.ent.kpB kb hW (by exact ar135 ‹dx < B1› ‹lf < B1› ‹B1 ≤ en›) (by exact ar135 ‹dx < B1› ‹lf < B1› ‹B1 ≤ de›) (by exact ar135 ‹dx < B1› ‹lf < B1› ‹B1 ≤ ua›) (by exact ar135 ‹dx < B1› ‹lf < B1› ‹B1 ≤ rl›),
    ⟨vs, l1.kpB kb (by exact ar135 ‹dx < B1› ‹lf < B1› ‹B1 ≤ rw›), t1.kpB kb hW⟩, x.tab.kpB kb (by exact ar136 ‹130 < L› ‹L < dx› ‹L < lf›) (by exact ar137 ‹130 < L› ‹L < dx› ‹L < lf›) (fun y hy => .inl (hW y hy)), KpB.old x.k0 kb (by simp [g.z1, g.z2]), fun b o nb e => kb _ _ (by have := ltS e; exact ar138 hL ‹L < dx› ‹L < lf› this) (x.ks _ _ nb e)⟩

/- rows.append((kind, word)) -/
theorem RD.row (g : RDk h₀ B1 B2 L dx lf en de ua rl rw) (hL : hs.objs.size ≤ L) {h h2 h' : Heap} (x : RD h₀ hs B1 B2 L lx dx pb rd lf en de ua rl rw m h cs done ag ru ln) {T : Nat} {vs : List Value} {row : List Nat × List Nat} {t u : Tok} (hT : B2 ≤ T) (k1 : Kp h h2) (ht : h2.IsTuple T #[.str (wd row.1) t, .str (wd row.2) u])
    (l0 : LAt h rw vs) (t0 : TupsAt B2 h vs done) (l1 : LAt h' rw (vs ++ [.ref T])) (kb : KpB [rw] h2 h') : RD h₀ hs B1 B2 L lx dx pb rd lf en de ua rl rw m h' cs (done ++ [row]) ag ru ln := by
  have := g.c0; have := g.a1; have := g.a2; have := g.a3; have := g.a4; have := g.a5; have := g.a6; have := g.a7; have := g.a8; have := g.a9; have := g.b1; have := g.b5
  have kk : KpB [rw] h h' := fun b o nb e => kb _ _ nb (k1 _ _ e)
  have hW : ∀ y ∈ [rw], y < B2 := by simp; omega
  exact ⟨ns_kpB x.ns kk (by exact ar139 ‹L < dx› ‹dx < B1› ‹B1 ≤ rw›), x.m1, x.m2, x.m3, x.m5, x.m6, x.lex.kpG kk (by simp; exact .inl (by exact ar140 ‹B1 ≤ rw›)), x.lst.kpB kk (by exact ar12 ‹lf < B1› ‹B1 ≤ rw›), x.ent.kpB kk hW (by simpa using g.n4.2.2) (by simpa using g.n5.2.2) (by simpa using g.n2) (by simpa using g.n3), ⟨_, l1, (t0.kpB kk hW).snoc (tup_kpB ht kb (by exact ar141 hT this)) hT⟩,
    x.tab.kpB kk (by exact ar142 ‹130 < L› ‹L < dx› ‹dx < B1› ‹B1 ≤ rw›) (by exact ar143 ‹130 < L› ‹L < dx› ‹dx < B1› ‹B1 ≤ rw›) (fun y hy => .inl (hW y hy)), KpB.old x.k0 kk (by simpa using g.z7), fun b o nb e => kk _ _ (by have := ltS e; exact ar144 hL ‹L < dx› ‹dx < B1› ‹B1 ≤ rw› this) (x.ks _ _ nb e)⟩
/- entry.useragents.append(word) -/
theorem RD.agent (g : RDk h₀ B1 B2 L dx lf en de ua rl rw) (hL : hs.objs.size ≤ L) {h h' : Heap} (x : RD h₀ hs B1 B2 L lx dx pb rd lf en de ua rl rw m h cs done ag ru ln) {us : List Value} {word : List Nat} {t : Tok}
    (l0 : LAt h ua us) (hul : us.length = ag.length) (hus : ∀ (i : Nat) (a : List Nat), ag[i]? = some a → ∃ t, us[i]? = some (.str (wd a) t)) (l1 : LAt h' ua (us ++ [.str (wd word) t])) (kb : KpB [ua] h h') : RD h₀ hs B1 B2 L lx dx pb rd lf en de ua rl rw m h' cs done (ag ++ [word]) ru ln := by
  have := g.c0; have := g.a1; have := g.a2; have := g.a3; have := g.a4; have := g.a5; have := g.a6; have := g.a7; have := g.a8; have := g.a9; have := g.b1; have := g.b3
  have hW : ∀ y ∈ [ua], y < B2 := by simp; omega
  obtain ⟨vs, lw, tw⟩ := x.rws
  obtain ⟨⟨mm, I, r⟩, _, ws, l2, y⟩ := x.ent
  refine ⟨ns_kpB x.ns kb (by exact ar145 ‹L < dx› ‹dx < B1› ‹B1 ≤ ua› ‹∃ us, LAt h ua us ∧ us.length = ag.length ∧ ∀ (i : Nat) (a : List Nat), ag[i]? = some a → ∃ t, us[i]? = some (Value.str (wd a) t)›), x.m1, x.m2, x.m3, x.m5, x.m6, x.lex.kpG kb (by simp; exact .inl (by exact ar140 ‹B1 ≤ ua›)), x.lst.kpB kb (by exact ar146 ‹lf < B1› ‹B1 ≤ ua› ‹∃ us, LAt h ua us ∧ us.length = ag.length ∧ ∀ (i : Nat) (a : List Nat), ag[i]? = some a → ∃ t, us[i]? = some (Value.str (wd a) t)›), ⟨⟨mm, I.kpB kb (by simpa using g.n4.1) (by simpa using g.n5.1), r⟩, ⟨_, l1, by simp [hul], fun i a ha => ?_⟩, ws, l2.kpB kb (by simpa using Ne.symm g.n1), y.kpB kb hW⟩,
    ⟨vs, lw.kpB kb (by simpa using Ne.symm g.n2), tw.kpB kb hW⟩, x.tab.kpB kb (by exact ar147 ‹130 < L› ‹L < dx› ‹dx < B1› ‹B1 ≤ ua› ‹∃ us, LAt h ua us ∧ us.length = ag.length ∧ ∀ (i : Nat) (a : List Nat), ag[i]? = some a → ∃ t, us[i]? = some (Value.str (wd a) t)›) (by exact ar148 ‹130 < L› ‹L < dx› ‹dx < B1› ‹B1 ≤ ua› ‹∃ us, LAt h ua us ∧ us.length = ag.length ∧ ∀ (i : Nat) (a : List Nat), ag[i]? = some a → ∃ t, us[i]? = some (Value.str (wd a) t)›) (fun y hy => .inl (hW y hy)), KpB.old x.k0 kb (by simpa using g.z5), fun b o nb e => kb _ _ (by have := ltS e; exact ar149 hL ‹L < dx› ‹dx < B1› ‹B1 ≤ ua› ‹∃ us, LAt h ua us ∧ us.length = ag.length ∧ ∀ (i : Nat) (a : List Nat), ag[i]? = some a → ∃ t, us[i]? = some (Value.str (wd a) t)› this) (x.ks _ _ nb e)⟩
  by_cases q : i < ag.length
  · rw [List.getElem?_append_left q] at ha
    obtain ⟨t', ht'⟩ := hus i a ha
    exact ⟨t', by rw [List.getElem?_append_left (by exact ar150 hul ‹∃ us, LAt h ua us ∧ us.length = ag.length ∧ ∀ (i : Nat) (a : List Nat), ag[i]? = some a → ∃ t, us[i]? = some (Value.str (wd a) t)› q)]; exact ht'⟩
  · have hi : i = ag.length := by
      have := (List.getElem?_eq_some_iff.mp ha).1
      simp at this; exact ar151 ‹∃ us, LAt h ua us ∧ us.length = ag.length ∧ ∀ (i : Nat) (a : List Nat), ag[i]? = some a → ∃ t, us[i]? = some (Value.str (wd a) t)› q this
    subst hi
    rw [List.getElem?_append_right (Nat.le_refl _)] at ha
    simp at ha
    subst ha
    exact ⟨t, by rw [← hul, List.getElem?_append_right (Nat.le_refl _)]; simp⟩
/- entry.rulelines.append(rule) -/
theorem RD.rule (g : RDk h₀ B1 B2 L dx lf en de ua rl rw) (hL : hs.objs.size ≤ L) {h h' : Heap} (x : RD h₀ hs B1 B2 L lx dx pb rd lf en de ua rl rw m h cs done ag ru ln) {vs : List Value} {r : List Nat × Bool} {a : Nat}
    (l0 : LAt h rl vs) (hr : RulesAt B2 h vs ru) (ha : RuleAt B2 h a r.1 r.2) (l1 : LAt h' rl (vs ++ [.ref a])) (kb : KpB [rl] h h') : RD h₀ hs B1 B2 L lx dx pb rd lf en de ua rl rw m h' cs done ag (ru ++ [r]) ln := by
  have := g.c0; have := g.a1; have := g.a2; have := g.a3; have := g.a4; have := g.a5; have := g.a6; have := g.a7; have := g.a8; have := g.a9; have := g.b1; have := g.b4
  have hW : ∀ y ∈ [rl], y < B2 := by simp; omega
  obtain ⟨ws, lw, tw⟩ := x.rws
  obtain ⟨⟨mm, I, r⟩, ⟨us, l2, y⟩, _⟩ := x.ent
  exact ⟨ns_kpB x.ns kb (by exact ar139 ‹L < dx› ‹dx < B1› ‹B1 ≤ rl›), x.m1, x.m2, x.m3, x.m5, x.m6, x.lex.kpG kb (by simp; exact .inl (by exact ar140 ‹B1 ≤ rl›)), x.lst.kpB kb (by exact ar12 ‹lf < B1› ‹B1 ≤ rl›), ⟨⟨mm, I.kpB kb (by simpa using g.n4.2.1) (by simpa using g.n5.2.1), r⟩, ⟨us, l2.kpB kb (by simpa using g.n1), y⟩, _, l1, RulesAt.snoc (ha.kpB kb hW) (hr.kpB kb hW)⟩,
    ⟨ws, lw.kpB kb (by simpa using Ne.symm g.n3), tw.kpB kb hW⟩, x.tab.kpB kb (by exact ar142 ‹130 < L› ‹L < dx› ‹dx < B1› ‹B1 ≤ rl›) (by exact ar143 ‹130 < L› ‹L < dx› ‹dx < B1› ‹B1 ≤ rl›) (fun y hy => .inl (hW y hy)), KpB.old x.k0 kb (by simpa using g.z6), fun b o nb e => kb _ _ (by have := ltS e; exact ar144 hL ‹L < dx› ‹dx < B1› ‹B1 ≤ rl› this) (x.ks _ _ nb e)⟩
/- behind _law_rule -/
theorem RD.made (g : RDk h₀ B1 B2 L dx lf en de ua rl rw) (hL : hs.objs.size ≤ L) {h h' : Heap} (x : RD h₀ hs B1 B2 L lx dx pb rd lf en de ua rl rw m h cs done ag ru ln) (kb : KpB [122] h h') (T : TabAt B2 h') : RD h₀ hs B1 B2 L lx dx pb rd lf en de ua rl rw m h' cs done ag ru ln := by
  have := g.c0; have := g.a1; have := g.a2; have := g.a3; have := g.a4; have := g.a5; have := g.a6; have := g.a7; have := g.a8; have := g.a9; have := g.b1
  have hW : ∀ y ∈ [122], y < B2 := by simp; omega
  obtain ⟨ws, lw, tw⟩ := x.rws
  obtain ⟨_, ps, e, tr, _⟩ := x.tab
  exact ⟨ns_kpB x.ns kb (by exact ar152 ‹130 < L›), x.m1, x.m2, x.m3, x.m5, x.m6, x.lex.kpG kb (by intro y hy; rw [List.mem_singleton.mp hy]; exact .inr (.inr ⟨ps, e, tr⟩)), x.lst.kpB kb (by exact ar153 ‹130 < L› ‹L < lf›), x.ent.kpB kb hW (by exact ar154 ‹130 < L› ‹L < dx› ‹dx < B1› ‹B1 ≤ en›) (by exact ar154 ‹130 < L› ‹L < dx› ‹dx < B1› ‹B1 ≤ de›) (by exact ar154 ‹130 < L› ‹L < dx› ‹dx < B1› ‹B1 ≤ ua›) (by exact ar154 ‹130 < L› ‹L < dx› ‹dx < B1› ‹B1 ≤ rl›),
    ⟨ws, lw.kpB kb (by exact ar154 ‹130 < L› ‹L < dx› ‹dx < B1› ‹B1 ≤ rw›), tw.kpB kb hW⟩, T, KpB.old x.k0 kb (by simpa using g.z3), fun b o nb e => kb _ _ nb (x.ks _ _ nb e)⟩
/- more on the heap -/
theorem RD.kp (g : RDk h₀ B1 B2 L dx lf en de ua rl rw) {h h' : Heap} (x : RD h₀ hs B1 B2 L lx dx pb rd lf en de ua rl rw m h cs done ag ru ln) (k : Kp h h') : RD h₀ hs B1 B2 L lx dx pb rd lf en de ua rl rw m h' cs done ag ru ln := by
  obtain ⟨ws, lw, tw⟩ := x.rws
  exact ⟨x.ns.keeps k, x.m1, x.m2, x.m3, x.m5, x.m6, x.lex.kpG (k.b (W := [])) (by simp), x.lst.kp k, x.ent.kp k, ⟨ws, lw.kp k, tw.kpB (k.b (W := [])) (by simp)⟩, x.tab.kpB (k.b (W := [])) (by simp) (by simp) (by simp), x.k0.trans k, fun b o nb e => k _ _ (x.ks _ _ nb e)⟩
end
end Mine

end
section -- M27
open PySem PySem.W PyProof.Rows PySem.Calls PySem.Builtin PySem.Builtin.ObjectAttr PySem.Builtin.Str PySem.StrLaws
set_option maxRecDepth 100000
set_option linter.unusedVariables false
namespace Mine
theorem enc_len (items : List (Bool × Nat)) : items.length ≤ (enc items).length := by
  induction items with
  | nil => simp [enc]
  | cons p r ih => obtain ⟨b, c⟩ := p; cases b <;> simp [enc] <;> omega
theorem Tkn.used {body word rest : List Nat} (t : Tkn body word rest) : ∃ used, body = used ++ rest := by
  cases t with
  | q items _ _ => exact ⟨34 :: (enc items ++ [34]), by simp⟩
  | b b0 c0 items wc _ _ _ _ => exact ⟨(if b0 then [92, c0] else [c0]) ++ (enc items ++ [wc]), by simp⟩
  | e => exact ⟨[], rfl⟩
theorem Tkn.len {body word rest : List Nat} (t : Tkn body word rest) : word.length + rest.length ≤ body.length := by
  cases t with
  | q items _ _ => have := enc_len items; simp; omega
  | b b0 c0 items wc _ _ _ _ => have := enc_len items; cases b0 <;> simp <;> omega
  | e => simp
/- a kind is read, its word is not -/
noncomputable def Pd (kd cs : List Nat) (rows : Rows) : Prop := (kd = [] ∧ rows = [] ∧ cs = []) ∨ (kd ≠ [] ∧ ∃ pre' body' word rest' rows', cs = pre' ++ body' ∧ (∀ c ∈ pre', ws c = true) ∧ Tkn body' word rest' ∧ Pg rows' rest' ∧ rows = (kd, word) :: rows')
/- the next kind -/
theorem Pg.next {rows : Rows} {cs : List Nat} (p : Pg rows cs) : ∃ pre body kd rest, cs = pre ++ body ∧ (∀ c ∈ pre, ws c = true) ∧ Tkn body kd rest ∧ Pd kd rest rows := by
  cases p with
  | nil pre h => exact ⟨cs, [], [], [], by simp, h, .e, .inl ⟨rfl, rfl, rfl⟩⟩
  | cons pre body kd rest pre' body' word rest' rows h1 h2 h3 h4 h5 h6 h7 => exact ⟨pre, body, kd, rest, rfl, h1, h2, .inr ⟨h3, pre', body', word, rest', rows, h4, h5, h6, h7, rfl⟩⟩
theorem agentsOf_snoc (rows : Rows) (p : List Nat × List Nat) : agentsOf (rows ++ [p]) = if p.1 = kAgent then agentsOf rows ++ [p.2] else agentsOf rows := by
  unfold agentsOf; rw [List.filterMap_append]
  by_cases q : p.1 = kAgent <;> simp [q]
theorem rulesOf_snoc (rows : Rows) (p : List Nat × List Nat) : rulesOf (rows ++ [p]) = if p.1 = kAgent then rulesOf rows else rulesOf rows ++ [(p.2, decide (p.1 = kAllow))] := by
  unfold rulesOf; rw [List.filterMap_append]
  by_cases q : p.1 = kAgent <;> simp [q]
theorem g_rule (P : Params) : nsIn (hd.heap_39 P) mainGlobals (Str.ofString "_law_rule") = some (some (.ref 127)) := by kernel_rfl

section
variable {w : World} {mean : ExcName → Option Value} {mg mb : Str → Option Value} {A : Around} {E : Value → Shared → Prop} {s : Shared} {R : Result → Shared → Prop} {h₀ hs : Heap} {B1 B2 L lx dx pb rd lf en de ua rl rw : Nat} {m : Str → Option Value} {kd cs : List Nat} {done : Rows} {ag : List (List Nat)} {ru : List (List Nat × Bool)} {ln : Int}

theorem rd_loop {n : Nat} (k : OkA A (n + 6)) (G : Gd w mean mg mb h₀) (g : RDk h₀ B1 B2 L dx lf en de ua rl rw) (hL : hs.objs.size ≤ L) {rows all : Rows} {N : Int} (x : RD h₀ hs B1 B2 L lx dx pb rd lf en de ua rl rw m s.heap cs done (agentsOf done) (rulesOf done) ln) (hk : ∃ t, m (Str.ofString "kind") = some (.str (wd kd) t))
    (hp : Pd kd cs rows) (hz : cs.length < 2 ^ 18) (hall : done ++ rows = all) (hlen : all.length < 2 ^ 18) (hN : bumps ln cs = N)
    (h : ∀ h' tk m', RD h₀ hs B1 B2 L lx dx pb rd lf en de ua rl rw m' h' [] all (agentsOf all) (rulesOf all) N → R (.ok .next) { s with heap := h', toks := tk }) :
    codeAny (model PR w) A (.whileLoop (wT wS) (wB wS) [] (rdEnv L)) R s := by
  obtain ⟨I, hI⟩ := opq (fun (k : Nat) (s' : Shared) => ∃ (kd cs : List Nat) (done rows : Rows) (ln : Int) (m : Str → Option Value) (h' : Heap) (tk : Nat), k = rows.length ∧ s' = { s with heap := h', toks := tk } ∧ RD h₀ hs B1 B2 L lx dx pb rd lf en de ua rl rw m h' cs done (agentsOf done) (rulesOf done) ln ∧ (∃ t, m (Str.ofString "kind") = some (.str (wd kd) t)) ∧
    Pd kd cs rows ∧ cs.length < 2 ^ 18 ∧ done ++ rows = all ∧ bumps ln cs = N)
  refine codeAny_whileLoop I ?_ rows.length ((hI _ _).mpr ⟨kd, cs, done, rows, ln, m, s.heap, s.toks, rfl, rfl, x, hk, hp, hz, hall, hN⟩)
  clear x hk hp hz hall hN
  intro k' s' hs'
  obtain ⟨kd, cs, done, rows, ln, m, h1, tk1, rfl, rfl, x, ⟨t4, ht4⟩, hp, hz, hall, hN⟩ := (hI _ _).mp hs'
  refine wpAny_isTrue_Compare1 ?_
  refine wpAny_Name (wpAny_loadName_local rfl rfl x.ns ht4 ?_) (by decide)
  refine wpAny_Constant_str (PyProof.Rows.ne_str (wpAny_truthy_bool ?_))
  have hne : (wd kd != Str.ofString "") = decide (kd ≠ []) := by
    have e : Str.ofString "" = wd [] := by decide
    rw [e, bne, wd_beq]; simp
  rw [hne]
  rcases hp with ⟨rfl, rfl, rfl⟩ | ⟨hkd, pre', body', word, rest', rows', rfl, hpre, htk, hpg, rfl⟩
  · rw [if_neg (by decide)]
    refine wpAny_execs_nil ?_
    rw [List.append_nil] at hall
    subst hall hN
    exact h _ _ _ x
  · rw [if_pos (by simp [hkd])]
    obtain ⟨used, hu⟩ := htk.used
    have htl := htk.len
    have hlr : (pre' ++ body').length < 2 ^ 18 := hz
    have hzb : body'.length < 2 ^ 18 := by simp at hlr; exact ar155 hlr
    refine wpAny_execs_cons (wpAny_Assign_Name (MethodCall_ ?_))
    refine RD.tok (s := { s with heap := h1, toks := _ }) (used := pre' ++ used) k G g hL x hpre htk hz (by exact ar156 htl hzb) (by rw [hu, List.append_assoc]) fun h2 tk2 t2 x2 => ?_
    dsimp only
    refine RD.store (s := { s with heap := h2, toks := tk2 }) g hL x2 rfl (by decide) fun h3 tk3 x3 => ?_
    dsimp only
    have ht3 : (if Str.ofString "kind" = Str.ofString "word" then some (Value.str (wd word) t2) else m (Str.ofString "kind")) = some (.str (wd kd) t4) := (if_neg (by decide)).trans ht4
    obtain ⟨vs, l0, t0⟩ := x3.rws
    have hlv : vs.length < 2 ^ 18 := by rw [t0.len]; have := congrArg List.length hall; simp at this; exact ar157 hlen this
    refine wpAny_execs_cons (wpAny_Expr (MethodCall_ ?_))
    refine wpAny_Name (wpAny_loadName_local rfl rfl x3.ns x3.m3 ?_) (by decide)
    refine getM_list PySem.F.slot_list_append PySem.F.type_list_append l0 ?_
    refine callWith_method1 (args_cons (wpAny_Tuple (args_cons ?_)))
    refine wpAny_Name (wpAny_loadName_local rfl rfl x3.ns ht3 ?_) (by decide)
    refine args_cons ?_
    refine wpAny_Name (wpAny_loadName_local rfl rfl x3.ns (if_pos rfl) ?_) (by decide)
    refine args_nil ⟨show 2 ≤ sizeLine by decide, args_nil ?_⟩
    have hszB := x3.sz g
    refine append1 (l0.kp (Kp.push _ _)) (fun h4 l4 k4 => ?_) (by exact ar158 hlv)
    dsimp only at k4 ⊢
    have x4 := x3.row (row := (kd, word)) g hL hszB (Kp.push _ _) ⟨_, Heap.get?_push_size _ rfl, rfl, 0, rfl⟩ l0 t0 l4 k4
    have ht5 := ht3
    have hrest : rest'.length < 2 ^ 18 := by exact ar159 htl hzb
    obtain ⟨pre2, body2, kd2, rest2, rfl, hpre2, htk2, hpd2⟩ := hpg.next
    obtain ⟨used2, hu2⟩ := htk2.used
    have htl2 := htk2.len
    have hN2 : bumps (bumps ln (pre' ++ used)) (pre2 ++ body2) = N := by rw [← bumps_app, List.append_assoc, ← hu]; exact hN
    have hN3 : bumps (bumps (bumps ln (pre' ++ used)) (pre2 ++ used2)) rest2 = N := by rw [← bumps_app, List.append_assoc, ← hu2]; exact hN2
    -- the last line of the turn
    have last : ∀ (h5 : Heap) (tk5 : Nat) (m5 : Str → Option Value) E', RD h₀ hs B1 B2 L lx dx pb rd lf en de ua rl rw m5 h5 (pre2 ++ body2) (done ++ [(kd, word)]) (agentsOf (done ++ [(kd, word)])) (rulesOf (done ++ [(kd, word)])) (bumps ln (pre' ++ used)) →
        wpAny (model PR w) A (execs [(wB wS)[3]!] (rdEnv L)) (fun f s₃ => match f with
          | .next | .cont => ∃ m, m < ((kd, word) :: rows').length ∧ I m s₃
          | .brk => R (.ok .next) s₃
          | .ret v => R (.ok (.ret v)) s₃) E' { s with heap := h5, toks := tk5 } := by
      intro h5 tk5 m5 E' x5
      refine wpAny_execs_cons (wpAny_Assign_Name (MethodCall_ ?_))
      refine RD.tok (s := { s with heap := h5, toks := tk5 }) (used := pre2 ++ used2) k G g hL x5 hpre2 htk2 (by exact ar160 hrest) (by simp at hrest; exact ar161 htl2 hrest) (by rw [hu2, List.append_assoc]) fun h6 tk6 t6 x6 => ?_
      dsimp only
      refine RD.store (s := { s with heap := h6, toks := tk6 }) g hL x6 rfl (by decide) fun h7 tk7 x7 => ?_
      dsimp only
      exact wpAny_execs_nil ⟨rows'.length, by simp, (hI _ _).mpr ⟨kd2, rest2, done ++ [(kd, word)], rows', _, _, h7, _, rfl, rfl, x7, ⟨t6, if_pos rfl⟩, hpd2, by simp at hrest; exact ar162 htl2 hrest, by rw [List.append_assoc]; exact hall, hN3⟩⟩
    refine wpAny_execs_cons (wpAny_If (wpAny_isTrue_Compare1 ?_))
    refine wpAny_Name (wpAny_loadName_local rfl rfl x4.ns ht5 ?_) (by decide)
    refine wpAny_Constant_str (PyProof.Rows.eq_str (wpAny_truthy_bool ?_))
    rw [lit_agent, wd_beq]
    have GS4 := G.keeps x4.k0
    obtain ⟨mm, I, q1, q2, q3, q4⟩ := x4.ent.obj
    by_cases qa : kd = kAgent
    · rw [if_pos (by simp [qa])]
      obtain ⟨us, lu, hul, hus⟩ := x4.ent.uas
      have hlu : us.length < 2 ^ 18 := by
        rw [hul]
        have h1 : (agentsOf done).length ≤ done.length := List.length_filterMap_le _ _
        have := congrArg List.length hall; simp at this; exact ar163 hlen h1 this
      refine wpAny_execs_cons (wpAny_Expr (MethodCall_ (Attribute_Name_ ?_)))
      refine wpAny_Name (wpAny_loadName_local rfl rfl x4.ns x4.m2 ?_) (by decide)
      refine inst_get GS4.X I (e_plain _ _) (e_has _) (e_ua _) q1 rfl fun tk5 => ?_
      refine getM_list PySem.F.slot_list_append PySem.F.type_list_append lu ?_
      refine callWith_method1 (args_cons ?_)
      refine wpAny_Name (wpAny_loadName_local rfl rfl x4.ns (if_pos rfl) ?_) (by decide)
      refine args_nil ?_
      refine append1 lu (fun h5 l5 k5 => ?_) (by exact ar164 hul hlu)
      dsimp only at k5 ⊢
      have x5 := x4.agent g hL lu hul hus l5 k5
      refine wpAny_execs_nil ?_
      rw [show agentsOf done ++ [word] = agentsOf (done ++ [(kd, word)]) from by rw [agentsOf_snoc, if_pos qa], show rulesOf done = rulesOf (done ++ [(kd, word)]) from by rw [rulesOf_snoc, if_pos qa]] at x5
      exact last _ _ _ _ x5
    · rw [if_neg (by simp [qa])]
      obtain ⟨vr, lr, hr⟩ := x4.ent.rls
      have hlr2 : vr.length < 2 ^ 18 := by
        rw [hr.len]
        have h1 : (rulesOf done).length ≤ done.length := List.length_filterMap_le _ _
        have := congrArg List.length hall; simp at this; exact ar163 hlen h1 this
      refine wpAny_execs_cons (wpAny_Expr (MethodCall_ (Attribute_Name_ ?_)))
      refine wpAny_Name (wpAny_loadName_local rfl rfl x4.ns x4.m2 ?_) (by decide)
      refine inst_get GS4.X I (e_plain _ _) (e_has _) (e_rl _) q2 rfl fun tk5 => ?_
      refine getM_list PySem.F.slot_list_append PySem.F.type_list_append lr ?_
      refine callWith_method1 (args_cons (Call_ ?_))
      refine nameG GS4 (g_rule _) ?_
      have hf : FnAt 127 h4 := ⟨_, _, _, _, GS4.X _ _ (by rfl)⟩
      refine callWith_F hf (args_cons ?_)
      refine wpAny_Name (wpAny_loadName_local rfl rfl x4.ns (if_pos rfl) ?_) (by decide)
      refine args_cons (wpAny_Compare1 ?_)
      refine wpAny_Name (wpAny_loadName_local rfl rfl x4.ns ht5 ?_) (by decide)
      refine wpAny_Constant_str (PyProof.Rows.eq_str ?_)
      rw [lit_allow, wd_beq]
      have hc0 := g.c0; have hb2 := g.b5; have h9 := g.a9; have h1 := g.a1; have h3 := g.a3
      refine args_nil ⟨hf, wpAny_call (law_rule (s := { s with heap := h4, toks := _ }) (n := n) (B := B2) (k.less (by exact ar165)) G x4.k0 g.z3 (x4.sz g) (by exact ar166 hc0 hb2 h9 h1 h3) x4.tab fun a h5 tk5 ra T5 kb5 hsz5 => ?_)⟩
      dsimp only at kb5 ⊢
      have x5 := x4.made g hL kb5 T5
      have hWr : ∀ y ∈ [122], y < B2 := by simp; omega
      have hr5 := hr.kpB kb5 hWr
      have lr5 : LAt h5 rl vr := lr.kpB kb5 (by have := g.a8; exact ar154 hc0 h1 h3 this)
      refine args_nil ?_
      refine append1 lr5 (fun h6 l6 k6 => ?_) (by exact ar158 hlr2)
      dsimp only at k6 ⊢
      have x6 := x5.rule (r := (word, decide (kd = kAllow))) g hL lr5 hr5 ra l6 k6
      refine wpAny_execs_nil ?_
      rw [show rulesOf done ++ [(word, decide (kd = kAllow))] = rulesOf (done ++ [(kd, word)]) from by rw [rulesOf_snoc, if_neg qa], show agentsOf done = agentsOf (done ++ [(kd, word)]) from by rw [agentsOf_snoc, if_neg qa]] at x6
      exact last _ _ _ _ x6
end
end Mine

end
section -- M28
open PySem PySem.W PyProof.Rows PySem.Calls PySem.Builtin PySem.Builtin.ObjectAttr PySem.Builtin.Str PySem.StrLaws
set_option maxRecDepth 100000
set_option linter.unusedVariables false
namespace Mine
theorem g_lex (P : Params) : nsIn (hd.heap_39 P) mainGlobals (Str.ofString "_netrclex") = some (some (.ref 101)) := by kernel_rfl
theorem g_ent (P : Params) : nsIn (hd.heap_39 P) mainGlobals (Str.ofString "Entry") = some (some (.ref 59)) := by kernel_rfl
theorem g_stream (P : Params) : nsIn (hd.heap_39 P) mainGlobals (Str.ofString "_law_stream") = some (some (.ref 120)) := by kernel_rfl
theorem k_c133 (P : Params) : codeIn (hd.heap_39 P) (.ref 133) (Str.ofString "_law_read") = true := by kernel_rfl
theorem p101 (P : Params) : keepIn (hd.heap_39 P) (.ref 101) = true := by kernel_rfl
theorem p59 (P : Params) : keepIn (hd.heap_39 P) (.ref 59) = true := by kernel_rfl

theorem ReadAt.mono {B B' : Nat} {h : Heap} {rd lf : Nat} (x : ReadAt B h rd lf) (hB : B ≤ B') : ReadAt B' h rd lf := by
  obtain ⟨cl, doc, pm, crd, ctv, ocl, ocr, cvs, ct, f1, f2, f3, c1, c2, c3⟩ := x.at_
  exact ⟨cl, doc, pm, crd, ctv, ocl, ocr, cvs, ct, f1, f2, f3, by exact ar167 hB c1, by exact ar167 hB c2, by exact ar167 hB c3⟩
theorem EntAt.anyB {B B' : Nat} {h : Heap} {en de ua rl : Nat} (x : EntAt B h en de ua rl [] []) : EntAt B' h en de ua rl [] [] := by
  obtain ⟨o, u, vs, l, r⟩ := x
  cases vs with
  | nil => exact ⟨o, u, [], l, trivial⟩
  | cons => exact r.elim
section
variable {w : World} {mean : ExcName → Option Value} {mg mb : Str → Option Value} {A : Around} {E : Value → Shared → Prop} {s : Shared} {R : Result → Shared → Prop} {h₀ : Heap}

theorem law_read {n : Nat} (k : OkA A (n + 8)) (G : Gd w mean mg mb h₀) (K0 : Kp h₀ s.heap) (hT1 : h₀.get? 117 = none) (hT2 : h₀.get? 122 = none) (C1 : CodeHd s.heap 119 117) (P1 : s.heap.get? 117 = some (tabObj #[])) (C2 : CodeHd s.heap 126 122) (P2 : s.heap.get? 122 = some (tabObj #[]))
    {rows : Rows} {cs : List Nat} {tx : Tok} (hp : Pg rows cs) (hz : cs.length < 2 ^ 18) (hrows : rows.length < 2 ^ 18) (hbig : 150 < s.heap.objs.size)
    (h : ∀ (T en de ua rl rw B2 : Nat) vs h' tk t, h'.IsTuple T #[.ref rw, .ref en, .int (bumps 1 cs) t] → LAt h' rw vs → TupsAt B2 h' vs rows → EntAt B2 h' en de ua rl (agentsOf rows) (rulesOf rows) → s.heap.objs.size ≤ rw → KpB [117, 122] s.heap h' → (∃ ps, h'.get? 117 = some (tabObj ps)) → (∃ ps, h'.get? 122 = some (tabObj ps)) → (s.heap.objs.size ≤ en ∧ s.heap.objs.size ≤ de ∧ s.heap.objs.size ≤ ua ∧ s.heap.objs.size ≤ rl ∧ s.heap.objs.size ≤ B2) → R (.ok (.ret (.ref T))) { s with heap := h', toks := tk }) :
    codeAny (model PR w) A (.call (.ref 134) ⟨[.str (wd cs) tx], []⟩) R s := by
  have GS := G.keeps K0
  refine callF (n := n + 7) (binds := [(Str.ofString "text", .str (wd cs) tx)]) k (GS.X _ _ (by rfl)) GS.lim (codeRec_of GS.X (k_c133 _)) rfl (by decide) rfl ?_
  intro L h1 tk hL hns kp ok
  have L1 : L < h1.objs.size := by obtain ⟨o, _, _, e, _⟩ := hns; exact ltS e
  have G1 := GS.keeps kp
  -- the stream
  refine wpAny_execs_cons (wpAny_Assign_Name (Call_ ?_))
  refine nameG G1 (g_lex _) ?_
  refine callWith_K G1.X (p101 _) (args_cons (Call_ ?_))
  refine nameG G1 (g_stream _) ?_
  have hf : FnAt 120 h1 := ⟨_, _, _, _, G1.X _ _ (by rfl)⟩
  refine callWith_F hf (args_cons ?_)
  refine wpAny_Name (wpAny_loadName_local rfl rfl hns rfl ?_) (by decide)
  refine args_nil ⟨hf, wpAny_call (law_stream (s := { s with heap := h1, toks := _ }) (n := n) (ok.less (by exact ar168)) G (K0.trans kp) hT1 (C1.keeps kp) (kp _ _ P1) hz fun st ds rd lf ms fd sl h2 tk2 est nds mrd hrd hlf hlf0 hlfb k2 hsz2 hp117 => ?_)⟩
  dsimp only at k2 hsz2 hlfb ⊢
  have K02 : Kp h₀ h2 := KpB.old (K0.trans kp) k2 (by simpa using hT1)
  have G2 := G.keeps K02
  refine args_nil ⟨G2.X, wpAny_call (lex_new (s := { s with heap := h2, toks := _ }) (n := n) (ok.less (by exact ar169)) G K02 fun lx dx pb h3 tk3 mm tln tww hlx hdx hpb I3 m1 m2 m3 m4 m5 m6 hw l3 k3 => ?_)⟩
  dsimp only at hlx hdx hpb k3 ⊢
  have hL0 : h₀.get? L = none := fresh_none K0 (by exact ar30 hL)
  have hstB : st < h2.objs.size := ltS est
  have hdsB : ds < h2.objs.size := by obtain ⟨o, _, _, e, _⟩ := nds; exact ltS e
  have hlfB : lf < h2.objs.size := by obtain ⟨_, ⟨_, e⟩, _⟩ := hlf; exact ltS e
  have hL2 : L < h2.objs.size := by exact ar170 L1 hsz2
  have hlx3 : lx < h3.objs.size := ltS I3.at_
  have hdx3 : dx < h3.objs.size := by obtain ⟨o, _, _, e, _⟩ := I3.ns; exact ltS e
  have hpb3 : pb < h3.objs.size := by obtain ⟨_, e⟩ := l3; exact ltS e
  have lex3 : LexAt h3.objs.size h3 lx dx pb rd lf 1 := ⟨⟨mm, tln, tww, st, ds, ms, fd, sl, I3, m1, m2, m3, m4, m5, m6, hw, k3 _ _ est, nds.at fun _ e => k3 _ _ e, mrd, by exact ar171 hlx hstB hlx3, by exact ar171 hlx hdsB hlx3, by exact ar172 hdx hdsB⟩,
    (hrd.kpB (k3.b (W := [])) (by simp)).mono (by exact ar11 hlx hlx3), l3, hlx3, hdx3, hpb3, by exact ar171 hlx hlfB hlx3, by exact ar173 hpb hlfB⟩
  have lst3 := hlf.kp k3
  have hn3 : h3.Ns L _ := (ns_kpB hns k2 (by exact ar174 hbig hL)).keeps k3
  refine wpAny_storeName_local rfl hn3 (fun h4 hn4 sb4 => ?_)
  dsimp only
  have k4 := kp_same sb4
  have s4 : h4.objs.size = h3.objs.size := sb4.1
  have lex4 := lex3.kpG k4 (by intro y hy; rw [List.mem_singleton.mp hy]; exact .inr (.inl ⟨_, hn3, rfl, rfl⟩))
  have lst4 := lst3.kpB k4 (by show lf ∉ [L]; exact ar175 L1 hlfb)
  have KS4 : KpB [117] s.heap h4 := fun b o nb e => k4 _ _ (by have := ltS e; show b ∉ [L]; exact ar100 hL this) (k3 _ _ (k2 _ _ nb (kp _ _ e)))
  have K04 : Kp h₀ h4 := KpB.old K0 KS4 (by simpa using hT1)
  have G4 := G.keeps K04
  -- the entry
  refine wpAny_execs_cons (wpAny_Assign_Name (Call_ ?_))
  refine nameG G4 (g_ent _) ?_
  refine callWith_K0 G4.X (p59 _) (wpAny_call (ent_new (s := { s with heap := h4, toks := _ }) (n := n) (B := 0) (ok.less (by exact ar169)) G K04 fun en de ua rl h5 tk5 hen hde hua hrl hur ent5 k5 => ?_))
  dsimp only at hen hde hua hrl k5 ⊢
  refine wpAny_storeName_local rfl (hn4.keeps k5) (fun h6 hn6 sb6 => ?_)
  dsimp only
  have k6 := kp_same sb6
  have s6 : h6.objs.size = h5.objs.size := sb6.1
  have lex5 := lex4.kpG (k5.b (W := [])) (by simp)
  have lex6 := lex5.kpG k6 (by intro y hy; rw [List.mem_singleton.mp hy]; exact .inr (.inl ⟨_, hn4.keeps k5, rfl, rfl⟩))
  have lst6 := (lst4.kp k5).kpB k6 (by show lf ∉ [L]; exact ar175 L1 hlfb)
  have e6 : ∀ B, EntAt B h6 en de ua rl [] [] := fun B => by
    obtain ⟨⟨m', I', r'⟩, ⟨us, l1, q⟩, vs, l2, y⟩ := (ent5.anyB (B' := L + 1))
    exact EntAt.anyB ⟨⟨m', I'.kpB k6 (by show en ∉ [L]; exact ar176 L1 hlfb hlx hlfB hlx3 s4 hen) (by show de ∉ [L]; exact ar176 L1 hlfb hlx hlfB hlx3 s4 hde), r'⟩, ⟨us, l1.kpB k6 (by show ua ∉ [L]; exact ar176 L1 hlfb hlx hlfB hlx3 s4 hua), q⟩, vs, l2.kpB k6 (by show rl ∉ [L]; exact ar176 L1 hlfb hlx hlfB hlx3 s4 hrl), y.kpB k6 (by show ∀ y ∈ [L], y < L + 1; simp)⟩
  obtain ⟨⟨me, Ie, _⟩, ⟨us6, lu6, _⟩, vr6, lr6, _⟩ := e6 0
  have hen6 : en < h6.objs.size := ltS Ie.at_
  obtain ⟨ode, ede, dde⟩ := Ns1.dk Ie.ns
  have hde6 : de < h6.objs.size := ltS ede
  obtain ⟨ou, eu, du⟩ := lu6.dk
  obtain ⟨orr, er, dr⟩ := lr6.dk
  have hua6 : ua < h6.objs.size := ltS eu
  have hrl6 : rl < h6.objs.size := ltS er
  have deN : Mine.dk (instObj 59 de) = 0 := rfl
  have n4 : en ≠ ua ∧ en ≠ rl := ⟨ne_dk Ie.at_ eu (by omega), ne_dk Ie.at_ er (by omega)⟩
  have n5 : de ≠ ua ∧ de ≠ rl := ⟨ne_dk ede eu (by exact ar177 dde du), ne_dk ede er (by exact ar177 dde dr)⟩
  have hL6 : L < h6.objs.size := by obtain ⟨o, _, _, e, _⟩ := hn6; exact ltS e
  -- the rows
  refine wpAny_execs_cons (wpAny_Assign_Name (newL fun rw h7 tk7 hrw l7 k7 => ?_))
  dsimp only at hrw k7 ⊢
  refine wpAny_storeName_local rfl (hn6.keeps k7) (fun h8 hn8 sb8 => ?_)
  dsimp only
  have k8 := kp_same sb8
  have lex7 := lex6.kpG (k7.b (W := [])) (by simp)
  have lex8 := lex7.kpG k8 (by intro y hy; rw [List.mem_singleton.mp hy]; exact .inr (.inl ⟨_, hn6.keeps k7, rfl, rfl⟩))
  have lst8 := (lst6.kp k7).kpB k8 (by show lf ∉ [L]; exact ar175 L1 hlfb)
  have l8 := l7.kpB k8 (by show rw ∉ [L]; exact ar178 s6 hL6 hrw)
  have e8 : EntAt (rw + 1) h8 en de ua rl [] [] := ((e6 (rw + 1)).kp k7).kpB k8 (by show ∀ y ∈ [L], y < rw + 1; simp; omega) (by show en ∉ [L]; exact ar176 L1 hlfb hlx hlfB hlx3 s4 hen) (by show de ∉ [L]; exact ar176 L1 hlfb hlx hlfB hlx3 s4 hde) (by show ua ∉ [L]; exact ar176 L1 hlfb hlx hlfB hlx3 s4 hua) (by show rl ∉ [L]; exact ar176 L1 hlfb hlx hlfB hlx3 s4 hrl)
  have KS8 : KpB [117] s.heap h8 := fun b o nb e => k8 _ _ (by have := ltS e; show b ∉ [L]; exact ar100 hL this) (k7 _ _ (k6 _ _ (by have := ltS e; show b ∉ [L]; exact ar100 hL this) (k5 _ _ (KS4 _ _ nb e))))
  have K08 : Kp h₀ h8 := KpB.old K0 KS8 (by simpa using hT1)
  have T8 : TabAt (rw + 1) h8 := ⟨codeHd_kpB C2 KS8 (by simp), #[], KS8 _ _ (by simp) P2, trivial, fun _ _ => .inl rfl⟩
  have g : RDk h₀ h3.objs.size (rw + 1) L dx lf en de ua rl rw := ⟨by exact ar179 hbig hL, by exact ar180 L1 hlfb hdx hlfB, by exact ar170 L1 hlfb, hdx3, by exact ar181 hlx hlfB hlx3 s4, by exact ar182 s4 hen, by exact ar182 s4 hde, by exact ar182 s4 hua, by exact ar182 s4 hrl, by exact ar183 s4 hen s6 hen6 hrw, by exact ar184 s6 hen6 hrw, by exact ar184 s6 hde6 hrw, by exact ar184 s6 hua6 hrw, by exact ar184 s6 hrl6 hrw, rfl, hur, by exact ar185 s6 hua6 hrw, by exact ar185 s6 hrl6 hrw, ⟨n4.1, n4.2, by exact ar185 s6 hen6 hrw⟩, ⟨n5.1, n5.2, by exact ar185 s6 hde6 hrw⟩,
    fresh_none (K0.trans kp) (by exact ar186 hlfb hdx hlfB), hlf0, hT2, hL0, fresh_none K04 (by exact ar140 hua), fresh_none K04 (by exact ar140 hrl), fresh_none K04 (by exact ar187 hen s6 hen6 hrw)⟩
  obtain ⟨p117, hp117⟩ := hp117
  have h117 : h8.get? 117 = some (tabObj p117) := k8 _ _ (by show 117 ∉ [L]; exact ar188 hbig hL) (k7 _ _ (k6 _ _ (by show 117 ∉ [L]; exact ar188 hbig hL) (k5 _ _ (k4 _ _ (by show 117 ∉ [L]; exact ar188 hbig hL) (k3 _ _ hp117)))))
  have hus : (s.heap.update 117 fun _ => tabObj p117).get? 117 = some (tabObj p117) := Heap.get?_update_self (fun _ => tabObj p117) P1 rfl
  have hun : ∀ b, b ≠ 117 → (s.heap.update 117 fun _ => tabObj p117).get? b = s.heap.get? b := fun b nb => Heap.get?_update_ne _ _ _ _ nb
  have huz : (s.heap.update 117 fun _ => tabObj p117).objs.size = s.heap.objs.size := (Heap.SameBut.update ..).1
  have KU8 : KpB [122] (s.heap.update 117 fun _ => tabObj p117) h8 := fun b o nb e => by
    by_cases q : b = 117
    · subst q; rw [hus] at e; cases e; exact h117
    · rw [hun b q] at e; exact KS8 _ _ (by simpa using q) e
  generalize s.heap.update 117 (fun _ => tabObj p117) = hU at hus hun huz KU8
  have x8 : RD h₀ hU h3.objs.size (rw + 1) L lx dx pb rd lf en de ua rl rw _ h8 cs [] [] [] 1 := ⟨hn8, rfl, rfl, rfl, rfl, rfl, lex8, lst8, e8, ⟨[], l8, trivial⟩, T8, K08, KU8⟩
  obtain ⟨pre, body, kd, rest, rfl, hpre, htk, hpd⟩ := hp.next
  obtain ⟨used, hu⟩ := htk.used
  have htl := htk.len
  have hzb : body.length < 2 ^ 18 := by simp at hz; exact ar155 hz
  refine wpAny_execs_cons (wpAny_Assign_Name (MethodCall_ ?_))
  refine RD.tok (s := { s with heap := h8, toks := _ }) (n := n) (used := pre ++ used) (ok.less (by exact ar189)) G g (by exact ar190 hL huz) x8 hpre htk hz (by exact ar156 htl hzb) (by rw [hu, List.append_assoc]) fun h9 tk9 t9 x9 => ?_
  dsimp only
  refine RD.store (s := { s with heap := h9, toks := tk9 }) g (by exact ar190 hL huz) x9 rfl (by decide) fun h10 tk10 x10 => ?_
  dsimp only
  refine wpAny_execs_cons (wpAny_While ?_)
  refine rd_loop (s := { s with heap := h10, toks := tk10 }) (n := n) (kd := kd) (all := rows) (ok.less (by exact ar189)) G g (by exact ar190 hL huz) x10 ⟨t9, if_pos rfl⟩ hpd (by exact ar159 htl hzb) rfl hrows rfl fun h11 tk11 m11 x11 => ?_
  dsimp only
  obtain ⟨vs, lw, tw⟩ := x11.rws
  have G11 := G.keeps x11.k0
  obtain ⟨mm', t', tw', st', ds', ms', fd', sl', I', m1', m2', m3', m4', m5', m6', hw', e1', n1', m7', b1', b2', nd'⟩ := x11.lex.obj
  refine wpAny_execs_cons (wpAny_Return_some (wpAny_Tuple (args_cons ?_)))
  refine wpAny_Name (wpAny_loadName_local rfl rfl x11.ns x11.m3 ?_) (by decide)
  refine args_cons ?_
  refine wpAny_Name (wpAny_loadName_local rfl rfl x11.ns x11.m2 ?_) (by decide)
  refine args_cons (Attribute_Name_ ?_)
  refine wpAny_Name (wpAny_loadName_local rfl rfl x11.ns x11.m1 ?_) (by decide)
  refine inst_get G11.X I' (k_plain _ _) (k_has _) (k_lineno _) m1' rfl fun tk12 => ?_
  refine args_nil ⟨show 3 ≤ sizeLine by decide, ?_⟩
  dsimp only
  have eN : bumps (bumps 1 (pre ++ used)) rest = bumps 1 (pre ++ body) := by rw [← bumps_app, List.append_assoc, ← hu]
  rw [eN] at *
  refine h h11.objs.size en de ua rl rw (rw + 1) vs _ _ t' ⟨_, Heap.get?_push_size _ rfl, rfl, 0, rfl⟩ (lw.kp (Kp.push _ _)) (tw.kpB ((Kp.push _ _).b (W := [])) (by simp)) (x11.ent.kp (Kp.push _ _)) (by exact ar191 hL s6 hL6 hrw huz) (fun b o nb e => Heap.get?_push_of_some _ (x11.ks _ _ (by simp at nb ⊢; exact nb.2) ((hun b (by simp at nb; exact nb.1)).trans e))) ⟨_, Heap.get?_push_of_some _ (x11.ks _ _ (by simp) hus)⟩ (by obtain ⟨ps, e, _⟩ := x11.tab.tab; exact ⟨ps, Heap.get?_push_of_some _ e⟩) ⟨by exact ar192 hL L1 hlfb hlx hlfB hlx3 s4 hen huz, by exact ar192 hL L1 hlfb hlx hlfB hlx3 s4 hde huz, by exact ar192 hL L1 hlfb hlx hlfB hlx3 s4 hua huz, by exact ar192 hL L1 hlfb hlx hlfB hlx3 s4 hrl huz, by exact ar193 hL s6 hL6 hrw huz⟩
end
end Mine

end
section -- M29
open PySem PySem.W PyProof.Rows PySem.Calls PySem.Builtin PySem.Builtin.ObjectAttr PySem.Builtin.Str PySem.StrLaws
set_option maxRecDepth 100000
set_option linter.unusedVariables false
namespace Mine
/- the values are the texts xs -/
noncomputable def StrsL (ys : List Value) (xs : List (List Nat)) : Prop := ∃ l : List (Str × Tok), ys = strValues l ∧ l.map (·.1) = xs.map wd
theorem StrsL.nil : StrsL [] [] := ⟨[], rfl, rfl⟩
theorem StrsL.snoc {ys : List Value} {xs : List (List Nat)} {x : List Nat} {t : Tok} (h : StrsL ys xs) : StrsL (ys ++ [.str (wd x) t]) (xs ++ [x]) := by
  obtain ⟨l, e1, e2⟩ := h
  exact ⟨l ++ [(wd x, t)], by simp [e1, strValues], by simp [e2]⟩
theorem StrsL.len {ys : List Value} {xs : List (List Nat)} (h : StrsL ys xs) : ys.length = xs.length := by
  obtain ⟨l, e1, e2⟩ := h
  have := congrArg List.length e2
  simp at this
  rw [e1]; simpa [strValues] using this
theorem foldl_wd (xs : List (List Nat)) : ∀ acc : Array Nat, (xs.map wd).foldl (fun acc p => acc ++ (Str.ofString "").cps ++ p.cps) acc = acc ++ xs.flatten.toArray := by
  have e0 : (Str.ofString "").cps = #[] := by decide
  induction xs with
  | nil => intro acc; simp
  | cons x r ih => intro acc; rw [List.map_cons, List.foldl_cons, ih, e0]; simp
theorem join_nil (xs : List (List Nat)) : Txt.join (Str.ofString "") (xs.map wd) = wd xs.flatten := by
  unfold Txt.join glued
  cases xs with
  | nil => decide
  | cons x r =>
    apply Str.ext'
    simp only [List.map_cons, List.drop_succ_cons, List.drop_zero, List.headD_cons, foldl_wd]
    simp
noncomputable def encP (p : Bool × Nat) : List Nat := if p.1 then [92, p.2] else [p.2]
theorem enc_flat (items : List (Bool × Nat)) : (items.map encP).flatten = enc items := by
  induction items with
  | nil => rfl
  | cons p r ih => obtain ⟨b, c⟩ := p; simp [enc, encP, ih]
theorem enc_le (items : List (Bool × Nat)) : (enc items).length ≤ 2 * items.length := by
  induction items with
  | nil => simp [enc]
  | cons p r ih => obtain ⟨b, c⟩ := p; cases b <;> simp [enc] <;> omega
noncomputable def q0 (c : Nat) : Bool := c == 34 || c == 92
noncomputable def b1 (i c : Nat) : Bool := c == 10 || c == 32 || c == 92 || (i == 0 && c == 34)
noncomputable def it0 (word : List Nat) : List (Bool × Nat) := word.map fun c => (q0 c, c)
noncomputable def it1 (word : List Nat) : List (Bool × Nat) := word.mapIdx fun i c => (b1 i c, c)
noncomputable def it2 (word : List Nat) : List (Bool × Nat) := word.map fun c => (true, c)
noncomputable def spell (word : List Nat) (way : Int) : List Nat := if way = 0 ∨ word = [] then 34 :: (enc (it0 word) ++ [34]) else if way = 1 then enc (it1 word) else enc (it2 word)
theorem in_q0 (c : Nat) : (!(occurrences (Str.ofString "\"\\") (one c) 0 (Str.ofString "\"\\").length 1).isEmpty) = q0 c := by
  rw [found_one]
  have : (Str.ofString "\"\\").cps.toList = [34, 92] := by decide
  rw [this, Bool.eq_iff_iff]
  simp [q0]
theorem in_b1 (c : Nat) : (!(occurrences (Str.ofString "\n \\") (one c) 0 (Str.ofString "\n \\").length 1).isEmpty) = (c == 10 || c == 32 || c == 92) := by
  rw [found_one]
  have : (Str.ofString "\n \\").cps.toList = [10, 32, 92] := by decide
  rw [this, Bool.eq_iff_iff]
  simp [or_assoc]
theorem back_one (c : Nat) : Str.ofString "\\" ++ one c = wd [92, c] := by
  rw [lit_back]; apply Str.ext'; simp [Str.cps_append]
theorem k_c109 (P : Params) : codeIn (hd.heap_39 P) (.ref 109) (Str.ofString "_law_spelled") = true := by kernel_rfl
theorem g_range (P : Params) : nsIn (hd.heap_39 P) mainGlobals (Str.ofString "range") = some none := by kernel_rfl
theorem take_snoc {α β : Type} {l : List α} {i : Nat} {a : α} (f : α → β) (h : l[i]? = some a) : (l.take (i + 1)).map f = (l.take i).map f ++ [f a] := by
  rw [List.take_add_one, h, List.map_append]; rfl

section
variable {w : World} {mean : ExcName → Option Value} {mg mb : Str → Option Value} {A : Around} {E : Value → Shared → Prop} {s : Shared} {R : Result → Shared → Prop} {h₀ : Heap}
/- ''.join of a list of texts -/
theorem joinL {D : Nat} {ys : List Value} {xs : List (List Nat)} {t : Tok} {Q : Value → Shared → Prop} (hl : LAt s.heap D ys) (hx : StrsL ys xs) (hz : (xs.map List.length).sum + xs.length ≤ 2 ^ 20) (h : ∀ t' k, Q (.str (wd xs.flatten) t') { s with toks := k }) :
    wpAny (model PR w) A (call (.builtin "str.join") [.str (Str.ofString "") t, .ref D]) Q E s := by
  obtain ⟨l, rfl, e2⟩ := hx
  refine SC.join hl.is e2 ?_ fun t' k => ?_
  · refine joinOk_of_weight ?_ (by decide)
    rw [List.map_map, List.length_map]
    have : (List.length ∘ fun x => x) = (List.length : List Nat → Nat) := rfl
    have e : (List.map ((fun x => x.length) ∘ wd) xs).sum = (xs.map List.length).sum := by
      congr 1
    rw [e]
    exact hz
  · rw [join_nil]; exact h _ _

/- value[idx] of a text -/
theorem sub_idx {value idx : Expr} {pos : Pos} {env : Env} {Q : Value → Shared → Prop}
    (h : wpAny (model PR w) A (PySem.eval value env) (fun o s₁ => wpAny (model PR w) A (PySem.eval idx env) (fun i s₂ => ∃ xs t j ti c, o = .str (wd xs) t ∧ i = .int ((j : Nat) : Int) ti ∧ xs[j]? = some c ∧ j < 2 ^ 20 ∧ ∀ t' tk, Q (.str (one c) t') { s₂ with toks := tk }) E s₁) E s)
    (hs : ∀ o i, subscripted idx false o i = operate [o, i] (getItem o i) := by intro _ _; with_unfolding_all rfl) (ht : ∀ o r, letTemporaryGo value o r = pure () := by intro _ _; with_unfolding_all rfl) :
    wpAny (model PR w) A (PySem.eval (.Subscript value idx pos) env) Q E s := by
  refine Subscript_ (wpAny_mono h (fun o s₁ h₁ => wpAny_mono h₁ (fun i s₂ h₂ => ?_) fun _ _ e => e) fun _ _ e => e)
  obtain ⟨xs, t, j, ti, c, rfl, rfl, hc, hj, hq⟩ := h₂
  have hlt : j < xs.length := (List.getElem?_eq_some_iff.mp hc).1
  refine subscriptTail_builtin (typeIs_str _ _ _) PySem.F.slot_str_getitem.lookup (PyProof.Rows.getItem_str ?_ ?_ (hq _ _)) (hs _ _) (ht _)
  · simp; omega
  · rw [at_nonneg (by exact ar194 hj)]
    simpa using hc

theorem encs_len (items : List (Bool × Nat)) : ((items.map encP).map List.length).sum + (items.map encP).length ≤ 3 * items.length := by
  induction items with
  | nil => simp
  | cons p r ih => obtain ⟨b, c⟩ := p; cases b <;> simp [encP] at ih ⊢ <;> omega

set_option maxHeartbeats 2000000 in
theorem law_spelled {n : Nat} (k : OkA A (n + 1)) (G : Gd w mean mg mb h₀) (K0 : Kp h₀ s.heap) {word : List Nat} {way : Int} {tw ty : Tok} (hz : word.length < 2 ^ 16)
    (h : ∀ h' tk t, Kp s.heap h' → R (.ok (.ret (.str (wd (spell word way)) t))) { s with heap := h', toks := tk }) :
    codeAny (model PR w) A (.call (.ref 110) ⟨[.str (wd word) tw, .int way ty], []⟩) R s := by
  have GS := G.keeps K0
  refine callC (n := n) (binds := [(Str.ofString "word", .str (wd word) tw), (Str.ofString "way", .int way ty)]) k (GS.X _ _ (by rfl)) GS.lim (codeRec_of GS.X (k_c109 _)) rfl (fun L => by rfl) ?_
  intro L h1 tk hL hns hcell kp ok
  obtain ⟨oc1, ec1, dc1⟩ := hcell (Str.ofString "word") (L + 1) rfl
  have hsz1 : L + 1 < h1.objs.size := ltS ec1
  have G1 := GS.keeps kp
  have e0 : Str.ofString "" = wd [] := by decide
  have lq : (Str.ofString "\"").length = 1 := by decide
  refine wpAny_execs_cons (wpAny_If (wpAny_mono (Q := fun b s' => b = decide (way = 0 ∨ word = []) ∧ ∃ tk', s' = { s with heap := h1, toks := tk' }) ?_ ?_ (fun _ _ e => e)))
  · refine isTrue_or (wpAny_isTrue_Compare1 ?_)
    refine wpAny_Name (wpAny_loadName_local rfl rfl hns rfl ?_) (by decide)
    refine wpAny_Constant_int (PyProof.Rows.eq_int (wpAny_truthy_bool ?_))
    by_cases q : way = 0
    · rw [if_pos (by simp [q])]
      exact ⟨by simp [q], _, rfl⟩
    · rw [if_neg (by simp [q])]
      refine isTrue_or (wpAny_isTrue_Compare1 ?_)
      refine wpAny_Name (wpAny_loadName_cell rfl rfl (show _ = some (L + 1) from rfl) ⟨oc1, ec1, dc1⟩ ?_) (by decide)
      refine wpAny_Constant_str (PyProof.Rows.eq_str (wpAny_truthy_bool ?_))
      rw [e0, wd_beq]
      by_cases q2 : word = []
      · rw [if_pos (by simp [q2])]
        exact ⟨by simp [q2], _, rfl⟩
      · rw [if_neg (by simp [q2])]
        exact isTrue_or_nil ⟨by simp [q, q2], _, rfl⟩
  rintro b s' ⟨rfl, tk', rfl⟩
  by_cases hw : way = 0 ∨ word = []
  · rw [if_pos (by simp [hw])]
    refine wpAny_execs_cons (wpAny_Return_some ?_)
    refine wpAny_BinOp ?_
    refine wpAny_BinOp ?_
    refine wpAny_Constant_str ?_
    refine MethodCall_ ?_
    refine wpAny_Constant_str ?_
    refine GM.join ?_
    refine callWith_method1 (args_cons ?_)
    refine lcN (fun i ys => StrsL ys (((it0 word).take i).map encP)) rfl (by decide) rfl (by decide) rfl ?_
    refine wpAny_Name (wpAny_loadName_cell rfl rfl (show _ = some (L + 1) from rfl) ⟨oc1, ec1, dc1⟩ ?_) (by decide)
    refine ⟨_, _, srcStr ok.hn (fun _ _ => rfl), StrsL.nil, by simp; omega, fun i ys hv => by rw [hv.len]; simp; omega, ?_, ?_⟩
    · intro i v ys C h2 tk2 m2 E' hi hP2 hn2 hm2 k2 hC hI
      refine wpAny_tests_nil ⟨h2, tk2, rfl, Kp.refl _, ?_⟩
      rw [if_pos rfl]
      obtain ⟨c, u, hc, rfl⟩ := hP2
      have hc' : word[i]? = some c := by simpa using hc
      have hi0 : (it0 word)[i]? = some (q0 c, c) := by simp [it0, hc']
      refine wpAny_IfExp (wpAny_isTrue_Compare1 ?_)
      refine wpAny_Name (wpAny_loadName_local rfl rfl hn2 hm2 ?_) (by decide)
      refine wpAny_Constant_str (PyProof.Rows.in_str (wpAny_truthy_bool ?_))
      rw [in_q0, take_snoc encP hi0]
      cases hq : q0 c with
      | true =>
        rw [if_pos rfl]
        refine wpAny_BinOp (wpAny_Constant_str ?_)
        refine wpAny_Name (wpAny_loadName_local rfl rfl hn2 hm2 ?_) (by decide)
        refine PyProof.Rows.add_str (fun t' tk3 => ?_) (by rw [sizeLine_eq]; show (1 : Nat) + 1 ≤ 16777216; decide)
        rw [back_one]
        exact ⟨h2, _, rfl, Kp.refl _, by simpa [encP] using hI.snoc⟩
      | false =>
        rw [if_neg (by decide)]
        refine wpAny_Name (wpAny_loadName_local rfl rfl hn2 hm2 ?_) (by decide)
        exact ⟨h2, _, rfl, Kp.refl _, by simpa [encP] using hI.snoc⟩
    · intro D h2 tk2 ys hD hl2 hv2 k2
      dsimp only at k2 hD ⊢
      refine args_nil ?_
      have hsz : (wd word).cps.size = (it0 word).length := by simp [it0]
      rw [hsz, List.take_length] at hv2
      have hli : (it0 word).length = word.length := by simp [it0]
      refine joinL hl2 hv2 (by have := encs_len (it0 word); exact ar195 hz hli this) fun t3 tk3 => ?_
      rw [enc_flat]
      have hle := enc_le (it0 word)
      refine PyProof.Rows.add_str (fun t4 tk4 => ?_) (by rw [sizeLine_eq, lq, wd_len]; exact ar196 hz hli hle)
      refine wpAny_Constant_str ?_
      refine PyProof.Rows.add_str (fun t5 tk5 => ?_) (by rw [sizeLine_eq, Str.length_append, lq, wd_len]; exact ar197 hz hli hle)
      dsimp only
      have e : Str.ofString "\"" ++ wd (enc (it0 word)) ++ Str.ofString "\"" = wd (spell word way) := by
        rw [spell, if_pos hw, lit_quote]
        apply Str.ext'
        simp [Str.cps_append]
      rw [e]
      exact h _ _ _ (kp.trans k2)
  · rw [if_neg (by simp [hw])]
    obtain ⟨hw0, hw1⟩ := not_or.mp hw
    refine wpAny_execs_nil (wpAny_execs_cons (wpAny_If (wpAny_isTrue_Compare1 ?_)))
    refine wpAny_Name (wpAny_loadName_local rfl rfl hns rfl ?_) (by decide)
    refine wpAny_Constant_int (PyProof.Rows.eq_int (wpAny_truthy_bool ?_))
    by_cases q : way = 1
    · rw [if_pos (by simp [q])]
      refine wpAny_execs_cons (wpAny_Return_some ?_)
      refine MethodCall_ ?_
      refine wpAny_Constant_str ?_
      refine GM.join ?_
      refine callWith_method1 (args_cons ?_)
      refine lcN (fun i ys => StrsL ys (((it1 word).take i).map encP)) rfl (by decide) rfl (by decide) rfl ?_
      refine Call_ (nameB (v := .type "range") G1 (g_range _) (by kernel_rfl) ?_)
      refine PySem.callWith_type1 ?_
      refine len_of G1 ?_ rfl
      refine wpAny_Name (wpAny_loadName_cell rfl rfl (show _ = some (L + 1) from rfl) ⟨oc1, ec1, dc1⟩ ?_) (by decide)
      refine ⟨word, _, rfl, by exact ar198 hz, fun t2 tk2 => ?_⟩
      refine call_range_1 ?_
      have kr : Kp h1 (h1.push { cls := .type "range", data := .fields #[.int 0 tk2, .int word.length t2, .int 1 (tk2 + 1)] }) := Kp.push _ _
      refine ⟨_, _, srcRange ok.hn (fun _ _ => rfl) (IsRange.new ..) (by exact ar199 hz), StrsL.nil, by exact ar198 hz, fun i ys hv => by rw [hv.len]; simp; omega, ?_, ?_⟩
      · intro i v ys C h2 tk2 m2 E' hi hP2 hn2 hm2 k2 hC hI
        dsimp only at k2 hC
        refine wpAny_tests_nil ⟨h2, tk2, rfl, Kp.refl _, ?_⟩
        rw [if_pos rfl]
        obtain ⟨ti, rfl⟩ := hP2
        have hc' : word[i]? = some word[i] := by simp [hi]
        generalize word[i] = c at hc'
        have hi1 : (it1 word)[i]? = some (b1 i c, c) := by simp [it1, hc']
        have ec2 := k2 _ _ (kr _ _ ec1)
        rw [take_snoc encP hi1]
        refine wpAny_IfExp (wpAny_mono (Q := fun b s' => b = b1 i c ∧ ∃ tk', s' = { s with heap := h2, toks := tk' }) ?_ ?_ (fun _ _ e => e))
        · refine isTrue_or (wpAny_isTrue_Compare1 ?_)
          refine sub_idx ?_
          refine wpAny_Name (wpAny_loadName_cell rfl rfl (show _ = some (L + 1) from rfl) ⟨oc1, ec2, dc1⟩ ?_) (by decide)
          refine wpAny_Name (wpAny_loadName_local rfl rfl hn2 hm2 ?_) (by decide)
          refine ⟨word, _, i, _, c, rfl, rfl, hc', by exact ar200 hz hi, fun t3 tk3 => ?_⟩
          refine wpAny_Constant_str (PyProof.Rows.in_str (wpAny_truthy_bool ?_))
          rw [in_b1]
          cases q2 : (c == 10 || c == 32 || c == 92) with
          | true =>
            rw [if_pos rfl]
            exact ⟨by simp [b1, q2], _, rfl⟩
          | false =>
            rw [if_neg (by decide)]
            refine isTrue_or (isTrue_and (wpAny_isTrue_Compare1 ?_))
            refine wpAny_Name (wpAny_loadName_local rfl rfl hn2 hm2 ?_) (by decide)
            refine wpAny_Constant_int (PyProof.Rows.eq_int (wpAny_truthy_bool ?_))
            by_cases q3 : i = 0
            · rw [if_pos (by simp [q3])]
              refine isTrue_and (wpAny_isTrue_Compare1 ?_)
              refine sub_idx ?_
              refine wpAny_Name (wpAny_loadName_cell rfl rfl (show _ = some (L + 1) from rfl) ⟨oc1, ec2, dc1⟩ ?_) (by decide)
              refine wpAny_Name (wpAny_loadName_local rfl rfl hn2 hm2 ?_) (by decide)
              refine ⟨word, _, i, _, c, rfl, rfl, hc', by exact ar26 q3, fun t4 tk4 => ?_⟩
              refine wpAny_Constant_str (PyProof.Rows.eq_str (wpAny_truthy_bool ?_))
              rw [one_beq lit_quote]
              by_cases q4 : c = 34
              · rw [if_pos (by simp [q4])]
                refine isTrue_and_nil ?_
                rw [if_pos rfl]
                exact ⟨by simp [b1, q3, q4], _, rfl⟩
              · rw [if_neg (by simp [q4]), if_neg (by decide)]
                exact isTrue_or_nil ⟨by simp only [b1, q2]; simp [q4], _, rfl⟩
            · rw [if_neg (by simp [q3]), if_neg (by decide)]
              exact isTrue_or_nil ⟨by simp only [b1, q2]; simp [q3], _, rfl⟩
        rintro b s' ⟨rfl, tk', rfl⟩
        cases hq : b1 i c with
        | true =>
          rw [if_pos rfl]
          refine wpAny_BinOp ?_
          refine wpAny_Constant_str ?_
          refine sub_idx ?_
          refine wpAny_Name (wpAny_loadName_cell rfl rfl (show _ = some (L + 1) from rfl) ⟨oc1, ec2, dc1⟩ ?_) (by decide)
          refine wpAny_Name (wpAny_loadName_local rfl rfl hn2 hm2 ?_) (by decide)
          refine ⟨word, _, i, _, c, rfl, rfl, hc', by exact ar200 hz hi, fun t3 tk3 => ?_⟩
          refine PyProof.Rows.add_str (fun t' tk3 => ?_) (by rw [sizeLine_eq]; show (1 : Nat) + 1 ≤ 16777216; decide)
          rw [back_one]
          exact ⟨h2, _, rfl, Kp.refl _, by simpa [encP] using hI.snoc⟩
        | false =>
          rw [if_neg (by decide)]
          refine sub_idx ?_
          refine wpAny_Name (wpAny_loadName_cell rfl rfl (show _ = some (L + 1) from rfl) ⟨oc1, ec2, dc1⟩ ?_) (by decide)
          refine wpAny_Name (wpAny_loadName_local rfl rfl hn2 hm2 ?_) (by decide)
          refine ⟨word, _, i, _, c, rfl, rfl, hc', by exact ar200 hz hi, fun t3 tk3 => ?_⟩
          exact ⟨h2, _, rfl, Kp.refl _, by simpa [encP] using hI.snoc⟩
      · intro D h2 tk2 ys hD hl2 hv2 k2
        dsimp only at k2 hD ⊢
        refine args_nil ?_
        have hsz : word.length = (it1 word).length := by simp [it1]
        rw [hsz, List.take_length] at hv2
        refine joinL hl2 hv2 (by have := encs_len (it1 word); exact ar201 hz hsz this) fun t3 tk3 => ?_
        rw [enc_flat]
        dsimp only
        have e : enc (it1 word) = spell word way := by rw [spell, if_neg hw, if_pos q]
        rw [e]
        exact h _ _ _ (kp.trans (kr.trans k2))
    · rw [if_neg (by simp [q])]
      refine wpAny_execs_nil (wpAny_execs_cons (wpAny_Return_some ?_))
      refine MethodCall_ ?_
      refine wpAny_Constant_str ?_
      refine GM.join ?_
      refine callWith_method1 (args_cons ?_)
      refine lcN (fun i ys => StrsL ys (((it2 word).take i).map encP)) rfl (by decide) rfl (by decide) rfl ?_
      refine wpAny_Name (wpAny_loadName_cell rfl rfl (show _ = some (L + 1) from rfl) ⟨oc1, ec1, dc1⟩ ?_) (by decide)
      refine ⟨_, _, srcStr ok.hn (fun _ _ => rfl), StrsL.nil, by simp; omega, fun i ys hv => by rw [hv.len]; simp; omega, ?_, ?_⟩
      · intro i v ys C h2 tk2 m2 E' hi hP2 hn2 hm2 k2 hC hI
        refine wpAny_tests_nil ⟨h2, tk2, rfl, Kp.refl _, ?_⟩
        rw [if_pos rfl]
        obtain ⟨c, u, hc, rfl⟩ := hP2
        have hc' : word[i]? = some c := by simpa using hc
        have hi2 : (it2 word)[i]? = some (true, c) := by simp [it2, hc']
        rw [take_snoc encP hi2]
        refine wpAny_BinOp ?_
        refine wpAny_Constant_str ?_
        refine wpAny_Name (wpAny_loadName_local rfl rfl hn2 hm2 ?_) (by decide)
        refine PyProof.Rows.add_str (fun t' tk3 => ?_) (by rw [sizeLine_eq]; show (1 : Nat) + 1 ≤ 16777216; decide)
        rw [back_one]
        exact ⟨h2, _, rfl, Kp.refl _, by simpa [encP] using hI.snoc⟩
      · intro D h2 tk2 ys hD hl2 hv2 k2
        dsimp only at k2 hD ⊢
        refine args_nil ?_
        have hsz : (wd word).cps.size = (it2 word).length := by simp [it2]
        rw [hsz, List.take_length] at hv2
        have hli : (it2 word).length = word.length := by simp [it2]
        refine joinL hl2 hv2 (by have := encs_len (it2 word); exact ar195 hz hli this) fun t3 tk3 => ?_
        rw [enc_flat]
        dsimp only
        have e : enc (it2 word) = spell word way := by rw [spell, if_neg hw, if_neg q]
        rw [e]
        exact h _ _ _ (kp.trans k2)
end
end Mine

end
section -- M30
open PySem PySem.W PyProof.Rows PySem.Calls PySem.Builtin PySem.Builtin.ObjectAttr PySem.Builtin.Str PySem.StrLaws
set_option maxRecDepth 100000
set_option linter.unusedVariables false
namespace Mine
noncomputable abbrev kDis : List Nat := [100, 105, 115, 97, 108, 108, 111, 119]
theorem lit_dis : Str.ofString "disallow" = wd kDis := by decide
/- a text without tabs and returns -/
noncomputable def GoodW (x : List Nat) : Prop := (∀ c ∈ x, c ≠ 9 ∧ c ≠ 13) ∧ x.length ≤ 100
noncomputable def GoodRow (r : List Nat × List Nat) : Prop := (r.1 = kAllow ∨ r.1 = kDis ∨ r.1 = kAgent) ∧ GoodW r.2
noncomputable def baseRows : Rows := [(kAllow, [47, 97]), (kDis, [47]), (kAgent, [97, 66]), (kDis, [47, 97, 32, 34]), (kAllow, [98]), (kDis, [98]), (kDis, [65]), (kAllow, [65])]
theorem base_good : ∀ r ∈ baseRows, GoodRow r := by
  intro r hr
  simp only [baseRows, List.mem_cons, List.not_mem_nil, or_false] at hr
  rcases hr with rfl | rfl | rfl | rfl | rfl | rfl | rfl | rfl <;> exact ⟨by decide, by decide, by decide⟩
/- the tuples stand while no tuple turns -/
theorem TupsAt.kpK {h h' : Heap} {W : List Nat} (k : KpB W h h') (hW : ∀ y ∈ W, ∀ o, h.get? y = some o → o.cls ≠ .type "tuple" ∨ dk o ≠ 1) {vs : List Value} {rs : Rows} (x : TupsAt 0 h vs rs) : TupsAt 0 h' vs rs :=
  All2.imp (fun _ _ => Exists.imp fun _ => Exists.imp fun _ => Exists.imp fun _ => And.imp_right fun z => ⟨tup_kpB z.1 k (fun q => by
      obtain ⟨o, e, c, n, d⟩ := z.1
      rcases hW _ q o e with h1 | h1
      · exact h1 c
      · exact h1 (by rw [dk_of d]; rfl)), z.2⟩) x
/- ten texts of one sign at most -/
noncomputable def Pc (n : Nat) (l : List Value) : Prop := ∀ d, d < n → ∃ p t, l[d]? = some (.str (wd p) t) ∧ p.length ≤ 1 ∧ ∀ c ∈ p, c ≠ 9 ∧ c ≠ 13
noncomputable abbrev PiecesAt (l : List Value) : Prop := Pc 10 l
theorem Pc.cons {n : Nat} {l : List Value} {x : Str} {t : Tok} (p : List Nat) (e : x = wd p) (hp : p.length ≤ 1 ∧ ∀ c ∈ p, c ≠ 9 ∧ c ≠ 13) (h : Pc n l) : Pc (n + 1) (.str x t :: l) := by
  intro d hd
  cases d with
  | zero => exact ⟨p, t, e ▸ rfl, hp⟩
  | succ d => exact h d (Nat.lt_of_succ_lt_succ hd)
theorem pieces_ok (t0 t1 t2 t3 t4 t5 t6 t7 t8 t9 : Tok) : PiecesAt [.str (Str.ofString "/") t0, .str (Str.ofString "a") t1, .str (Str.ofString "b") t2, .str (Str.ofString " ") t3, .str (Str.ofString "\"") t4, .str (Str.ofString "\\") t5, .str (Str.ofString "A") t6, .str (Str.ofString "*") t7, .str (Str.ofString "\n") t8, .str (Str.ofString "") t9] :=
  .cons [47] (by decide) (by decide) <| .cons [97] (by decide) (by decide) <| .cons [98] (by decide) (by decide) <| .cons [32] (by decide) (by decide) <| .cons [34] (by decide) (by decide) <|
  .cons [92] (by decide) (by decide) <| .cons [65] (by decide) (by decide) <| .cons [42] (by decide) (by decide) <| .cons [10] (by decide) (by decide) <| .cons [] (by decide) (by decide) fun _ h => absurd h (Nat.not_lt_zero _)
theorem k_c114 (P : Params) : codeIn (hd.heap_39 P) (.ref 114) (Str.ofString "_law_rows") = true := by kernel_rfl
theorem g_str (P : Params) : nsIn (hd.heap_39 P) mainGlobals (Str.ofString "str") = some none := by kernel_rfl
theorem g_abs (P : Params) : nsIn (hd.heap_39 P) mainGlobals (Str.ofString "abs") = some none := by kernel_rfl
theorem g_int (P : Params) : nsIn (hd.heap_39 P) mainGlobals (Str.ofString "int") = some none := by kernel_rfl

section
variable {w : World} {mean : ExcName → Option Value} {mg mb : Str → Option Value} {A : Around} {E : Value → Shared → Prop} {s : Shared} {R : Result → Shared → Prop} {h₀ : Heap}
/- a pair of literal texts -/
theorem tup2 {env : Env} {a b : Str} {k1 k2 k : Nat} {p1 p2 p : Pos} {Q : Value → Shared → Prop} (h : ∀ (T : Nat) h' tk t u, T = s.heap.objs.size → h'.IsTuple T #[.str a t, .str b u] → Kp s.heap h' → h'.objs.size = s.heap.objs.size + 1 → Q (.ref T) { s with heap := h', toks := tk }) :
    wpAny (model PR w) A (PySem.eval (.Tuple [.Constant (.str a) k1 p1, .Constant (.str b) k2 p2] k p) env) Q E s := by
  refine wpAny_Tuple (args_cons ?_)
  refine wpAny_Constant_str ?_
  refine args_cons ?_
  refine wpAny_Constant_str ?_
  refine args_nil ⟨show 2 ≤ sizeLine by decide, ?_⟩
  exact h _ _ _ _ _ rfl ⟨_, Heap.get?_push_size _ rfl, rfl, 0, rfl⟩ (Kp.push _ _) (Heap.size_push ..)
theorem tup_kp {h h' : Heap} {T : Nat} {xs : Array Value} (x : h.IsTuple T xs) (k : Kp h h') : h'.IsTuple T xs := x.imp fun _ => And.imp_left (k _ _)
end
end Mine

end
section -- M31
open PySem PySem.W PyProof.Rows PySem.Calls PySem.Builtin PySem.Builtin.ObjectAttr PySem.Builtin.Str PySem.StrLaws
set_option maxRecDepth 100000
set_option linter.unusedVariables false
namespace Mine
/- the signs of a number below 1000 -/
theorem dec_signs {a : Int} (h0 : 0 ≤ a) (h1 : a < 1000) : (Str.ofString (toString a)).cps.size ≤ 10 ∧ ∀ (i c : Nat), (Str.ofString (toString a)).cps[i]? = some c → ∃ d : Nat, d < 10 ∧ PySem.intText? (one c) = some (d : Int) := by
  refine ⟨KT.len_num h0 (by exact ar202 h0 h1), fun i c hc => ?_⟩
  obtain ⟨m, rfl⟩ := Int.eq_ofNat_of_zero_le h0
  have hm : c ∈ (Str.ofString (toString ((m : Nat) : Int))).cps.toList := by
    rw [← Array.getElem?_toList] at hc
    exact List.mem_of_getElem? hc
  rw [KIN.signs_num] at hm
  obtain ⟨ch, hch, rfl⟩ := List.mem_map.mp hm
  have r := digit_range (Nat.isDigit_of_mem_toDigits (by decide) (by decide) hch)
  generalize ch.toNat = c at r
  have key : ∀ c : Nat, c < 58 → 48 ≤ c → PySem.intText? (one c) = some ((c - 48 : Nat) : Int) := by decide +kernel
  exact ⟨c - 48, by exact ar203 r, key c (by exact ar204 r) r.1⟩
/- the three kinds -/
noncomputable def Kinds3 (l : List Value) : Prop := ∀ x, x < 3 → ∃ kd t, l[x]? = some (.str (wd kd) t) ∧ (kd = kAllow ∨ kd = kDis ∨ kd = kAgent)
theorem kinds3 (t0 t1 t2 : Tok) : Kinds3 [Value.str (Str.ofString "allow") t0, .str (Str.ofString "disallow") t1, .str (Str.ofString "agent") t2] := by
  intro x hx
  cases x with
  | zero => exact ⟨kAllow, t0, by rw [← lit_allow]; rfl, .inl rfl⟩
  | succ x => cases x with
    | zero => exact ⟨kDis, t1, by rw [← lit_dis]; rfl, .inr (.inl rfl)⟩
    | succ x => cases x with
      | zero => exact ⟨kAgent, t2, by rw [← lit_agent]; rfl, .inr (.inr rfl)⟩
      | succ x => exact absurd hx (Nat.not_lt.mpr (Nat.le_add_left 3 x))
theorem tupW {h : Heap} {T : Nat} {a b : Str} {x y : List Nat} {t u : Tok} (z : h.IsTuple T #[.str a t, .str b u]) (ha : a = wd x) (hb : b = wd y) : h.IsTuple T #[.str (wd x) t, .str (wd y) u] := by subst ha hb; exact z
section
variable {w : World} {mean : ExcName → Option Value} {mg mb : Str → Option Value} {A : Around} {E : Value → Shared → Prop} {s : Shared} {R : Result → Shared → Prop} {h₀ : Heap}

/- a list display -/
theorem listW {env : Env} {elts : List Expr} {pos : Pos} {Q : Value → Shared → Prop}
    (h : wpAny (model PR w) A (spliced (backTo pos (starEach elts env))) (fun vs s₁ => vs.length ≤ sizeLine ∧ ∀ (l : Nat) h', l = s₁.heap.objs.size → LAt h' l vs → Kp s₁.heap h' → h'.objs.size = s₁.heap.objs.size + 1 → Q (.ref l) { s₁ with heap := h' }) E s) :
    wpAny (model PR w) A (PySem.eval (.List elts pos) env) Q E s :=
  wpAny_List (wpAny_mono h (fun vs s₁ h₁ => ⟨h₁.1, h₁.2 _ _ rfl ⟨0, Heap.get?_push_size _ rfl⟩ (Kp.push _ _) (Heap.size_push ..)⟩) fun _ _ e => e)

set_option maxHeartbeats 2000000 in
theorem law_rows {n l : Nat} {vs : List Value} (k : OkA A (n + 1)) (G : Gd w mean mg mb h₀) (K0 : Kp h₀ s.heap) (hl : LAt s.heap l vs) (hi : ∀ v ∈ vs, ∃ a t, v = .int a t) (hz : vs.length ≤ 100)
    (h : ∀ (rw : Nat) ws extra h' tk, s.heap.objs.size ≤ rw → LAt h' rw ws → TupsAt 0 h' ws (baseRows ++ extra) → (∀ r ∈ extra, GoodRow r) → extra.length = vs.length → Kp s.heap h' → R (.ok (.ret (.ref rw))) { s with heap := h', toks := tk }) :
    codeAny (model PR w) A (.call (.ref 115) ⟨[.ref l], []⟩) R s := by
  have GS := G.keeps K0
  have hfn : s.heap.get? 115 = some _ := GS.X _ _ (by rfl)
  refine callC (n := n) (binds := [(Str.ofString "numbers", .ref l)]) k hfn GS.lim (codeRec_of GS.X (k_c114 _)) ?_ ?_ ?_
  · rfl
  · intro L; rfl
  intro L h1 tk hL hns hcell kp ok
  obtain ⟨oc1, ec1, dc1⟩ := hcell (Str.ofString "pieces") (L + 1) rfl
  have hsz1 : L + 1 < h1.objs.size := ltS ec1
  refine wpAny_execs_cons ?_
  refine wpAny_Assign_Name ?_
  refine listW ?_
  refine args_cons ?_
  refine wpAny_Constant_str ?_
  refine args_cons ?_
  refine wpAny_Constant_str ?_
  refine args_cons ?_
  refine wpAny_Constant_str ?_
  refine args_cons ?_
  refine wpAny_Constant_str ?_
  refine args_cons ?_
  refine wpAny_Constant_str ?_
  refine args_cons ?_
  refine wpAny_Constant_str ?_
  refine args_cons ?_
  refine wpAny_Constant_str ?_
  refine args_cons ?_
  refine wpAny_Constant_str ?_
  refine args_cons ?_
  refine wpAny_Constant_str ?_
  refine args_cons ?_
  refine wpAny_Constant_str ?_
  refine args_nil ⟨show 10 ≤ sizeLine by decide, ?_⟩
  intro pl h1b epl lpl k1b z1b
  dsimp only at epl k1b z1b ⊢
  refine wpAny_storeName_cell rfl rfl (show _ = some (L + 1) from rfl) ⟨_, k1b _ _ ec1, dc1⟩ ?_
  intro h2 hc2 sb2
  dsimp only
  have k2 := kp_same sb2
  have lpl2 := lpl.kpB k2 (by exact ar205 hL hsz1 epl z1b)
  have hpc := pieces_ok
  have hn2 := ns_kpB (hns.keeps k1b) k2 (by simp)
  have K2 : Kp s.heap h2 := fun b o e => k2 _ _ (by have := ltS e; exact ar52 hL this) (k1b _ _ (kp _ _ e))
  have z2 : h2.objs.size = h1.objs.size + 1 := by have := sb2.1; rw [this]; exact z1b
  obtain ⟨oc2, ec2, dc2⟩ := hc2
  refine wpAny_execs_cons ?_
  refine wpAny_Assign_Name ?_
  refine listW ?_
  refine args_cons ?_
  refine tup2 ?_
  intro T1 g1 tk1 t1 u1 eT1 x1 q1 z1'
  dsimp only at eT1 q1 z1' ⊢
  refine args_cons ?_
  refine tup2 ?_
  intro T2 g2 tk2 t2 u2 eT2 x2 q2 z2'
  dsimp only at eT2 q2 z2' ⊢
  refine args_cons ?_
  refine tup2 ?_
  intro T3 g3 tk3 t3 u3 eT3 x3 q3 z3'
  dsimp only at eT3 q3 z3' ⊢
  refine args_cons ?_
  refine tup2 ?_
  intro T4 g4 tk4 t4 u4 eT4 x4 q4 z4'
  dsimp only at eT4 q4 z4' ⊢
  refine args_cons ?_
  refine tup2 ?_
  intro T5 g5 tk5 t5 u5 eT5 x5 q5 z5'
  dsimp only at eT5 q5 z5' ⊢
  refine args_cons ?_
  refine tup2 ?_
  intro T6 g6 tk6 t6 u6 eT6 x6 q6 z6'
  dsimp only at eT6 q6 z6' ⊢
  refine args_cons ?_
  refine tup2 ?_
  intro T7 g7 tk7 t7 u7 eT7 x7 q7 z7'
  dsimp only at eT7 q7 z7' ⊢
  refine args_cons ?_
  refine tup2 ?_
  intro T8 g8 tk8 t8 u8 eT8 x8 q8 z8'
  dsimp only at eT8 q8 z8' ⊢
  refine args_nil ⟨show 8 ≤ sizeLine by decide, ?_⟩
  intro rw H erw lH kH zH
  dsimp only at erw kH zH ⊢
  have tH : TupsAt 0 H [.ref T1, .ref T2, .ref T3, .ref T4, .ref T5, .ref T6, .ref T7, .ref T8] baseRows :=
    ⟨⟨T1, t1, u1, rfl, tupW (tup_kp x1 (q2.trans (q3.trans (q4.trans (q5.trans (q6.trans (q7.trans (q8.trans kH)))))))) (by decide) (by decide), Nat.zero_le _⟩, ⟨⟨T2, t2, u2, rfl, tupW (tup_kp x2 (q3.trans (q4.trans (q5.trans (q6.trans (q7.trans (q8.trans kH))))))) (by decide) (by decide), Nat.zero_le _⟩, ⟨⟨T3, t3, u3, rfl, tupW (tup_kp x3 (q4.trans (q5.trans (q6.trans (q7.trans (q8.trans kH)))))) (by decide) (by decide), Nat.zero_le _⟩, ⟨⟨T4, t4, u4, rfl, tupW (tup_kp x4 (q5.trans (q6.trans (q7.trans (q8.trans kH))))) (by decide) (by decide), Nat.zero_le _⟩, ⟨⟨T5, t5, u5, rfl, tupW (tup_kp x5 (q6.trans (q7.trans (q8.trans kH)))) (by decide) (by decide), Nat.zero_le _⟩, ⟨⟨T6, t6, u6, rfl, tupW (tup_kp x6 (q7.trans (q8.trans kH))) (by decide) (by decide), Nat.zero_le _⟩, ⟨⟨T7, t7, u7, rfl, tupW (tup_kp x7 (q8.trans kH)) (by decide) (by decide), Nat.zero_le _⟩, ⟨⟨T8, t8, u8, rfl, tupW (tup_kp x8 kH) (by decide) (by decide), Nat.zero_le _⟩, trivial⟩⟩⟩⟩⟩⟩⟩⟩
  have K2H : Kp h2 H := q1.trans (q2.trans (q3.trans (q4.trans (q5.trans (q6.trans (q7.trans (q8.trans kH)))))))
  have zg : h1.objs.size < rw := by exact ar206 epl z1b z2 eT1 z1' eT2 z2' eT3 z3' eT4 z4' eT5 z5' eT6 z6' eT7 z7' eT8 z8' erw
  have zh9 : rw < H.objs.size := by exact ar207 erw zH
  clear eT1 eT2 eT3 eT4 eT5 eT6 eT7 eT8 z1' z2' z3' z4' z5' z6' z7' z8' erw zH
  clear x1 x2 x3 x4 x5 x6 x7 x8
  generalize [Value.ref T1, .ref T2, .ref T3, .ref T4, .ref T5, .ref T6, .ref T7, .ref T8] = w0 at lH tH
  refine wpAny_storeName_local rfl (hn2.keeps K2H) ?_
  intro h3 hn3 sb3
  dsimp only
  have k3 := kp_same sb3
  have z3 : h3.objs.size = H.objs.size := sb3.1
  have K3 : Kp s.heap h3 := fun b o e => k3 _ _ (by have := ltS e; exact as1 hL this) (K2H _ _ (K2 _ _ e))
  have ec3 := k3 (L + 1) _ (by simp) (K2H _ _ ec2)
  have lp3 := (lpl2.kp K2H).kpB k3 (by exact ngt (as11 hsz1 epl))
  have lr3 := lH.kpB k3 (by exact ngt (as12 hsz1 zg))
  have t3' := tH.kpK k3 (by
    intro y hy o e
    rw [List.mem_singleton.mp hy] at e
    obtain ⟨o', es, ep, e', d, _⟩ := hn2.keeps K2H
    rw [e] at e'; cases e'
    exact .inr (by rw [dk_of d]; show (2 : Nat) ≠ 1; decide))
  have hl3 := hl.kp K3
  have hll : l < s.heap.objs.size := by obtain ⟨_, e⟩ := hl; exact ltS e
  obtain ⟨pcs, lp4, hpcs⟩ : ∃ pcs, LAt h3 pl pcs ∧ PiecesAt pcs := ⟨_, lp3, pieces_ok _ _ _ _ _ _ _ _ _ _⟩
  clear lp3 lpl2 lpl hpc
  have L3 : L < h3.objs.size := by exact ar208 hL hsz1 epl z1b z2 zg zh9 z3
  refine wpAny_execs_cons ?_
  refine wpAny_For ?_
  refine wpAny_Name (wpAny_loadName_local rfl rfl hn3 rfl ?_) (by decide)
  obtain ⟨Inv, hI⟩ := opq (α := Nat) (β := Heap) (fun i h => (∃ m', h.Ns L m' ∧ m' (Str.ofString "rows") = some (.ref rw)) ∧ h.get? (L + 1) = some oc2 ∧ LAt h pl pcs ∧ (∃ ws extra, LAt h rw ws ∧ TupsAt 0 h ws (baseRows ++ extra) ∧ (∀ r ∈ extra, GoodRow r) ∧ extra.length = i) ∧ Kp s.heap h)
  refine floop (s := { s with heap := h3, toks := _ }) ok.hn hl3 [L, rw] (by intro y hy; simp at hy; show y < h3.objs.size; exact ar209 hL zh9 z3 L3 hy) (by exact ar210 hL hsz1 epl z1b z2 zg hll)
    Inv ?_ ?_ ?_ ?_
  · intro i h h' hi' hit kb
    obtain ⟨⟨m', hn, r⟩, hc, hp, ⟨ws, extra, lw, tw, hg, he⟩, kk⟩ := (hI _ _).mp hi'
    dsimp only at hit kb
    refine (hI _ _).mpr ⟨⟨m', ns_kpB hn kb (by exact ar211 hL L3), r⟩, kb _ _ (by exact ar212 hL hsz1 epl z1b z2 zg zh9 z3) hc, hp.kpB kb (by exact ar213 epl z1b z2 zg zh9 z3), ⟨ws, extra, lw.kpB kb (by exact ar214 zh9 z3), tw.kpK kb ?_, hg, he⟩, fun b o e => kb _ _ (by have := ltS e; exact ar215 hL L3 this) (kk _ _ e)⟩
    intro y hy o e
    rw [List.mem_singleton.mp hy] at e
    exact .inl (by rw [hit o e]; decide)
  · exact (hI _ _).mpr ⟨⟨_, hn3, rfl⟩, ec3, lp4, ⟨w0, [], lr3, by rw [List.append_nil]; exact t3', by simp, rfl⟩, K3⟩
  · intro i v h5 tk5 E' hv hi5 kb5
    obtain ⟨⟨m', hn5, f1⟩, hc5, hp5, ⟨ws, extra, lw, tw, hg, he⟩, K5⟩ := (hI _ _).mp hi5
    obtain ⟨a, ta, rfl⟩ := hi v (List.mem_of_getElem? hv)
    have hilt : i < vs.length := (List.getElem?_eq_some_iff.mp hv).1
    refine wpAny_assign_Name (wpAny_storeName_local rfl hn5 ?_)
    intro h6 hn6 sb6
    dsimp only
    have k6 := kp_same sb6
    have K6 : Kp s.heap h6 := fun b o e => k6 _ _ (by have := ltS e; exact as1 hL this) (K5 _ _ e)
    have G6 := GS.keeps K6
    have hc6 := k6 _ _ (by simp) hc5
    have hp6 := hp5.kpB k6 (by exact ngt (as11 hsz1 epl))
    refine wpAny_execs_cons ?_
    refine wpAny_Assign_Name ?_
    refine MethodCall_ ?_
    refine wpAny_Constant_str ?_
    refine GM.join ?_
    refine callWith_method1 ?_
    refine args_cons ?_
    refine lcN (fun j ys => ∃ xs : List (List Nat), StrsL ys xs ∧ xs.length = j ∧ ∀ p ∈ xs, p.length ≤ 1 ∧ ∀ c ∈ p, c ≠ 9 ∧ c ≠ 13) rfl (by decide) rfl (by decide) rfl ?_
    refine Call_ ?_
    refine nameB (v := .type "str") G6 (g_str _) (by kernel_rfl) ?_
    refine PySem.callWith_type1 ?_
    refine wpAny_BinOp ?_
    refine Call_ ?_
    refine nameB (v := .builtin "abs") G6 (g_abs _) (by kernel_rfl) ?_
    refine PySem.callWith_builtin1 ?_
    refine wpAny_BinOp ?_
    refine wpAny_Name (wpAny_loadName_local rfl rfl hn6 rfl ?_) (by decide)
    refine wpAny_Constant_int ?_
    refine floordiv_int (by decide) ?_
    refine call_abs_int ?_
    intro u7 tk7
    refine wpAny_Constant_int ?_
    refine PyProof.Rows.mod_int (by decide) ?_
    generalize hN : (if a.fdiv 3 < 0 then -a.fdiv 3 else a.fdiv 3).fmod 1000 = N
    have hN0 : 0 ≤ N := by rw [← hN]; exact fmod_lo _ (by decide)
    have hN1 : N < 1000 := by rw [← hN]; exact fmod_hi _ (by decide)
    obtain ⟨hlen, hdig⟩ := dec_signs hN0 hN1
    have hlog : N.natAbs.log2 < 1920 := by
      by_cases q : N.natAbs = 0
      · rw [q]; decide
      · refine (Nat.log2_lt q).mpr ?_
        have h1 : (1000 : Nat) ≤ 2 ^ 1920 := by decide +kernel
        omega
    refine PySem.P.str_of_int hlog ?_
    refine ⟨_, _, srcStr ok.hn (fun _ _ => rfl), ⟨[], StrsL.nil, rfl, by simp⟩, by exact ar216 hlen, ?_, ?_, ?_⟩
    · rintro j ys ⟨xs, hx, hxl, _⟩
      rw [hx.len]; exact ar217 hxl
    · rintro j v ys C h7 tk8 m7 E7 hj hP7 hn7 hm7 k7 hC ⟨xs, hx, hxl, hxg⟩
      dsimp only at k7 hC
      refine wpAny_tests_nil ?_
      refine ⟨h7, tk8, rfl, Kp.refl _, ?_⟩
      rw [if_pos rfl]
      obtain ⟨c, u, hc, rfl⟩ := hP7
      obtain ⟨d, hd, hdt⟩ := hdig j c hc
      obtain ⟨p, tp, hp, hp1, hp2⟩ := hpcs d hd
      have G7 := G6.keeps k7
      refine Subscript_ ?_
      refine wpAny_Name (wpAny_loadName_cell rfl rfl (show _ = some (L + 1) from rfl) ⟨oc2, k7 _ _ hc6, dc2⟩ ?_) (by decide)
      refine Call_ ?_
      refine nameB (v := .type "int") G7 (g_int _) (by kernel_rfl) ?_
      refine PySem.callWith_type1 ?_
      refine wpAny_Name (wpAny_loadName_local rfl rfl hn7 hm7 ?_) (by decide)
      refine KIN.call_text hdt (show 1 ≤ 640 by decide) ?_
      refine item_listL (x := .str (wd p) tp) ((hp6.kp k7).is) (by exact ar218 hd) (by exact ar219 hd) (by simpa using hp) ?_
      exact ⟨h7, _, rfl, Kp.refl _, xs ++ [p], hx.snoc, by simp [hxl], by
        intro q hq
        rcases List.mem_append.mp hq with hq | hq
        · exact hxg q hq
        · rw [List.mem_singleton.mp hq]; exact ⟨hp1, hp2⟩⟩
    rintro D h7 tk8 ys hD lD ⟨xs, hx, hxl, hxg⟩ k7
    dsimp only at hD k7 ⊢
    refine args_nil ?_
    have hsum : ∀ xs : List (List Nat), (∀ p ∈ xs, p.length ≤ 1 ∧ ∀ c ∈ p, c ≠ 9 ∧ c ≠ 13) → (xs.map List.length).sum ≤ xs.length ∧ ∀ c ∈ xs.flatten, c ≠ 9 ∧ c ≠ 13 := by
      intro xs
      induction xs with
      | nil => intro _; simp
      | cons p r ih =>
        intro hh
        obtain ⟨i1, i2⟩ := ih fun q hq => hh q (.tail _ hq)
        obtain ⟨p1, p2⟩ := hh p (.head _)
        refine ⟨by simp; omega, fun c hc => ?_⟩
        rw [List.flatten_cons] at hc
        rcases List.mem_append.mp hc with hc | hc
        · exact p2 c hc
        · exact i2 c hc
    obtain ⟨hs1, hs2⟩ := hsum xs hxg
    refine joinL lD hx (by exact ar220 hlen hxl hs1) ?_
    intro t9 tk9
    have hgw : GoodW xs.flatten := ⟨hs2, by rw [List.length_flatten]; exact ar221 hlen hxl hs1⟩
    generalize xs.flatten = word at hgw
    dsimp only
    refine wpAny_storeName_local rfl (hn6.keeps k7) ?_
    intro h8 hn8 sb8
    dsimp only
    have k8 := kp_same sb8
    have K58 : KpB [L] h5 h8 := fun b o nb e => k8 _ _ nb (k7 _ _ (k6 _ _ nb e))
    have K8 : Kp s.heap h8 := fun b o e => K58 _ _ (by have := ltS e; exact ar100 hL this) (K5 _ _ e)
    have lw8 := lw.kpB K58 (by exact ar222 hL hsz1 epl z1b z2 zg)
    have tw8 := tw.kpK K58 (by
      intro y hy o e
      rw [List.mem_singleton.mp hy] at e
      obtain ⟨o', es, ep, e', d, _⟩ := hn5
      rw [e] at e'; cases e'
      exact .inr (by rw [dk_of d]; show (2 : Nat) ≠ 1; decide))
    refine wpAny_execs_cons ?_
    refine wpAny_Expr ?_
    refine MethodCall_ ?_
    refine wpAny_Name (wpAny_loadName_local rfl rfl hn8 ((if_neg (by decide)).trans ((if_neg (by decide)).trans f1)) ?_) (by decide)
    refine getM_list PySem.F.slot_list_append PySem.F.type_list_append lw8 ?_
    refine callWith_method1 ?_
    refine args_cons ?_
    refine wpAny_Tuple ?_
    refine args_cons ?_
    refine Subscript_ ?_
    refine listW ?_
    refine args_cons ?_
    refine wpAny_Constant_str ?_
    refine args_cons ?_
    refine wpAny_Constant_str ?_
    refine args_cons ?_
    refine wpAny_Constant_str ?_
    refine args_nil ⟨show 3 ≤ sizeLine by decide, ?_⟩
    intro kl h9 ekl lkl k9 z9
    dsimp only at ekl k9 z9 ⊢
    refine wpAny_BinOp ?_
    refine wpAny_Name (wpAny_loadName_local rfl rfl (hn8.keeps k9) ((if_neg (by decide)).trans (if_pos rfl)) ?_) (by decide)
    refine wpAny_Constant_int ?_
    refine PyProof.Rows.mod_int (by decide) ?_
    have hM0 : 0 ≤ a.fmod 3 := fmod_lo _ (by decide)
    have hM1 : a.fmod 3 < 3 := fmod_hi _ (by decide)
    obtain ⟨lst, lkl', hk3⟩ : ∃ lst, LAt h9 kl lst ∧ Kinds3 lst := ⟨_, lkl, kinds3 _ _ _⟩
    obtain ⟨kd, tkd, hkd, hkg⟩ := hk3 (a.fmod 3).toNat (by exact ar223 hM0 hM1)
    refine kba_turn (value' := PySem.Expr.Name (PySem.Str.ofString "_") ⟨0, 0, 0, 0⟩) (fun _ => rfl) ?_
    refine item_listL (x := .str (wd kd) tkd) lkl'.is hM0 (by exact ar224 hM0 hM1) hkd ?_
    refine args_cons ?_
    refine wpAny_Name (wpAny_loadName_local rfl rfl (hn8.keeps k9) (if_pos rfl) ?_) (by decide)
    refine args_nil ⟨show 2 ≤ sizeLine by decide, ?_⟩
    refine args_nil ?_
    dsimp only
    have hwl : ws.length ≤ 200 := by
      rw [tw.len, List.length_append, he]
      have : baseRows.length = 8 := rfl
      exact ar225 hz he hilt this
    refine append1 ((lw8.kp k9).kp (Kp.push _ _)) ?_ (by exact ar226 hwl)
    intro h10 l10 k10
    dsimp only at k10 ⊢
    have K8T : Kp h8 (h9.push { cls := .type "tuple", data := .seq [Value.str (wd kd) tkd, .str (wd word) t9].toArray }) := k9.trans (Kp.push _ _)
    have K810 : KpB [rw] h8 h10 := fun b o nb e => k10 _ _ nb (K8T _ _ e)
    have hrwlt : rw < h8.objs.size := by obtain ⟨_, e⟩ := lw8; exact ltS e
    have hT10 := tup_kpB (T := h9.objs.size) (xs := #[.str (wd kd) tkd, .str (wd word) t9]) (⟨_, Heap.get?_push_size h9 rfl, rfl, 0, rfl⟩) k10 (by have := z9; exact ar227 z9 hrwlt)
    have tw10 := tw8.kpK K810 (by
      intro y hy o e
      rw [List.mem_singleton.mp hy] at e
      obtain ⟨n', e'⟩ := lw8
      rw [e] at e'; cases e'
      exact .inl (show Value.type "list" ≠ Value.type "tuple" from fun q => by injection q with q; revert q; decide))
    refine wpAny_execs_nil ?_
    refine ⟨h10, _, rfl, (hI _ _).mpr ⟨⟨_, ns_kpB hn8 K810 (by exact ar228 hL hsz1 epl z1b z2 zg), (if_neg (by decide)).trans ((if_neg (by decide)).trans f1)⟩, K810 _ _ (by exact ar229 hL hsz1 epl z1b z2 zg) (K58 _ _ (by simp) hc5), (hp5.kpB K58 (by exact ar230 hL hsz1 epl z1b z2)).kpB K810 (by exact ar231 epl z1b z2 zg), ⟨_, extra ++ [(kd, word)], l10, ?_, ?_, by simp [he]⟩, fun b o e => K810 _ _ (by have := ltS e; exact ar232 hL hsz1 epl z1b z2 zg this) (K8 _ _ e)⟩, ?_⟩
    · rw [← List.append_assoc]
      exact tw10.snoc (r := (kd, word)) hT10 (Nat.zero_le _)
    · intro r hr
      rcases List.mem_append.mp hr with hr | hr
      · exact hg r hr
      · rw [List.mem_singleton.mp hr]; exact ⟨hkg, hgw⟩
    · intro b o nb e
      simp at nb
      exact K810 _ _ (by simpa using nb.2) (K58 _ _ (by simpa using nb.1) e)
  · intro h5 tk5 hi5 kb5
    obtain ⟨⟨m', hn5, f1⟩, hc5, hp5, ⟨ws, extra, lw, tw, hg, he⟩, K5⟩ := (hI _ _).mp hi5
    refine wpAny_execs_cons ?_
    refine wpAny_Return_some ?_
    refine wpAny_Name (wpAny_loadName_local rfl rfl hn5 f1 ?_) (by decide)
    exact h _ _ _ _ _ (by exact ar233 hL hsz1 epl z1b z2 zg) lw tw hg he K5
end
end Mine

end
section -- M32
open PySem PySem.W PyProof.Rows PySem.Calls PySem.Builtin PySem.Builtin.ObjectAttr PySem.Builtin.Str PySem.StrLaws
set_option maxRecDepth 100000
set_option linter.unusedVariables false
namespace Mine
section
variable {w : World} {A : Around} {E : Value → Shared → Prop} {s : Shared} {R : Result → Shared → Prop}

/- what a comprehension asks of its first for -/
noncomputable def Front (w : World) (A : Around) (E : Value → Shared → Prop) (s : Shared) (env : Env) (scope : Scope) (cl : List (Str × Addr)) (elt target iter : Expr) (ifs : List Expr) (rest : List Comprehension) (pos : Pos) (Q : Value → Shared → Prop) : Prop :=
  wpAny (model PR w) A (PySem.eval iter env) (fun xv s₁ => wpAny (model PR w) A (pyIter xv) (fun it s₂ => ∃ (I n : Nat) (fp wr : List Nat) (P : Nat → Value → Prop) (St : Nat → Heap → Prop), it = .ref I ∧ Walks PR w A I fp wr n P St ∧ St 0 s₂.heap ∧ (∀ b ∈ fp, b < s₂.heap.objs.size) ∧
      ∀ D C h tk, D = s₂.heap.objs.size → C = D + 1 → D ∉ fp → C ∉ fp → Kp s₂.heap h → St 0 h → h.Ns C (fun _ => none) → LAt h D [] →
        codeAny (model PR w) A (.compLoop (.ListComp elt (⟨target, iter, ifs, 0⟩ :: rest) scope pos) 0 (.ref I) (.ref D) (compEnvC scope cl C env))
          (fun r s' => r = .ok .next ∧ ∃ h' tk' m', s' = { s₂ with heap := h', toks := tk' } ∧ h'.Ns C m' ∧ ∀ h'', KpB [C] h' h'' → Q (.ref D) { s₂ with heap := h'', toks := tk' }) { s₂ with heap := h, toks := tk }) E s₁) E s
theorem Front.eval {elt target iter : Expr} {ifs : List Expr} {rest : List Comprehension} {scope : Scope} {pos : Pos} {env : Env} {cl : List (Str × Addr)} {Q : Value → Shared → Prop}
    (h : Front w A E s env scope cl elt target iter ifs rest pos Q) (hclos : closureFor scope env = pure cl) (hcell : ∀ y ∈ scope.names, y.2 ≠ .cell) (hkind : scope.kind = .function) (hnames : ∀ y ∈ scope.names, y.2 = .local → scope.names.lookup y.1 = some .local)
    (hs : ∀ x, foldedSetIterable iter env x = pure x := by intro _; rfl) :
    wpAny (model PR w) A (PySem.eval (.ListComp elt (⟨target, iter, ifs, 0⟩ :: rest) scope pos) env) Q E s := lcomp hclos hcell hkind hnames h hs
/- a comprehension kept under a local name -/
theorem Front.keep {elt target iter : Expr} {ifs : List Expr} {rest : List Comprehension} {scope : Scope} {pos spos py : Pos} {y : Str} {env : Env} {cl : List (Str × Addr)} {Q : Flow → Shared → Prop}
    (h : Front w A E s env scope cl elt target iter ifs rest pos (fun v s' => (∃ D : Nat, v = .ref D ∧ env.locals < D) ∧ ∃ m, s'.heap.Ns env.locals m ∧ ∀ h3 tk3, h3.Ns env.locals (fun z => if z = y then some v else m z) → KpB [env.locals] s'.heap h3 → Q .next { s' with heap := h3, toks := tk3 }))
    (hsw : swapsWith (.ListComp elt (⟨target, iter, ifs, 0⟩ :: rest) scope pos) (some (.Name y py)) spos.line env = pure true)
    (hclos : closureFor scope env = pure cl) (hcell : ∀ y ∈ scope.names, y.2 ≠ .cell) (hkind : scope.kind = .function) (hnames : ∀ y ∈ scope.names, y.2 = .local → scope.names.lookup y.1 = some .local)
    (hy : env.kindOf y = some .local) (hp : (env.scope.kind == .class || (env.scope.kind == .module && env.locals != env.globals)) = false)
    (hs : ∀ x, foldedSetIterable iter env x = pure x := by intro _; rfl) :
    wpAny (model PR w) A (exec (.Assign [.Name y py] (.ListComp elt (⟨target, iter, ifs, 0⟩ :: rest) scope pos) spos) env) Q E s := by
  rw [exec_Assign_Name_used _ _ _ _ hsw]
  refine wpAny_bind (wpAny_standAt (wpAny_bind ?_))
  show wpAny _ A (do let _ ← comprehension (.ListComp elt (⟨target, iter, ifs, 0⟩ :: rest) scope pos) scope env _ (newList []) false (PySem.eval iter env) (some (assign (.Name y py) env))) _ _ s
  refine wpAny_bind (wpAny_mono (wpAny_comprehension_free (use := some (assign (.Name y py) env)) (Q := fun _ s' => Q .next s') rfl hs hclos hkind hnames
    (wpAny_mono h (fun xv s₁ h₁ => wpAny_mono h₁ (fun it s₂ h₂ => ?_) fun _ _ e => e) fun _ _ e => e)) (fun _ s' hq => wpAny_pure (wpAny_pure hq)) fun _ _ e => e)
  obtain ⟨I, n, fp, wr, P, St, rfl, W, hst, hfp, hq⟩ := h₂
  refine wpAny_newObj_type (wpAny_newFunctionEnv hcell (by intro y hy; simp at hy) (fun h₁ hns₁ hsb₁ => ?_) hkind)
  dsimp only at hns₁ hsb₁ ⊢
  have hC : (s₂.heap.push { cls := .type "list", dict := none, data := .seq ([] : List Value).toArray }).objs.size = s₂.heap.objs.size + 1 := Heap.size_push ..
  rw [hC] at hns₁ hsb₁ ⊢
  have old : Kp s₂.heap h₁ := fun b o e => hsb₁.extBut b o (by have := ltS e; show b ≠ s₂.heap.objs.size + 1; exact ar41 this) (Heap.get?_push_of_some _ (Heap.get?_push_of_some _ e))
  have hacc : LAt h₁ s₂.heap.objs.size [] := ⟨0, hsb₁.extBut _ _ (show s₂.heap.objs.size ≠ s₂.heap.objs.size + 1 by exact ar42) (Heap.get?_push_of_some _ (Heap.get?_push_size _ rfl))⟩
  have hst₁ : St 0 h₁ := W.frame _ _ _ hst fun b _ o e => old b o e
  have fin : ∀ s₃ : Shared, s₃ = { s₂ with heap := h₁, toks := s₂.toks + ([] : List (Str × Value)).length } → codeAny (model PR w) A (.compLoop (.ListComp elt (⟨target, iter, ifs, 0⟩ :: rest) scope pos) 0 (.ref I) (.ref s₂.heap.objs.size) (compEnvC scope cl (s₂.heap.objs.size + 1) env)) (compPost (model PR w) A E (some (assign (.Name y py) env)) (fun _ s' => Q .next s') (.ref s₂.heap.objs.size) (s₂.heap.objs.size + 1)) s₃ := by
    rintro s₃ rfl
    refine codeAny_mono (hq _ _ h₁ _ rfl rfl (fun q => Nat.lt_irrefl _ (hfp _ q)) (fun q => by have := hfp _ q; omega) old hst₁ hns₁ hacc) ?_
    rintro r s' ⟨rfl, h', tk', m', rfl, hn', hq'⟩
    obtain ⟨⟨D, eD, hLD⟩, mL, hnL, _⟩ := hq' h' (fun _ _ _ e => e)
    cases eD
    have hLC : env.locals ≠ s₂.heap.objs.size + 1 := fun q => absurd hLD (by rw [q]; exact Nat.not_lt.mpr (Nat.le_succ _))
    show wpAny _ A (assign (.Name y py) env (.ref s₂.heap.objs.size)) _ _ _
    refine wpAny_assign_Name (wpAny_storeName_local hy hnL (fun h2 hn2 hs2 => ?_) hp)
    refine ⟨m', ns_kpB hn' (kp_same hs2) (by simpa using Ne.symm hLC), fun h3 hs3 => ?_⟩
    obtain ⟨oL, esL, epL, eL, dL, rL⟩ := hnL
    obtain ⟨o2, es2, ep2, e2, d2, r2⟩ := hn2
    have e3 : h3.get? env.locals = some o2 := (hs3.2 _ hLC).trans e2
    have hfr : oL.isFreed = false := Obj.isFreed_of_dict dL
    have eS : (h3.update env.locals fun _ => oL).get? env.locals = some oL := Heap.get?_update_self _ e3 hfr
    have kC : KpB [s₂.heap.objs.size + 1] h' (h3.update env.locals fun _ => oL) := fun b o nb e => by
      by_cases q : b = env.locals
      · subst q; rw [eL] at e; cases e; exact eS
      · refine (Heap.get?_update_ne _ _ _ _ q).trans ?_
        exact (hs3.2 _ (by simpa using nb)).trans ((hs2.2 _ q).trans e)
    obtain ⟨_, mL2, hnL2, hfin⟩ := hq' _ kC
    have hmm : mL2 = mL := by
      obtain ⟨o', es', ep', e', d', r'⟩ := hnL2
      rw [show ({ s₂ with heap := h3.update env.locals fun _ => oL, toks := tk' } : Shared).heap = h3.update env.locals fun _ => oL from rfl, eS] at e'
      cases e'
      rw [dL] at d'
      cases d'
      funext z
      rw [← rL.2 z, ← r'.2 z]
    subst hmm
    exact hfin h3 _ ⟨o2, es2, ep2, e3, d2, r2⟩ fun b o nb e => (Heap.get?_update_ne _ _ _ _ (by simpa using nb)).symm.trans e
  exact codeAny_compStart_list (fin _ rfl) (W.self 0 _ _ _ hst₁ (fin _ rfl))

/- the same, with what the values point at -/
theorem lcHF {elt target iter : Expr} {ifs : List Expr} {scope : Scope} {pos : Pos} {env : Env} {cl : List (Str × Addr)} {Q : Value → Shared → Prop} (Inv : Nat → Nat → List Value → Heap → Prop) (stab : ∀ M i ys h h' W, Inv M i ys h → KpB W h h' → (∀ y ∈ W, y ≤ M) → Inv M i ys h')
    (h : wpAny (model PR w) A (PySem.eval iter env) (fun xv s₁ => ∃ (n : Nat) (P : Nat → Value → Prop) (B : Nat → Value → (Str → Option Value) → Prop), Src w A target s₁ xv n P ∧ (∀ M h, Inv M 0 [] h) ∧ n < 2 ^ 20 ∧ (∀ M i ys h, Inv M i ys h → ys.length ≤ i) ∧
      (∀ i v C h tk m Q' E', P i v → h.Ns C m → Kp s₁.heap h → s₁.heap.objs.size ≤ C → (∀ h' m' tk', h'.Ns C m' → B i v m' → KpB [C] h h' → Q' () { s₁ with heap := h', toks := tk' }) → wpAny (model PR w) A (assign target (compEnvC scope cl C env) v) Q' E' { s₁ with heap := h, toks := tk }) ∧
      (∀ i v ys C h tk m E', i < n → P i v → h.Ns C m → B i v m → Kp s₁.heap h → s₁.heap.objs.size ≤ C → C < h.objs.size → Inv C i ys h →
        wpAny (model PR w) A (testsOf ifs (compEnvC scope cl C env)) (fun ok s₃ => ∃ h3 tk3, s₃ = { s₁ with heap := h3, toks := tk3 } ∧ Kp h h3 ∧
          if ok = true then wpAny (model PR w) A (PySem.eval elt (compEnvC scope cl C env)) (fun y s₄ => ∃ h4 tk4, s₄ = { s₁ with heap := h4, toks := tk4 } ∧ Kp h h4 ∧ Inv C (i + 1) (ys ++ [y]) h4) E' s₃ else Inv C (i + 1) ys h3) E' { s₁ with heap := h, toks := tk }) ∧
      (∀ D h' tk' ys, s₁.heap.objs.size ≤ D → LAt h' D ys → (∃ M, Inv M n ys h') → Kp s₁.heap h' → Q (.ref D) { s₁ with heap := h', toks := tk' })) E s)
    : Front w A E s env scope cl elt target iter ifs [] pos Q := by
  refine wpAny_mono h (fun xv s₁ h₁ => ?_) fun _ _ e => e
  obtain ⟨n, P, B, src, h0, hz, hlen, hasg, hel, hQ⟩ := h₁
  refine src _ _ fun I h2 tk2 fp wr St W st hfp hwr sz k2 hgo => ⟨I, n, fp, wr, P, St, rfl, W, st, hfp, ?_⟩
  intro D C h3 tk3 hD hC hDf hCf k3 st3 hn3 hl3
  dsimp only at hD k3 ⊢
  refine cwalk (s := { s₁ with heap := h3, toks := tk3 }) W emits1 emits1M (turn1 ..) hDf hCf st3 hn3 hl3 (fun i ys h => Inv C i ys h) (fun i ys h h' x kb => stab _ _ _ _ _ _ x kb (by
      intro y hy
      have hyl : y < h2.objs.size := hfp _ (W.sub _ hy)
      show y ≤ C; exact ar234 hD hC hyl)) (h0 _ _) ?_ ?_
  · intro i v ys h4 tk4 m4 E' hi hP st4 hn4 hl4 hI kb4
    have K4 : Kp s₁.heap h4 := kp_lt kb4 (k2.trans k3) (by
      intro y hy
      rcases List.mem_cons.mp hy with q | hy
      · rw [q]; show s₁.heap.objs.size ≤ C; exact ar43 sz hD hC
      · rcases List.mem_cons.mp hy with q | hy
        · exact ar44 sz hD hC q
        · exact hwr _ hy)
    refine hgo _ _ _ _ _ st4 ?_
    refine hasg i v C h4 tk4 m4 _ _ hP hn4 K4 (by exact ar43 sz hD hC) fun h5 m5 tk5 hn5 hB k5 => ?_
    have K5 : Kp s₁.heap h5 := kp_lt k5 K4 (by simp; omega)
    refine wpAny_mono (hel i v ys C h5 tk5 m5 E' hi hP hn5 hB K5 (by exact ar43 sz hD hC) (by obtain ⟨o, _, _, e, _⟩ := hn5; exact ltS e) (stab _ _ _ _ _ _ hI k5 (by simp))) ?_ fun _ _ e => e
    rintro ok s₃ ⟨h6, tk6, rfl, k6, hok⟩
    have hl5 : LAt h5 D ys := hl4.kpB k5 (by exact ar45 hC)
    cases ok with
    | false =>
      refine ⟨h6, tk6, m5, ys, rfl, hn5.keeps k6, hl5.kp k6, hok, (k5.trans k6.b).mono (by simp; exact .inl rfl)⟩
    | true =>
      refine wpAny_mono hok ?_ fun _ _ e => e
      rintro y s₄ ⟨h7, tk7, rfl, k7, hI7⟩
      refine append1 (hl5.kp k7) (fun h8 hl8 k8 => ?_) (by have := hlen _ _ _ _ hI; exact ar46 hz hi this)
      refine ⟨h8, tk7, m5, ys ++ [y], rfl, ns_kpB (hn5.keeps k7) k8 ?_, hl8, stab _ _ _ _ _ _ hI7 k8 (by simp; omega), ?_⟩
      · show C ∉ [D]; exact ar47 hC
      · exact ((k5.trans k7.b).mono (by simp; exact .inl rfl)).trans (k8.mono (by simp))
  · intro h' tk' m' ys' hn' hl' hI' kb'
    refine ⟨rfl, h', tk', m', rfl, hn', fun h'' k'' => ?_⟩
    have K' : Kp s₁.heap h' := kp_lt kb' (k2.trans k3) (by
      intro y hy
      rcases List.mem_cons.mp hy with q | hy
      · rw [q]; show s₁.heap.objs.size ≤ C; exact ar43 sz hD hC
      · rcases List.mem_cons.mp hy with q | hy
        · exact ar44 sz hD hC q
        · exact hwr _ hy)
    exact hQ D h'' tk' ys' (by exact ar48 sz hD hC) (hl'.kpB k'' (by exact ar45 hC)) ⟨C, stab _ _ _ _ _ _ hI' k'' (by simp)⟩ (kp_lt k'' K' (by simp; omega))
/- a list comprehension over a pair of names -/
theorem lcPHF {elt iter : Expr} {x y : Str} {px py pp : Pos} {kk : Nat} {ifs : List Expr} {scope : Scope} {pos : Pos} {env : Env} {cl : List (Str × Addr)} {Q : Value → Shared → Prop} (Inv : Nat → Nat → List Value → Heap → Prop) (stab : ∀ M i ys h h' W, Inv M i ys h → KpB W h h' → (∀ y ∈ W, y ≤ M) → Inv M i ys h') (hh : A.handled = none)
    (hkind : scope.kind = .function) (hx : scope.names.lookup x = some .local) (hy : scope.names.lookup y = some .local) (hxy : x ≠ y)
    (h : wpAny (model PR w) A (PySem.eval iter env) (fun xv s₁ => ∃ (n : Nat) (P : Nat → Value → Value → Prop), Src w A (.Tuple [.Name x px, .Name y py] kk pp) s₁ xv n (fun i v => ∃ T a b, v = .ref T ∧ s₁.heap.IsTuple T #[a, b] ∧ P i a b) ∧ (∀ M h, Inv M 0 [] h) ∧ n < 2 ^ 20 ∧ (∀ M i ys h, Inv M i ys h → ys.length ≤ i) ∧
      (∀ i a b ys C h tk m E', i < n → P i a b → h.Ns C m → m x = some a → m y = some b → Kp s₁.heap h → s₁.heap.objs.size ≤ C → C < h.objs.size → Inv C i ys h →
        wpAny (model PR w) A (testsOf ifs (compEnvC scope cl C env)) (fun ok s₃ => ∃ h3 tk3, s₃ = { s₁ with heap := h3, toks := tk3 } ∧ Kp h h3 ∧
          if ok = true then wpAny (model PR w) A (PySem.eval elt (compEnvC scope cl C env)) (fun y s₄ => ∃ h4 tk4, s₄ = { s₁ with heap := h4, toks := tk4 } ∧ Kp h h4 ∧ Inv C (i + 1) (ys ++ [y]) h4) E' s₃ else Inv C (i + 1) ys h3) E' { s₁ with heap := h, toks := tk }) ∧
      (∀ D h' tk' ys, s₁.heap.objs.size ≤ D → LAt h' D ys → (∃ M, Inv M n ys h') → Kp s₁.heap h' → Q (.ref D) { s₁ with heap := h', toks := tk' })) E s)
    : Front w A E s env scope cl elt (.Tuple [.Name x px, .Name y py] kk pp) iter ifs [] pos Q := by
  refine lcHF Inv stab (wpAny_mono h (fun xv s₁ h₁ => ?_) fun _ _ e => e)
  obtain ⟨n, P, src, h0, hz, hlen, hel, hQ⟩ := h₁
  refine ⟨n, _, fun i _ m => ∃ a b, m x = some a ∧ m y = some b ∧ P i a b, src, h0, hz, hlen, fun i v C h tk m Q' E' hP hn K hC hq => ?_, fun i v ys C h tk m E' hi hP hn hB K hC hC2 hI => ?_, hQ⟩
  · obtain ⟨T, a, b, rfl, ⟨oT, eT, rT⟩, hP⟩ := hP
    refine kcp_assign (s := { s₁ with heap := h, toks := tk }) hh ⟨oT, K _ _ eT, rT⟩ (lookup_relabel_local hx) (lookup_relabel_local hy) (by simp [compEnvC, relabel, hkind]) hn fun h' tk' hn' k' => ?_
    exact hq _ _ _ hn' ⟨a, b, by simp [hxy], by simp, hP⟩ fun b o nb e => k' b o (by show b ≠ C; simpa using nb) e
  · obtain ⟨a, b, ha, hb, hP⟩ := hB
    exact hel i a b ys C h tk m E' hi hP hn ha hb K hC hC2 hI
end
end Mine

end
section -- M33
open PySem PySem.W PyProof.Rows PySem.Calls PySem.Builtin PySem.Builtin.ObjectAttr PySem.Builtin.Str PySem.StrLaws
open PySem.AutoSeq1 (wpAny_loadPart')
open PySem.MeetsSeq PySem.MeetsSeq2 PySem.MeetsSeq3 PySem.SeqRoads2 PySem.SeqAt
set_option maxRecDepth 100000
set_option linter.unusedVariables false
namespace Mine
theorem tuple_gt2 (l b : Nat) (a1 a2 : Int) (b1 b2 : Bool) (t1 t2 : Tok) (n n2 : Nat) (dd dd2 : Option Addr) (sl sl2 : Array (Option Value)) :
    Meets (Builtin.«tuple.__gt__» ⟨[.ref l, .ref b], []⟩)
      (fun A R s => s.heap.get? l = some { cls := .type "tuple", dict := dd, data := .seq #[.int a1 t1, .bool b1] n, slots := sl } ∧ s.heap.get? b = some { cls := .type "tuple", dict := dd2, data := .seq #[.int a2 t2, .bool b2] n2, slots := sl2 } ∧
        A.units < 9000 ∧ R (.ok (.ret (.bool (if a1 = a2 then b1 && !b2 else decide (a2 < a1))))) s) :=
  .of_wp fun prog w A R s h => by
    obtain ⟨hp, g, d, tk, os⟩ := s; obtain ⟨hl, hb, hu, h⟩ := h
    have f2 := AutoSeq1.sub_tuple_tuple
    wp_walk using wpAny_loadPart' hl, wpAny_loadPart' hb
    refine SeqAt.EqAt.int_int a1 t1 a2 t2 prog w _ _ ?_
    by_cases q : a1 = a2
    · rw [if_pos q] at h
      rw [show (a1 == a2) = true by simp [q]]
      wp_walk
      refine SeqAt.EqAt.bool_bool b1 b2 prog w _ _ ?_
      cases b1 <;> cases b2
      · wp_walk
        exact ⟨_, rfl, h⟩
      · refine wpAny_bind (wpAny_rule (wpAny_bind ?_))
        refine gt_bool (wpAny_bind (wpAny_pure (wpAny_pure ?_)))
        wp_walk
        exact ⟨_, rfl, h⟩
      · refine wpAny_bind (wpAny_rule (wpAny_bind ?_))
        refine gt_bool (wpAny_bind (wpAny_pure (wpAny_pure ?_)))
        wp_walk
        exact ⟨_, rfl, h⟩
      · wp_walk
        exact ⟨_, rfl, h⟩
    · rw [if_neg q] at h
      rw [show (a1 == a2) = false by simp [q]]
      refine wpAny_bind (wpAny_rule (wpAny_bind ?_))
      refine PyProof.Rows.gt_int (wpAny_bind (wpAny_pure (wpAny_pure ?_)))
      wp_walk
      exact ⟨_, rfl, h⟩
end Mine

end
section -- M34
open PySem PySem.W PyProof.Rows PySem.Calls PySem.Builtin PySem.Builtin.ObjectAttr PySem.Builtin.Str PySem.StrLaws
set_option maxRecDepth 100000
set_option linter.unusedVariables false
namespace Mine
noncomputable def gt2 (x y : Int × Bool) : Bool := if x.1 = y.1 then x.2 && !y.2 else decide (y.1 < x.1)
noncomputable def PairAt (h : Heap) (v : Value) (p : Int × Bool) : Prop := ∃ (T : Nat) (t : Tok), v = .ref T ∧ h.IsTuple T #[.int p.1 t, .bool p.2]
theorem PairAt.kp {h h' : Heap} {v : Value} {p : Int × Bool} (x : PairAt h v p) (k : Kp h h') : PairAt h' v p := x.imp fun _ => Exists.imp fun _ => And.imp_right fun z => tup_kp z k
/- the best of the pairs -/
noncomputable def bestOf (p : Int × Bool) (ps : List (Int × Bool)) : Int × Bool := ps.foldl (fun b x => if gt2 x b then x else b) p
section
variable {w : World} {A : Around} {E : Value → Shared → Prop} {s : Shared} {R : Result → Shared → Prop}
theorem gt_pair {x y : Value} {p q : Int × Bool} {Q : Value → Shared → Prop} (hu : A.units < 8999) (hx : PairAt s.heap x p) (hy : PairAt s.heap y q) (h : Q (.bool (gt2 p q)) s) : wpAny (model PR w) A (richCompare .Gt x y) Q E s := by
  obtain ⟨T, t, rfl, ⟨⟨c1, d1, da1, s1⟩, e1, rfl, n1, rfl⟩⟩ := hx
  obtain ⟨U, u, rfl, ⟨⟨c2, d2, da2, s2⟩, e2, rfl, n2, rfl⟩⟩ := hy
  refine richCompare_meets_room (op := .Gt) ⟨_, e1, rfl⟩ ⟨_, e2, rfl⟩ PySem.F.slot_tuple_gt PySem.F.entry_tuple_gt (PySem.F.args_tuple_gt_2 _ _) (tuple_gt2 T U p.1 q.1 p.2 q.2 t u n1 n2 d1 d2 s1 s2)
    ⟨e1, e2, by exact ar235 hu, (fun z => by cases z), h⟩ (by show A.units < 9900; exact ar236 hu)

theorem max_loop {l I S : Nat} {vs : List Value} {ps : List (Int × Bool)} {s₀ : Heap} (hh : A.handled = none) (hu : A.units < 8998) (hlI : l ≠ I) (hlS : l ≠ S) (hIS : I ≠ S) (hI0 : s₀.objs.size ≤ I) (hS0 : s₀.objs.size ≤ S) (hlen : vs.length = ps.length) (hp : ∀ (i : Nat) v p, vs[i]? = some v → ps[i]? = some p → PairAt s₀ v p) (hl0 : LAt s₀ l vs) :
    ∀ (k j : Nat) (s : Shared) (vb : Value) (pb : Int × Bool) (c : Nat), ps.length - (j + 1) = k → j + 1 ≤ ps.length → s.heap.IsListIter I l (j + 1) → Kp s₀ s.heap → PairAt s₀ vb pb →
    s.heap.get? S = some { cls := .type "list", dict := none, data := .seq #[vb, vb] c, slots := #[] } →
    (∀ v h' tk, PairAt s₀ v (bestOf pb (ps.drop (j + 1))) → Kp s₀ h' → R (.ok (.ret v)) { s with heap := h', toks := tk }) →
    codeAny (model PR w) A (.builtin "max.loop" ⟨[.ref I, .none, .ref S], []⟩) R s := by
  have hname : (toString "max" ++ toString ".loop" : String) = "max.loop" := by decide
  intro k
  induction k with
  | zero =>
    intro j s vb pb c hk hj hit kp hPb hS hR
    have hin : j + 1 = ps.length := by exact ar237 hk hj
    refine codeAny_builtin PySem.F.entry_max_loop ?_
    rw [Around.under_plainId PySem.F.plain_max_loop _]
    show wpAny _ A.in1 (seqItems? (.ref S) >>= _) _ _ s
    refine wpAny_bind (wpAny_seqItems hS rfl ?_)
    show wpAny _ A.in1 (tryCatch (pyNext (.ref I)) _ >>= _) _ _ s
    refine wpAny_bind (wpAny_tryCatch (wpAny_pyNext_list_end hh hit (hl0.kp kp).is (by simp; omega) fun h' he' => ?_))
    have hS' := he' S _ (Ne.symm hIS) hS
    show wpAny _ A.in1 (updateSeq S (fun _ => #[]) >>= _) _ _ _
    refine wpAny_bind ?_
    refine wpAny_updateSeq hS' rfl (wpAny_bind (wpAny_letGo (wpAny_pure ?_)))
    refine hR vb _ _ (by rw [hin, List.drop_length]; exact hPb) fun b o e => ?_
    have hb := ltS e
    exact (Heap.get?_update_other _ _ (fun q => by subst q; omega)).trans (he' b o (fun q => by subst q; omega) (kp b o e))
  | succ k ih =>
    intro j s vb pb c hk hj hit kp hPb hS hR
    have hlt : j + 1 < ps.length := by exact ar238 hk hj
    refine codeAny_builtin PySem.F.entry_max_loop ?_
    rw [Around.under_plainId PySem.F.plain_max_loop _]
    show wpAny _ A.in1 (seqItems? (.ref S) >>= _) _ _ s
    refine wpAny_bind (wpAny_seqItems hS rfl ?_)
    show wpAny _ A.in1 (tryCatch (pyNext (.ref I)) _ >>= _) _ _ s
    refine wpAny_bind (wpAny_tryCatch (wpAny_pyNext_list_item (x := vs[j + 1]'(by exact ar239 hlen hlt)) hit (hl0.kp kp).is (by simp) fun h' hit' hs' => ?_))
    have k' := kp_same hs'
    have kp' : Kp s₀ h' := fun b o e => k' _ _ (by have := ltS e; exact ar78 hI0 this) (kp _ _ e)
    have hS' := k' S _ (by simpa using Ne.symm hIS) hS
    have hP := hp (j + 1) (vs[j + 1]'(by exact ar239 hlen hlt)) (ps[j + 1]) (by simp) (by simp [hlt])
    generalize vs[j + 1]'(by exact ar239 hlen hlt) = v at hP
    have hdrop : ps.drop (j + 1) = ps[j + 1] :: ps.drop (j + 1 + 1) := by rw [List.drop_eq_getElem_cons hlt]
    show wpAny _ A.in1 (tryCatch (holding [v, v] (richCompare .Gt v vb >>= _)) _ >>= _) _ _ _
    refine wpAny_bind (wpAny_tryCatch (wpAny_holding (wpAny_bind (gt_pair (by show A.units + 1 < 8999; exact ar240 hu) (hP.kp kp') (hPb.kp kp') ?_))))
    refine wpAny_bind (wpAny_holding (wpAny_truthy_bool ?_))
    refine wpAny_bind (wpAny_letGo (wpAny_pure ?_))
    cases hb : gt2 ps[j + 1] pb with
    | true =>
      simp only [if_true]
      refine wpAny_bind ?_
      refine wpAny_updateSeq hS' rfl (wpAny_bind (wpAny_letGo ?_))
      rw [hname]
      refine wpAny_pure ⟨plainId_quiet PySem.F.plain_max_loop _, ih (j + 1) _ v ps[j + 1] _ (by exact ar241 hk hlt) hlt ?_ ?_ hP (Heap.get?_update_self _ hS' rfl) fun v' h'' tk'' hP' hk'' => ?_⟩
      · obtain ⟨o, e, r⟩ := hit'
        exact ⟨o, (Heap.get?_update_other _ _ (Ne.symm hIS)).trans e, r⟩
      · exact fun b o e => (Heap.get?_update_other _ _ (fun q => by subst q; have := ltS e; omega)).trans (kp' b o e)
      · refine hR v' h'' tk'' ?_ hk''
        rw [hdrop]
        show PairAt s₀ v' (bestOf (if gt2 ps[j + 1] pb then ps[j + 1] else pb) _)
        rw [hb]; exact hP'
    | false =>
      simp only [Bool.false_eq_true, if_false]
      refine wpAny_bind (wpAny_letGo ?_)
      rw [hname]
      refine wpAny_pure ⟨plainId_quiet PySem.F.plain_max_loop _, ih (j + 1) _ vb pb c (by exact ar241 hk hlt) hlt hit' kp' hPb hS' fun v' h'' tk'' hP' hk'' => ?_⟩
      refine hR v' h'' tk'' ?_ hk''
      rw [hdrop]
      show PairAt s₀ v' (bestOf (if gt2 ps[j + 1] pb then ps[j + 1] else pb) _)
      rw [hb]; exact hP'

/- max of a list of pairs -/
theorem max_pairs {l : Nat} {vs : List Value} {p : Int × Bool} {ps : List (Int × Bool)} {Q : Value → Shared → Prop} (hh : A.handled = none) (hu : A.units < 8998) (hl : LAt s.heap l vs) (hlen : vs.length = (p :: ps).length) (hp : ∀ (i : Nat) v q, vs[i]? = some v → (p :: ps)[i]? = some q → PairAt s.heap v q)
    (h : ∀ v h' tk, PairAt s.heap v (bestOf p ps) → Kp s.heap h' → Q v { s with heap := h', toks := tk }) : wpAny (model PR w) A (call (.builtin "max") [.ref l]) Q E s := by
  have hname : (toString "max" ++ toString ".loop" : String) = "max.loop" := by decide
  have hlt : l < s.heap.objs.size := by obtain ⟨n, e⟩ := hl; exact ltS e
  refine call_function_tree PySem.F.kind_max PySem.F.plain_max PySem.F.entry_max (PySem.F.args_max1 _) ?_
  show wpAny _ A.in1 (Builtin.Builtins.bindParams "max" ["key", "default"] 0 ⟨[], []⟩ >>= _) _ _ s
  refine wpAny_bind (wpAny_of_eq (show Builtin.Builtins.bindParams "max" ["key", "default"] 0 ⟨[], []⟩ = pure [none, none] from rfl) ?_)
  refine wpAny_bind (wpAny_pure ?_)
  refine wpAny_bind (wpAny_pyIter_list hl.is ?_)
  refine wpAny_bind (wpAny_newObj_type ?_)
  rw [hname]
  have hne : vs ≠ [] := by intro q; subst q; cases hlen
  obtain ⟨v0, vr, rfl⟩ := List.exists_cons_of_ne_nil hne
  have kI : Kp s.heap (s.heap.push { cls := .type "list_iterator", data := .fields #[.ref l, .int 0 0] }) := Kp.push _ _
  refine wpAny_pure ⟨plainId_quiet PySem.F.plain_max_loop _, ?_⟩
  have zI : (s.heap.push { cls := .type "list_iterator", data := .fields #[.ref l, .int 0 0] }).objs.size = s.heap.objs.size + 1 := Heap.size_push ..
  have hS := Heap.get?_push_size (s.heap.push { cls := .type "list_iterator", data := .fields #[.ref l, .int 0 0] }) (o := { cls := .type "list", dict := none, data := .seq ([] : List Value).toArray }) rfl
  have kS : Kp (s.heap.push { cls := .type "list_iterator", data := .fields #[.ref l, .int 0 0] }) ((s.heap.push { cls := .type "list_iterator", data := .fields #[.ref l, .int 0 0] }).push { cls := .type "list", dict := none, data := .seq ([] : List Value).toArray }) := Kp.push _ _
  dsimp only
  refine codeAny_builtin PySem.F.entry_max_loop ?_
  rw [Around.under_plainId PySem.F.plain_max_loop _]
  show wpAny _ A.in1 (seqItems? (.ref _) >>= _) _ _ _
  refine wpAny_bind (wpAny_seqItems hS rfl ?_)
  show wpAny _ A.in1 (tryCatch (pyNext (.ref s.heap.objs.size)) _ >>= _) _ _ _
  refine wpAny_bind (wpAny_tryCatch (wpAny_pyNext_list_item (x := v0) (l := l) (i := 0) ⟨_, kS _ _ (Heap.get?_push_size _ rfl), rfl, rfl⟩ ((hl.kp (kI.trans kS)).is) rfl fun h' hit' hs' => ?_))
  have k' := kp_same hs'
  have hS' := k' _ _ (by rw [zI]; simp) hS
  have kp' : Kp s.heap h' := fun b o e => k' _ _ (by have := ltS e; exact ar242 zI this) (kS _ _ (kI _ _ e))
  show wpAny _ A.in1 (updateSeq _ (fun _ => #[v0, v0]) >>= _) _ _ _
  refine wpAny_bind ?_
  refine wpAny_updateSeq hS' rfl ?_
  rw [hname]
  refine wpAny_pure ⟨plainId_quiet PySem.F.plain_max_loop _, ?_⟩
  refine max_loop (A := A) (l := l) (I := s.heap.objs.size) (ps := p :: ps) (s₀ := s.heap) hh (by exact ar243 hu) (by exact ar35 hlt zI) (by exact ar34 hlt zI) (by exact ar244 zI) (Nat.le_refl _) (by exact ar31 zI) hlen hp hl _ 0 _ v0 p _ rfl (by simp) ?_ ?_ (hp 0 v0 p rfl rfl) (Heap.get?_update_self _ hS' rfl) fun v h'' tk'' hv hk => ?_
  · obtain ⟨o, e, r⟩ := hit'
    refine ⟨o, (Heap.get?_update_other _ _ (fun q => ?_)).trans e, r⟩
    rw [zI] at q
    exact absurd q (Nat.succ_ne_self _)
  · intro b o e
    refine (Heap.get?_update_other _ _ (fun q => ?_)).trans (kp' b o e)
    have hb := ltS e
    rw [zI] at q
    have q' : s.heap.objs.size + 1 = b := q
    omega
  · exact h _ _ _ hv hk
end
end Mine

end
section -- M35
open PySem PySem.W PyProof.Rows PySem.Calls PySem.Builtin PySem.Builtin.ObjectAttr PySem.Builtin.Str PySem.StrLaws
set_option maxRecDepth 100000
set_option linter.unusedVariables false
namespace Mine
theorem OkA.u8 {A : Around} {n : Nat} (k : OkA A (n + 1)) : A.units < 8998 := by have := k.un; exact ar245 this
noncomputable def fitOf (nm : List Nat) (rows : Rows) : List (Int × Bool) := rows.filterMap fun p => if p.1 ≠ kAgent ∧ nm.take p.2.length = p.2 then some ((p.2.length : Int), decide (p.1 = kAllow)) else none
noncomputable def allowedOf (nm : List Nat) (rows : Rows) : Bool := match fitOf nm rows with | [] => true | p :: ps => (bestOf p ps).2
/- the values point at the pairs, behind M -/
noncomputable def FitL (M : Nat) (ys : List Value) (ps : List (Int × Bool)) (h : Heap) : Prop := ys.length = ps.length ∧ ∀ (i : Nat) v p, ys[i]? = some v → ps[i]? = some p → ∃ (T : Nat) (t : Tok), v = .ref T ∧ M < T ∧ h.IsTuple T #[.int p.1 t, .bool p.2]
theorem FitL.kpB {M : Nat} {ys : List Value} {ps : List (Int × Bool)} {h h' : Heap} {W : List Nat} (x : FitL M ys ps h) (k : KpB W h h') (hW : ∀ y ∈ W, y ≤ M) : FitL M ys ps h' :=
  ⟨x.1, fun i v p hv hp => (x.2 i v p hv hp).imp fun _ => Exists.imp fun _ => And.imp_right fun z => ⟨z.1, tup_kpB z.2 k fun q => Nat.not_lt.mpr (hW _ q) z.1⟩⟩
theorem FitL.snoc {M T : Nat} {ys : List Value} {ps : List (Int × Bool)} {h : Heap} {p : Int × Bool} {t : Tok} (x : FitL M ys ps h) (hT : M < T) (z : h.IsTuple T #[.int p.1 t, .bool p.2]) : FitL M (ys ++ [.ref T]) (ps ++ [p]) h := by
  refine ⟨by simp [x.1], fun i v q hv hq => ?_⟩
  by_cases hi : i < ys.length
  · rw [List.getElem?_append_left hi] at hv
    rw [List.getElem?_append_left (by rw [← x.1]; exact hi)] at hq
    exact x.2 i v q hv hq
  · have : i = ys.length := by
      have := (List.getElem?_eq_some_iff.mp hv).1
      simp at this; exact ar246 hi this
    subst this
    rw [List.getElem?_append_right (Nat.le_refl _)] at hv
    rw [x.1, List.getElem?_append_right (Nat.le_refl _)] at hq
    simp at hv hq
    subst hv hq
    exact ⟨T, t, rfl, hT, z⟩
theorem fitOf_snoc (nm : List Nat) (rows : Rows) {i : Nat} {r : List Nat × List Nat} (h : rows[i]? = some r) : fitOf nm (rows.take (i + 1)) = fitOf nm (rows.take i) ++ (if r.1 ≠ kAgent ∧ nm.take r.2.length = r.2 then [((r.2.length : Int), decide (r.1 = kAllow))] else []) := by
  rw [List.take_add_one, h]
  unfold fitOf
  rw [List.filterMap_append]
  congr 1
  simp only [Option.toList_some, List.filterMap_cons, List.filterMap_nil]
  split <;> simp_all
theorem k_c138 (P : Params) : codeIn (hd.heap_39 P) (.ref 138) (Str.ofString "_law_allowed") = true := by kernel_rfl
theorem g_max (P : Params) : nsIn (hd.heap_39 P) mainGlobals (Str.ofString "max") = some none := by kernel_rfl

section
variable {w : World} {mean : ExcName → Option Value} {mg mb : Str → Option Value} {A : Around} {E : Value → Shared → Prop} {s : Shared} {R : Result → Shared → Prop} {h₀ : Heap}

/- the rows to run over -/
theorem srcPairs {target : Expr} {l B : Nat} {vs : List Value} {rows : Rows} (hh : A.handled = none) (hl : LAt s.heap l vs) (ht : TupsAt B s.heap vs rows) :
    Src w A target s (.ref l) vs.length (fun i v => ∃ T a b, v = .ref T ∧ s.heap.IsTuple T #[a, b] ∧ ∃ r t u, rows[i]? = some r ∧ a = .str (wd r.1) t ∧ b = .str (wd r.2) u) := by
  intro Q E hQ
  refine srcList (target := target) hh hl Q E ?_
  intro I hI tkI fp wr St W st hfp hwr hsz kI hgo
  refine hQ I hI tkI fp wr St ?_ st hfp hwr hsz kI hgo
  refine ⟨W.sub, W.frame, ?_, W.done, W.self⟩
  intro i s' Q' E' hi st' hQ'
  refine W.item i s' Q' E' hi st' ?_
  intro v h' tk' hv st'' hk'
  refine hQ' v h' tk' ?_ st'' hk'
  obtain ⟨T, r, t, u, e1, e2, e3⟩ := ht.get hv
  exact ⟨T, _, _, e1, e3, r, t, u, e2, rfl, rfl⟩

set_option maxHeartbeats 2000000 in
theorem law_allowed {n l B : Nat} {vs : List Value} {rows : Rows} (k : OkA A (n + 2)) (G : Gd w mean mg mb h₀) (K0 : Kp h₀ s.heap) (hl : LAt s.heap l vs) (ht : TupsAt B s.heap vs rows) (hg : ∀ r ∈ rows, r.2.length < 2 ^ 16) (hz : rows.length < 2 ^ 16) {nm : List Nat} {tn : Tok} (hzn : nm.length < 2 ^ 16)
    (h : ∀ h' tk, Kp s.heap h' → R (.ok (.ret (.bool (allowedOf nm rows)))) { s with heap := h', toks := tk }) :
    codeAny (model PR w) A (.call (.ref 139) ⟨[.ref l, .str (wd nm) tn], []⟩) R s := by
  have GS := G.keeps K0
  have hfn : s.heap.get? 139 = some _ := GS.X _ _ (by rfl)
  refine callC (n := n + 1) (binds := [(Str.ofString "rows", .ref l), (Str.ofString "name", .str (wd nm) tn)]) k hfn GS.lim (codeRec_of GS.X (k_c138 _)) ?_ ?_ ?_
  · rfl
  · intro L; rfl
  intro L h1 tk hL hns hcell kp ok
  obtain ⟨oc1, ec1, dc1⟩ := hcell (Str.ofString "name") (L + 1) rfl
  have hsz1 : L + 1 < h1.objs.size := ltS ec1
  have G1 := GS.keeps kp
  refine wpAny_execs_cons ?_
  refine Front.keep (cl := [(Str.ofString "name", L + 1)]) ?_ (by rfl) rfl (by decide) rfl (by decide) rfl rfl
  refine lcPHF (fun M i ys h => FitL M ys (fitOf nm (rows.take i)) h) ?_ ok.hn rfl rfl rfl (by decide) ?_
  · intro M i ys h h' W x kb hW
    exact x.kpB kb hW
  refine wpAny_Name (wpAny_loadName_local rfl rfl hns rfl ?_) (by decide)
  have ht1 := ht.kpB (kp.b (W := [])) (by simp)
  have hlen := ht.len
  refine ⟨vs.length, fun i a b => ∃ r t u, rows[i]? = some r ∧ a = .str (wd r.1) t ∧ b = .str (wd r.2) u, ?_, ?_, by exact ar247 hz hlen, ?_, ?_, ?_⟩
  · exact srcPairs (s := { s with heap := h1, toks := tk }) ok.hn (hl.kp kp) ht1
  · intro M h
    exact ⟨rfl, fun i v p hv _ => by simp at hv⟩
  · intro M i ys h x
    rw [x.1]
    refine Nat.le_trans (List.length_filterMap_le _ _) ?_
    rw [List.length_take]; exact ar248 hlen
  · rintro i a b ys C h2 tk2 m2 E2 hi ⟨r, t, u, hr, rfl, rfl⟩ hn2 hma hmb k2 hC hC2 hI
    dsimp only at k2 hC
    have hgr := hg r (List.mem_of_getElem? hr)
    have G2 := G1.keeps k2
    refine wpAny_tests_one ?_
    refine wpAny_mono (Q := fun ok s' => ok = decide (r.1 ≠ kAgent ∧ nm.take r.2.length = r.2) ∧ ∃ h3 tk3, s' = { s with heap := h3, toks := tk3 } ∧ Kp h2 h3) ?_ ?_ (fun _ _ e => e)
    · refine isTrue_and (wpAny_isTrue_Compare1 ?_)
      refine wpAny_Name (wpAny_loadName_local rfl rfl hn2 hma ?_) (by decide)
      refine wpAny_Constant_str (PyProof.Rows.ne_str (wpAny_truthy_bool ?_))
      rw [lit_agent, bne, wd_beq]
      by_cases q : r.1 = kAgent
      · rw [if_neg (by simp [q])]
        exact ⟨by simp [q], h2, _, rfl, Kp.refl _⟩
      · rw [if_pos (by simp [q])]
        refine isTrue_and (wpAny_isTrue_Compare1 ?_)
        refine sub_to ?_
        refine wpAny_Name (wpAny_loadName_cell rfl rfl (show _ = some (L + 1) from rfl) ⟨oc1, k2 _ _ ec1, dc1⟩ ?_) (by decide)
        refine len_of G2 ?_ rfl
        refine wpAny_Name (wpAny_loadName_local rfl rfl hn2 hmb ?_) (by decide)
        refine ⟨r.2, u, rfl, by exact ar198 hgr, ?_⟩
        intro t3 tk3
        refine ⟨_, _, _, _, rfl, rfl, by rw [wd_len, sizeLine_eq]; exact ar249 hzn, ?_⟩
        intro h3 t4 tk4 k3
        dsimp only at k3 ⊢
        rw [slice_to]
        refine wpAny_Name (wpAny_loadName_local rfl rfl (hn2.keeps k3) hmb ?_) (by decide)
        refine PyProof.Rows.eq_str (wpAny_truthy_bool ?_)
        rw [wd_beq]
        by_cases q2 : nm.take r.2.length = r.2
        · rw [if_pos (by simp [q2])]
          exact isTrue_and_nil ⟨by simp [q, q2], h3, _, rfl, k3⟩
        · rw [if_neg (by simp [q2])]
          exact ⟨by simp [q2], h3, _, rfl, k3⟩
    · rintro ok' s' ⟨rfl, h3, tk3, rfl, k3⟩
      refine ⟨h3, tk3, rfl, k3, ?_⟩
      rw [fitOf_snoc nm rows hr]
      have hI3 := hI.kpB (k3.b (W := [])) (by simp)
      by_cases q : r.1 ≠ kAgent ∧ nm.take r.2.length = r.2
      · rw [if_pos (by simp [q]), if_pos q]
        refine wpAny_Tuple ?_
        refine args_cons ?_
        refine len_of (G2.keeps k3) ?_ rfl
        refine wpAny_Name (wpAny_loadName_local rfl rfl (hn2.keeps k3) hmb ?_) (by decide)
        refine ⟨r.2, u, rfl, by exact ar198 hgr, ?_⟩
        intro t5 tk5
        refine args_cons ?_
        refine wpAny_Compare1 ?_
        refine wpAny_Name (wpAny_loadName_local rfl rfl (hn2.keeps k3) hma ?_) (by decide)
        refine wpAny_Constant_str (PyProof.Rows.eq_str ?_)
        rw [lit_allow, wd_beq]
        refine args_nil ⟨show 2 ≤ sizeLine by decide, ?_⟩
        refine ⟨_, _, rfl, k3.trans (Kp.push _ _), ?_⟩
        have hC3 : C < h3.objs.size := by obtain ⟨o, _, _, e, _⟩ := hn2.keeps k3; exact ltS e
        exact (hI3.kpB ((Kp.push _ _).b (W := [])) (by simp)).snoc (p := ((r.2.length : Int), decide (r.1 = kAllow))) hC3 ⟨_, Heap.get?_push_size _ rfl, rfl, 0, rfl⟩
      · rw [if_neg (by simpa using q), if_neg q, List.append_nil]
        exact hI3
  intro D h2 tk2 ys hD lD hfit k2
  dsimp only at hD k2 ⊢
  obtain ⟨M, hfit⟩ := hfit
  rw [hlen, List.take_length] at hfit
  refine ⟨⟨D, rfl, by show L < D; exact ar250 hL hsz1 hD⟩, _, hns.keeps k2, ?_⟩
  intro h3 tk3 hn3 k3
  have K3 : Kp s.heap h3 := fun b o e => k3 _ _ (by have := ltS e; show b ∉ [L]; exact ar100 hL this) (k2 _ _ (kp _ _ e))
  have lD3 := lD.kpB k3 (by show D ∉ [L]; exact ar251 hL hsz1 hD)
  have hp3 : ∀ (i : Nat) v q, ys[i]? = some v → (fitOf nm rows)[i]? = some q → PairAt h3 v q := by
    intro i v q hv hq
    obtain ⟨T, t, e, hT, z⟩ := hfit.2 i v q hv hq
    refine ⟨T, t, e, tup_kpB z k3 ?_⟩
    show T ∉ [L]
    intro hq
    rw [List.mem_singleton.mp hq] at z
    obtain ⟨o, e1, c1, n1, d1⟩ := z
    obtain ⟨o2, es, ep, e2, d2, _⟩ := hns.keeps k2
    rw [e1] at e2; cases e2
    rw [d1] at d2; cases d2
  have G3 := GS.keeps K3
  refine wpAny_execs_cons ?_
  refine wpAny_Return_some ?_
  refine BoolOp_or ?_
  refine wpAny_Compare1 ?_
  refine wpAny_Name (wpAny_loadName_local rfl rfl hn3 rfl ?_) (by decide)
  refine newL ?_
  intro e0 h4 tk4 he0 l4 k4
  dsimp only at he0 k4 ⊢
  have lD4 := lD3.kp k4
  unfold allowedOf at h
  cases hfo : fitOf nm rows with
  | nil =>
    rw [hfo] at hfit h
    have hy : ys = [] := by cases ys with | nil => rfl | cons => exact absurd hfit.1 (by simp)
    subst hy
    refine SeqAt.eq_listAt (e := fun _ => true) lD4.is l4.is rfl ok.units ?_ ?_
    · intro j h1 h2; exact absurd h1 (by simp)
    rw [show ((List.range ([] : List Value).toArray.size).all fun _ => true) = true from rfl]
    refine wpAny_truthy_bool ?_
    rw [if_pos rfl]
    exact h _ _ (K3.trans k4)
  | cons p ps =>
    rw [hfo] at hfit h hp3
    refine SeqAt.eq_list_lengthsAt lD4.is l4.is ?_ ok.units ?_
    · rw [bne_iff_ne]; have := hfit.1; simp at this ⊢; intro q; rw [q] at this; simp at this
    refine wpAny_truthy_bool ?_
    rw [if_neg (by decide)]
    refine BoolOp_one ?_
    refine Subscript_ ?_
    refine Call_ ?_
    refine nameB (v := .builtin "max") (G3.keeps k4) (g_max _) (by kernel_rfl) ?_
    refine PySem.callWith_builtin1 ?_
    refine wpAny_Name (wpAny_loadName_local rfl rfl (hn3.keeps k4) rfl ?_) (by decide)
    refine max_pairs (p := p) (ps := ps) ok.hn ok.u8 lD4 hfit.1 ?_ ?_
    · intro i v q hv hq
      exact (hp3 i v q hv hq).kp k4
    intro v h5 tk5 hv k5
    dsimp only at hv k5 ⊢
    obtain ⟨T, t, rfl, z⟩ := hv
    refine wpAny_Constant_int ?_
    refine kba_turn (value' := PySem.Expr.Name (PySem.Str.ofString "_") ⟨0, 0, 0, 0⟩) (fun _ => rfl) ?_
    refine item_tuple (items := #[.int (bestOf p ps).1 t, .bool (bestOf p ps).2]) (j := 1) (x := .bool (bestOf p ps).2) ?_ (by decide) (by decide) rfl rfl ?_
    · exact tup_kp z k5
    exact h _ _ ((K3.trans k4).trans k5)
end
end Mine

end
section -- M36
open PySem PySem.W PyProof.Rows PySem.Calls PySem.Builtin PySem.Builtin.ObjectAttr PySem.Builtin.Str PySem.StrLaws
set_option maxRecDepth 100000
set_option linter.unusedVariables false
namespace Mine
/- the agents that may name, in small letters -/
noncomputable def agL (rows : Rows) : List (List Nat) := rows.filterMap fun p => if p.1 = kAgent ∧ p.2 ≠ [42] then some (low (wd p.2)) else none
noncomputable def namedOf (nm : List Nat) (rows : Rows) : Bool := (agL rows).any fun a => occurs a (low (headOf nm))
theorem agL_snoc (rows : Rows) {i : Nat} {r : List Nat × List Nat} (h : rows[i]? = some r) : agL (rows.take (i + 1)) = agL (rows.take i) ++ (if r.1 = kAgent ∧ r.2 ≠ [42] then [low (wd r.2)] else []) := by
  rw [List.take_add_one, h]
  unfold agL
  rw [List.filterMap_append]
  congr 1
  simp only [Option.toList_some, List.filterMap_cons, List.filterMap_nil]
  split <;> simp_all
section
variable {w : World} {mean : ExcName → Option Value} {mg mb : Str → Option Value} {A : Around} {E : Value → Shared → Prop} {s : Shared} {R : Result → Shared → Prop} {h₀ : Heap}
theorem partH {x y : Str} {t u : Tok} {Q : Value → Shared → Prop} (hy : (y.length == 0) = false) (hsz : x.length ≤ sizeLine)
    (h : ∀ (T : Nat) ta tb tc h' k, h'.IsTuple T #[.str (Txt.partition x y).1 ta, .str (Txt.partition x y).2.1 tb, .str (Txt.partition x y).2.2 tc] → Kp s.heap h' → Q (.ref T) { s with heap := h', toks := k }) :
    wpAny (model PR w) A (call (.builtin "str.partition") [.str x t, .str y u]) Q E s := by
  refine call_meets PySem.F.slot_str_partition (typeIs_str _ _ _) PySem.F.entry_str_partition (PySem.F.args_str_partition_2 _ _) (meets_str_partition x y t u hy hsz) ?_
  have h' := h
  unfold Txt.partition at h'
  revert h'
  cases occurrences x y 0 x.length 1 with
  | nil => intro h'; exact h' _ _ _ _ _ _ ⟨_, Heap.get?_push_size _ rfl, rfl, 0, rfl⟩ (Kp.push _ _)
  | cons i r => intro h'; exact h' _ _ _ _ _ _ ⟨_, Heap.get?_push_size _ rfl, rfl, 0, rfl⟩ (Kp.push _ _)
end
end Mine

end
section -- M37
open PySem PySem.W PyProof.Rows PySem.Calls PySem.Builtin PySem.Builtin.ObjectAttr PySem.Builtin.Str PySem.StrLaws
set_option maxRecDepth 100000
set_option linter.unusedVariables false
namespace Mine
section
variable {w : World} {A : Around} {E : Value → Shared → Prop} {s : Shared} {R : Result → Shared → Prop}
theorem compStart1 {elt target iter target' iter' : Expr} {ifs ifs' : List Expr} {scope : Scope} {pos : Pos} {it acc : Value} {env : Env}
    (h0 : codeAny (model PR w) A (.compLoop (.ListComp elt [⟨target, iter, ifs, 0⟩, ⟨target', iter', ifs', 0⟩] scope pos) 1 it acc env) R s)
    (h : wpAny (model PR w) A (pyIter it) (fun it' s' => codeAny (model PR w) A (.compLoop (.ListComp elt [⟨target, iter, ifs, 0⟩, ⟨target', iter', ifs', 0⟩] scope pos) 1 it' acc env) R s')
      (notedBy (model PR w) A env fun x s' => R (.error x) s') s) :
    codeAny (model PR w) A (.compStart (.ListComp elt [⟨target, iter, ifs, 0⟩, ⟨target', iter', ifs', 0⟩] scope pos) 1 it acc env) R s := by
  refine codeAny_of_tree ?_
  show wpAny _ _ ((compStart (.ListComp elt [⟨target, iter, ifs, 0⟩, ⟨target', iter', ifs', 0⟩] scope pos) 1 it acc env).onRaise (fun x => do noteFrame x env; standAt theWindowsPlace)) _ _ s
  refine wpAny_notedAt ?_
  unfold compStart
  show wpAny _ _ (ask >>= _) _ _ s
  refine wpAny_bind (wpAny_askSetting (wpAny_ite ?_))
  split
  · first
      | exact wpAny_bind (wpAny_pure (wpAny_pure (And.intro rfl h0)))
      | exact wpAny_pure (And.intro rfl h0)
  · first
      | exact wpAny_bind (wpAny_rule (wpAny_bind (wpAny_standAt (wpAny_bind (wpAny_mono h (fun it' s' h' => wpAny_pure (And.intro rfl h')) fun _ _ x => x)))))
      | (refine wpAny_bind (wpAny_rule ?_); show wpAny _ _ (standAt iter'.pos >>= _) _ _ s; exact wpAny_bind (wpAny_standAt (wpAny_bind (wpAny_mono h (fun it' s' h' => wpAny_pure (And.intro rfl h')) fun _ _ x => x))))
theorem emits2M {e iter : Expr} {d : Nat} {acc : Value} {env : Env} : DoMono (fun Q E s => wpAny (model PR w) A (PySem.eval iter env) (fun x s₁ => wpAny (model PR w) A (pyIter x) (fun it s₂ =>
    codeAny (model PR w) A (.compStart e d it acc env) (fun r s' => match r with | .ok _ => Q () s' | .error e => cameBackBy (model PR w) A env E e s') s₂) E s₁) E s) :=
  fun Q Q' E s h x => wpAny_mono x (fun _ _ y => wpAny_mono y (fun _ _ z => codeAny_mono z fun r s' q => by cases r with | ok _ => exact h _ q | error _ => exact q) fun _ _ e => e) fun _ _ e => e

/- a thing to run over that lies behind lo -/
noncomputable def SrcF (w : World) (A : Around) (target : Expr) (s₁ : Shared) (lo : Nat) (xv : Value) (n : Nat) (P : Nat → Value → Prop) : Prop :=
  ∀ (Q : Value → Shared → Prop) (E : Value → Shared → Prop), (∀ I h tk fp wr St, Walks PR w A I fp wr n P St → St 0 h → (∀ b ∈ fp, lo ≤ b) → Kp s₁.heap h →
      (∀ i v (s' : Shared) Q' E', St i s'.heap → Q' () s' → wpAny (model PR w) A (letOwnedTupleGo target (.ref I) v) Q' E' s') → Q (.ref I) { s₁ with heap := h, toks := tk }) → wpAny (model PR w) A (pyIter xv) Q E s₁
theorem srcListF {target : Expr} {l lo : Nat} {vs : List Value} (hh : A.handled = none) (hl : LAt s.heap l vs) (hlo : lo ≤ l) : SrcF w A target s lo (.ref l) vs.length (fun i v => vs[i]? = some v) := by
  intro Q E hQ
  have hls : l < s.heap.objs.size := by obtain ⟨n, e⟩ := hl; exact ltS e
  refine wpAny_pyIter_list hl.is ?_
  have W := Walks.list (prog := PR) (w := w) hh s.heap.objs.size l (Nat.ne_of_lt hls) vs.toArray
  simp only [List.size_toArray, List.getElem?_toArray] at W
  refine hQ _ _ _ _ _ _ W ⟨⟨_, Heap.get?_push_size _ rfl, rfl, rfl⟩, hl.is.push _⟩ ?_ (Kp.push _ _) fun i v s' Q' E' st q => ?_
  · intro b hb
    simp only [List.mem_cons, List.not_mem_nil, or_false] at hb
    rcases hb with rfl | rfl
    · exact Nat.le_trans hlo (Nat.le_of_lt hls)
    · exact hlo
  · obtain ⟨o, e, c, d⟩ := st.1
    obtain ⟨oc, od, odd, os⟩ := o
    cases c; cases d
    exact go_li e q
theorem srcRangeF {target : Expr} {r lo : Nat} {b : Nat} {t u v : Tok} (hh : A.handled = none) (hgo : ∀ it v, letOwnedTupleGo target it v = pure ()) (hr : IsRange s.heap r 0 b 1 t u v) (hb : b < 2 ^ 62) (hlo : lo ≤ s.heap.objs.size) : SrcF w A target s lo (.ref r) b (fun i v => ∃ t, v = .int (i : Int) t) := by
  intro Q E hQ
  refine wpAny_pyIter_range hr (small_one (by decide) (by decide) (by exact ar49 hb) (by exact ar50 hb)) ?_
  have W := Walks.range (prog := PR) (w := w) hh s.heap.objs.size 0 1 b
  simp only [Int.mul_one, Int.zero_add] at W
  refine hQ _ _ _ _ _ _ W ?_ (by simpa using hlo) (Kp.push _ _) fun i v s' Q' E' _ q => wpAny_of_eq (hgo _ _) q
  have e : Builtin.Range.rangeSize 0 (b : Int) 1 = (b : Int) - ((0 : Nat) : Int) := by rw [rangeSize_one]; split <;> omega
  rw [e]
  exact Heap.get?_push_size _ rfl

/- what an inner for asks, per outer item: the inner things to run over and their turns; the list grows as Inv says -/
theorem lc2 {elt target iter iter' : Expr} {x' : Str} {px' : Pos} {ifs' : List Expr} {scope : Scope} {pos : Pos} {env : Env} {cl : List (Str × Addr)} {Q : Value → Shared → Prop} (Inv : Nat → List Value → Prop) (InvI : Nat → Nat → List Value → Prop)
    (hclos : closureFor scope env = pure cl) (hcell : ∀ y ∈ scope.names, y.2 ≠ .cell) (hkind : scope.kind = .function) (hnames : ∀ y ∈ scope.names, y.2 = .local → scope.names.lookup y.1 = some .local) (hx' : scope.names.lookup x' = some .local)
    (h : wpAny (model PR w) A (PySem.eval iter env) (fun xv s₁ => ∃ (n : Nat) (P : Nat → Value → Prop) (B : Nat → Value → (Str → Option Value) → Prop), Src w A target s₁ xv n P ∧ Inv 0 [] ∧
      (∀ i v C h tk m Q' E', P i v → h.Ns C m → Kp s₁.heap h → s₁.heap.objs.size ≤ C → (∀ h' m' tk', h'.Ns C m' → B i v m' → KpB [C] h h' → Q' () { s₁ with heap := h', toks := tk' }) → wpAny (model PR w) A (assign target (compEnvC scope cl C env) v) Q' E' { s₁ with heap := h, toks := tk }) ∧
      (∀ i v ys C h tk m E', i < n → P i v → h.Ns C m → B i v m → Kp s₁.heap h → s₁.heap.objs.size ≤ C → Inv i ys →
        wpAny (model PR w) A (PySem.eval iter' (compEnvC scope cl C env)) (fun xv' s₂ => ∃ (h2 : Heap) (tk2 n' : Nat) (P' : Nat → Value → Prop), s₂ = { s₁ with heap := h2, toks := tk2 } ∧ Kp h h2 ∧ SrcF w A (.Name x' px') s₂ h.objs.size xv' n' P' ∧ InvI i 0 ys ∧ (∀ j zs, InvI i j zs → zs.length < 2 ^ 20) ∧
          (∀ zs, InvI i n' zs → Inv (i + 1) zs) ∧
          (∀ j v' zs h3 tk3 m3 E3, j < n' → P' j v' → h3.Ns C m3 → (∀ y, y ≠ x' → m3 y = m y) → m3 x' = some v' → Kp s₁.heap h3 → InvI i j zs →
            wpAny (model PR w) A (testsOf ifs' (compEnvC scope cl C env)) (fun ok s₄ => ∃ h4 tk4, s₄ = { s₁ with heap := h4, toks := tk4 } ∧ Kp h3 h4 ∧
              if ok = true then wpAny (model PR w) A (PySem.eval elt (compEnvC scope cl C env)) (fun y s₅ => ∃ h5 tk5, s₅ = { s₁ with heap := h5, toks := tk5 } ∧ Kp h3 h5 ∧ InvI i (j + 1) (zs ++ [y])) E3 s₄ else InvI i (j + 1) zs) E3 { s₁ with heap := h3, toks := tk3 })) E' { s₁ with heap := h, toks := tk }) ∧
      (∀ D h' tk' ys, s₁.heap.objs.size ≤ D → LAt h' D ys → Inv n ys → Kp s₁.heap h' → Q (.ref D) { s₁ with heap := h', toks := tk' })) E s)
    (hs : ∀ x, foldedSetIterable iter env x = pure x := by intro _; rfl) (hs' : ∀ C x, foldedSetIterable iter' (compEnvC scope cl C env) x = pure x := by intro _ _; rfl) :
    wpAny (model PR w) A (PySem.eval (.ListComp elt [⟨target, iter, [], 0⟩, ⟨.Name x' px', iter', ifs', 0⟩] scope pos) env) Q E s := by
  refine lcomp hclos hcell hkind hnames (wpAny_mono h (fun xv s₁ h₁ => ?_) fun _ _ e => e) hs
  obtain ⟨n, P, B, src, h0, hasg, hin, hQ⟩ := h₁
  refine src _ _ ?_
  intro I h2 tk2 fp wr St W st hfp hwr sz k2 hgo
  refine ⟨I, n, fp, wr, P, St, rfl, W, st, hfp, ?_⟩
  intro D C h3 tk3 hD hC hDf hCf k3 st3 hn3 hl3
  dsimp only at hD k3 ⊢
  have frs : ∀ y ∈ C :: D :: wr, s₁.heap.objs.size ≤ y := by
    intro y hy
    rcases List.mem_cons.mp hy with q | hy
    · rw [q]; show s₁.heap.objs.size ≤ C; exact ar252 sz hD hC q
    · rcases List.mem_cons.mp hy with q | hy
      · exact ar44 sz hD hC q
      · exact hwr _ hy
  refine cwalk (s := { s₁ with heap := h3, toks := tk3 }) W (emits2 (hs' C)) emits2M (turn20 ..) hDf hCf st3 hn3 hl3 (fun i ys _ => Inv i ys) (fun _ _ _ _ x _ => x) h0 ?_ ?_
  · intro i v ys h4 tk4 m4 E' hi hP st4 hn4 hl4 hI kb4
    have K4 : Kp s₁.heap h4 := kp_lt kb4 (k2.trans k3) frs
    refine hgo _ _ _ _ _ st4 ?_
    refine hasg i v C h4 tk4 m4 _ _ hP hn4 K4 (by exact ar43 sz hD hC) ?_
    intro h5 m5 tk5 hn5 hB k5
    have K5 : Kp s₁.heap h5 := kp_lt k5 K4 (by simp; omega)
    have hl5 : LAt h5 D ys := hl4.kpB k5 (by exact ar45 hC)
    have hD5 : D < h5.objs.size := by obtain ⟨_, e⟩ := hl5; exact ltS e
    have hC5 : C < h5.objs.size := by obtain ⟨o, _, _, e, _⟩ := hn5; exact ltS e
    refine wpAny_tests_nil ?_
    rw [if_pos rfl]
    refine wpAny_mono (hin i v ys C h5 tk5 m5 E' hi hP hn5 hB K5 (by exact ar43 sz hD hC) hI) ?_ fun _ _ e => e
    rintro xv' s₂ ⟨h6, tk6, n', P', rfl, k6, src', hI0, hlen, hdone, hturn⟩
    refine src' _ _ ?_
    intro I' h7 tk7 fp' wr' St' W' st' hfp' k7 hgo'
    dsimp only at k7 ⊢
    have hD' : D ∉ fp' := fun q => by have := hfp' _ q; omega
    have hC' : C ∉ fp' := fun q => by have := hfp' _ q; omega
    have k57 : Kp h5 h7 := k6.trans k7
    have loop : ∀ s₈ : Shared, s₈ = { s₁ with heap := h7, toks := tk7 } → codeAny (model PR w) A (.compLoop (.ListComp elt [⟨target, iter, [], 0⟩, ⟨.Name x' px', iter', ifs', 0⟩] scope pos) 1 (.ref I') (.ref D) (compEnvC scope cl C env))
        (fun r s' => match r with | .ok _ => Turned { s₁ with heap := h3, toks := tk3 } C D (fun ys _ => Inv (i + 1) ys) h4 s' | .error e => cameBackBy (model PR w) A (compEnvC scope cl C env) E' e s') s₈ := by
      rintro s₈ rfl
      refine cwalk (s := { s₁ with heap := h7, toks := tk7 }) W' emits1 emits1M (turn21 ..) hD' hC' st' (hn5.keeps k57) (hl5.kp k57) (fun j zs h => InvI i j zs ∧ KpB [C, D] h4 h ∧ Kp s₁.heap h ∧ ∃ m3, h.Ns C m3 ∧ ∀ y, y ≠ x' → m3 y = m5 y) ?_ ⟨hI0, (k5.mono (by simp)).trans k57.b, K5.trans k57, m5, hn5.keeps k57, fun _ _ => rfl⟩ ?_ ?_
      · rintro j zs h h' ⟨a1, a2, a3, m3, a4, a5⟩ kw
        refine ⟨a1, fun b o nb e => kw _ _ ?_ (a2 _ _ nb e), fun b o e => kw _ _ ?_ (a3 _ _ e), m3, ns_kpB a4 kw (fun q => hC' (W'.sub _ q)), a5⟩
        · intro q
          have h1 := hfp' _ (W'.sub _ q)
          have h2 := ltS (k5 b o (by simp at nb ⊢; exact nb.1) e)
          omega
        · intro q
          have h1 := hfp' _ (W'.sub _ q)
          have h2 := ltS (K5 _ _ e)
          omega
      · rintro j v' zs h8 tk8 m8 E8 hj hP8 st8 hn8 hl8 ⟨a1, a2, a3, m3, a4, a5⟩ kb8
        have hmm : m8 = m3 := by
          obtain ⟨o, es, ep, e, d, _, r⟩ := hn8
          obtain ⟨o', es', ep', e', d', _, r'⟩ := a4
          rw [show (compEnvC scope cl C env).locals = C from rfl] at e
          rw [e] at e'; cases e'; rw [d] at d'; cases d'
          funext z; rw [← r z, ← r' z]
        subst hmm
        refine hgo' _ _ _ _ _ st8 ?_
        refine wpAny_assign_Name (wpAny_storeName_local (lookup_relabel_local hx') hn8 ?_ (by simp [compEnvC, relabel, hkind]))
        intro h9 hn9 sb9
        have k9 : KpB [C] h8 h9 := kp_same sb9
        have K9 : Kp s₁.heap h9 := kp_lt k9 a3 (by simp; omega)
        have hl9 : LAt h9 D zs := hl8.kpB k9 (by exact ar45 hC)
        refine wpAny_mono (hturn j v' zs h9 _ _ E8 hj hP8 hn9 (fun y hy => (if_neg hy).trans (a5 y hy)) (if_pos rfl) K9 a1) ?_ fun _ _ e => e
        rintro ok s₄ ⟨h10, tk10, rfl, k10, hok⟩
        have kk : KpB [C, D] h8 h10 := (k9.mono (by simp)).trans k10.b
        cases ok with
        | false =>
          exact ⟨h10, tk10, _, zs, rfl, hn9.keeps k10, hl9.kp k10, ⟨hok, a2.trans kk, K9.trans k10, _, hn9.keeps k10, fun y hy => (if_neg hy).trans (a5 y hy)⟩, kk⟩
        | true =>
          refine wpAny_mono hok ?_ fun _ _ e => e
          rintro y s₅ ⟨h11, tk11, rfl, k11, hI11⟩
          have kk11 : KpB [C, D] h8 h11 := (k9.mono (by simp)).trans k11.b
          refine append1 (hl9.kp k11) ?_ (hlen _ _ a1)
          intro h12 hl12 k12
          have hn12 : h12.Ns C _ := ns_kpB (hn9.keeps k11) k12 (by show C ∉ [D]; exact ar47 hC)
          exact ⟨h12, tk11, _, zs ++ [y], rfl, hn12, hl12, ⟨hI11, (a2.trans kk11).trans (k12.mono (by simp)), kp_lt k12 (K9.trans k11) (by simp; omega), _, hn12, fun y hy => (if_neg hy).trans (a5 y hy)⟩, kk11.trans (k12.mono (by simp))⟩
      · rintro h' tk' m' ys' hn' hl' ⟨hI', kb', K', _⟩ _
        exact ⟨h', tk', m', ys', rfl, hn', hl', hdone _ hI', kb'⟩
    refine compStart1 (loop _ rfl) ?_
    exact W'.self 0 _ _ _ st' (loop _ rfl)
  · intro h' tk' m' ys' hn' hl' hI' kb'
    refine ⟨rfl, h', tk', m', rfl, hn', ?_⟩
    intro h'' k''
    have K' : Kp s₁.heap h' := kp_lt kb' (k2.trans k3) frs
    exact hQ D h'' tk' ys' (by exact ar48 sz hD hC) (hl'.kpB k'' (by exact ar45 hC)) hI' (kp_lt k'' K' (by simp; omega))
end
end Mine

end
section -- M38
open PySem PySem.W PyProof.Rows PySem.Calls PySem.Builtin PySem.Builtin.ObjectAttr PySem.Builtin.Str PySem.StrLaws
set_option maxRecDepth 100000
set_option linter.unusedVariables false
namespace Mine
theorem k_c143 (P : Params) : codeIn (hd.heap_39 P) (.ref 143) (Str.ofString "_law_named") = true := by kernel_rfl
theorem low_len (x : Str) : (low x).length ≤ 3 * x.length := by
  have := len_lower x
  rw [low_wd, wd_len] at this
  exact this
theorem StrsL.get {ys : List Value} {xs : List (List Nat)} (h : StrsL ys xs) {i : Nat} {v : Value} (hv : ys[i]? = some v) : ∃ a t, xs[i]? = some a ∧ v = .str (wd a) t := by
  obtain ⟨l, rfl, e2⟩ := h
  have hi : i < l.length := by have := (List.getElem?_eq_some_iff.mp hv).1; simpa [strValues] using this
  have hx : i < xs.length := by have := congrArg List.length e2; simp at this; exact ar253 hi this
  have e3 := congrArg (·[i]?) e2
  simp only [List.getElem?_map, List.getElem?_eq_getElem hi, List.getElem?_eq_getElem hx, Option.map_some] at e3
  refine ⟨xs[i], l[i].2, by rw [List.getElem?_eq_getElem hx], ?_⟩
  have hv' : some (Value.str l[i].1 l[i].2) = some v := by rw [← hv]; simp [strValues, hi]
  rw [← Option.some.inj hv', Option.some.inj e3]
section
variable {w : World} {mean : ExcName → Option Value} {mg mb : Str → Option Value} {A : Around} {E : Value → Shared → Prop} {s : Shared} {R : Result → Shared → Prop} {h₀ : Heap}

set_option maxHeartbeats 2000000 in
theorem law_named {n l B : Nat} {vs : List Value} {rows : Rows} (k : OkA A (n + 2)) (G : Gd w mean mg mb h₀) (K0 : Kp h₀ s.heap) (hl : LAt s.heap l vs) (ht : TupsAt B s.heap vs rows) (hg : ∀ r ∈ rows, r.2.length ≤ 200) (hz : rows.length ≤ 200) {nm : List Nat} {tn : Tok} (hzn : nm.length ≤ 200)
    (h : ∀ h' tk, Kp s.heap h' → R (.ok (.ret (.bool (namedOf nm rows)))) { s with heap := h', toks := tk }) :
    codeAny (model PR w) A (.call (.ref 144) ⟨[.ref l, .str (wd nm) tn], []⟩) R s := by
  have GS := G.keeps K0
  have hfn : s.heap.get? 144 = some _ := GS.X _ _ (by rfl)
  refine callC (n := n + 1) (binds := [(Str.ofString "rows", .ref l), (Str.ofString "name", .str (wd nm) tn)]) k hfn GS.lim (codeRec_of GS.X (k_c143 _)) ?_ ?_ ?_
  · rfl
  · intro L; rfl
  intro L h1 tk hL hns hcell kp ok
  obtain ⟨oc1, ec1, dc1⟩ := hcell (Str.ofString "head") (L + 1) rfl
  have hsz1 : L + 1 < h1.objs.size := ltS ec1
  have hhl := head_le nm
  refine wpAny_execs_cons ?_
  refine wpAny_Assign_Name ?_
  refine MethodCall_ ?_
  refine Subscript_ ?_
  refine MethodCall_ ?_
  refine wpAny_Name (wpAny_loadName_local rfl rfl hns rfl ?_) (by decide)
  refine GM.partition ?_
  refine callWith_method1 ?_
  refine args_cons ?_
  refine wpAny_Constant_str ?_
  refine args_nil ?_
  refine partH (by decide) (by rw [wd_len, sizeLine_eq]; exact ar254 hzn) ?_
  intro T ta tb tc h2 tk2 hT k2
  dsimp only at k2 ⊢
  refine wpAny_Constant_int ?_
  refine kba_turn (value' := PySem.Expr.Name (PySem.Str.ofString "_") ⟨0, 0, 0, 0⟩) (fun _ => rfl) ?_
  refine item_tuple (j := 0) (x := .str (headOf nm) ta) hT (by decide) (by decide) rfl rfl ?_
  refine GM.lower ?_
  refine callWith_method0 ?_
  refine SCL.lower (by exact ar255 hzn hhl) ?_
  intro hlow
  rw [low_wd]
  dsimp only
  refine wpAny_storeName_cell rfl rfl (show _ = some (L + 1) from rfl) ⟨_, k2 _ _ ec1, dc1⟩ ?_
  intro h3 hc3 sb3
  dsimp only
  have k3 := kp_same sb3
  obtain ⟨oc3, ec3, dc3⟩ := hc3
  have K3 : Kp s.heap h3 := fun b o e => k3 _ _ (by have := ltS e; exact ar52 hL this) (k2 _ _ (kp _ _ e))
  have hn3 := ns_kpB (hns.keeps k2) k3 (by simp)
  have G3 := GS.keeps K3
  have hlh := low_len (headOf nm)
  have ht3 := ht.kpB (K3.b (W := [])) (by simp)
  have hlen := ht.len
  have L3 : L < h3.objs.size := by obtain ⟨o, _, _, e, _⟩ := hn3; exact ltS e
  refine wpAny_execs_cons ?_
  refine Front.keep (cl := []) ?_ (by rfl) rfl (by decide) rfl (by decide) rfl rfl
  refine lcPHF (fun _ i ys _ => StrsL ys (agL (rows.take i))) ?_ ok.hn rfl rfl rfl (by decide) ?_
  · intro M i ys h h' W x kb hW
    exact x
  refine wpAny_Name (wpAny_loadName_local rfl rfl hn3 rfl ?_) (by decide)
  refine ⟨vs.length, fun i a b => ∃ r t u, rows[i]? = some r ∧ a = .str (wd r.1) t ∧ b = .str (wd r.2) u, ?_, ?_, by exact ar256 hz hlen, ?_, ?_, ?_⟩
  · exact srcPairs (s := { s with heap := h3, toks := _ }) ok.hn (hl.kp K3) ht3
  · intro M h
    exact StrsL.nil
  · intro M i ys h x
    rw [x.len]
    refine Nat.le_trans (List.length_filterMap_le _ _) ?_
    rw [List.length_take]; exact ar248 hlen
  · rintro i a b ys C h4 tk4 m4 E4 hi ⟨r, t, u, hr, rfl, rfl⟩ hn4 hma hmb k4 hC hC2 hI
    dsimp only at k4 hC
    have hgr := hg r (List.mem_of_getElem? hr)
    refine wpAny_tests_one ?_
    refine wpAny_mono (Q := fun ok s' => ok = decide (r.1 = kAgent ∧ r.2 ≠ [42]) ∧ ∃ tk3, s' = { s with heap := h4, toks := tk3 }) ?_ ?_ (fun _ _ e => e)
    · refine isTrue_and (wpAny_isTrue_Compare1 ?_)
      refine wpAny_Name (wpAny_loadName_local rfl rfl hn4 hma ?_) (by decide)
      refine wpAny_Constant_str (PyProof.Rows.eq_str (wpAny_truthy_bool ?_))
      rw [lit_agent, wd_beq]
      by_cases q : r.1 = kAgent
      · rw [if_pos (by simp [q])]
        refine isTrue_and (wpAny_isTrue_Compare1 ?_)
        refine wpAny_Name (wpAny_loadName_local rfl rfl hn4 hmb ?_) (by decide)
        refine wpAny_Constant_str (PyProof.Rows.ne_str (wpAny_truthy_bool ?_))
        rw [show Str.ofString "*" = wd [42] by decide, bne, wd_beq]
        by_cases q2 : r.2 = [42]
        · rw [if_neg (by simp [q2])]
          exact ⟨by simp [q2], _, rfl⟩
        · rw [if_pos (by simp [q2])]
          exact isTrue_and_nil ⟨by simp [q, q2], _, rfl⟩
      · rw [if_neg (by simp [q])]
        exact ⟨by simp [q], _, rfl⟩
    · rintro ok' s' ⟨rfl, tk3, rfl⟩
      refine ⟨h4, tk3, rfl, Kp.refl _, ?_⟩
      rw [agL_snoc rows hr]
      by_cases q : r.1 = kAgent ∧ r.2 ≠ [42]
      · rw [if_pos (by simp [q]), if_pos q]
        refine MethodCall_ ?_
        refine wpAny_Name (wpAny_loadName_local rfl rfl hn4 hmb ?_) (by decide)
        refine GM.lower ?_
        refine callWith_method0 ?_
        refine SCL.lower (by rw [wd_len]; exact ar257 hgr) ?_
        intro _
        rw [low_wd]
        exact ⟨h4, _, rfl, Kp.refl _, hI.snoc⟩
      · rw [if_neg (by simpa using q), if_neg q, List.append_nil]
        exact hI
  intro D h4 tk4 ys hD lD hfit k4
  dsimp only at hD k4 ⊢
  obtain ⟨M, hfit⟩ := hfit
  rw [hlen, List.take_length] at hfit
  refine ⟨⟨D, rfl, by show L < D; exact ar258 hL L3 hD⟩, _, hn3.keeps k4, ?_⟩
  intro h5 tk5 hn5 k5
  have K5 : Kp s.heap h5 := fun b o e => k5 _ _ (by have := ltS e; show b ∉ [L]; exact ar100 hL this) (k4 _ _ (K3 _ _ e))
  have lD5 := lD.kpB k5 (by show D ∉ [L]; exact ar259 hL L3 hD)
  have ec5 := k5 (L + 1) _ (by show L + 1 ∉ [L]; simp) (k4 _ _ ec3)
  have G5 := GS.keeps K5
  have hn5' := hn5
  have hagl : (agL rows).length ≤ 200 := Nat.le_trans (List.length_filterMap_le _ _) hz
  have hml : ∀ i, i ≤ (agL rows).length → i * ((low (headOf nm)).length + 1) ≤ 200 * 601 := fun i hi => Nat.mul_le_mul (by exact ar260 hagl hi) (by exact ar261 hzn hhl hlh)
  refine wpAny_execs_cons ?_
  refine wpAny_Return_some ?_
  refine wpAny_Compare1 ?_
  refine lc2 (cl := [(Str.ofString "head", L + 1)]) (fun i ys => (ys = [] ↔ ((agL rows).take i).any (fun a => occurs a (low (headOf nm))) = false) ∧ ys.length ≤ i * ((low (headOf nm)).length + 1) ∧ i ≤ (agL rows).length)
    (fun i j zs => (zs = [] ↔ (((agL rows).take i).any (fun a => occurs a (low (headOf nm))) = false ∧ ∀ a, (agL rows)[i]? = some a → ∀ k, k < j → ((low (headOf nm)).drop k).take a.length ≠ a)) ∧ zs.length ≤ i * ((low (headOf nm)).length + 1) + j ∧ i < (agL rows).length ∧ j ≤ (low (headOf nm)).length + 1) rfl (by decide) rfl (by decide) rfl ?_
  refine wpAny_Name (wpAny_loadName_local rfl rfl hn5 rfl ?_) (by decide)
  refine ⟨ys.length, fun i v => ys[i]? = some v, fun _ v m => m (Str.ofString "agent") = some v, ?_, ?_, ?_, ?_, ?_⟩
  · exact srcList (s := { s with heap := h5, toks := _ }) ok.hn lD5
  · exact ⟨by simp, by simp, Nat.zero_le _⟩
  · intro i v C h6 tk6 m6 Q6 E6 hP hn6 K6 hC hq
    refine wpAny_assign_Name (wpAny_storeName_local (lookup_relabel_local rfl) hn6 ?_ (by rfl))
    intro h7 hn7 sb7
    exact hq _ _ _ hn7 (if_pos rfl) (kp_same sb7)
  · intro i v zs C h6 tk6 m6 E6 hi hP hn6 hB K6 hC hI
    dsimp only at K6 hC
    obtain ⟨a, ta, ha, rfl⟩ := hfit.get hP
    have hia : i < (agL rows).length := (List.getElem?_eq_some_iff.mp ha).1
    have G6 := G5.keeps K6
    have hC6 : C < h6.objs.size := by obtain ⟨o, _, _, e, _⟩ := hn6; exact ltS e
    refine Call_ ?_
    refine nameB (v := .type "range") G6 (g_range _) (by kernel_rfl) ?_
    refine PySem.callWith_type1 ?_
    refine wpAny_BinOp ?_
    refine len_of G6 ?_ rfl
    refine wpAny_Name (wpAny_loadName_cell rfl rfl (show _ = some (L + 1) from rfl) ⟨oc3, K6 _ _ ec5, dc3⟩ ?_) (by decide)
    refine ⟨low (headOf nm), _, rfl, by exact ar262 hzn hhl hlh, ?_⟩
    intro t7 tk7
    refine wpAny_Constant_int ?_
    refine PyProof.Rows.add_int ?_
    refine call_range_1 ?_
    dsimp only
    refine ⟨_, _, (low (headOf nm)).length + 1, _, rfl, Kp.push _ _, srcRangeF (s := { s with heap := _, toks := _ }) ok.hn (fun _ _ => rfl) (IsRange.new ..) (by exact ar263 hzn hhl hlh) (by show _ ≤ (Heap.push _ _).objs.size; rw [Heap.size_push]; exact ar264), ?_, ?_, ?_, ?_⟩
    · exact ⟨hI.1.trans (by simp), hI.2.1, hia, Nat.zero_le _⟩
    · rintro j zs ⟨_, b2, b3, b4⟩
      have := hml i (by exact ar265 hia)
      exact ar266 hzn hhl hlh b2 b4 this
    · rintro zs ⟨b1, b2, b3, b4⟩
      refine ⟨b1.trans ?_, by rw [Nat.succ_mul]; exact b2, hia⟩
      rw [List.take_add_one, ha, List.any_append]
      simp only [Option.toList_some, List.any_cons, List.any_nil, Bool.or_false, Bool.or_eq_false_iff]
      refine and_congr_right fun _ => ?_
      unfold occurs
      rw [List.any_eq_false]
      constructor
      · intro q x hx
        have := q a rfl x (List.mem_range.mp hx)
        simpa using this
      · intro q a' ea k hk
        cases ea
        have := q k (List.mem_range.mpr hk)
        simpa using this
    · rintro j v' zs h7 tk7' m7 E7 hj ⟨tj, rfl⟩ hn7 hm7 hx7 K7 ⟨b1, b2, b3, b4⟩
      have hag : m7 (Str.ofString "agent") = some (.str (wd a) ta) := (hm7 _ (by decide)).trans hB
      have hal : a.length ≤ 600 := by
        have hm := List.mem_of_getElem? ha
        unfold agL at hm
        obtain ⟨r, hr, er⟩ := List.mem_filterMap.mp hm
        split at er
        · cases er
          have := low_len (wd r.2)
          have := hg r hr
          rw [wd_len] at *
          exact ar267 ‹(low (wd r.snd)).length ≤ 3 * r.snd.length› this
        · cases er
      refine wpAny_tests_one ?_
      refine wpAny_isTrue_Compare1 ?_
      refine sub_ab ?_
      refine wpAny_Name (wpAny_loadName_cell rfl rfl (show _ = some (L + 1) from rfl) ⟨oc3, K7 _ _ ec5, dc3⟩ ?_) (by decide)
      refine wpAny_Name (wpAny_loadName_local rfl rfl hn7 hx7 ?_) (by decide)
      refine wpAny_BinOp ?_
      refine wpAny_Name (wpAny_loadName_local rfl rfl hn7 hx7 ?_) (by decide)
      refine len_of (G5.keeps K7) ?_ rfl
      refine wpAny_Name (wpAny_loadName_local rfl rfl hn7 hag ?_) (by decide)
      refine ⟨a, ta, rfl, by exact ar268 hal, ?_⟩
      intro t8 tk8
      refine PyProof.Rows.add_int ?_
      refine ⟨_, _, _, _, _, _, rfl, rfl, rfl, by rw [wd_len, sizeLine_eq]; exact ar269 hzn hhl hlh, ?_⟩
      intro h8 t9 tk9 k8
      dsimp only at k8 ⊢
      rw [show ((j : Int) + (a.length : Int)) = ((j + a.length : Nat) : Int) by exact ar270, slice_ab (low (headOf nm)) j (j + a.length) (by exact ar107 hj) (by exact ar271 hal), Nat.add_sub_cancel_left]
      refine wpAny_Name (wpAny_loadName_local rfl rfl (hn7.keeps k8) hag ?_) (by decide)
      refine PyProof.Rows.eq_str (wpAny_truthy_bool ?_)
      rw [wd_beq]
      refine ⟨h8, _, rfl, k8, ?_⟩
      by_cases q : ((low (headOf nm)).drop j).take a.length = a
      · rw [if_pos (by simp [q])]
        refine wpAny_Constant_int ?_
        refine ⟨h8, _, rfl, k8, ?_, by simp; omega, hia, by exact ar272 hj⟩
        constructor
        · intro e; simp at e
        · rintro ⟨_, e⟩
          exact absurd q (e a ha j (by exact ar273))
      · rw [if_neg (by simp [q])]
        refine ⟨b1.trans (and_congr_right fun _ => ?_), by exact ar274 b2, hia, by exact ar272 hj⟩
        constructor
        · intro e a' ea k hk
          by_cases hkj : k = j
          · subst hkj
            rw [ha] at ea; cases ea
            exact q
          · exact e a' ea k (by exact ar275 hk hkj)
        · intro e a' ea k hk
          exact e a' ea k (by exact ar276 hk)
  · intro D2 h6 tk6 zs hD2 lD2 hI K6
    dsimp only at hD2 K6 ⊢
    obtain ⟨b1, b2, b3⟩ := hI
    rw [hfit.len, List.take_length] at b1
    refine newL ?_
    intro e0 h7 tk7 he0 l7 k7
    dsimp only at he0 k7 ⊢
    have lD7 := lD2.kp k7
    have hfin : Kp s.heap h7 := K5.trans (K6.trans k7)
    have hR : namedOf nm rows = !zs.isEmpty := by
      unfold namedOf
      cases zs with
      | nil => exact b1.mp rfl
      | cons z zs =>
        cases hq : (agL rows).any fun a => occurs a (low (headOf nm)) with
        | true => rfl
        | false => exact absurd (b1.mpr hq) (by simp)
    cases zs with
    | nil =>
      refine SeqAt.RcNeAt.lists (e := fun _ => true) lD7.is l7.is rfl ok.units ?_ _ _ _ _ ?_
      · intro j h1 h2; exact absurd h1 (by simp)
      rw [show (!((List.range ([] : List Value).toArray.size).all fun _ => true)) = namedOf nm rows from hR.symm]
      exact h _ _ hfin
    | cons z zs =>
      refine SeqAt.RcNeAt.lists_lengths lD7.is l7.is ?_ ok.units _ _ _ _ ?_
      · rw [bne_iff_ne]; simp
      rw [show true = namedOf nm rows from hR.symm]
      exact h _ _ hfin
end
end Mine

end
section -- N2
open PySem PySem.W PyProof.Rows PySem.Calls PySem.Builtin PySem.Builtin.Str PySem.StrLaws
set_option maxRecDepth 100000
set_option linter.unusedVariables false
namespace Mine
/- a row of the page, the p-th -/
noncomputable def rowText (p : Nat) (r : List Nat × List Nat) : List Nat := r.1 ++ [if p % 2 = 0 then 32 else 9] ++ spell r.2 (((p + r.2.length) % 3 : Nat) : Int) ++ [10]
noncomputable def pageFrom : Nat → Rows → List (List Nat)
  | _, [] => []
  | p, r :: rs => rowText p r :: pageFrom (p + 1) rs
theorem pageFrom_snoc (rs : Rows) (r : List Nat × List Nat) : ∀ p, pageFrom p (rs ++ [r]) = pageFrom p rs ++ [rowText (p + rs.length) r] := by
  induction rs with
  | nil => intro p; rfl
  | cons x xs ih => intro p; simp only [List.cons_append, pageFrom, ih, List.length_cons]; rw [show p + 1 + xs.length = p + (xs.length + 1) by exact ar277]
theorem pageFrom_len (rs : Rows) : ∀ p, (pageFrom p rs).length = rs.length := by
  induction rs with
  | nil => intro p; rfl
  | cons x xs ih => intro p; simp [pageFrom, ih]

theorem Pg.white {rows : Rows} {cs : List Nat} {c : Nat} (hc : ws c = true) (p : Pg rows cs) : Pg rows (c :: cs) := by
  cases p with
  | nil pre h =>
    refine .nil _ ?_
    intro x hx
    rcases List.mem_cons.mp hx with q | hx
    · exact q ▸ hc
    · exact h x hx
  | cons pre body kd rest pre' body' word rest' rows h1 h2 h3 h4 h5 h6 h7 =>
    refine .cons (c :: pre) body kd rest pre' body' word rest' rows ?_ h2 h3 h4 h5 h6 h7
    intro x hx
    rcases List.mem_cons.mp hx with q | hx
    · exact q ▸ hc
    · exact h1 x hx

theorem enc_false (cs : List Nat) : enc (cs.map fun c => (false, c)) = cs := by
  induction cs with
  | nil => rfl
  | cons c r ih => simp [enc, ih]
theorem map_snd_it (f : Nat → Bool) (cs : List Nat) : (cs.map fun c => (f c, c)).map (·.2) = cs := by
  induction cs with
  | nil => rfl
  | cons c r ih => rw [List.map_cons, List.map_cons, ih]
theorem tkn_kind {kd : List Nat} (h : kd = kAllow ∨ kd = kDis ∨ kd = kAgent) {wc : Nat} (hw : ws wc = true) (rest : List Nat) : Tkn (kd ++ wc :: rest) kd rest := by
  have key : ∀ (c0 : Nat) (r : List Nat), ws c0 = false → c0 ≠ 92 → c0 ≠ 34 → (∀ c ∈ r, ws c = false ∧ c ≠ 92) → Tkn ((c0 :: r) ++ wc :: rest) (c0 :: r) rest := by
    intro c0 r h1 h2 h3 h4
    have := Tkn.b false c0 (r.map fun c => (false, c)) wc rest hw (.inr ⟨h1, h2, h3⟩) (by
      intro p hp
      obtain ⟨c, hc, rfl⟩ := List.mem_map.mp hp
      exact .inr (h4 c hc))
    rw [enc_false, map_snd_it (fun _ => false)] at this
    exact this
  rcases h with rfl | rfl | rfl
  · exact key _ _ (by decide) (by decide) (by decide) (by decide)
  · exact key _ _ (by decide) (by decide) (by decide) (by decide)
  · exact key _ _ (by decide) (by decide) (by decide) (by decide)
theorem it1_snd (word : List Nat) : (it1 word).map (·.2) = word := by
  unfold it1
  apply List.ext_getElem?
  intro i
  rw [List.getElem?_map, List.getElem?_mapIdx]
  cases word[i]? <;> rfl
/- the spelled word is read back -/
theorem tkn_spell {word : List Nat} (hg : GoodW word) (way : Int) (rest : List Nat) : ∃ rest', Tkn (spell word way ++ 10 :: rest) word rest' ∧ (rest' = rest ∨ rest' = 10 :: rest) := by
  unfold spell
  split
  · refine ⟨10 :: rest, ?_, .inr rfl⟩
    have := Tkn.q (it0 word) (10 :: rest) (by
      intro p hp
      obtain ⟨c, hc, rfl⟩ := List.mem_map.mp hp
      by_cases q : q0 c = true
      · exact .inl q
      · right
        simp [q0] at q
        exact q)
    rw [show (it0 word).map (·.2) = word from map_snd_it q0 word] at this
    simpa using this
  · rename_i hne
    rw [not_or] at hne
    obtain ⟨c0, r, rfl⟩ : ∃ c0 r, word = c0 :: r := by cases word with | nil => exact absurd rfl hne.2 | cons c r => exact ⟨c, r, rfl⟩
    refine ⟨rest, ?_, .inl rfl⟩
    have hgo : ∀ c ∈ c0 :: r, c ≠ 9 ∧ c ≠ 13 := hg.1
    split
    · have e := it1_snd (c0 :: r)
      have h1 : ∃ items, it1 (c0 :: r) = (b1 0 c0, c0) :: items ∧ ∀ p ∈ items, p.1 = true ∨ (ws p.2 = false ∧ p.2 ≠ 92) := by
        refine ⟨r.mapIdx fun i c => (b1 (i + 1) c, c), by simp [it1, List.mapIdx_cons], ?_⟩
        intro p hp
        obtain ⟨i, hi, rfl⟩ := List.mem_mapIdx.mp hp
        by_cases q : b1 (i + 1) r[i] = true
        · exact .inl q
        · right
          have := hgo r[i] (.tail _ (List.getElem_mem hi))
          simp [b1] at q
          simp [ws]
          exact ar278 hi this q
      obtain ⟨items, e1, e2⟩ := h1
      rw [e1] at e ⊢
      simp only [List.map_cons, List.cons.injEq, true_and] at e
      have := Tkn.b (b1 0 c0) c0 items 10 rest (by decide) (by
        by_cases q : b1 0 c0 = true
        · exact .inl q
        · right
          have := hgo c0 (.head _)
          simp [b1] at q
          simp [ws]
          exact ar279 this q) e2
      rw [e] at this
      simp only [enc, List.append_assoc]
      exact this
    · have := Tkn.b true c0 (it2 r) 10 rest (by decide) (.inl rfl) (by
        intro p hp
        obtain ⟨c, hc, rfl⟩ := List.mem_map.mp hp
        exact .inl rfl)
      rw [show (it2 r).map (·.2) = r from map_snd_it (fun _ => true) r] at this
      simp only [it2, List.map_cons, enc, List.append_assoc]
      exact this
/- the page is read back -/
theorem pg_page (rows : Rows) (hg : ∀ r ∈ rows, GoodRow r) : ∀ p, Pg rows (pageFrom p rows).flatten := by
  induction rows with
  | nil => intro p; exact .nil [] (by simp)
  | cons r rs ih =>
    intro p
    obtain ⟨kd, word⟩ := r
    obtain ⟨hk, hw⟩ := hg _ (.head _)
    have ih' := ih (fun r hr => hg r (.tail _ hr)) (p + 1)
    obtain ⟨rest', ht, hr⟩ := tkn_spell hw (((p + word.length) % 3 : Nat) : Int) (pageFrom (p + 1) rs).flatten
    have hwc : ws (if p % 2 = 0 then 32 else 9) = true := by split <;> decide
    have hP : Pg rs rest' := by
      rcases hr with rfl | rfl
      · exact ih'
      · exact ih'.white (by decide)
    have := Pg.cons [] _ kd _ [] _ word rest' rs (by simp) (tkn_kind hk hwc (spell word (((p + word.length) % 3 : Nat) : Int) ++ 10 :: (pageFrom (p + 1) rs).flatten)) (by rcases hk with rfl | rfl | rfl <;> decide) rfl (by simp) ht hP
    simp only [pageFrom, rowText, List.flatten_cons]
    simpa using this

theorem spell_le (word : List Nat) (way : Int) : (spell word way).length ≤ 2 * word.length + 2 := by
  have h0 := enc_le (it0 word)
  have h1 := enc_le (it1 word)
  have h2 := enc_le (it2 word)
  simp [it0] at h0
  simp [it1] at h1
  simp [it2] at h2
  unfold spell
  split
  · simp [it0]; exact ar280 h0
  · split
    · simp [it1]; exact ar281 h1
    · simp [it2]; exact ar281 h2
theorem row_le {r : List Nat × List Nat} (h : GoodRow r) (p : Nat) : (rowText p r).length ≤ 250 := by
  obtain ⟨hk, hw⟩ := h
  have h1 := spell_le r.2 (((p + r.2.length) % 3 : Nat) : Int)
  have h2 : r.1.length ≤ 8 := by rcases hk with e | e | e <;> rw [e] <;> decide
  have h3 := hw.2
  unfold rowText
  simp only [List.length_append, List.length_cons, List.length_nil]
  exact ar282 h1 h2 h3
theorem page_le (rows : Rows) (hg : ∀ r ∈ rows, GoodRow r) : ∀ p, ((pageFrom p rows).map List.length).sum ≤ 250 * rows.length := by
  induction rows with
  | nil => intro p; simp [pageFrom]
  | cons r rs ih =>
    intro p
    have h1 := ih (fun r hr => hg r (.tail _ hr)) (p + 1)
    have h2 := row_le (hg r (.head _)) p
    simp only [pageFrom, List.map_cons, List.sum_cons, List.length_cons]
    exact ar283 h1 h2

theorem bumps_cnt (cs : List Nat) : ∀ ln, bumps ln cs = ln + cnt 10 cs := by
  induction cs with
  | nil => intro ln; simp [bumps, cnt_nil]
  | cons c r ih =>
    intro ln
    rw [bumps_cons, ih, cnt_cons]
    unfold bump
    split <;> omega
theorem bumps_count (cs : List Nat) : bumps 1 cs = 1 + Txt.count (wd cs) (Str.ofString "\n") := by
  rw [show Str.ofString "\n" = (⟨#[10]⟩ : Str) by decide, count_cnt, bumps_cnt]

/- the fold over the rules answers as the longest that fit -/
theorem al_state (nm : List Nat) (rows : Rows) : ∀ (p : Int × Bool), 0 ≤ p.1 → (rulesOf rows).foldl (alStep nm) (p.1 + 1, p.2) = ((bestOf p (fitOf nm rows)).1 + 1, (bestOf p (fitOf nm rows)).2) := by
  induction rows with
  | nil => intro p _; rfl
  | cons r rs ih =>
    intro p hp
    by_cases q : r.1 = kAgent
    · have e1 : rulesOf (r :: rs) = rulesOf rs := by simp [rulesOf, q]
      have e2 : fitOf nm (r :: rs) = fitOf nm rs := by simp [fitOf, q]
      rw [e1, e2]; exact ih p hp
    · have e1 : rulesOf (r :: rs) = (r.2, decide (r.1 = kAllow)) :: rulesOf rs := by simp [rulesOf, q]
      rw [e1, List.foldl_cons]
      by_cases f : nm.take r.2.length = r.2
      · have e2 : fitOf nm (r :: rs) = ((r.2.length : Int), decide (r.1 = kAllow)) :: fitOf nm rs := by simp [fitOf, q, f]
        have hf : fits r.2 nm = (r.2.length : Int) + 1 := by simp [fits, f]
        rw [e2]
        generalize decide (r.1 = kAllow) = al
        have e3 : bestOf p (((r.2.length : Int), al) :: fitOf nm rs) = bestOf (if gt2 ((r.2.length : Int), al) p then ((r.2.length : Int), al) else p) (fitOf nm rs) := rfl
        rw [e3]
        have e4 : alStep nm (p.1 + 1, p.2) (r.2, al) = ((if gt2 ((r.2.length : Int), al) p then ((r.2.length : Int), al) else p).1 + 1, (if gt2 ((r.2.length : Int), al) p then ((r.2.length : Int), al) else p).2) := by
          obtain ⟨a, b⟩ := p
          simp only [alStep, hf, gt2]
          rw [if_neg (by exact ar284)]
          by_cases c1 : a < (r.2.length : Int)
          · have c2 : ¬ (r.2.length : Int) = a := by exact ar285 c1
            simp [c1, c2]
          · by_cases c2 : (r.2.length : Int) = a
            · subst c2
              cases b <;> cases al <;> simp
            · simp only [c2, if_false]
              rw [if_neg (by exact ar286 c1), if_neg (by rintro ⟨h, _⟩; omega)]
              simp [c1]
        rw [e4]
        refine ih _ ?_
        split
        · exact Int.natCast_nonneg _
        · exact hp
      · have e2 : fitOf nm (r :: rs) = fitOf nm rs := by simp [fitOf, f]
        have hf : fits r.2 nm = 0 := by simp [fits, f]
        rw [e2]
        have : alStep nm (p.1 + 1, p.2) (r.2, decide (r.1 = kAllow)) = (p.1 + 1, p.2) := by simp [alStep, hf]
        rw [this]
        exact ih p hp
theorem al_is (nm : List Nat) (rows : Rows) : (alFold nm (rulesOf rows)).2 = allowedOf nm rows := by
  unfold alFold allowedOf
  induction rows with
  | nil => rfl
  | cons r rs ih =>
    by_cases q : r.1 = kAgent
    · have e1 : rulesOf (r :: rs) = rulesOf rs := by simp [rulesOf, q]
      have e2 : fitOf nm (r :: rs) = fitOf nm rs := by simp [fitOf, q]
      rw [e1, e2]; exact ih
    · have e1 : rulesOf (r :: rs) = (r.2, decide (r.1 = kAllow)) :: rulesOf rs := by simp [rulesOf, q]
      rw [e1, List.foldl_cons]
      by_cases f : nm.take r.2.length = r.2
      · have e2 : fitOf nm (r :: rs) = ((r.2.length : Int), decide (r.1 = kAllow)) :: fitOf nm rs := by simp [fitOf, q, f]
        have hf : fits r.2 nm = (r.2.length : Int) + 1 := by simp [fits, f]
        rw [e2]
        have : alStep nm (-1, true) (r.2, decide (r.1 = kAllow)) = ((r.2.length : Int) + 1, decide (r.1 = kAllow)) := by
          simp only [alStep, hf]
          rw [if_neg (by exact ar284), if_pos (by exact ar287)]
        rw [this]
        have := al_state nm rs ((r.2.length : Int), decide (r.1 = kAllow)) (Int.natCast_nonneg _)
        rw [this]
      · have e2 : fitOf nm (r :: rs) = fitOf nm rs := by simp [fitOf, f]
        have hf : fits r.2 nm = 0 := by simp [fits, f]
        rw [e2]
        have : alStep nm (-1, true) (r.2, decide (r.1 = kAllow)) = (-1, true) := by simp [alStep, hf]
        rw [this]
        exact ih
theorem named_is (nm : List Nat) (rows : Rows) : (agentsOf rows).any (named nm) = namedOf nm rows := by
  unfold namedOf
  induction rows with
  | nil => rfl
  | cons r rs ih =>
    by_cases q : r.1 = kAgent
    · have e1 : agentsOf (r :: rs) = r.2 :: agentsOf rs := by simp [agentsOf, q]
      rw [e1, List.any_cons, ih]
      by_cases f : r.2 = [42]
      · have e2 : agL (r :: rs) = agL rs := by simp [agL, f]
        rw [e2]; simp [named, f]
      · have e2 : agL (r :: rs) = low (wd r.2) :: agL rs := by simp [agL, q, f]
        rw [e2, List.any_cons]; simp [named, f]
    · have e1 : agentsOf (r :: rs) = agentsOf rs := by simp [agentsOf, q]
      have e2 : agL (r :: rs) = agL rs := by simp [agL, q]
      rw [e1, e2]; exact ih
theorem star_is (rows : Rows) : decide ([42] ∈ agentsOf rows) = decide ((kAgent, [42]) ∈ rows) := by
  rw [Bool.eq_iff_iff, decide_eq_true_eq, decide_eq_true_eq]
  unfold agentsOf
  rw [List.mem_filterMap]
  constructor
  · rintro ⟨r, hr, e⟩
    split at e
    · rename_i q
      have e := Option.some.inj e
      rw [← q, ← e]; exact hr
    · cases e
  · intro h
    exact ⟨_, h, by simp⟩
end Mine

end
section -- M39
open PySem PySem.W PyProof.Rows PySem.Calls PySem.Builtin PySem.Builtin.ObjectAttr PySem.Builtin.Str PySem.StrLaws
set_option maxRecDepth 100000
set_option linter.unusedVariables false
namespace Mine
noncomputable def lawD : Stmt := PR.main.body[13]!
noncomputable abbrev lawEnv (L f : Nat) (cdv : Value) : Env := envX (Str.ofString "law") (dScope lawD) L f cdv [(Str.ofString "record", L + 2), (Str.ofString "drawn", L + 1)]
noncomputable def lawS (i : Nat) : Stmt := (dBody lawD)[i]!
theorem g_rows (P : Params) : nsIn (hd.heap_39 P) mainGlobals (Str.ofString "_law_rows") = some (some (.ref 115)) := by kernel_rfl
theorem g_spelled (P : Params) : nsIn (hd.heap_39 P) mainGlobals (Str.ofString "_law_spelled") = some (some (.ref 110)) := by kernel_rfl
theorem g_read (P : Params) : nsIn (hd.heap_39 P) mainGlobals (Str.ofString "_law_read") = some (some (.ref 134)) := by kernel_rfl
theorem g_allowed (P : Params) : nsIn (hd.heap_39 P) mainGlobals (Str.ofString "_law_allowed") = some (some (.ref 139)) := by kernel_rfl
theorem g_named (P : Params) : nsIn (hd.heap_39 P) mainGlobals (Str.ofString "_law_named") = some (some (.ref 144)) := by kernel_rfl
theorem pick_mem (items : Array Value) (lo hi st : Option Int) : ∀ v ∈ (slicePick items lo hi st).toList, v ∈ items.toList := by
  intro v hv
  unfold slicePick at hv
  simp only [List.mem_filterMap] at hv
  obtain ⟨i, _, e⟩ := hv
  exact List.mem_of_getElem? (by simpa using e)
section
variable {w : World} {mean : ExcName → Option Value} {mg mb : Str → Option Value} {A : Around} {E : Value → Shared → Prop} {s : Shared} {h₀ : Heap} {L f : Nat} {cdv : Value} {m : Str → Option Value}

set_option maxHeartbeats 2000000 in
/- drawn = _law_rows(script[:4]) -/
theorem st0 {n l : Nat} {vs : List Value} {v0 : Option Value} {Q : Flow → Shared → Prop} (k : OkA A (n + 1)) (G : Gd w mean mg mb h₀) (K0 : Kp h₀ s.heap) (hns : s.heap.Ns L m) (hm : m (Str.ofString "script") = some (.ref l)) (hl : s.heap.IsList l vs.toArray) (hi : ∀ v ∈ vs, ∃ a t, v = .int a t) (hz : vs.length ≤ 63) (hc1 : s.heap.IsCell (L + 1) v0)
    (h : ∀ (rw : Nat) ws rows h' tk, s.heap.objs.size < rw → LAt h' rw ws → TupsAt 0 h' ws rows → (∀ r ∈ rows, GoodRow r) → rows.length ≤ 71 → h'.IsCell (L + 1) (some (.ref rw)) → KpB [L + 1] s.heap h' → Q .next { s with heap := h', toks := tk }) :
    wpAny (model PR w) A (exec (lawS 0) (lawEnv L f cdv)) Q E s := by
  have GS := G.keeps K0
  obtain ⟨oc, ec, dc⟩ := hc1
  have hL1 : L + 1 < s.heap.objs.size := ltS ec
  refine wpAny_Assign_Name ?_
  refine Call_ ?_
  refine nameG GS (g_rows _) ?_
  have hf : FnAt 115 s.heap := ⟨_, _, _, _, GS.X _ _ (by rfl)⟩
  refine callWith_F hf ?_
  refine args_cons ?_
  refine wpAny_Subscript_list_slice ?_
  refine wpAny_Name (wpAny_loadName_local rfl rfl hns hm ?_) (by decide)
  refine evalPart_none_step ?_
  refine evalPart_some_step ?_
  refine wpAny_Constant_int ?_
  refine ⟨l, _, _, _, rfl, hl, by rw [List.size_toArray, sizeLine_eq]; exact ar288 hz, .none, .int _ _, ?_⟩
  dsimp only
  refine args_nil ?_
  generalize hsp : slicePick vs.toArray none (some 4) none = sp
  have hmem : ∀ v ∈ sp.toList, ∃ a t, v = .int a t := by
    intro v hv
    rw [← hsp] at hv
    exact hi v (by simpa using pick_mem _ _ _ _ v hv)
  have hlen : sp.toList.length ≤ 63 := by
    have := slicePick_size_le vs.toArray none (some 4) none
    rw [hsp] at this
    have e2 : vs.toArray.size = vs.length := List.size_toArray
    rw [Array.length_toList]; exact ar289 hz this e2
  have kp1 : Kp s.heap ((s.heap.push { cls := .type "slice", data := .fields #[.none, .int 4 s.toks, .none] }).push { cls := .type "list", data := .seq sp }) := (Kp.push _ _).trans (Kp.push _ _)
  have hl1 : LAt ((s.heap.push { cls := .type "slice", data := .fields #[.none, .int 4 s.toks, .none] }).push { cls := .type "list", data := .seq sp }) (s.heap.objs.size + 1) sp.toList := by
    refine ⟨0, ?_⟩
    have := Heap.get?_push_size (h := s.heap.push { cls := .type "slice", data := .fields #[.none, .int 4 s.toks, .none] }) (o := { cls := .type "list", data := .seq sp }) rfl
    rw [Heap.size_push] at this
    exact this
  have hsz1 : ((s.heap.push { cls := .type "slice", data := .fields #[.none, .int 4 s.toks, .none] }).push { cls := .type "list", data := .seq sp }).objs.size = s.heap.objs.size + 2 := by rw [Heap.size_push, Heap.size_push]
  generalize (s.heap.push { cls := .type "slice", data := .fields #[.none, .int 4 s.toks, .none] }).push { cls := .type "list", data := .seq sp } = h1 at kp1 hl1 hsz1
  refine ⟨⟨_, _, _, _, (GS.keeps kp1).X _ _ (by rfl)⟩, ?_⟩
  refine wpAny_call ?_
  refine law_rows (s := { s with heap := h1, toks := _ }) (n := n) k G (K0.trans kp1) hl1 hmem (by exact ar290 hlen) ?_
  intro rw ws extra h2 tk2 hrw lw tw hg he k2
  dsimp only at hrw k2 ⊢
  have ec2 := k2 _ _ (kp1 _ _ ec)
  refine wpAny_storeName_cell rfl rfl (show _ = some (L + 1) from rfl) ⟨_, ec2, dc⟩ ?_
  intro h3 hc3 sb3
  have k3 := kp_same sb3
  refine h rw ws (baseRows ++ extra) h3 _ (by exact ar291 hsz1 hrw) (lw.kpB k3 (by exact ar292 hL1 hsz1 hrw)) (tw.kpK k3 ?_) ?_ ?_ hc3 ?_
  · intro y hy o e
    rw [List.mem_singleton.mp hy] at e
    dsimp only at e
    rw [ec2] at e; cases e
    exact .inr (by rw [dk_of dc]; show (3 : Nat) ≠ 1; decide)
  · intro r hr
    rcases List.mem_append.mp hr with hr | hr
    · exact base_good r hr
    · exact hg r hr
  · rw [List.length_append, he]
    have : baseRows.length = 8 := rfl
    exact ar293 hlen he this
  · intro b o nb e
    exact k3 _ _ nb (k2 _ _ (kp1 _ _ e))
end
end Mine

end
section -- M40
open PySem PySem.W PyProof.Rows PySem.Calls PySem.Builtin PySem.Builtin.ObjectAttr PySem.Builtin.Str PySem.StrLaws
set_option maxRecDepth 100000
set_option linter.unusedVariables false
namespace Mine
theorem wd_app (a b : List Nat) : wd a ++ wd b = wd (a ++ b) := by
  apply Str.ext'
  simp [Str.cps_append]
/- one of the two blanks -/
theorem two_at (p : Nat) (t0 t1 : Tok) : ∃ t, [Value.str (Str.ofString " ") t0, Value.str (Str.ofString "\t") t1][p % 2]? = some (.str (wd [if p % 2 = 0 then 32 else 9]) t) := by
  have h : p % 2 < 2 := Nat.mod_lt _ (by decide)
  generalize p % 2 = q at h
  cases q with
  | zero => exact ⟨t0, by rw [if_pos rfl]; rfl⟩
  | succ q => cases q with
    | zero => exact ⟨t1, by rw [if_neg (by decide)]; rfl⟩
    | succ q => exact absurd h (Nat.not_lt.mpr (Nat.le_add_left 2 q))
section
variable {w : World} {mean : ExcName → Option Value} {mg mb : Str → Option Value} {A : Around} {E : Value → Shared → Prop} {s : Shared} {h₀ : Heap} {L f : Nat} {cdv : Value} {m : Str → Option Value}

/- xs[i][j] of a list of pairs -/
theorem pair_item {x y : Str} {p1 p2 p3 p4 p5 : Pos} {kk : Nat} {j : Int} {env : Env} {Q : Value → Shared → Prop}
    (h : wpAny (model PR w) A (PySem.eval (.Name x p1) env) (fun o s₁ => wpAny (model PR w) A (PySem.eval (.Name y p2) env) (fun i s₂ => ∃ (rw : Nat) (ws : List Value) (n : Nat) (ti : Tok) (T : Nat) (a b : Value), o = .ref rw ∧ i = .int (n : Int) ti ∧ LAt s₂.heap rw ws ∧ ws[n]? = some (.ref T) ∧ n < 2 ^ 20 ∧ s₂.heap.IsTuple T #[a, b] ∧ ∀ tk, Q (if j = 0 then a else b) { s₂ with toks := tk }) E s₁) E s)
    (hj : j = 0 ∨ j = 1) : wpAny (model PR w) A (PySem.eval (.Subscript (.Subscript (.Name x p1) (.Name y p2) p3) (.Constant (.int j) kk p4) p5) env) Q E s := by
  refine Subscript_ ?_
  refine Subscript_ ?_
  refine wpAny_mono h ?_ (fun _ _ e => e)
  intro o s₁ h₁
  refine wpAny_mono h₁ ?_ (fun _ _ e => e)
  rintro i s₂ ⟨rw, ws, n, ti, T, a, b, rfl, rfl, hl, hT, hn, ht, hq⟩
  refine item_listL (x := .ref T) hl.is (by exact ar194 hn) (by exact ar294 hn) (by simpa using hT) ?_
  refine wpAny_Constant_int ?_
  refine kba_turn (value' := PySem.Expr.Name (PySem.Str.ofString "_") ⟨0, 0, 0, 0⟩) (fun _ => rfl) ?_
  rcases hj with rfl | rfl
  · exact item_tuple (items := #[a, b]) (j := 0) (x := a) ht (by decide) (by decide) rfl rfl (hq _)
  · exact item_tuple (items := #[a, b]) (j := 1) (x := b) ht (by decide) (by decide) rfl rfl (hq _)

set_option maxHeartbeats 2000000 in
/- page = ... -/
theorem st1 {n rw : Nat} {ws : List Value} {rows : Rows} {Q : Flow → Shared → Prop} (k : OkA A (n + 1)) (G : Gd w mean mg mb h₀) (K0 : Kp h₀ s.heap) (hns : s.heap.Ns L m) (lw : LAt s.heap rw ws) (tw : TupsAt 0 s.heap ws rows) (hg : ∀ r ∈ rows, GoodRow r) (hz : rows.length ≤ 71) (hc1 : s.heap.IsCell (L + 1) (some (.ref rw)))
    (h : ∀ h' tk t, h'.Ns L (fun y => if y = Str.ofString "page" then some (.str (wd (pageFrom 0 rows).flatten) t) else m y) → KpB [L] s.heap h' → Q .next { s with heap := h', toks := tk }) :
    wpAny (model PR w) A (exec (lawS 1) (lawEnv L f cdv)) Q E s := by
  have GS := G.keeps K0
  obtain ⟨oc, ec, dc⟩ := hc1
  have hlen := tw.len
  refine wpAny_Assign_Name ?_
  refine MethodCall_ ?_
  refine wpAny_Constant_str ?_
  refine GM.join ?_
  refine callWith_method1 ?_
  refine args_cons ?_
  refine lcN (cl := [(Str.ofString "drawn", L + 1)]) (fun j ys => StrsL ys (pageFrom 0 (rows.take j)) ∧ j ≤ rows.length) rfl (by decide) rfl (by decide) rfl ?_
  refine Call_ ?_
  refine nameB (v := .type "range") GS (g_range _) (by kernel_rfl) ?_
  refine PySem.callWith_type1 ?_
  refine Call_ ?_
  refine nameB (v := .builtin "len") GS (g_len _) (by kernel_rfl) ?_
  refine PySem.callWith_builtin1 ?_
  refine wpAny_Name (wpAny_loadName_cell rfl rfl (show _ = some (L + 1) from rfl) ⟨oc, ec, dc⟩ ?_) (by decide)
  refine PyProof.Rows.len_list lw.is (by rw [List.size_toArray]; exact ar295 hz hlen) ?_
  refine call_range_1 ?_
  rw [List.size_toArray]
  refine ⟨ws.length, _, srcRange k.hn (fun _ _ => rfl) (IsRange.new ..) (by exact ar296 hz hlen), ⟨StrsL.nil, Nat.zero_le _⟩, by exact ar297 hz hlen, ?_, ?_, ?_⟩
  · rintro i ys ⟨hv, hi⟩
    rw [hv.len, pageFrom_len, List.length_take]; exact ar298 hlen hi
  · rintro i v ys C h2 tk2 m2 E2 hi ⟨ti, rfl⟩ hn2 hm2 k2 hC ⟨hI, hI2⟩
    dsimp only at k2 hC
    have K2 : Kp s.heap h2 := (Kp.push _ _).trans k2
    clear k2
    have G2 := GS.keeps K2
    have lw2 := lw.kp K2
    have hv : ws[i]? = some ws[i] := by simp [hi]
    obtain ⟨T, r, t, u, eT, hr, hT⟩ := (tw.kpB (K2.b (W := [])) (by simp)).get hv
    have hgr := hg r (List.mem_of_getElem? hr)
    rw [eT] at hv
    have cell2 : h2.IsCell (L + 1) (some (.ref rw)) := ⟨oc, K2 _ _ ec, dc⟩
    refine wpAny_tests_nil ?_
    refine ⟨h2, tk2, rfl, Kp.refl _, ?_⟩
    rw [if_pos rfl]
    refine wpAny_BinOp ?_
    refine wpAny_BinOp ?_
    refine wpAny_BinOp ?_
    refine pair_item ?_ (.inl rfl)
    refine wpAny_Name (wpAny_loadName_cell rfl rfl (show _ = some (L + 1) from rfl) cell2 ?_) (by decide)
    refine wpAny_Name (wpAny_loadName_local rfl rfl hn2 hm2 ?_) (by decide)
    refine ⟨rw, ws, i, _, T, _, _, rfl, rfl, lw2, hv, by exact ar299 hz hlen hi, hT, ?_⟩
    intro tk3
    rw [if_pos rfl]
    refine Subscript_ ?_
    refine listW ?_
    refine args_cons ?_
    refine wpAny_Constant_str ?_
    refine args_cons ?_
    refine wpAny_Constant_str ?_
    refine args_nil ⟨show 2 ≤ sizeLine by decide, ?_⟩
    intro bl h3 ebl lbl k3 z3
    dsimp only at ebl k3 z3 ⊢
    refine wpAny_BinOp ?_
    refine wpAny_Name (wpAny_loadName_local rfl rfl (hn2.keeps k3) hm2 ?_) (by decide)
    refine wpAny_Constant_int ?_
    refine PyProof.Rows.mod_int (by decide) ?_
    have em : ((i : Int).fmod 2) = ((i % 2 : Nat) : Int) := by
      rw [Int.fmod_eq_emod_of_nonneg _ (by decide)]; exact ar300
    rw [em]
    refine kba_turn (value' := PySem.Expr.Name (PySem.Str.ofString "_") ⟨0, 0, 0, 0⟩) (fun _ => rfl) ?_
    obtain ⟨tb, hb⟩ := two_at i _ _
    refine item_listL (x := .str (wd [if i % 2 = 0 then 32 else 9]) tb) lbl.is (by exact ar301 em) (by exact ar302 em) hb ?_
    have hk8 : r.1.length ≤ 8 := by rcases hgr.1 with e | e | e <;> rw [e] <;> decide
    have hw100 := hgr.2.2
    refine PyProof.Rows.add_str ?_ (by rw [wd_len, wd_len, sizeLine_eq]; simp only [List.length_append, List.length_cons, List.length_nil]; exact ar303 hk8)
    intro t4 tk4
    rw [wd_app]
    dsimp only
    have G3 := G2.keeps k3
    have cell3 : h3.IsCell (L + 1) (some (.ref rw)) := ⟨oc, k3 _ _ (K2 _ _ ec), dc⟩
    have lw3 := lw2.kp k3
    have hT3 := tup_kp hT k3
    have hn3 := hn2.keeps k3
    refine Call_ ?_
    refine nameG G3 (g_spelled _) ?_
    have hf : FnAt 110 h3 := ⟨_, _, _, _, G3.X _ _ (by rfl)⟩
    refine callWith_F hf ?_
    refine args_cons ?_
    refine pair_item ?_ (.inr rfl)
    refine wpAny_Name (wpAny_loadName_cell rfl rfl (show _ = some (L + 1) from rfl) cell3 ?_) (by decide)
    refine wpAny_Name (wpAny_loadName_local rfl rfl hn3 hm2 ?_) (by decide)
    refine ⟨rw, ws, i, _, T, _, _, rfl, rfl, lw3, hv, by exact ar304 hz hlen hi em, hT3, ?_⟩
    intro tk5
    rw [if_neg (by decide)]
    refine args_cons ?_
    refine wpAny_BinOp ?_
    refine wpAny_BinOp ?_
    refine wpAny_Name (wpAny_loadName_local rfl rfl hn3 hm2 ?_) (by decide)
    refine len_of G3 ?_ rfl
    refine pair_item ?_ (.inr rfl)
    refine wpAny_Name (wpAny_loadName_cell rfl rfl (show _ = some (L + 1) from rfl) cell3 ?_) (by decide)
    refine wpAny_Name (wpAny_loadName_local rfl rfl hn3 hm2 ?_) (by decide)
    refine ⟨rw, ws, i, _, T, _, _, rfl, rfl, lw3, hv, by exact ar304 hz hlen hi em, hT3, ?_⟩
    intro tk6
    rw [if_neg (by decide)]
    refine ⟨r.2, u, rfl, by exact ar305 hw100, ?_⟩
    intro t7 tk7
    refine PyProof.Rows.add_int ?_
    refine wpAny_Constant_int ?_
    refine PyProof.Rows.mod_int (by decide) ?_
    have em2 : (((i : Int) + (r.2.length : Int)).fmod 3) = (((i + r.2.length) % 3 : Nat) : Int) := by
      rw [Int.fmod_eq_emod_of_nonneg _ (by decide)]; exact ar306 em
    rw [em2]
    refine args_nil ⟨hf, ?_⟩
    refine wpAny_call ?_
    refine law_spelled (s := { s with heap := h3, toks := _ }) (n := n) k G (K0.trans (K2.trans k3)) (by exact ar307 hw100) ?_
    intro h4 tk8 t8 k4
    dsimp only at k4 ⊢
    have hsp := spell_le r.2 (((i + r.2.length) % 3 : Nat) : Int)
    refine PyProof.Rows.add_str ?_ (by rw [wd_len, wd_len, sizeLine_eq]; simp only [List.length_append, List.length_cons, List.length_nil]; exact ar308 hk8 hw100 hsp)
    intro t9 tk9
    rw [wd_app]
    dsimp only
    refine wpAny_Constant_str ?_
    rw [show Str.ofString "\n" = wd [10] by decide]
    refine PyProof.Rows.add_str ?_ (by rw [wd_len, wd_len, sizeLine_eq]; simp only [List.length_append, List.length_cons, List.length_nil]; exact ar309 hk8 hw100 hsp)
    intro t10 tk10
    rw [wd_app]
    refine ⟨h4, _, rfl, k3.trans k4, ?_, by exact ar310 hlen hi em em2⟩
    have e : pageFrom 0 (rows.take (i + 1)) = pageFrom 0 (rows.take i) ++ [rowText i r] := by
      have hil : (rows.take i).length = i := by rw [List.length_take]; exact ar311 hlen hi em em2
      rw [List.take_add_one, hr, Option.toList_some, pageFrom_snoc, hil, Nat.zero_add]
    rw [e]
    exact hI.snoc
  · rintro D h2 tk2 ys hD lD ⟨hI, _⟩ k2
    dsimp only at hD k2 ⊢
    have K2 : Kp s.heap h2 := (Kp.push _ _).trans k2
    rw [hlen, List.take_length] at hI
    refine args_nil ?_
    refine joinL lD hI (by have := page_le rows hg 0; rw [pageFrom_len]; exact ar312 hz hlen this) ?_
    intro t3 tk3
    dsimp only
    refine wpAny_storeName_local rfl (hns.keeps K2) ?_
    intro h4 hn4 sb4
    exact h h4 _ t3 hn4 fun b o nb e => kp_same sb4 _ _ nb (K2 _ _ e)
end
end Mine

end
section -- M41
open PySem PySem.W PyProof.Rows PySem.Calls PySem.Builtin PySem.Builtin.ObjectAttr PySem.Builtin.Str PySem.StrLaws
set_option maxRecDepth 100000
set_option linter.unusedVariables false
namespace Mine
theorem TupsAt.any0 {B : Nat} {h : Heap} {vs : List Value} {rs : Rows} (x : TupsAt B h vs rs) : TupsAt 0 h vs rs := All2.imp (fun _ _ => Exists.imp fun _ => Exists.imp fun _ => Exists.imp fun _ => And.imp_right fun z => ⟨z.1, Nat.zero_le _⟩) x
section
variable {w : World} {mean : ExcName → Option Value} {mg mb : Str → Option Value} {A : Around} {E : Value → Shared → Prop} {s : Shared} {h₀ : Heap} {L f : Nat} {cdv : Value} {m : Str → Option Value}

/- two pairs of texts compared -/
theorem tupsEq {T U : Nat} {r r' : List Nat × List Nat} {t u t' u' : Tok} (hT : s.heap.IsTuple T #[.str (wd r.1) t, .str (wd r.2) u]) (hU : s.heap.IsTuple U #[.str (wd r'.1) t', .str (wd r'.2) u']) (hu : A.units < cLine) : SeqAt.EqAt A s (.ref T) (.ref U) (decide (r = r')) := by
  by_cases q : T = U
  · subst q
    have e : r = r' := by
      obtain ⟨o, e1, _, n1, d1⟩ := hT
      obtain ⟨o', e2, _, n2, d2⟩ := hU
      rw [e1] at e2; cases e2
      rw [d1] at d2
      injection d2 with d2
      have h1 := congrArg (·[0]?) d2
      have h2 := congrArg (·[1]?) d2
      simp at h1 h2
      exact Prod.ext h1.1 h2.1
    rw [decide_eq_true e]
    exact SeqAt.EqAt.same _
  · have := SeqAt.RcAt.tuples (A := A) (s := s) (e := fun j => if j = 0 then decide (r.1 = r'.1) else decide (r.2 = r'.2)) hT hU hu (by
      intro j h1 h2
      have hj : j < 2 := h1
      cases j with
      | zero => have := eqAt_str (A := A.in1) (s := s) (x := wd r.1) (y := wd r'.1) (t := t) (u := t'); rw [wd_beq] at this; exact this
      | succ j => cases j with
        | zero => have := eqAt_str (A := A.in1) (s := s) (x := wd r.2) (y := wd r'.2) (t := u) (u := u'); rw [wd_beq] at this; exact this
        | succ j => exact absurd hj (Nat.not_lt.mpr (Nat.le_add_left 2 j)))
    have e : ((List.range (min (#[Value.str (wd r.1) t, .str (wd r.2) u] : Array Value).size (#[Value.str (wd r'.1) t', .str (wd r'.2) u'] : Array Value).size)).all (fun j => if j = 0 then decide (r.1 = r'.1) else decide (r.2 = r'.2)) && (#[Value.str (wd r.1) t, .str (wd r.2) u] : Array Value).size == (#[Value.str (wd r'.1) t', .str (wd r'.2) u'] : Array Value).size) = decide (r = r') := by
      show ((List.range 2).all (fun j => if j = 0 then decide (r.1 = r'.1) else decide (r.2 = r'.2)) && true) = _
      rw [show List.range 2 = [0, 1] from rfl]
      obtain ⟨a, b⟩ := r
      obtain ⟨a', b'⟩ := r'
      simp [Bool.decide_and]
    rw [e] at this
    exact SeqAt.EqAt.of_refs q this

set_option maxHeartbeats 2000000 in
/- found, record, last = _law_read(page) -/
theorem st2 {n : Nat} {rows : Rows} {t : Tok} {v2 : Option Value} {Q : Flow → Shared → Prop} (k : OkA A (n + 8)) (G : Gd w mean mg mb h₀) (K0 : Kp h₀ s.heap) (hT1 : h₀.get? 117 = none) (hT2 : h₀.get? 122 = none) (C1 : CodeHd s.heap 119 117) (P1 : s.heap.get? 117 = some (tabObj #[])) (C2 : CodeHd s.heap 126 122) (P2 : s.heap.get? 122 = some (tabObj #[]))
    (hns : s.heap.Ns L m) (hm : m (Str.ofString "page") = some (.str (wd (pageFrom 0 rows).flatten) t)) (hg : ∀ r ∈ rows, GoodRow r) (hz : rows.length ≤ 71) (hc2 : s.heap.IsCell (L + 2) v2) (hbig : 147 < L)
    (h : ∀ (fw en de ua rl B2 : Nat) vs h' tk t, h'.Ns L (fun y => if y = Str.ofString "last" then some (.int (bumps 1 (pageFrom 0 rows).flatten) t) else if y = Str.ofString "found" then some (.ref fw) else m y) → h'.IsCell (L + 2) (some (.ref en)) → LAt h' fw vs → TupsAt 0 h' vs rows → EntAt B2 h' en de ua rl (agentsOf rows) (rulesOf rows) → KpB [117, 122, L, L + 2] s.heap h' → (∃ ps, h'.get? 117 = some (tabObj ps)) → (∃ ps, h'.get? 122 = some (tabObj ps)) → (L < en ∧ L < de ∧ L < ua ∧ L < rl ∧ L < B2) → Q .next { s with heap := h', toks := tk }) :
    wpAny (model PR w) A (exec (lawS 2) (lawEnv L f cdv)) Q E s := by
  have GS := G.keeps K0
  obtain ⟨oc, ec, dc⟩ := hc2
  have hL2 : L + 2 < s.heap.objs.size := ltS ec
  have hpl := page_le rows hg 0
  refine Assign_Tuple ?_
  refine Call_ ?_
  refine nameG GS (g_read _) ?_
  have hf : FnAt 134 s.heap := ⟨_, _, _, _, GS.X _ _ (by rfl)⟩
  refine callWith_F hf ?_
  refine args_cons ?_
  refine wpAny_Name (wpAny_loadName_local rfl rfl hns hm ?_) (by decide)
  refine args_nil ⟨hf, ?_⟩
  refine wpAny_call ?_
  refine law_read (n := n) k G K0 hT1 hT2 C1 P1 C2 P2 (pg_page rows hg 0) (by rw [List.length_flatten]; exact ar313 hz hpl) (by exact ar314 hz) (by exact ar315 hbig hL2) ?_
  rintro T en de ua rl fw B2 vs h1 tk1 t1 hT lf tf ent hfw k1 ⟨p1, g1⟩ ⟨p2, g2⟩ ⟨b1, b2, b3, b4, b5⟩
  dsimp only
  refine wpAny_assign_Tuple k.hn hT rfl rfl ?_
  intro h2 x2
  have k2 : Kp h1 h2 := fun b o e => x2 b o (Nat.ne_of_lt (ltS e)) e
  have hn2 : h2.Ns L m := (ns_kpB hns k1 (by exact ar316 hbig)).keeps k2
  show wpAny _ _ (assignInOrder [assign (.Name (Str.ofString "found") _) (lawEnv L f cdv), assign (.Name (Str.ofString "record") _) (lawEnv L f cdv), assign (.Name (Str.ofString "last") _) (lawEnv L f cdv)] [.ref fw, .ref en, .int _ t1]) _ _ _
  refine assignInOrder_cons ?_
  refine wpAny_assign_Name (wpAny_storeName_local rfl hn2 ?_)
  intro h3 hn3 sb3
  have k3 : KpB [L] h2 h3 := kp_same sb3
  refine assignInOrder_cons ?_
  have ec3 := k3 _ _ (show L + 2 ∉ [L] by simp) (k2 _ _ (k1 _ _ (by exact ar317 hbig) ec))
  refine wpAny_assign_Name (wpAny_storeName_cell rfl rfl (show _ = some (L + 2) from rfl) ⟨oc, ec3, dc⟩ ?_)
  intro h4 hc4 sb4
  have k4 : KpB [L + 2] h3 h4 := kp_same sb4
  have hn4 := ns_kpB hn3 k4 (by show L ∉ [L + 2]; simp)
  refine assignInOrder_cons ?_
  refine wpAny_assign_Name (wpAny_storeName_local rfl hn4 ?_)
  intro h5 hn5 sb5
  have k5 : KpB [L] h4 h5 := kp_same sb5
  refine assignInOrder_nil ?_
  have kk : KpB [L, L + 2] h1 h5 := fun b o nb e => by
    simp at nb
    exact k5 _ _ (by simpa using nb.1) (k4 _ _ (by simpa using nb.2) (k3 _ _ (by simpa using nb.1) (k2 _ _ e)))
  have hc5 : h5.IsCell (L + 2) (some (.ref en)) := by
    obtain ⟨o4, e4, d4⟩ := hc4
    exact ⟨o4, k5 _ _ (show L + 2 ∉ [L] by simp) e4, d4⟩
  have lt2 : ∀ y ∈ [L, L + 2], y < B2 := by intro y hy; simp at hy; exact ar318 hL2 b5 hy
  refine h fw en de ua rl B2 vs h5 _ t1 ?_ hc5 (lf.kpB kk (by exact ar319 hL2 hfw)) ((tf.kpB kk lt2).any0) (ent.kpB kk lt2 (by exact ar319 hL2 b1) (by exact ar319 hL2 b2) (by exact ar319 hL2 b3) (by exact ar319 hL2 b4)) ?_ ⟨p1, kk _ _ (by exact ar320 hbig) g1⟩ ⟨p2, kk _ _ (by exact ar321 hbig) g2⟩ ⟨by exact ar322 hL2 b1, by exact ar322 hL2 b2, by exact ar322 hL2 b3, by exact ar322 hL2 b4, by exact ar322 hL2 b5⟩
  · exact hn5
  · intro b o nb e
    simp at nb
    exact kk _ _ (by simp; exact ⟨nb.2.2.1, nb.2.2.2⟩) (k1 _ _ (by simp; exact ⟨nb.1, nb.2.1⟩) e)

set_option maxHeartbeats 2000000 in
/- if found != drawn or last != 1 + page.count('\n'): return False -/
theorem st3 {n fw rw : Nat} {rows : Rows} {vs ws : List Value} {t t2 : Tok} {pg : List Nat} {Q : Flow → Shared → Prop} (k : OkA A (n + 1))
    (hns : s.heap.Ns L m) (hm : m (Str.ofString "page") = some (.str (wd pg) t)) (hm2 : m (Str.ofString "last") = some (.int (bumps 1 pg) t2)) (hm3 : m (Str.ofString "found") = some (.ref fw))
    (lf : LAt s.heap fw vs) (tf : TupsAt 0 s.heap vs rows) (lw : LAt s.heap rw ws) (tw : TupsAt 0 s.heap ws rows) (hc1 : s.heap.IsCell (L + 1) (some (.ref rw)))
    (h : ∀ tk, Q .next { s with toks := tk }) :
    wpAny (model PR w) A (exec (lawS 3) (lawEnv L f cdv)) Q E s := by
  refine wpAny_If ?_
  refine isTrue_or ?_
  refine wpAny_isTrue_Compare1 ?_
  refine wpAny_Name (wpAny_loadName_local rfl rfl hns hm3 ?_) (by decide)
  refine wpAny_Name (wpAny_loadName_cell rfl rfl (show _ = some (L + 1) from rfl) hc1 ?_) (by decide)
  refine SeqAt.RcNeAt.lists (e := fun _ => true) lf.is lw.is ?_ k.units ?_ _ _ _ _ ?_
  · rw [List.size_toArray, List.size_toArray, tf.len, tw.len]
  · intro j h1 h2
    have e1 : vs[j]? = some vs[j] := by simp at h1; simp [h1]
    have e2 : ws[j]? = some ws[j] := by simp at h2; simp [h2]
    obtain ⟨T, r, a, b, f1, f2, f3⟩ := tf.get e1
    obtain ⟨T', r', a', b', f1', f2', f3'⟩ := tw.get e2
    rw [f2] at f2'; cases f2'
    have := tupsEq (A := A.in1) f3 f3' (by have := k.un; show A.units + 1 < 9900; exact ar323 this)
    rw [decide_eq_true rfl] at this
    show SeqAt.EqAt A.in1 s (vs.toArray[j]) (ws.toArray[j]) true
    rw [List.getElem_toArray, List.getElem_toArray, f1, f1']
    exact this
  rw [show ((List.range vs.toArray.size).all fun _ => true) = true from List.all_eq_true.mpr fun _ _ => rfl]
  refine wpAny_truthy_bool ?_
  rw [if_neg (by decide)]
  refine isTrue_or ?_
  refine wpAny_isTrue_Compare1 ?_
  refine wpAny_Name (wpAny_loadName_local rfl rfl hns hm2 ?_) (by decide)
  refine wpAny_BinOp ?_
  refine wpAny_Constant_int ?_
  refine MethodCall_ ?_
  refine wpAny_Name (wpAny_loadName_local rfl rfl hns hm ?_) (by decide)
  refine GM.count ?_
  refine callWith_method1 ?_
  refine args_cons ?_
  refine wpAny_Constant_str ?_
  refine args_nil ?_
  refine SC.count ?_
  refine PyProof.Rows.add_int ?_
  refine ne_int ?_
  rw [← bumps_count]
  refine wpAny_truthy_bool ?_
  rw [if_neg (by simp)]
  refine isTrue_or_nil ?_
  rw [if_neg (by decide)]
  refine wpAny_execs_nil ?_
  exact h _
end
end Mine

end
section -- M42
open PySem PySem.W PyProof.Rows PySem.Calls PySem.Builtin PySem.Builtin.ObjectAttr PySem.Builtin.Str PySem.StrLaws
set_option maxRecDepth 100000
set_option linter.unusedVariables false
namespace Mine
noncomputable def three (e : List Nat) : List (List Nat) := [e, e.dropLast, e ++ [47]]
noncomputable def formsOf (rows : Rows) : List (List Nat) := rows.flatMap fun r => three r.2
theorem formsOf_snoc (rows : Rows) {i : Nat} {r : List Nat × List Nat} (h : rows[i]? = some r) : formsOf (rows.take (i + 1)) = formsOf (rows.take i) ++ three r.2 := by
  rw [List.take_add_one, h]
  simp [formsOf]
theorem formsOf_len (rows : Rows) : (formsOf rows).length = 3 * rows.length := by
  induction rows with
  | nil => rfl
  | cons r rs ih =>
    have : formsOf (r :: rs) = three r.2 ++ formsOf rs := by simp [formsOf]
    rw [this, List.length_append, ih, List.length_cons]
    show 3 + _ = _
    exact ar324
theorem forms_le {rows : Rows} (hg : ∀ r ∈ rows, GoodRow r) : ∀ x ∈ [] :: formsOf rows, x.length ≤ 101 := by
  intro x hx
  rcases List.mem_cons.mp hx with rfl | hx
  · simp
  · unfold formsOf at hx
    obtain ⟨r, hr, hx⟩ := List.mem_flatMap.mp hx
    have := (hg r hr).2.2
    simp only [three, List.mem_cons, List.not_mem_nil, or_false] at hx
    rcases hx with rfl | rfl | rfl
    · exact ar325 this
    · rw [List.length_dropLast]; exact ar326 this
    · rw [List.length_append]; show _ + 1 ≤ 101; exact ar327 this
theorem strs3 {a b c : List Nat} {t0 t1 t2 : Tok} : StrsL [.str (wd a) t0, .str (wd b) t1, .str (wd c) t2] [a, b, c] := ⟨[(wd a, t0), (wd b, t1), (wd c, t2)], rfl, rfl⟩
section
variable {w : World} {mean : ExcName → Option Value} {mg mb : Str → Option Value} {A : Around} {E : Value → Shared → Prop} {s : Shared} {h₀ : Heap} {L f : Nat} {cdv : Value} {m : Str → Option Value}

/- value[:upper], the heap no smaller -/
theorem sub_to2 {env : Env} {value up : Expr} {p pos : Pos} {Q : Value → Shared → Prop}
    (h : wpAny (model PR w) A (PySem.eval value env) (fun o s₁ => wpAny (model PR w) A (PySem.eval up env) (fun u s₂ => ∃ x t j tj, o = .str x t ∧ u = .int j tj ∧ x.length ≤ sizeLine ∧ ∀ h' t' k, (Kp s₂.heap h' ∧ s₂.heap.objs.size ≤ h'.objs.size) → Q (.str (Txt.slice x none (some j)) t') { s₂ with heap := h', toks := k }) E s₁) E s)
    (ht : ∀ o r, letTemporaryGo value o r = pure () := by intro _ _; rfl) :
    wpAny (model PR w) A (PySem.eval (.Subscript value (.Slice none (some up) none p) pos) env) Q E s := by
  refine Subscript_Slice (wpAny_mono h (fun o s₁ h₁ => ?_) fun _ _ e => e) ht
  refine wpAny_Slice (evalPart_none_step (evalPart_some_step (wpAny_mono h₁ (fun u s₂ h₂ => evalPart_none_step ?_) fun _ _ e => e)))
  obtain ⟨x, t, j, tj, rfl, rfl, hz, hq⟩ := h₂
  exact SBH.sliceItem_ns (P := fun h' => Kp s₂.heap h' ∧ s₂.heap.objs.size ≤ h'.objs.size) (fun h ob k => ⟨k.1.trans (Kp.push _ _), by rw [Heap.size_push]; exact Nat.le_succ_of_le k.2⟩) ⟨Kp.refl _, Nat.le_refl _⟩ hq hz

set_option maxHeartbeats 2000000 in
/- asked = [''] + [...] -/
theorem st4 {n rw : Nat} {ws : List Value} {rows : Rows} {Q : Flow → Shared → Prop} (k : OkA A (n + 1)) (hns : s.heap.Ns L m) (lw : LAt s.heap rw ws) (tw : TupsAt 0 s.heap ws rows) (hg : ∀ r ∈ rows, GoodRow r) (hz : rows.length ≤ 71) (hc1 : s.heap.IsCell (L + 1) (some (.ref rw)))
    (h : ∀ (ak : Nat) ys h' tk, L < ak → h'.Ns L (fun y => if y = Str.ofString "asked" then some (.ref ak) else m y) → LAt h' ak ys → StrsL ys ([] :: formsOf rows) → KpB [L] s.heap h' → Q .next { s with heap := h', toks := tk }) :
    wpAny (model PR w) A (exec (lawS 4) (lawEnv L f cdv)) Q E s := by
  obtain ⟨oc, ec, dc⟩ := hc1
  have hL1 : L + 1 < s.heap.objs.size := ltS ec
  have hlen := tw.len
  refine wpAny_Assign_Name ?_
  refine wpAny_BinOp ?_
  refine listW ?_
  refine args_cons ?_
  refine wpAny_Constant_str ?_
  refine args_nil ⟨show 1 ≤ sizeLine by decide, ?_⟩
  intro l0 h1 el0 ll0 k1 z1
  dsimp only at el0 k1 z1 ⊢
  have lw1 := lw.kp k1
  have tw1 := tw.kpB (k1.b (W := [])) (by simp)
  refine lc2 (cl := []) (fun i ys => StrsL ys (formsOf (rows.take i)) ∧ i ≤ rows.length)
    (fun i j zs => ∃ r, rows[i]? = some r ∧ StrsL zs (formsOf (rows.take i) ++ (three r.2).take j) ∧ j ≤ 3) rfl (by decide) rfl (by decide) rfl ?_
  refine wpAny_Name (wpAny_loadName_cell rfl rfl (show _ = some (L + 1) from rfl) ⟨oc, k1 _ _ ec, dc⟩ ?_) (by decide)
  refine ⟨ws.length, _, fun i _ m => ∃ r t, rows[i]? = some r ∧ m (Str.ofString "each") = some (.str (wd r.2) t), srcPairs (s := { s with heap := h1, toks := _ }) k.hn lw1 tw1, ⟨StrsL.nil, Nat.zero_le _⟩, ?_, ?_, ?_⟩
  · rintro i v C h2 tk2 m2 Q2 E2 ⟨T, a, b, rfl, ⟨oT, eT, rT⟩, r, t, u, hr, rfl, rfl⟩ hn2 K2 hC hq
    refine kcp_assign (s := { s with heap := h2, toks := tk2 }) k.hn ⟨oT, K2 _ _ eT, rT⟩ (lookup_relabel_local rfl) (lookup_relabel_local rfl) rfl hn2 ?_
    intro h3 tk3 hn3 k3
    exact hq _ _ _ hn3 ⟨r, u, hr, by simp⟩ fun b o nb e => k3 b o (by show b ≠ C; simpa using nb) e
  · rintro i v zs C h2 tk2 m2 E2 hi hP hn2 ⟨r, t, hr, he⟩ K2 hC ⟨hI, hI2⟩
    dsimp only at K2 hC
    have hgr := (hg r (List.mem_of_getElem? hr)).2.2
    refine listW ?_
    refine args_cons ?_
    refine wpAny_Name (wpAny_loadName_local rfl rfl hn2 he ?_) (by decide)
    refine args_cons ?_
    refine sub_to2 ?_
    refine wpAny_Name (wpAny_loadName_local rfl rfl hn2 he ?_) (by decide)
    refine UnaryOp_ ?_
    refine wpAny_Constant_int ?_
    refine PyProof.Rows.neg_int ?_
    refine ⟨_, _, _, _, rfl, rfl, by rw [wd_len, sizeLine_eq]; exact ar328 hgr, ?_⟩
    rintro h3 t3 tk3 ⟨k3, z3⟩
    dsimp only at k3 z3 ⊢
    rw [slice_m1]
    refine args_cons ?_
    refine wpAny_BinOp ?_
    refine wpAny_Name (wpAny_loadName_local rfl rfl (hn2.keeps k3) he ?_) (by decide)
    refine wpAny_Constant_str ?_
    rw [show Str.ofString "/" = wd [47] by decide]
    refine PyProof.Rows.add_str ?_ (by rw [wd_len, wd_len, sizeLine_eq]; simp only [List.length_cons, List.length_nil]; exact ar329 hgr)
    intro t4 tk4
    rw [wd_app]
    refine args_nil ⟨show 3 ≤ sizeLine by decide, ?_⟩
    intro l4 h4 el4 ll4 k4 z4
    dsimp only at el4 k4 z4 ⊢
    have hs4 : h2.objs.size ≤ l4 := by exact ar330 z3 el4 z4
    refine ⟨h4, _, 3, _, rfl, k3.trans k4, srcListF (s := { s with heap := h4, toks := _ }) k.hn ll4 hs4, ⟨r, hr, by simpa using hI, Nat.zero_le _⟩, ?_, ?_, ?_⟩
    · rintro j zs ⟨r', hr', hS, hj⟩
      rw [hS.len, List.length_append, formsOf_len, List.length_take, List.length_take]
      have : (three r'.2).length = 3 := rfl
      exact ar331 hz hlen hi hj this
    · rintro zs ⟨r', hr', hS, hj⟩
      rw [hr] at hr'; cases hr'
      refine ⟨?_, by have := (List.getElem?_eq_some_iff.mp hr).1; exact ar332 hlen hi⟩
      rw [formsOf_snoc rows hr]
      exact hS
    · rintro j v' zs h5 tk5 m5 E5 hj hv' hn5 hm5 hx5 K5 ⟨r', hr', hS, hj3⟩
      rw [hr] at hr'; cases hr'
      have h3' : StrsL [Value.str (wd r.2) t, .str (wd r.2.dropLast) t3, .str (wd (r.2 ++ [47])) t4] (three r.2) := strs3
      obtain ⟨a, ta, ha, rfl⟩ := h3'.get hv'
      refine wpAny_tests_nil ?_
      refine ⟨h5, tk5, rfl, Kp.refl _, ?_⟩
      rw [if_pos rfl]
      refine wpAny_Name (wpAny_loadName_local rfl rfl hn5 hx5 ?_) (by decide)
      refine ⟨h5, _, rfl, Kp.refl _, r, hr, ?_, by exact ar333 hj⟩
      rw [List.take_add_one, ha, Option.toList_some, ← List.append_assoc]
      exact hS.snoc
  · rintro D h2 tk2 ys hD lD ⟨hI, _⟩ K2
    dsimp only at hD K2 ⊢
    rw [hlen, List.take_length] at hI
    have ll2 := ll0.kp K2
    obtain ⟨n0, e0⟩ := ll2
    obtain ⟨n1, e1⟩ := lD
    have hyl : ys.length ≤ 213 := by rw [hI.len, formsOf_len]; exact ar334 hz hlen
    refine PySem.P.add_list e0 e1 ?_ (by rw [List.size_toArray, List.size_toArray, sizeLine_eq]; simp only [List.length_cons, List.length_nil]; exact ar335 hyl)
    dsimp only
    have K : Kp s.heap (h2.push { cls := .type "list", data := .seq (([Value.str (Str.ofString "") s.toks] : List Value).toArray ++ ys.toArray) }) := (k1.trans K2).trans (Kp.push _ _)
    refine wpAny_storeName_local rfl (hns.keeps K) ?_
    intro h3 hn3 sb3
    have k3 : KpB [L] _ h3 := kp_same sb3
    have hLh : L < h2.objs.size := by have := ltS ((k1.trans K2) _ _ ec); exact ar336 this
    refine h h2.objs.size _ h3 _ hLh hn3 (LAt.kpB (vs := Value.str (Str.ofString "") s.toks :: ys) ⟨0, ?_⟩ k3 (by exact ar126 hLh)) ?_ ?_
    · rw [Heap.get?_push_size _ rfl]
      simp [W.listOf]
    · obtain ⟨l, f1, f2⟩ := hI
      refine ⟨(wd [], s.toks) :: l, ?_, ?_⟩
      · rw [f1, show Str.ofString "" = wd [] by decide]; rfl
      · simp [f2]
    · intro b o nb e
      exact k3 _ _ nb (K _ _ e)
end
end Mine

end
section -- M43
open PySem PySem.W PyProof.Rows PySem.Calls PySem.Builtin PySem.Builtin.ObjectAttr PySem.Builtin.Str PySem.StrLaws
set_option maxRecDepth 100000
set_option linter.unusedVariables false
namespace Mine
theorem e_fal (P : Params) : findIn (hd.heap_39 P) (.ref 59) (Str.ofString "allowance") = some (some (.ref 56)) := by kernel_rfl
theorem e_fap (P : Params) : findIn (hd.heap_39 P) (.ref 59) (Str.ofString "applies_to") = some (some (.ref 49)) := by kernel_rfl
theorem e_fn56 (P : Params) : isFn (hd.heap_39 P) (.ref 56) = true := by kernel_rfl
theorem e_fn49 (P : Params) : isFn (hd.heap_39 P) (.ref 49) = true := by kernel_rfl
/- the answers -/
noncomputable def BoolsL (ys : List Value) (bs : List Bool) : Prop := ys = bs.map .bool
theorem BoolsL.snoc {ys : List Value} {bs : List Bool} {b : Bool} (h : BoolsL ys bs) : BoolsL (ys ++ [.bool b]) (bs ++ [b]) := by unfold BoolsL at *; rw [h]; simp
theorem BoolsL.len {ys : List Value} {bs : List Bool} (h : BoolsL ys bs) : ys.length = bs.length := by rw [h, List.length_map]
section
variable {w : World} {mean : ExcName → Option Value} {mg mb : Str → Option Value} {A : Around} {E : Value → Shared → Prop} {s : Shared} {h₀ : Heap} {L f : Nat} {cdv : Value} {m : Str → Option Value}

/- the same answers twice -/
theorem bools_eq {l l' : Nat} {ys zs : List Value} {bs : List Bool} (ly : LAt s.heap l ys) (lz : LAt s.heap l' zs) (hy : BoolsL ys bs) (hz : BoolsL zs bs) :
    ys.toArray.size = zs.toArray.size ∧ ∀ j (h1 : j < ys.toArray.size) (h2 : j < zs.toArray.size), SeqAt.EqAt A s ys.toArray[j] zs.toArray[j] true := by
  unfold BoolsL at *
  subst hy hz
  refine ⟨rfl, fun j h1 h2 => ?_⟩
  exact SeqAt.EqAt.same _

/- [record.allowance(form) for form in asked] and its like: what the law's comprehensions over asked give -/
theorem over_asked {ak : Nat} {ys : List Value} {forms : List (List Nat)} {F : List Nat → Bool} {elt : Expr} {px pa : Pos} {scope : Scope} {pos : Pos} {env : Env} {cl : List (Str × Addr)} {Q : Value → Shared → Prop} (hh : A.handled = none)
    (hclos : closureFor scope env = pure cl) (hcell : ∀ y ∈ scope.names, y.2 ≠ .cell) (hkind : scope.kind = .function) (hnames : ∀ y ∈ scope.names, y.2 = .local → scope.names.lookup y.1 = some .local) (hx : scope.names.lookup (Str.ofString "form") = some .local)
    (hek : env.kindOf (Str.ofString "asked") = some .local) (hes : env.scope.kind = .function) (hns : s.heap.Ns env.locals m) (hm : m (Str.ofString "asked") = some (.ref ak)) (la : LAt s.heap ak ys) (hys : StrsL ys forms) (hz : forms.length < 2 ^ 18)
    (turn : ∀ a t C h tk m E' Q', a ∈ forms → h.Ns C m → m (Str.ofString "form") = some (.str (wd a) t) → Kp s.heap h → (∀ h' tk', Kp h h' → Q' (.bool (F a)) { s with heap := h', toks := tk' }) → wpAny (model PR w) A (PySem.eval elt (compEnvC scope cl C env)) Q' E' { s with heap := h, toks := tk })
    (h : ∀ (D : Nat) h' tk' zs, LAt h' D zs → BoolsL zs (forms.map F) → Kp s.heap h' → Q (.ref D) { s with heap := h', toks := tk' }) :
    wpAny (model PR w) A (PySem.eval (.ListComp elt [⟨.Name (Str.ofString "form") px, .Name (Str.ofString "asked") pa, [], 0⟩] scope pos) env) Q E s := by
  refine lcN (fun j zs => BoolsL zs ((forms.take j).map F)) hclos hcell hkind hnames hx ?_
  refine wpAny_Name (wpAny_loadName_local hes hek hns hm ?_) (by decide)
  refine ⟨ys.length, _, srcList hh la, rfl, by rw [hys.len]; exact ar158 hz, ?_, ?_, ?_⟩
  · intro i zs hv
    rw [hv.len, List.length_map, List.length_take]; exact ar51
  · intro i v zs C h2 tk2 m2 E2 hi hP hn2 hm2 k2 hC hI
    obtain ⟨a, t, ha, rfl⟩ := hys.get hP
    refine wpAny_tests_nil ?_
    refine ⟨h2, tk2, rfl, Kp.refl _, ?_⟩
    rw [if_pos rfl]
    refine turn a t C h2 tk2 m2 _ _ (List.mem_of_getElem? ha) hn2 hm2 k2 ?_
    intro h3 tk3 k3
    refine ⟨h3, tk3, rfl, k3, ?_⟩
    rw [take_snoc F ha]
    exact hI.snoc
  · intro D h2 tk2 zs hD lD hI k2
    rw [hys.len, List.take_length] at hI
    exact h D h2 tk2 zs lD hI k2

/- record.allowance(form) -/
theorem ask_allow {n B en de ua rl : Nat} {rows : Rows} {a : List Nat} {t : Tok} {p1 p3 p4 : Pos} {pl : Sem Bool} {C : Nat} {Q : Value → Shared → Prop} (k : OkA A (n + 2)) (G : Gd w mean mg mb h₀) (K0 : Kp h₀ s.heap) (x : EntAt B s.heap en de ua rl (agentsOf rows) (rulesOf rows)) (hg : ∀ r ∈ rows, GoodRow r) {env : Env}
    (hk : env.scope.kind = .function) (hc : env.kindOf (Str.ofString "record") = some .cell) (hl : env.cells.lookup (Str.ofString "record") = some C) (hcell : s.heap.IsCell C (some (.ref en)))
    (hf : env.kindOf (Str.ofString "form") = some .local) (hns : s.heap.Ns env.locals m) (hm : m (Str.ofString "form") = some (.str (wd a) t)) (ha : a.length ≤ 101)
    (h : ∀ h' tk, Kp s.heap h' → Q (.bool (alFold a (rulesOf rows)).2) { s with heap := h', toks := tk }) :
    wpAny (model PR w) A (PySem.eval (.Name (Str.ofString "record") p1) env) (fun ov s₁ => wpAny (model PR w) A (getMethod ov (Str.ofString "allowance") pl) (fun fx s₂ => wpAny (model PR w) A (callWith p4 fx.1 fx.2 (backTo p4 (starEach [.Name (Str.ofString "form") p3] env)) []) Q E s₂) E s₁) E s := by
  have GS := G.keeps K0
  obtain ⟨mm, I, m1, m2, m4, m5⟩ := x.obj
  refine wpAny_Name (wpAny_loadName_cell hk hc hl hcell ?_) (by decide)
  refine inst_method GS.X I (e_plain _ _) (e_fal _) (e_fn56 _) m5 ?_
  have hf' : FnAt 56 s.heap := ⟨_, _, _, _, GS.X _ _ (by rfl)⟩
  refine callWith_F hf' ?_
  refine args_cons ?_
  refine wpAny_Name (wpAny_loadName_local hk hf hns hm ?_) (by decide)
  refine args_nil ⟨hf', ?_⟩
  refine wpAny_call ?_
  refine ent_allow (n := n) k G K0 x (by exact ar337 ha) ?_ ?_
  · intro r hr
    unfold rulesOf at hr
    obtain ⟨p, hp, e⟩ := List.mem_filterMap.mp hr
    split at e
    · cases e
    · have e := Option.some.inj e
      rw [← e]
      have := (hg p hp).2.2
      dsimp only; exact ar338 this
  intro h' tk k'
  exact h _ _ k'
/- record.applies_to(form) -/
theorem ask_applies {n B en de ua rl : Nat} {rows : Rows} {a : List Nat} {t : Tok} {p1 p3 p4 : Pos} {pl : Sem Bool} {C : Nat} {Q : Value → Shared → Prop} (k : OkA A (n + 2)) (G : Gd w mean mg mb h₀) (K0 : Kp h₀ s.heap) (x : EntAt B s.heap en de ua rl (agentsOf rows) (rulesOf rows)) (hg : ∀ r ∈ rows, GoodRow r) {env : Env}
    (hk : env.scope.kind = .function) (hc : env.kindOf (Str.ofString "record") = some .cell) (hl : env.cells.lookup (Str.ofString "record") = some C) (hcell : s.heap.IsCell C (some (.ref en)))
    (hf : env.kindOf (Str.ofString "form") = some .local) (hns : s.heap.Ns env.locals m) (hm : m (Str.ofString "form") = some (.str (wd a) t)) (ha : a.length ≤ 101)
    (h : ∀ h' tk, Kp s.heap h' → Q (.bool ((agentsOf rows).any (named a))) { s with heap := h', toks := tk }) :
    wpAny (model PR w) A (PySem.eval (.Name (Str.ofString "record") p1) env) (fun ov s₁ => wpAny (model PR w) A (getMethod ov (Str.ofString "applies_to") pl) (fun fx s₂ => wpAny (model PR w) A (callWith p4 fx.1 fx.2 (backTo p4 (starEach [.Name (Str.ofString "form") p3] env)) []) Q E s₂) E s₁) E s := by
  have GS := G.keeps K0
  obtain ⟨mm, I, m1, m2, m4, m5⟩ := x.obj
  refine wpAny_Name (wpAny_loadName_cell hk hc hl hcell ?_) (by decide)
  refine inst_method GS.X I (e_plain _ _) (e_fap _) (e_fn49 _) m4 ?_
  have hf' : FnAt 49 s.heap := ⟨_, _, _, _, GS.X _ _ (by rfl)⟩
  refine callWith_F hf' ?_
  refine args_cons ?_
  refine wpAny_Name (wpAny_loadName_local hk hf hns hm ?_) (by decide)
  refine args_nil ⟨hf', ?_⟩
  refine wpAny_call ?_
  refine ent_applies (n := n) k G K0 x (by exact ar337 ha) ?_ ?_
  · intro r hr
    unfold agentsOf at hr
    obtain ⟨p, hp, e⟩ := List.mem_filterMap.mp hr
    split at e
    · have e := Option.some.inj e
      rw [← e]
      have := (hg p hp).2.2
      exact ar338 this
    · cases e
  intro h' tk k'
  exact h _ _ k'
end
end Mine

end
section -- M44
open PySem PySem.W PyProof.Rows PySem.Calls PySem.Builtin PySem.Builtin.ObjectAttr PySem.Builtin.Str PySem.StrLaws
set_option maxRecDepth 100000
set_option linter.unusedVariables false
namespace Mine
open Classical in
/- the value is the pair ('agent', '*') -/
noncomputable def starAt (h : Heap) (v : Value) : Bool := decide (∃ (T : Nat) (t u : Tok), v = .ref T ∧ h.IsTuple T #[.str (wd kAgent) t, .str (wd [42]) u])
theorem star_iff {h : Heap} {v : Value} : starAt h v = true ↔ ∃ (T : Nat) (t u : Tok), v = .ref T ∧ h.IsTuple T #[.str (wd kAgent) t, .str (wd [42]) u] := by
  classical
  unfold starAt
  exact decide_eq_true_iff
section
variable {w : World} {mean : ExcName → Option Value} {mg mb : Str → Option Value} {A : Around} {E : Value → Shared → Prop} {s : Shared} {h₀ : Heap} {L f : Nat} {cdv : Value} {m : Str → Option Value}

/- the law's state once all is built -/
structure LQ (h₀ h : Heap) (L rw en de ua rl B2 ak : Nat) (ws ys : List Value) (rows : Rows) (m : Str → Option Value) : Prop where
  k0 : Kp h₀ h
  ns : h.Ns L m
  ma : m (Str.ofString "asked") = some (.ref ak)
  c1 : h.IsCell (L + 1) (some (.ref rw))
  c2 : h.IsCell (L + 2) (some (.ref en))
  lw : LAt h rw ws
  tw : TupsAt 0 h ws rows
  ent : EntAt B2 h en de ua rl (agentsOf rows) (rulesOf rows)
  la : LAt h ak ys
  sy : StrsL ys ([] :: formsOf rows)
theorem cell_kp {h h' : Heap} {c : Nat} {v : Option Value} (x : h.IsCell c v) (k : Kp h h') : h'.IsCell c v := x.imp fun _ => And.imp_left (k _ _)
theorem LQ.kp {h₀ h h' : Heap} {L rw en de ua rl B2 ak : Nat} {ws ys : List Value} {rows : Rows} {m : Str → Option Value} (x : LQ h₀ h L rw en de ua rl B2 ak ws ys rows m) (k : Kp h h') : LQ h₀ h' L rw en de ua rl B2 ak ws ys rows m :=
  ⟨x.k0.trans k, x.ns.keeps k, x.ma, cell_kp x.c1 k, cell_kp x.c2 k, x.lw.kp k, x.tw.kpB (k.b (W := [])) (by simp), x.ent.kp k, x.la.kp k, x.sy⟩

set_option maxHeartbeats 2000000 in
/- if [record.allowance(form) for form in asked] != [_law_allowed(drawn, form) for form in asked]: return False -/
theorem st5 {n rw en de ua rl B2 ak : Nat} {ws ys : List Value} {rows : Rows} {Q : Flow → Shared → Prop} (k : OkA A (n + 2)) (G : Gd w mean mg mb h₀) (x : LQ h₀ s.heap L rw en de ua rl B2 ak ws ys rows m) (hg : ∀ r ∈ rows, GoodRow r) (hz : rows.length ≤ 71)
    (h : ∀ h' tk, Kp s.heap h' → Q .next { s with heap := h', toks := tk }) :
    wpAny (model PR w) A (exec (lawS 5) (lawEnv L f cdv)) Q E s := by
  have hfl : ([] :: formsOf rows).length < 2 ^ 18 := by rw [List.length_cons, formsOf_len]; exact ar339 hz
  have hfm := forms_le hg
  refine wpAny_If ?_
  refine wpAny_isTrue_Compare1 ?_
  refine over_asked (cl := [(Str.ofString "record", L + 2)]) (F := fun a => allowedOf a rows) k.hn rfl (by decide) rfl (by decide) rfl rfl rfl x.ns x.ma x.la x.sy hfl ?_ ?_
  · intro a t C h2 tk2 m2 E2 Q2 ha hn2 hm2 k2 hq
    have x2 := x.kp k2
    refine MethodCall_ ?_
    refine ask_allow (s := { s with heap := h2, toks := tk2 }) (n := n) (C := L + 2) k G x2.k0 x2.ent hg rfl rfl rfl x2.c2 rfl hn2 hm2 (hfm a ha) ?_
    rw [al_is]
    exact hq
  intro D h2 tk2 zs lD hzs k2
  have x2 := x.kp k2
  refine over_asked (s := { s with heap := h2, toks := tk2 }) (cl := [(Str.ofString "drawn", L + 1)]) (F := fun a => allowedOf a rows) k.hn rfl (by decide) rfl (by decide) rfl rfl rfl x2.ns x2.ma x2.la x2.sy hfl ?_ ?_
  · intro a t C h3 tk3 m3 E3 Q3 ha hn3 hm3 k3 hq
    have x3 := x2.kp k3
    have G3 := G.keeps x3.k0
    refine Call_ ?_
    refine nameG G3 (g_allowed _) ?_
    have hf : FnAt 139 h3 := ⟨_, _, _, _, G3.X _ _ (by rfl)⟩
    refine callWith_F hf ?_
    refine args_cons ?_
    refine wpAny_Name (wpAny_loadName_cell rfl rfl (show _ = some (L + 1) from rfl) x3.c1 ?_) (by decide)
    refine args_cons ?_
    refine wpAny_Name (wpAny_loadName_local rfl rfl hn3 hm3 ?_) (by decide)
    refine args_nil ⟨hf, ?_⟩
    refine wpAny_call ?_
    have hal := hfm a ha
    refine law_allowed (s := { s with heap := h3, toks := tk3 }) (n := n) k G x3.k0 x3.lw x3.tw (fun r hr => by have := (hg r hr).2.2; exact ar307 this) (by exact ar340 hz) (by exact ar341 hal) ?_
    exact hq
  intro D' h3 tk3 zs' lD' hzs' k3
  dsimp only at k3
  obtain ⟨e1, e2⟩ := bools_eq (A := A.in1) (s := { s with heap := h3, toks := tk3 }) (lD.kp k3) lD' hzs hzs'
  refine SeqAt.RcNeAt.lists (e := fun _ => true) (lD.kp k3).is lD'.is e1 k.units e2 _ _ _ _ ?_
  rw [show ((List.range zs.toArray.size).all fun _ => true) = true from List.all_eq_true.mpr fun _ _ => rfl]
  refine wpAny_truthy_bool ?_
  rw [if_neg (by decide)]
  refine wpAny_execs_nil ?_
  exact h _ _ (k2.trans k3)

set_option maxHeartbeats 2000000 in
/- if record.applies_to(None) != (('agent', '*') in drawn): return False -/
theorem st6 {n rw en de ua rl B2 ak : Nat} {ws ys : List Value} {rows : Rows} {Q : Flow → Shared → Prop} (k : OkA A (n + 2)) (G : Gd w mean mg mb h₀) (x : LQ h₀ s.heap L rw en de ua rl B2 ak ws ys rows m) (hz : rows.length ≤ 71)
    (h : ∀ h' tk, Kp s.heap h' → Q .next { s with heap := h', toks := tk }) :
    wpAny (model PR w) A (exec (lawS 6) (lawEnv L f cdv)) Q E s := by
  have GS := G.keeps x.k0
  obtain ⟨mm, I, m1, m2, m4, m5⟩ := x.ent.obj
  refine wpAny_If ?_
  refine wpAny_isTrue_Compare1 ?_
  refine MethodCall_ ?_
  refine wpAny_Name (wpAny_loadName_cell rfl rfl (show _ = some (L + 2) from rfl) x.c2 ?_) (by decide)
  refine inst_method GS.X I (e_plain _ _) (e_fap _) (e_fn49 _) m4 ?_
  have hf' : FnAt 49 s.heap := ⟨_, _, _, _, GS.X _ _ (by rfl)⟩
  refine callWith_F hf' ?_
  refine args_cons ?_
  refine Constant_none ?_
  refine args_nil ⟨hf', ?_⟩
  refine wpAny_call ?_
  refine ent_none (n := n) k G x.k0 x.ent ?_
  intro h2 tk2 k2
  dsimp only
  have x2 := x.kp k2
  refine wpAny_Compare1 ?_
  refine wpAny_Tuple ?_
  refine args_cons ?_
  refine wpAny_Constant_str ?_
  refine args_cons ?_
  refine wpAny_Constant_str ?_
  refine args_nil ⟨show 2 ≤ sizeLine by decide, ?_⟩
  dsimp only
  generalize hT : h2.push { cls := .type "tuple", data := .seq [Value.str (Str.ofString "agent") tk2, .str (Str.ofString "*") (tk2 + 1)].toArray } = h3
  have k3 : Kp h2 h3 := by rw [← hT]; exact Kp.push _ _
  have hT3 : h3.IsTuple h2.objs.size #[.str (wd kAgent) tk2, .str (wd [42]) (tk2 + 1)] := by
    rw [← hT, ← lit_agent, show wd [42] = Str.ofString "*" by decide]
    exact ⟨_, Heap.get?_push_size _ rfl, rfl, 0, rfl⟩
  clear hT
  have x3 := x2.kp k3
  refine wpAny_Name (wpAny_loadName_cell rfl rfl (show _ = some (L + 1) from rfl) x3.c1 ?_) (by decide)
  have hlen := x3.tw.len
  have hev : ∀ (v : Value) (r : List Nat × List Nat), (∃ (T : Nat) (t u : Tok), v = .ref T ∧ h3.IsTuple T #[.str (wd r.1) t, .str (wd r.2) u]) → starAt h3 v = decide (r = (kAgent, [42])) := by
    rintro v r ⟨T, t, u, rfl, hr⟩
    rw [Bool.eq_iff_iff, decide_eq_true_eq, star_iff]
    constructor
    · rintro ⟨T', t', u', e, hr'⟩
      cases e
      obtain ⟨o, e1, _, n1, d1⟩ := hr
      obtain ⟨o', e2, _, n2, d2⟩ := hr'
      rw [e1] at e2; cases e2
      rw [d1] at d2
      injection d2 with d2
      have h1 := congrArg (·[0]?) d2
      have h2 := congrArg (·[1]?) d2
      simp at h1 h2
      exact Prod.ext h1.1 h2.1
    · rintro rfl
      exact ⟨T, t, u, rfl, hr⟩
  refine SeqAt.in_listAt (starAt h3) x3.lw.is ?_ ?_
  · intro y hy
    obtain ⟨i, hi⟩ := List.getElem?_of_mem (List.mem_toArray.mp hy)
    obtain ⟨T, r, t, u, e1, e2, e3⟩ := x3.tw.get hi
    rw [hev y r ⟨T, t, u, e1, e3⟩, e1]
    exact tupsEq (A := A.in1) (r' := (kAgent, [42])) e3 hT3 (by have := k.un; show A.units + 1 < 9900; exact ar342 this)
  have eany : ws.toArray.any (starAt h3) = decide ((kAgent, [42]) ∈ rows) := by
    rw [List.any_toArray, Bool.eq_iff_iff, List.any_eq_true, decide_eq_true_eq]
    constructor
    · rintro ⟨v, hv, hb⟩
      obtain ⟨i, hi⟩ := List.getElem?_of_mem hv
      obtain ⟨T, r, t, u, e1, e2, e3⟩ := x3.tw.get hi
      rw [hev v r ⟨T, t, u, e1, e3⟩, decide_eq_true_eq] at hb
      rw [← hb]
      exact List.mem_of_getElem? e2
    · intro hm
      obtain ⟨i, hi⟩ := List.getElem?_of_mem hm
      have hil : i < ws.length := by rw [hlen]; exact (List.getElem?_eq_some_iff.mp hi).1
      have hw : ws[i]? = some ws[i] := by simp [hil]
      obtain ⟨T, r, t, u, e1, e2, e3⟩ := x3.tw.get hw
      rw [hi] at e2; cases e2
      exact ⟨ws[i], List.getElem_mem hil, by rw [hev _ _ ⟨T, t, u, e1, e3⟩]; simp⟩
  rw [eany, ← star_is]
  refine SeqAt.RcNeAt.bool_bool _ _ _ _ _ _ ?_
  rw [show ((decide ([42] ∈ agentsOf rows)) == (decide ([42] ∈ agentsOf rows))) = true from beq_self_eq_true _]
  refine wpAny_truthy_bool ?_
  rw [if_neg (by decide)]
  refine wpAny_execs_nil ?_
  exact h _ _ (k2.trans k3)

set_option maxHeartbeats 2000000 in
/- return [record.applies_to(form) for form in asked] == [_law_named(drawn, form) for form in asked] -/
theorem st7 {n rw en de ua rl B2 ak : Nat} {ws ys : List Value} {rows : Rows} {Q : Flow → Shared → Prop} (k : OkA A (n + 2)) (G : Gd w mean mg mb h₀) (x : LQ h₀ s.heap L rw en de ua rl B2 ak ws ys rows m) (hg : ∀ r ∈ rows, GoodRow r) (hz : rows.length ≤ 71)
    (h : ∀ h' tk, Kp s.heap h' → Q (.ret (.bool true)) { s with heap := h', toks := tk }) :
    wpAny (model PR w) A (exec (lawS 7) (lawEnv L f cdv)) Q E s := by
  have hfl : ([] :: formsOf rows).length < 2 ^ 18 := by rw [List.length_cons, formsOf_len]; exact ar339 hz
  have hfm := forms_le hg
  refine wpAny_Return_some ?_
  refine wpAny_Compare1 ?_
  refine over_asked (cl := [(Str.ofString "record", L + 2)]) (F := fun a => namedOf a rows) k.hn rfl (by decide) rfl (by decide) rfl rfl rfl x.ns x.ma x.la x.sy hfl ?_ ?_
  · intro a t C h2 tk2 m2 E2 Q2 ha hn2 hm2 k2 hq
    have x2 := x.kp k2
    refine MethodCall_ ?_
    refine ask_applies (s := { s with heap := h2, toks := tk2 }) (n := n) (C := L + 2) k G x2.k0 x2.ent hg rfl rfl rfl x2.c2 rfl hn2 hm2 (hfm a ha) ?_
    rw [named_is]
    exact hq
  intro D h2 tk2 zs lD hzs k2
  have x2 := x.kp k2
  refine over_asked (s := { s with heap := h2, toks := tk2 }) (cl := [(Str.ofString "drawn", L + 1)]) (F := fun a => namedOf a rows) k.hn rfl (by decide) rfl (by decide) rfl rfl rfl x2.ns x2.ma x2.la x2.sy hfl ?_ ?_
  · intro a t C h3 tk3 m3 E3 Q3 ha hn3 hm3 k3 hq
    have x3 := x2.kp k3
    have G3 := G.keeps x3.k0
    refine Call_ ?_
    refine nameG G3 (g_named _) ?_
    have hf : FnAt 144 h3 := ⟨_, _, _, _, G3.X _ _ (by rfl)⟩
    refine callWith_F hf ?_
    refine args_cons ?_
    refine wpAny_Name (wpAny_loadName_cell rfl rfl (show _ = some (L + 1) from rfl) x3.c1 ?_) (by decide)
    refine args_cons ?_
    refine wpAny_Name (wpAny_loadName_local rfl rfl hn3 hm3 ?_) (by decide)
    refine args_nil ⟨hf, ?_⟩
    refine wpAny_call ?_
    have hal := hfm a ha
    refine law_named (s := { s with heap := h3, toks := tk3 }) (n := n) k G x3.k0 x3.lw x3.tw (fun r hr => by have := (hg r hr).2.2; exact ar343 this) (by exact ar344 hz) (by exact ar345 hal) ?_
    exact hq
  intro D' h3 tk3 zs' lD' hzs' k3
  dsimp only at k3
  obtain ⟨e1, e2⟩ := bools_eq (A := A.in1) (s := { s with heap := h3, toks := tk3 }) (lD.kp k3) lD' hzs hzs'
  refine SeqAt.eq_listAt (e := fun _ => true) (lD.kp k3).is lD'.is e1 k.units e2 ?_
  rw [show ((List.range zs.toArray.size).all fun _ => true) = true from List.all_eq_true.mpr fun _ _ => rfl]
  exact h _ _ (k2.trans k3)
end
end Mine

end
section -- M45
open PySem PySem.W PyProof.Rows PySem.Calls PySem.Builtin PySem.Builtin.ObjectAttr PySem.Builtin.Str PySem.StrLaws
set_option maxRecDepth 100000
set_option linter.unusedVariables false
namespace Mine
section
variable {w : World} {mean : ExcName → Option Value} {mg mb : Str → Option Value} {A : Around} {E : Value → Shared → Prop} {s : Shared} {h₀ : Heap} {L f : Nat} {cdv : Value} {m : Str → Option Value}

set_option maxHeartbeats 4000000 in
theorem law_body {n l : Nat} {vs : List Value} {v0 v2 : Option Value} {Q : Flow → Shared → Prop} (k : OkA A (n + 8)) (G : Gd w mean mg mb h₀) (K0 : Kp h₀ s.heap) (hT1 : h₀.get? 117 = none) (hT2 : h₀.get? 122 = none) (C1 : CodeHd s.heap 119 117) (P1 : s.heap.get? 117 = some (tabObj #[])) (C2 : CodeHd s.heap 126 122) (P2 : s.heap.get? 122 = some (tabObj #[]))
    (hns : s.heap.Ns L m) (hm : m (Str.ofString "script") = some (.ref l)) (hl : s.heap.IsList l vs.toArray) (hi : ∀ v ∈ vs, ∃ a t, v = .int a t) (hz : vs.length ≤ 63) (hc1 : s.heap.IsCell (L + 1) v0) (hc2 : s.heap.IsCell (L + 2) v2) (hbig : 147 < L)
    (z0 : h₀.get? L = none) (z1 : h₀.get? (L + 1) = none) (z2 : h₀.get? (L + 2) = none)
    (h : ∀ h' tk, Kp h₀ h' → (∃ ps, h'.get? 117 = some (tabObj ps)) → (∃ ps, h'.get? 122 = some (tabObj ps)) → Q (.ret (.bool true)) { s with heap := h', toks := tk }) :
    wpAny (model PR w) A (execs (dBody lawD) (lawEnv L f cdv)) Q E s := by
  show wpAny _ _ (execs [lawS 0, lawS 1, lawS 2, lawS 3, lawS 4, lawS 5, lawS 6, lawS 7] _) _ _ _
  have hL2 : L + 2 < s.heap.objs.size := by obtain ⟨o, e, _⟩ := hc2; exact ltS e
  refine wpAny_execs_cons ?_
  refine st0 (n := n + 7) k G K0 hns hm hl hi hz hc1 ?_
  intro rw ws rows h1 tk1 hrw lw1 tw1 hg hrl cc1 k1
  dsimp only
  have K1 : Kp h₀ h1 := KpB.old K0 k1 (by simpa using z1)
  have hn1 := ns_kpB hns k1 (by simp)
  have cd1 : h1.IsCell (L + 2) v2 := by obtain ⟨o, e, d⟩ := hc2; exact ⟨o, k1 _ _ (by simp) e, d⟩
  refine wpAny_execs_cons ?_
  refine st1 (s := { s with heap := h1, toks := tk1 }) (n := n + 7) k G K1 hn1 lw1 tw1 hg hrl cc1 ?_
  intro h2 tk2 t2 hn2 k2
  dsimp only at k2 ⊢
  have K2 : Kp h₀ h2 := KpB.old K1 k2 (by simpa using z0)
  have cc2 : h2.IsCell (L + 1) (some (.ref rw)) := by obtain ⟨o, e, d⟩ := cc1; exact ⟨o, k2 _ _ (by simp) e, d⟩
  have cd2 : h2.IsCell (L + 2) v2 := by obtain ⟨o, e, d⟩ := cd1; exact ⟨o, k2 _ _ (by simp) e, d⟩
  have lw2 := lw1.kpB k2 (by exact ar346 hL2 hrw)
  have nsK : ∀ {h : Heap} {m : Str → Option Value}, h.Ns L m → ∀ o, h.get? L = some o → o.cls ≠ .type "tuple" ∨ dk o ≠ 1 := by
    intro h m hn o e
    obtain ⟨o', es, ep, e', d, _⟩ := hn
    rw [e] at e'; cases e'
    exact .inr (by rw [dk_of d]; show (2 : Nat) ≠ 1; decide)
  have tw2 := tw1.kpK k2 (by intro y hy o e; rw [List.mem_singleton.mp hy] at e; exact nsK hn1 o e)
  have k02 : KpB [L, L + 1] s.heap h2 := fun b o nb e => by
    simp at nb
    exact k2 _ _ (by simpa using nb.1) (k1 _ _ (by simpa using nb.2) e)
  refine wpAny_execs_cons ?_
  have P12 : h2.get? 117 = some (tabObj #[]) := k02 _ _ (by exact ar347 hbig) P1
  have P22 : h2.get? 122 = some (tabObj #[]) := k02 _ _ (by exact ar348 hbig) P2
  refine st2 (s := { s with heap := h2, toks := tk2 }) (n := n) (t := t2) (rows := rows) k G K2 hT1 hT2 (codeHd_kpB C1 k02 (by exact ar349 hbig)) P12 (codeHd_kpB C2 k02 (by exact ar350 hbig)) P22 hn2 (if_pos rfl) hg hrl cd2 hbig ?_
  rintro fw en de ua rl B2 vs3 h3 tk3 t3 hn3 cd3 lf3 tf3 ent3 k3 ⟨p1, g1⟩ ⟨p2, g2⟩ ⟨b1, b2, b3, b4, b5⟩
  dsimp only at k3 ⊢
  have K3 : Kp h₀ h3 := KpB.old K2 k3 (by intro y hy; simp at hy; rcases hy with rfl | rfl | rfl | rfl <;> assumption)
  have cc3 : h3.IsCell (L + 1) (some (.ref rw)) := by obtain ⟨o, e, d⟩ := cc2; exact ⟨o, k3 _ _ (by exact ar351 hbig) e, d⟩
  have lw3 := lw2.kpB k3 (by exact ar352 hbig hL2 hrw)
  have tw3 := tw2.kpK k3 (by
    intro y hy o e
    simp at hy
    rcases hy with rfl | rfl | rfl | rfl
    · rw [P12] at e; cases e; exact .inr (show (5 : Nat) ≠ 1 by decide)
    · rw [P22] at e; cases e; exact .inr (show (5 : Nat) ≠ 1 by decide)
    · exact nsK hn2 o e
    · obtain ⟨o', e', d⟩ := cd2
      rw [e] at e'; cases e'
      exact .inr (by rw [dk_of d]; show (3 : Nat) ≠ 1; decide))
  refine wpAny_execs_cons ?_
  refine st3 (s := { s with heap := h3, toks := tk3 }) (n := n + 7) (pg := (pageFrom 0 rows).flatten) (t := t2) (t2 := t3) (fw := fw) (rw := rw) k hn3 rfl rfl rfl lf3 tf3 lw3 tw3 cc3 ?_
  intro tk4
  dsimp only
  refine wpAny_execs_cons ?_
  refine st4 (s := { s with heap := h3, toks := tk4 }) (n := n + 7) k hn3 lw3 tw3 hg hrl cc3 ?_
  intro ak ys h4 tk5 hak hn4 la4 sy4 k4
  dsimp only at k4 ⊢
  have K4 : Kp h₀ h4 := KpB.old K3 k4 (by simpa using z0)
  obtain ⟨m4, x4⟩ : ∃ m4, LQ h₀ h4 L rw en de ua rl B2 ak ws ys rows m4 := by
    refine ⟨_, K4, hn4, if_pos rfl, ?_, ?_, lw3.kpB k4 (by exact ar346 hL2 hrw), tw3.kpK k4 (by intro y hy o e; rw [List.mem_singleton.mp hy] at e; exact nsK hn3 o e), ?_, la4, sy4⟩
    · obtain ⟨o, e, d⟩ := cc3; exact ⟨o, k4 _ _ (by simp) e, d⟩
    · obtain ⟨o, e, d⟩ := cd3; exact ⟨o, k4 _ _ (by simp) e, d⟩
    · exact ent3.kpB k4 (by simp; omega) (by exact ar126 b1) (by exact ar126 b2) (by exact ar126 b3) (by exact ar126 b4)
  refine wpAny_execs_cons ?_
  refine st5 (s := { s with heap := h4, toks := tk5 }) (n := n + 6) k G x4 hg hrl ?_
  intro h5 tk6 k5
  dsimp only at k5 ⊢
  have x5 := x4.kp k5
  refine wpAny_execs_cons ?_
  refine st6 (s := { s with heap := h5, toks := tk6 }) (n := n + 6) k G x5 hrl ?_
  intro h6 tk7 k6
  dsimp only at k6 ⊢
  have x6 := x5.kp k6
  refine wpAny_execs_cons ?_
  refine st7 (s := { s with heap := h6, toks := tk7 }) (n := n + 6) k G x6 hg hrl ?_
  intro h7 tk8 k7
  dsimp only at k7 ⊢
  have kk : KpB [L] h3 h7 := fun b o nb e => k7 _ _ (k6 _ _ (k5 _ _ (k4 _ _ nb e)))
  exact h h7 _ (x6.k0.trans k7) ⟨p1, kk _ _ (by exact ar353 hbig) g1⟩ ⟨p2, kk _ _ (by exact ar354 hbig) g2⟩
end
end Mine

end
section -- M46
open PySem PySem.W PyProof.Rows PySem.Calls PySem.Builtin PySem.Builtin.ObjectAttr PySem.Builtin.Str PySem.StrLaws
set_option maxRecDepth 100000
set_option linter.unusedVariables false
namespace Mine
theorem okCaller (env : Env) : OkA (callerA.deeper env) 8 := ⟨rfl, show callerA.depth + 1 + 8 ≤ 900 by decide, show callerA.units + 3 + 10 * 8 ≤ 9000 by decide⟩
theorem ints_mem {vs : List Value} {ns : List Int} (h : IntsAre vs ns) : ∀ v ∈ vs, ∃ a t, v = .int a t := by
  induction h with
  | nil => intro v hv; simp at hv
  | cons n t _ ih =>
    intro v hv
    rcases List.mem_cons.mp hv with q | hv
    · exact ⟨n, t, q⟩
    · exact ih v hv
theorem entry {w : World} {mean : ExcName → Option Value} {mg mb : Str → Option Value} {s : Shared} {h₀ : Heap} {L fa l : Nat} {cd : Value} {m : Str → Option Value} {E : Value → Shared → Prop} {vs : List Value} {ns : List Int} {o1 o2 : Obj} {v1 v2 : Option Value} {Q : Flow → Shared → Prop}
    (X : (hd.heap_39 w.params).In h₀) (T : Top topProg Lo mean mg mb h₀) (F : Fr h₀ L s.heap m) (N : News h₀ L s.heap [(L + 1 + 1, o2), (L + 1, o1), (122, tabObj #[]), (117, tabObj #[])]) (d2 : o2.data = .cell v2) (d1 : o1.data = .cell v1)
    (cA : CodeHd h₀ 126 122) (cB : CodeHd h₀ 119 117) (hl : h₀.IsList l vs.toArray) (hI : IntsAre vs ns) (hc : ¬ ((63 : Nat) : Int) < (ns.length : Int)) (hm : m (Str.ofString "script") = some (.ref l))
    (h : ∀ h' tk, Kp h₀ h' → (∃ ps, h'.get? 117 = some (tabObj ps)) → (∃ ps, h'.get? 122 = some (tabObj ps)) → Q (.ret (.bool true)) { s with heap := h', toks := tk }) :
    wpAny (model PR w) (callerA.deeper (lawEnv L fa cd)) (execs (dBody lawD) (lawEnv L fa cd)) Q E s := by
  have K0 : Kp h₀ s.heap := F.keep
  obtain ⟨e2, _, z2⟩ := N _ (.head _)
  obtain ⟨e1, _, z1⟩ := N _ (.tail _ (.head _))
  obtain ⟨p2, _, y2⟩ := N _ (.tail _ (.tail _ (.head _)))
  obtain ⟨p1, _, y1⟩ := N _ (.tail _ (.tail _ (.tail _ (.head _))))
  have hb : 148 < h₀.objs.size := ltS (X 148 _ (by rfl))
  have hlen : vs.length = ns.length := by have := hI.sizeZ; rw [List.size_toArray] at this; omega
  have z0 : h₀.get? L = none := by
    cases q : h₀.get? L with
    | none => rfl
    | some o => exact absurd (ltS q) (Nat.not_lt.mpr F.above)
  refine law_body (n := 0) (okCaller _) ⟨X, T⟩ K0 y1 y2 (cB.keeps K0) p1 (cA.keeps K0) p2 F.ns hm ?_ (ints_mem hI) (by omega) ⟨o1, e1, d1⟩ ⟨o2, e2, d2⟩ (by have := F.above; omega) z0 z1 z2 h
  obtain ⟨o, e, r⟩ := hl
  exact ⟨o, K0 _ _ e, r⟩
end Mine

end
open PySem PySem.W PyProof.Rows PySem.Calls
namespace Mine
theorem law_end {s₀ s₁ s' : Shared} {h₀ : Heap} {args : List WData} (hp : Challenge.rw_of0008_01.row.claim.post args (.bool true) args = true) (hk : Kp h₀ s'.heap) (hos : s'.os = s₁.os) (hg : s'.gens = #[]) (h1 : ∃ ps, s'.heap.get? 117 = some (tabObj ps)) (h2 : ∃ ps, s'.heap.get? 122 = some (tabObj ps)) :
    W.GoodW Challenge.rw_of0008_01.row.claim (classAt s₀.heap) (ExcName.means s₀.heap) args { s₁ with heap := h₀ } (.ok (.ret (.bool true))) s' ∧ GrownAll [(126, 122), (119, 117)] s'.heap := by
  refine ⟨⟨.inl ⟨_, _, [], rfl, fun _ => rfl, ReadsW.bool true, hp, fun _ => ⟨List.nodup_nil, fun _ hm => nomatch hm⟩⟩, hk, hos, hg⟩, h2, h1, trivial⟩
end Mine
set_option maxRecDepth 100000 in
set_option maxHeartbeats 8000000 in
theorem PySem.Challenge.cw_of0008_01_holds : PySem.Challenge.rw_of0008_01.Holds := by
  refine Mine.hd ?_
  k_go0
  rename_i w s₀ s₁ mg mb G0 Y0 fa o0 pm cd doc ho hcd hgn X0a V0 T0 B0 TE0 TW0 ns hs hlay hL1 hr1 hl2 as6 as5 l vs as2 hL ra w1 r0 hI hr hc1 hc2 hD h₁ tk₁ o2 o1 dL dR X0 X' T' K' F' cA' N' l0'
  have key : ∀ Q E, (∀ h' tk, Mine.Kp (ghostOf s₁.heap [(126, 122), (119, 117)]) h' → (∃ ps, h'.get? 117 = some (tabObj ps)) → (∃ ps, h'.get? 122 = some (tabObj ps)) → Q (.ret (.bool true)) { heap := h', gens := s₁.gens, drawn := s₁.drawn, toks := tk, os := s₁.os }) → wpAny (model Mine.PR w) (callerA.deeper (Mine.lawEnv s₁.heap.objs.size fa cd)) (execs (Mine.dBody Mine.lawD) (Mine.lawEnv s₁.heap.objs.size fa cd)) Q E { heap := h₁, gens := s₁.gens, drawn := s₁.drawn, toks := tk₁, os := s₁.os } := by
    intro Q E hq
    refine Mine.entry (m := _) X' T' F' N' dL dR cA' codeHd lifted hI hc1 ?_ hq
    rfl
  clear X0 X' T' K' F' cA' N' l0' dL dR hD
  refine key _ _ ?_
  intro h' tk kp g1 g2
  refine Mine.law_end ?_ kp rfl hgn g1 g2
  kc_post
