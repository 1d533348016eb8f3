/-
  THE WALK of zzStep, state by state.
-/
import Derived.Test.Qxb6000088aLeaf
namespace Go.Proofs.Qxb6000088a
open Go.RowKit

set_option maxHeartbeats 400000 in
theorem step2 (b : UInt8) (w : World) : Calls Try.prog 21 #[.int .i64 ((2 : Nat) : Int), .int .u8 b.toNat] w fun e w' => e = .returned (.int .i64 (Pl.step 2 b)) ∧ w' = w := by
  go_enter Try.func21, Try.ntmps21
  go_wp2_with (first | (go_at_call 29; refine (zzLetter_any _ _).mono ?_; rintro e w' ⟨rfl, rfl⟩) | (go_at_call 30; refine (zzDigit_any _ _).mono ?_; rintro e w' ⟨rfl, rfl⟩) | (go_at_call 31; refine (afterItem_any _ _).mono ?_; rintro e w' ⟨rfl, rfl⟩) | (go_at_call 32; refine (zzTagSpace_any _ _).mono ?_; rintro e w' ⟨rfl, rfl⟩) | (go_at_call 33; refine (zzAttrStart_any _ _).mono ?_; rintro e w' ⟨rfl, rfl⟩) | (go_at_call 34; refine (zzAttrChar_any _ _).mono ?_; rintro e w' ⟨rfl, rfl⟩) | (go_at_call 35; refine (afterName_any _ _).mono ?_; rintro e w' ⟨rfl, rfl⟩) | (go_at_call 36; refine (zzUnquoted_any _ _).mono ?_; rintro e w' ⟨rfl, rfl⟩))
  all_goals (go_ret; refine ⟨ret_int ?_, rfl⟩)
  all_goals (simp only [Pl.step, Pl.nchar, e62, e47, e61, e34, e39, b45]; simp [*])

set_option maxHeartbeats 400000 in
theorem step3 (b : UInt8) (w : World) : Calls Try.prog 21 #[.int .i64 ((3 : Nat) : Int), .int .u8 b.toNat] w fun e w' => e = .returned (.int .i64 (Pl.step 3 b)) ∧ w' = w := by
  go_enter Try.func21, Try.ntmps21
  go_wp2_with (first | (go_at_call 29; refine (zzLetter_any _ _).mono ?_; rintro e w' ⟨rfl, rfl⟩) | (go_at_call 30; refine (zzDigit_any _ _).mono ?_; rintro e w' ⟨rfl, rfl⟩) | (go_at_call 31; refine (afterItem_any _ _).mono ?_; rintro e w' ⟨rfl, rfl⟩) | (go_at_call 32; refine (zzTagSpace_any _ _).mono ?_; rintro e w' ⟨rfl, rfl⟩) | (go_at_call 33; refine (zzAttrStart_any _ _).mono ?_; rintro e w' ⟨rfl, rfl⟩) | (go_at_call 34; refine (zzAttrChar_any _ _).mono ?_; rintro e w' ⟨rfl, rfl⟩) | (go_at_call 35; refine (afterName_any _ _).mono ?_; rintro e w' ⟨rfl, rfl⟩) | (go_at_call 36; refine (zzUnquoted_any _ _).mono ?_; rintro e w' ⟨rfl, rfl⟩))
  all_goals (go_ret; refine ⟨ret_int ?_, rfl⟩)
  all_goals (simp only [Pl.step, Pl.nchar, e62, e47, e61, e34, e39, b45]; simp [*])

set_option maxHeartbeats 400000 in
theorem step4 (b : UInt8) (w : World) : Calls Try.prog 21 #[.int .i64 ((4 : Nat) : Int), .int .u8 b.toNat] w fun e w' => e = .returned (.int .i64 (Pl.step 4 b)) ∧ w' = w := by
  go_enter Try.func21, Try.ntmps21
  go_wp2_with (first | (go_at_call 29; refine (zzLetter_any _ _).mono ?_; rintro e w' ⟨rfl, rfl⟩) | (go_at_call 30; refine (zzDigit_any _ _).mono ?_; rintro e w' ⟨rfl, rfl⟩) | (go_at_call 31; refine (afterItem_any _ _).mono ?_; rintro e w' ⟨rfl, rfl⟩) | (go_at_call 32; refine (zzTagSpace_any _ _).mono ?_; rintro e w' ⟨rfl, rfl⟩) | (go_at_call 33; refine (zzAttrStart_any _ _).mono ?_; rintro e w' ⟨rfl, rfl⟩) | (go_at_call 34; refine (zzAttrChar_any _ _).mono ?_; rintro e w' ⟨rfl, rfl⟩) | (go_at_call 35; refine (afterName_any _ _).mono ?_; rintro e w' ⟨rfl, rfl⟩) | (go_at_call 36; refine (zzUnquoted_any _ _).mono ?_; rintro e w' ⟨rfl, rfl⟩))
  all_goals (go_ret; refine ⟨ret_int ?_, rfl⟩)
  all_goals (simp only [Pl.step, Pl.nchar, e62, e47, e61, e34, e39, b45]; simp [*])

set_option maxHeartbeats 400000 in
theorem step5 (b : UInt8) (w : World) : Calls Try.prog 21 #[.int .i64 ((5 : Nat) : Int), .int .u8 b.toNat] w fun e w' => e = .returned (.int .i64 (Pl.step 5 b)) ∧ w' = w := by
  go_enter Try.func21, Try.ntmps21
  go_wp2_with (first | (go_at_call 29; refine (zzLetter_any _ _).mono ?_; rintro e w' ⟨rfl, rfl⟩) | (go_at_call 30; refine (zzDigit_any _ _).mono ?_; rintro e w' ⟨rfl, rfl⟩) | (go_at_call 31; refine (afterItem_any _ _).mono ?_; rintro e w' ⟨rfl, rfl⟩) | (go_at_call 32; refine (zzTagSpace_any _ _).mono ?_; rintro e w' ⟨rfl, rfl⟩) | (go_at_call 33; refine (zzAttrStart_any _ _).mono ?_; rintro e w' ⟨rfl, rfl⟩) | (go_at_call 34; refine (zzAttrChar_any _ _).mono ?_; rintro e w' ⟨rfl, rfl⟩) | (go_at_call 35; refine (afterName_any _ _).mono ?_; rintro e w' ⟨rfl, rfl⟩) | (go_at_call 36; refine (zzUnquoted_any _ _).mono ?_; rintro e w' ⟨rfl, rfl⟩))
  all_goals (go_ret; refine ⟨ret_int ?_, rfl⟩)
  all_goals (simp only [Pl.step, Pl.nchar, e62, e47, e61, e34, e39, b45]; simp [*])

set_option maxHeartbeats 400000 in
theorem step6 (b : UInt8) (w : World) : Calls Try.prog 21 #[.int .i64 ((6 : Nat) : Int), .int .u8 b.toNat] w fun e w' => e = .returned (.int .i64 (Pl.step 6 b)) ∧ w' = w := by
  go_enter Try.func21, Try.ntmps21
  go_wp2_with (first | (go_at_call 29; refine (zzLetter_any _ _).mono ?_; rintro e w' ⟨rfl, rfl⟩) | (go_at_call 30; refine (zzDigit_any _ _).mono ?_; rintro e w' ⟨rfl, rfl⟩) | (go_at_call 31; refine (afterItem_any _ _).mono ?_; rintro e w' ⟨rfl, rfl⟩) | (go_at_call 32; refine (zzTagSpace_any _ _).mono ?_; rintro e w' ⟨rfl, rfl⟩) | (go_at_call 33; refine (zzAttrStart_any _ _).mono ?_; rintro e w' ⟨rfl, rfl⟩) | (go_at_call 34; refine (zzAttrChar_any _ _).mono ?_; rintro e w' ⟨rfl, rfl⟩) | (go_at_call 35; refine (afterName_any _ _).mono ?_; rintro e w' ⟨rfl, rfl⟩) | (go_at_call 36; refine (zzUnquoted_any _ _).mono ?_; rintro e w' ⟨rfl, rfl⟩))
  all_goals (go_ret; refine ⟨ret_int ?_, rfl⟩)
  all_goals (simp only [Pl.step, Pl.nchar, e62, e47, e61, e34, e39, b45]; simp [*])

set_option maxHeartbeats 400000 in
theorem step7 (b : UInt8) (w : World) : Calls Try.prog 21 #[.int .i64 ((7 : Nat) : Int), .int .u8 b.toNat] w fun e w' => e = .returned (.int .i64 (Pl.step 7 b)) ∧ w' = w := by
  go_enter Try.func21, Try.ntmps21
  go_wp2_with (first | (go_at_call 29; refine (zzLetter_any _ _).mono ?_; rintro e w' ⟨rfl, rfl⟩) | (go_at_call 30; refine (zzDigit_any _ _).mono ?_; rintro e w' ⟨rfl, rfl⟩) | (go_at_call 31; refine (afterItem_any _ _).mono ?_; rintro e w' ⟨rfl, rfl⟩) | (go_at_call 32; refine (zzTagSpace_any _ _).mono ?_; rintro e w' ⟨rfl, rfl⟩) | (go_at_call 33; refine (zzAttrStart_any _ _).mono ?_; rintro e w' ⟨rfl, rfl⟩) | (go_at_call 34; refine (zzAttrChar_any _ _).mono ?_; rintro e w' ⟨rfl, rfl⟩) | (go_at_call 35; refine (afterName_any _ _).mono ?_; rintro e w' ⟨rfl, rfl⟩) | (go_at_call 36; refine (zzUnquoted_any _ _).mono ?_; rintro e w' ⟨rfl, rfl⟩))
  all_goals (go_ret; refine ⟨ret_int ?_, rfl⟩)
  all_goals (simp only [Pl.step, Pl.nchar, e62, e47, e61, e34, e39, b45]; simp [*])

set_option maxHeartbeats 400000 in
theorem step8 (b : UInt8) (w : World) : Calls Try.prog 21 #[.int .i64 ((8 : Nat) : Int), .int .u8 b.toNat] w fun e w' => e = .returned (.int .i64 (Pl.step 8 b)) ∧ w' = w := by
  go_enter Try.func21, Try.ntmps21
  go_wp2_with (first | (go_at_call 29; refine (zzLetter_any _ _).mono ?_; rintro e w' ⟨rfl, rfl⟩) | (go_at_call 30; refine (zzDigit_any _ _).mono ?_; rintro e w' ⟨rfl, rfl⟩) | (go_at_call 31; refine (afterItem_any _ _).mono ?_; rintro e w' ⟨rfl, rfl⟩) | (go_at_call 32; refine (zzTagSpace_any _ _).mono ?_; rintro e w' ⟨rfl, rfl⟩) | (go_at_call 33; refine (zzAttrStart_any _ _).mono ?_; rintro e w' ⟨rfl, rfl⟩) | (go_at_call 34; refine (zzAttrChar_any _ _).mono ?_; rintro e w' ⟨rfl, rfl⟩) | (go_at_call 35; refine (afterName_any _ _).mono ?_; rintro e w' ⟨rfl, rfl⟩) | (go_at_call 36; refine (zzUnquoted_any _ _).mono ?_; rintro e w' ⟨rfl, rfl⟩))
  all_goals (go_ret; refine ⟨ret_int ?_, rfl⟩)
  all_goals (simp only [Pl.step, Pl.nchar, e62, e47, e61, e34, e39, b45]; simp [*])

set_option maxHeartbeats 400000 in
theorem step9 (b : UInt8) (w : World) : Calls Try.prog 21 #[.int .i64 ((9 : Nat) : Int), .int .u8 b.toNat] w fun e w' => e = .returned (.int .i64 (Pl.step 9 b)) ∧ w' = w := by
  go_enter Try.func21, Try.ntmps21
  go_wp2_with (first | (go_at_call 29; refine (zzLetter_any _ _).mono ?_; rintro e w' ⟨rfl, rfl⟩) | (go_at_call 30; refine (zzDigit_any _ _).mono ?_; rintro e w' ⟨rfl, rfl⟩) | (go_at_call 31; refine (afterItem_any _ _).mono ?_; rintro e w' ⟨rfl, rfl⟩) | (go_at_call 32; refine (zzTagSpace_any _ _).mono ?_; rintro e w' ⟨rfl, rfl⟩) | (go_at_call 33; refine (zzAttrStart_any _ _).mono ?_; rintro e w' ⟨rfl, rfl⟩) | (go_at_call 34; refine (zzAttrChar_any _ _).mono ?_; rintro e w' ⟨rfl, rfl⟩) | (go_at_call 35; refine (afterName_any _ _).mono ?_; rintro e w' ⟨rfl, rfl⟩) | (go_at_call 36; refine (zzUnquoted_any _ _).mono ?_; rintro e w' ⟨rfl, rfl⟩))
  all_goals (go_ret; refine ⟨ret_int ?_, rfl⟩)
  all_goals (simp only [Pl.step, Pl.nchar, e62, e47, e61, e34, e39, b45]; simp [*])

set_option maxHeartbeats 400000 in
theorem step10 (b : UInt8) (w : World) : Calls Try.prog 21 #[.int .i64 ((10 : Nat) : Int), .int .u8 b.toNat] w fun e w' => e = .returned (.int .i64 (Pl.step 10 b)) ∧ w' = w := by
  go_enter Try.func21, Try.ntmps21
  go_wp2_with (first | (go_at_call 29; refine (zzLetter_any _ _).mono ?_; rintro e w' ⟨rfl, rfl⟩) | (go_at_call 30; refine (zzDigit_any _ _).mono ?_; rintro e w' ⟨rfl, rfl⟩) | (go_at_call 31; refine (afterItem_any _ _).mono ?_; rintro e w' ⟨rfl, rfl⟩) | (go_at_call 32; refine (zzTagSpace_any _ _).mono ?_; rintro e w' ⟨rfl, rfl⟩) | (go_at_call 33; refine (zzAttrStart_any _ _).mono ?_; rintro e w' ⟨rfl, rfl⟩) | (go_at_call 34; refine (zzAttrChar_any _ _).mono ?_; rintro e w' ⟨rfl, rfl⟩) | (go_at_call 35; refine (afterName_any _ _).mono ?_; rintro e w' ⟨rfl, rfl⟩) | (go_at_call 36; refine (zzUnquoted_any _ _).mono ?_; rintro e w' ⟨rfl, rfl⟩))
  all_goals (go_ret; refine ⟨ret_int ?_, rfl⟩)
  all_goals (simp only [Pl.step, Pl.nchar, e62, e47, e61, e34, e39, b45]; simp [*])

set_option maxHeartbeats 400000 in
theorem step11 (b : UInt8) (w : World) : Calls Try.prog 21 #[.int .i64 ((11 : Nat) : Int), .int .u8 b.toNat] w fun e w' => e = .returned (.int .i64 (Pl.step 11 b)) ∧ w' = w := by
  go_enter Try.func21, Try.ntmps21
  go_wp2_with (first | (go_at_call 29; refine (zzLetter_any _ _).mono ?_; rintro e w' ⟨rfl, rfl⟩) | (go_at_call 30; refine (zzDigit_any _ _).mono ?_; rintro e w' ⟨rfl, rfl⟩) | (go_at_call 31; refine (afterItem_any _ _).mono ?_; rintro e w' ⟨rfl, rfl⟩) | (go_at_call 32; refine (zzTagSpace_any _ _).mono ?_; rintro e w' ⟨rfl, rfl⟩) | (go_at_call 33; refine (zzAttrStart_any _ _).mono ?_; rintro e w' ⟨rfl, rfl⟩) | (go_at_call 34; refine (zzAttrChar_any _ _).mono ?_; rintro e w' ⟨rfl, rfl⟩) | (go_at_call 35; refine (afterName_any _ _).mono ?_; rintro e w' ⟨rfl, rfl⟩) | (go_at_call 36; refine (zzUnquoted_any _ _).mono ?_; rintro e w' ⟨rfl, rfl⟩))
  all_goals (go_ret; refine ⟨ret_int ?_, rfl⟩)
  all_goals (simp only [Pl.step, Pl.nchar, e62, e47, e61, e34, e39, b45]; simp [*])

set_option maxHeartbeats 400000 in
theorem step12 (b : UInt8) (w : World) : Calls Try.prog 21 #[.int .i64 ((12 : Nat) : Int), .int .u8 b.toNat] w fun e w' => e = .returned (.int .i64 (Pl.step 12 b)) ∧ w' = w := by
  go_enter Try.func21, Try.ntmps21
  go_wp2_with (first | (go_at_call 29; refine (zzLetter_any _ _).mono ?_; rintro e w' ⟨rfl, rfl⟩) | (go_at_call 30; refine (zzDigit_any _ _).mono ?_; rintro e w' ⟨rfl, rfl⟩) | (go_at_call 31; refine (afterItem_any _ _).mono ?_; rintro e w' ⟨rfl, rfl⟩) | (go_at_call 32; refine (zzTagSpace_any _ _).mono ?_; rintro e w' ⟨rfl, rfl⟩) | (go_at_call 33; refine (zzAttrStart_any _ _).mono ?_; rintro e w' ⟨rfl, rfl⟩) | (go_at_call 34; refine (zzAttrChar_any _ _).mono ?_; rintro e w' ⟨rfl, rfl⟩) | (go_at_call 35; refine (afterName_any _ _).mono ?_; rintro e w' ⟨rfl, rfl⟩) | (go_at_call 36; refine (zzUnquoted_any _ _).mono ?_; rintro e w' ⟨rfl, rfl⟩))
  all_goals (go_ret; refine ⟨ret_int ?_, rfl⟩)
  all_goals (simp only [Pl.step, Pl.nchar, e62, e47, e61, e34, e39, b45]; simp [*])

set_option maxHeartbeats 400000 in
theorem step13 (b : UInt8) (w : World) : Calls Try.prog 21 #[.int .i64 ((13 : Nat) : Int), .int .u8 b.toNat] w fun e w' => e = .returned (.int .i64 (Pl.step 13 b)) ∧ w' = w := by
  go_enter Try.func21, Try.ntmps21
  go_wp2_with (first | (go_at_call 29; refine (zzLetter_any _ _).mono ?_; rintro e w' ⟨rfl, rfl⟩) | (go_at_call 30; refine (zzDigit_any _ _).mono ?_; rintro e w' ⟨rfl, rfl⟩) | (go_at_call 31; refine (afterItem_any _ _).mono ?_; rintro e w' ⟨rfl, rfl⟩) | (go_at_call 32; refine (zzTagSpace_any _ _).mono ?_; rintro e w' ⟨rfl, rfl⟩) | (go_at_call 33; refine (zzAttrStart_any _ _).mono ?_; rintro e w' ⟨rfl, rfl⟩) | (go_at_call 34; refine (zzAttrChar_any _ _).mono ?_; rintro e w' ⟨rfl, rfl⟩) | (go_at_call 35; refine (afterName_any _ _).mono ?_; rintro e w' ⟨rfl, rfl⟩) | (go_at_call 36; refine (zzUnquoted_any _ _).mono ?_; rintro e w' ⟨rfl, rfl⟩))
  all_goals (go_ret; refine ⟨ret_int ?_, rfl⟩)
  all_goals (simp only [Pl.step, Pl.nchar, e62, e47, e61, e34, e39, b45]; simp [*])

set_option maxHeartbeats 400000 in
theorem step14 (b : UInt8) (w : World) : Calls Try.prog 21 #[.int .i64 ((14 : Nat) : Int), .int .u8 b.toNat] w fun e w' => e = .returned (.int .i64 (Pl.step 14 b)) ∧ w' = w := by
  go_enter Try.func21, Try.ntmps21
  go_wp2_with (first | (go_at_call 29; refine (zzLetter_any _ _).mono ?_; rintro e w' ⟨rfl, rfl⟩) | (go_at_call 30; refine (zzDigit_any _ _).mono ?_; rintro e w' ⟨rfl, rfl⟩) | (go_at_call 31; refine (afterItem_any _ _).mono ?_; rintro e w' ⟨rfl, rfl⟩) | (go_at_call 32; refine (zzTagSpace_any _ _).mono ?_; rintro e w' ⟨rfl, rfl⟩) | (go_at_call 33; refine (zzAttrStart_any _ _).mono ?_; rintro e w' ⟨rfl, rfl⟩) | (go_at_call 34; refine (zzAttrChar_any _ _).mono ?_; rintro e w' ⟨rfl, rfl⟩) | (go_at_call 35; refine (afterName_any _ _).mono ?_; rintro e w' ⟨rfl, rfl⟩) | (go_at_call 36; refine (zzUnquoted_any _ _).mono ?_; rintro e w' ⟨rfl, rfl⟩))
  all_goals (go_ret; refine ⟨ret_int ?_, rfl⟩)
  all_goals (simp only [Pl.step, Pl.nchar, e62, e47, e61, e34, e39, b45]; simp [*])

set_option maxHeartbeats 400000 in
theorem step15 (b : UInt8) (w : World) : Calls Try.prog 21 #[.int .i64 ((15 : Nat) : Int), .int .u8 b.toNat] w fun e w' => e = .returned (.int .i64 (Pl.step 15 b)) ∧ w' = w := by
  go_enter Try.func21, Try.ntmps21
  go_wp2_with (first | (go_at_call 29; refine (zzLetter_any _ _).mono ?_; rintro e w' ⟨rfl, rfl⟩) | (go_at_call 30; refine (zzDigit_any _ _).mono ?_; rintro e w' ⟨rfl, rfl⟩) | (go_at_call 31; refine (afterItem_any _ _).mono ?_; rintro e w' ⟨rfl, rfl⟩) | (go_at_call 32; refine (zzTagSpace_any _ _).mono ?_; rintro e w' ⟨rfl, rfl⟩) | (go_at_call 33; refine (zzAttrStart_any _ _).mono ?_; rintro e w' ⟨rfl, rfl⟩) | (go_at_call 34; refine (zzAttrChar_any _ _).mono ?_; rintro e w' ⟨rfl, rfl⟩) | (go_at_call 35; refine (afterName_any _ _).mono ?_; rintro e w' ⟨rfl, rfl⟩) | (go_at_call 36; refine (zzUnquoted_any _ _).mono ?_; rintro e w' ⟨rfl, rfl⟩))
  all_goals (go_ret; refine ⟨ret_int ?_, rfl⟩)
  all_goals (simp only [Pl.step, Pl.nchar, e62, e47, e61, e34, e39, b45]; simp [*])

set_option maxHeartbeats 400000 in
theorem step16 (b : UInt8) (w : World) : Calls Try.prog 21 #[.int .i64 ((16 : Nat) : Int), .int .u8 b.toNat] w fun e w' => e = .returned (.int .i64 (Pl.step 16 b)) ∧ w' = w := by
  go_enter Try.func21, Try.ntmps21
  go_wp2_with (first | (go_at_call 29; refine (zzLetter_any _ _).mono ?_; rintro e w' ⟨rfl, rfl⟩) | (go_at_call 30; refine (zzDigit_any _ _).mono ?_; rintro e w' ⟨rfl, rfl⟩) | (go_at_call 31; refine (afterItem_any _ _).mono ?_; rintro e w' ⟨rfl, rfl⟩) | (go_at_call 32; refine (zzTagSpace_any _ _).mono ?_; rintro e w' ⟨rfl, rfl⟩) | (go_at_call 33; refine (zzAttrStart_any _ _).mono ?_; rintro e w' ⟨rfl, rfl⟩) | (go_at_call 34; refine (zzAttrChar_any _ _).mono ?_; rintro e w' ⟨rfl, rfl⟩) | (go_at_call 35; refine (afterName_any _ _).mono ?_; rintro e w' ⟨rfl, rfl⟩) | (go_at_call 36; refine (zzUnquoted_any _ _).mono ?_; rintro e w' ⟨rfl, rfl⟩))
  all_goals (go_ret; refine ⟨ret_int ?_, rfl⟩)
  all_goals (simp only [Pl.step, Pl.nchar, e62, e47, e61, e34, e39, b45]; simp [*])

theorem step_any (a : Nat) (b : UInt8) (w : World) (h2 : 2 ≤ a) (h16 : a ≤ 16) : Calls Try.prog 21 #[.int .i64 (a : Int), .int .u8 b.toNat] w fun e w' => e = .returned (.int .i64 (Pl.step a b)) ∧ w' = w := by
  obtain rfl | rfl | rfl | rfl | rfl | rfl | rfl | rfl | rfl | rfl | rfl | rfl | rfl | rfl | rfl : a = 2 ∨ a = 3 ∨ a = 4 ∨ a = 5 ∨ a = 6 ∨ a = 7 ∨ a = 8 ∨ a = 9 ∨ a = 10 ∨ a = 11 ∨ a = 12 ∨ a = 13 ∨ a = 14 ∨ a = 15 ∨ a = 16 := by omega
  · exact step2 b w
  · exact step3 b w
  · exact step4 b w
  · exact step5 b w
  · exact step6 b w
  · exact step7 b w
  · exact step8 b w
  · exact step9 b w
  · exact step10 b w
  · exact step11 b w
  · exact step12 b w
  · exact step13 b w
  · exact step14 b w
  · exact step15 b w
  · exact step16 b w

end Go.Proofs.Qxb6000088a
