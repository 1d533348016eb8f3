/-
  THE WALKS of the byte classes of the seat b6000088a, and of zzStep.
-/
import Derived.Test.Qxb6000088aRows
import Derived.Test.Qxb6000088aPlain
import Derived.Test.Qxb6000088aShelf
import Derived.WalkKit
import Derived.WalkSpells
import Derived.WalkLawsBesides
namespace Go.Proofs.Qxb6000088a
open Go.RowKit

theorem ret_bool {a b : Bool} (h : a = b) : Ending.returned (.bool a) = .returned (.bool b) := by rw [h]
theorem ret_int {k : IntKind} {a b : Int} (h : a = b) : Ending.returned (.int k a) = .returned (.int k b) := by rw [h]
theorem byte_eq_int (b c : UInt8) : ((b.toNat : Int) == (c.toNat : Int)) = (b == c) := by
  rw [Bool.eq_iff_iff]
  simp only [beq_iff_eq]
  constructor
  · intro h; exact UInt8.toNat_inj.1 (by omega)
  · rintro rfl; rfl
theorem neq_i (a : UInt8) (c : UInt8) (n : Int) (hn : (c.toNat : Int) = n) : ((a.toNat : Int) != n) = !(a == c) := by rw [← hn, bne, byte_eq_int a c]
theorem eq_i (a : UInt8) (c : UInt8) (n : Int) (hn : (c.toNat : Int) = n) : ((a.toNat : Int) == n) = (a == c) := by rw [← hn, byte_eq_int a c]

theorem beq_nat (b c : UInt8) : (b == c) = decide (b.toNat = c.toNat) := by
  rw [Bool.eq_iff_iff]; simp [UInt8.toNat_inj]

def letterN (n : Nat) : Bool := (decide (97 ≤ n) && decide (n ≤ 122)) || (decide (65 ≤ n) && decide (n ≤ 90))
theorem or32_all : ∀ n : Fin 256, (decide (97 ≤ bits BinOp.or IntKind.u8 ((n.val : Nat) : Int) 32) && decide (bits BinOp.or IntKind.u8 ((n.val : Nat) : Int) 32 ≤ 122)) = letterN n.val := by decide +kernel
theorem or32 (b : UInt8) : (decide (97 ≤ bits BinOp.or IntKind.u8 (b.toNat : Int) 32) && decide (bits BinOp.or IntKind.u8 (b.toNat : Int) 32 ≤ 122)) = Pl.letter b :=
  or32_all ⟨b.toNat, b.toNat_lt⟩

set_option maxHeartbeats 400000 in
theorem zzLetter_any (b : UInt8) (w : World) : Calls Try.prog 29 #[.int .u8 b.toNat] w fun e w' => e = .returned (.bool (Pl.letter b)) ∧ w' = w := by
  go_enter Try.func29, Try.ntmps29
  go_wp2
  all_goals (go_ret; refine ⟨ret_bool ?_, rfl⟩)
  all_goals (rw [Bool.eq_iff_iff]; simp [Pl.letter] <;> omega)

set_option maxHeartbeats 400000 in
theorem isLetter_any (b : UInt8) (w : World) : Calls Try.prog 24 #[.int .u8 b.toNat] w fun e w' => e = .returned (.bool (Pl.letter b)) ∧ w' = w := by
  go_enter Try.func24, Try.ntmps24
  go_wp2
  all_goals (go_ret; refine ⟨ret_bool ?_, rfl⟩)
  all_goals (rw [← or32 b, Bool.eq_iff_iff]; simp <;> omega)

set_option maxHeartbeats 400000 in
theorem zzDigit_any (b : UInt8) (w : World) : Calls Try.prog 30 #[.int .u8 b.toNat] w fun e w' => e = .returned (.bool (Pl.digit b)) ∧ w' = w := by
  go_enter Try.func30, Try.ntmps30
  go_wp2
  all_goals (go_ret; refine ⟨ret_bool ?_, rfl⟩)
  all_goals (rw [Bool.eq_iff_iff]; simp [Pl.digit] <;> omega)

set_option maxHeartbeats 400000 in
theorem zzTagSpace_any (b : UInt8) (w : World) : Calls Try.prog 32 #[.int .u8 b.toNat] w fun e w' => e = .returned (.bool (Pl.sp b)) ∧ w' = w := by
  go_enter Try.func32, Try.ntmps32
  go_wp2
  all_goals (go_ret; refine ⟨ret_bool ?_, rfl⟩)
  all_goals (rw [Bool.eq_iff_iff]; simp [Pl.sp, beq_nat] <;> omega)

set_option maxHeartbeats 400000 in
theorem zzAttrStart_any (b : UInt8) (w : World) : Calls Try.prog 33 #[.int .u8 b.toNat] w fun e w' => e = .returned (.bool (Pl.astart b)) ∧ w' = w := by
  go_enter Try.func33, Try.ntmps33
  go_wp2_with (go_at_call 29; refine (zzLetter_any _ _).mono ?_; rintro e w' ⟨rfl, rfl⟩)
  all_goals (go_ret; refine ⟨ret_bool ?_, rfl⟩)
  all_goals (rw [Bool.eq_iff_iff]; simp [Pl.astart, beq_nat, *] <;> omega)

set_option maxHeartbeats 400000 in
theorem zzAttrChar_any (b : UInt8) (w : World) : Calls Try.prog 34 #[.int .u8 b.toNat] w fun e w' => e = .returned (.bool (Pl.achar b)) ∧ w' = w := by
  go_enter Try.func34, Try.ntmps34
  go_wp2_with (first | (go_at_call 29; refine (zzLetter_any _ _).mono ?_; rintro e w' ⟨rfl, rfl⟩) | (go_at_call 30; refine (zzDigit_any _ _).mono ?_; rintro e w' ⟨rfl, rfl⟩))
  all_goals (go_ret; refine ⟨ret_bool ?_, rfl⟩)
  all_goals (rw [Bool.eq_iff_iff]; simp [Pl.achar, beq_nat, *] <;> omega)

set_option maxHeartbeats 400000 in
theorem zzUnquoted_any (b : UInt8) (w : World) : Calls Try.prog 36 #[.int .u8 b.toNat] w fun e w' => e = .returned (.bool (Pl.unq b)) ∧ w' = w := by
  go_enter Try.func36, Try.ntmps36
  go_wp2
  all_goals (go_ret; refine ⟨ret_bool ?_, rfl⟩)
  all_goals (rw [Bool.eq_iff_iff]; simp [Pl.unq, beq_nat] <;> omega)


def alnum (b : UInt8) : Bool := Pl.letter b || Pl.digit b
set_option maxHeartbeats 400000 in
theorem isAlnum_any (b : UInt8) (w : World) : Calls Try.prog 25 #[.int .u8 b.toNat] w fun e w' => e = .returned (.bool (alnum b)) ∧ w' = w := by
  go_enter Try.func25, Try.ntmps25
  go_wp2_with (go_at_call 24; refine (isLetter_any _ _).mono ?_; rintro e w' ⟨rfl, rfl⟩)
  all_goals (go_ret; refine ⟨ret_bool ?_, rfl⟩)
  all_goals (rw [Bool.eq_iff_iff]; simp [alnum, Pl.digit, *] <;> omega)

theorem e62 (b : UInt8) : (b = 62) = (((b.toNat : Int) == 62) = true) := by rw [eq_i b 62 62 rfl]; simp
theorem e47 (b : UInt8) : (b = 47) = (((b.toNat : Int) == 47) = true) := by rw [eq_i b 47 47 rfl]; simp
theorem e61 (b : UInt8) : (b = 61) = (((b.toNat : Int) == 61) = true) := by rw [eq_i b 61 61 rfl]; simp
theorem e34 (b : UInt8) : (b = 34) = (((b.toNat : Int) == 34) = true) := by rw [eq_i b 34 34 rfl]; simp
theorem e39 (b : UInt8) : (b = 39) = (((b.toNat : Int) == 39) = true) := by rw [eq_i b 39 39 rfl]; simp
theorem b45 (b : UInt8) : (b == 45) = ((b.toNat : Int) == 45) := (eq_i b 45 45 rfl).symm

set_option maxHeartbeats 400000 in
theorem afterItem_any (b : UInt8) (w : World) : Calls Try.prog 31 #[.int .u8 b.toNat] w fun e w' => e = .returned (.int .i64 (Pl.afterItem b)) ∧ w' = w := by
  go_enter Try.func31, Try.ntmps31
  go_wp2_with (go_at_call 32; refine (zzTagSpace_any _ _).mono ?_; rintro e w' ⟨rfl, rfl⟩)
  all_goals (go_ret; refine ⟨ret_int ?_, rfl⟩)
  all_goals (simp only [Pl.afterItem, e62, e47]; simp [*])

set_option maxHeartbeats 400000 in
theorem afterName_any (b : UInt8) (w : World) : Calls Try.prog 35 #[.int .u8 b.toNat] w fun e w' => e = .returned (.int .i64 (Pl.afterName b)) ∧ w' = w := by
  go_enter Try.func35, Try.ntmps35
  go_wp2_with (go_at_call 32; refine (zzTagSpace_any _ _).mono ?_; rintro e w' ⟨rfl, rfl⟩)
  all_goals (go_ret; refine ⟨ret_int ?_, rfl⟩)
  all_goals (simp only [Pl.afterName, e62, e47, e61]; simp [*])

end Go.Proofs.Qxb6000088a
