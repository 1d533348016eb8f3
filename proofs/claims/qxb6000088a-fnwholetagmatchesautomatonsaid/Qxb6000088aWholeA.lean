/-
  THE WALK of wholeTag where l opens no open tag: too short, no name, or a closing tag.
-/
import Derived.Test.Qxb6000088aClone
import Derived.Deep.DeepCutAuto
import Derived.Deep.CutBlock
namespace Go.Proofs.Qxb6000088a
open Go.RowKit

theorem nchar_of (b : UInt8) : Pl.nchar b = (alnum b || ((b.toNat : Int) == 45)) := by
  rw [eq_i b 45 45 rfl]; rfl

theorem ans_short (s : ByteArray) (h : s.size < 2) : Pl.ans s = 0 := by unfold Pl.ans; rw [dif_pos h]
theorem ans_close (s : ByteArray) (h : 1 < s.size) (e : s[1] = 47) : Pl.ans s = Pl.R s 2 14 := by unfold Pl.ans; rw [dif_neg (by omega), if_pos e]
theorem ans_open (s : ByteArray) (h : 1 < s.size) (e : s[1] ≠ 47) : Pl.ans s = Pl.R s 1 2 := by unfold Pl.ans; rw [dif_neg (by omega), if_neg e]

set_option maxHeartbeats 1000000 in
set_option maxRecDepth 100000 in
theorem whole_short (g : Nat) (s : ByteArray) (w : World) (h1 : s.size = 1) :
    Calls Try.prog 20 #[.slice (some ⟨g, 0, none⟩) s.size s.size] w fun e w' => e = .returned (.int .i64 (Pl.ans s : Int)) ∧ w' = w := by
  have HA : Hid (Pl.ans s = 0) := ans_short s (by omega)
  go_enter Try.func20, Try.ntmps20
  go_wp2
  go_ret
  exact ⟨ret_int (by rw [HA.out]; rfl), rfl⟩

set_option maxHeartbeats 1000000 in
set_option maxRecDepth 100000 in
theorem whole_noname (g : Nat) (s : ByteArray) (w : World) (hs : s.size ≤ 1048576) (h1 : 1 < s.size) (hc : Lib.Bytes w g 0 s) (e : s[1] ≠ 47) (hl : Pl.letter s[1] = false) :
    Calls Try.prog 20 #[.slice (some ⟨g, 0, none⟩) s.size s.size] w fun e w' => e = .returned (.int .i64 (Pl.ans s : Int)) ∧ w' = w := by
  have HA : Hid (Pl.ans s = 0) := by show Pl.ans s = 0; rw [ans_open s h1 e]; exact Pl.open_bad s 1 fun _ => hl
  have e47 : ((s[1].toNat : Int) == 47) = false := by rw [eq_i _ 47 47 rfl]; simpa using e
  have n1 : ((1 : Int) == (s.size : Int)) = false := by simp; omega
  have c1 := cell_at hc 1 h1
  clear e
  go_enter Try.func20, Try.ntmps20
  go_wp2_with (go_at_call 24; refine (isLetter_any _ _).mono ?_; rintro e w' ⟨rfl, rfl⟩)
  go_ret
  exact ⟨ret_int (by rw [HA.out]; rfl), rfl⟩

set_option maxHeartbeats 1000000 in
set_option maxRecDepth 100000 in
theorem whole_close_bad (g : Nat) (s : ByteArray) (w : World) (hs : s.size ≤ 1048576) (h1 : 1 < s.size) (hc : Lib.Bytes w g 0 s) (e : s[1] = 47) (hl : ∀ h2 : 2 < s.size, Pl.letter s[2] = false) :
    Calls Try.prog 20 #[.slice (some ⟨g, 0, none⟩) s.size s.size] w fun e w' => e = .returned (.int .i64 (Pl.ans s : Int)) ∧ w' = w := by
  have HA : Hid (Pl.ans s = 0) := by show Pl.ans s = 0; rw [ans_close s h1 e]; exact Pl.close_bad s 2 hl
  have e47 : ((s[1].toNat : Int) == 47) = true := by rw [eq_i _ 47 47 rfl, e]; rfl
  have c1 := cell_at hc 1 h1
  clear e
  by_cases h2 : 2 < s.size
  · have n1 : ((2 : Int) == (s.size : Int)) = false := by simp; omega
    have c2 := cell_at hc 2 h2
    have hl2 := hl h2
    clear hl
    go_enter Try.func20, Try.ntmps20
    go_wp2_with (go_at_call 24; refine (isLetter_any _ _).mono ?_; rintro e w' ⟨rfl, rfl⟩)
    go_ret
    exact ⟨ret_int (by rw [HA.out]; rfl), rfl⟩
  · have n1 : ((2 : Int) == (s.size : Int)) = true := by simp; omega
    clear hl
    go_enter Try.func20, Try.ntmps20
    go_wp2
    go_ret
    exact ⟨ret_int (by rw [HA.out]; rfl), rfl⟩

set_option maxHeartbeats 4000000 in
set_option maxRecDepth 100000 in
theorem whole_close (g : Nat) (s : ByteArray) (w : World) (hs : s.size ≤ 1048576) (h1 : 2 < s.size) (hc : Lib.Bytes w g 0 s) (e : s[1] = 47) (hl : Pl.letter s[2] = true) :
    Calls Try.prog 20 #[.slice (some ⟨g, 0, none⟩) s.size s.size] w fun e w' => e = .returned (.int .i64 (Pl.ans s : Int)) ∧ w' = w := by
  have HA : Hid (Pl.ans s = Pl.R s 3 15) := by show Pl.ans s = _; rw [ans_close s (by omega) e]; exact Pl.close_start s 2 h1 hl
  have e47 : ((s[1].toNat : Int) == 47) = true := by rw [eq_i _ 47 47 rfl, e]; rfl
  have c1 := cell_at hc 1 (by omega)
  have n1 : ((2 : Int) == (s.size : Int)) = false := by simp; omega
  have c2 := cell_at hc 2 h1
  clear e
  go_enter Try.func20, Try.ntmps20
  go_upto_block 0 with (go_at_call 24; refine (isLetter_any _ _).mono ?_; rintro e w' ⟨rfl, rfl⟩)
  go_cut [3] (fun v wc => ∃ i : Nat, v = .int .i64 i ∧ i ≤ s.size ∧ Hid (Pl.ans s = Pl.R s i 15) ∧ Hid (∀ hi : i < s.size, Pl.nchar s[i] = false) ∧ wc = w')
  case first =>
    go_wp2_with fail
    go_loop [3] (fun v => ∃ i : Nat, v = .int .i64 i ∧ i ≤ s.size ∧ Hid (Pl.ans s = Pl.R s i 15)) (fun v => s.size - (intOf v).toNat)
    case atStart => exact ⟨3, rfl, by omega, HA⟩
    case round =>
      clear HA c1 c2
      obtain ⟨i, rfl, hi, HI⟩ := hrel
      by_cases hlt : i < s.size
      · have c3 := cell_at hc i hlt
        cases ha : alnum s[i]
        · cases h45 : ((s[i].toNat : Int) == 45)
          · have HN : Hid (∀ hi : i < s.size, Pl.nchar s[i] = false) := fun _ => by rw [nchar_of, ha, h45]; rfl
            go_wp2_with (go_at_call 25; refine (isAlnum_any _ _).mono ?_; rintro e w' ⟨rfl, rfl⟩)
            go_meet
            case rel => exact ⟨i, rfl, hi, HI, HN, rfl⟩
          · have HN : Hid (Pl.ans s = Pl.R s (i + 1) 15) := by show Pl.ans s = _; rw [HI.out]; exact Pl.cname_more s i hlt (by rw [nchar_of, ha, h45]; rfl)
            go_wp2_with (go_at_call 25; refine (isAlnum_any _ _).mono ?_; rintro e w' ⟨rfl, rfl⟩)
            go_round
            case rel => exact ⟨i + 1, by go_num, by omega, HN⟩
            case measure => simp [intOf]; omega
        · have HN : Hid (Pl.ans s = Pl.R s (i + 1) 15) := by show Pl.ans s = _; rw [HI.out]; exact Pl.cname_more s i hlt (by rw [nchar_of, ha]; rfl)
          go_wp2_with (go_at_call 25; refine (isAlnum_any _ _).mono ?_; rintro e w' ⟨rfl, rfl⟩)
          go_round
          case rel => exact ⟨i + 1, by go_num, by omega, HN⟩
          case measure => simp [intOf]; omega
      · have HN : Hid (∀ hi : i < s.size, Pl.nchar s[i] = false) := fun h => absurd h hlt
        go_wp2
        go_meet
        case rel => exact ⟨i, rfl, hi, HI, HN, rfl⟩
  case rest =>
    clear HA c1 c2
    obtain ⟨i, rfl, hi, HI, HN, rfl⟩ := hcut
    obtain ⟨j, hsk⟩ := skip_ex s _ i hi rfl
    have HJ : Hid (Calls Try.prog 26 #[.slice (some ⟨g, 0, none⟩) s.size s.size, .int .i64 (i : Int)] wc fun e w' => e = .returned (.int .i64 (j : Int)) ∧ w' = wc) := skip_walk g s i j wc hs hc hsk
    have hj2 := hsk.2.1
    have HK : Hid (Pl.Skip s i j) := hsk
    clear hsk
    by_cases hj : j < s.size
    · have c3 := cell_at hc j hj
      by_cases e62 : s[j] = 62
      · have HF : Hid (Pl.ans s = j + 1) := by show Pl.ans s = _; rw [HI.out]; exact Pl.cname_yes s i j HN.out HK.out hj e62
        have f62 : ((s[j].toNat : Int) == 62) = true := by rw [eq_i _ 62 62 rfl, e62]; rfl
        clear e62
        go_wp2_with (go_at_call 26; refine HJ.out.mono ?_; rintro e w' ⟨rfl, rfl⟩)
        go_ret
        exact ⟨ret_int (by rw [HF.out]; simp), rfl⟩
      · have HF : Hid (Pl.ans s = 0) := by show Pl.ans s = _; rw [HI.out]; exact Pl.cname_no s i j HN.out HK.out fun _ => e62
        have f62 : ((s[j].toNat : Int) == 62) = false := by rw [eq_i _ 62 62 rfl]; simpa using e62
        clear e62
        go_wp2_with (go_at_call 26; refine HJ.out.mono ?_; rintro e w' ⟨rfl, rfl⟩)
        go_ret
        exact ⟨ret_int (by rw [HF.out]; rfl), rfl⟩
    · have HF : Hid (Pl.ans s = 0) := by show Pl.ans s = _; rw [HI.out]; exact Pl.cname_no s i j HN.out HK.out fun h => absurd h hj
      go_wp2_with (go_at_call 26; refine HJ.out.mono ?_; rintro e w' ⟨rfl, rfl⟩)
      go_ret
      exact ⟨ret_int (by rw [HF.out]; rfl), rfl⟩

end Go.Proofs.Qxb6000088a
