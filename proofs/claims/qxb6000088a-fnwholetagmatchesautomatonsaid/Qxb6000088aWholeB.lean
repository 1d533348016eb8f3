/-
  THE WALK of wholeTag at an open tag.
-/
import Derived.Test.Qxb6000088aWholeA
namespace Go.Proofs.Qxb6000088a
open Go.RowKit

def inA (b : UInt8) : Bool := b == 95 || b == 46 || b == 58 || b == 45
def inU (b : UInt8) : Bool := b == 34 || b == 39 || b == 61 || b == 60 || b == 62 || b == 96

theorem achar_of (b : UInt8) : Pl.achar b = (alnum b || inA b) := by
  unfold Pl.achar alnum inA
  simp only [Bool.or_assoc]
theorem unq_of (b : UInt8) : Pl.unq b = (decide (32 < b.toNat) && !(inU b)) := by
  unfold Pl.unq inU
  simp only [Bool.not_or, Bool.and_assoc]

theorem idxA (d : UInt8) : ∃ q : Int, (inA d = true → 0 ≤ q) ∧ (inA d = false → q = -1) ∧ ∀ w, Calls Try.prog 27 #[.string ⟨#[95, 46, 58, 45]⟩, .int .u8 (d.toNat : Int)] w fun e w' => e = .returned (.int .i64 q) ∧ w' = w := by
  refine ⟨Lib.indexByte [95, 46, 58, 45] d, ?_, ?_, fun w => ?_⟩
  · intro h
    unfold inA at h
    simp only [Bool.or_eq_true, beq_iff_eq] at h
    rcases h with ((rfl | rfl) | rfl) | rfl <;> decide
  · intro h
    unfold inA at h
    simp only [Bool.or_eq_false_iff, beq_eq_false_iff_ne] at h
    obtain ⟨⟨⟨h1, h2⟩, h3⟩, h4⟩ := h
    simp [Lib.indexByte, Ne.symm h1, Ne.symm h2, Ne.symm h3, Ne.symm h4]
  · have := Try.strings_IndexByte ⟨#[95, 46, 58, 45]⟩ (d.toNat : Int) w
    simpa using this
theorem idxU (d : UInt8) : ∃ q : Int, (inU d = true → 0 ≤ q) ∧ (inU d = false → q = -1) ∧ ∀ w, Calls Try.prog 27 #[.string ⟨#[34, 39, 61, 60, 62, 96]⟩, .int .u8 (d.toNat : Int)] w fun e w' => e = .returned (.int .i64 q) ∧ w' = w := by
  refine ⟨Lib.indexByte [34, 39, 61, 60, 62, 96] d, ?_, ?_, fun w => ?_⟩
  · intro h
    unfold inU at h
    simp only [Bool.or_eq_true, beq_iff_eq] at h
    rcases h with ((((rfl | rfl) | rfl) | rfl) | rfl) | rfl <;> decide
  · intro h
    unfold inU at h
    simp only [Bool.or_eq_false_iff, beq_eq_false_iff_ne] at h
    obtain ⟨⟨⟨⟨⟨h1, h2⟩, h3⟩, h4⟩, h5⟩, h6⟩ := h
    simp [Lib.indexByte, Ne.symm h1, Ne.symm h2, Ne.symm h3, Ne.symm h4, Ne.symm h5, Ne.symm h6]
  · have := Try.strings_IndexByte ⟨#[34, 39, 61, 60, 62, 96]⟩ (d.toNat : Int) w
    simpa using this

theorem astart_none {b : UInt8} (h : Pl.astart b = false) : Pl.letter b = false ∧ ((b.toNat : Int) == 95) = false ∧ ((b.toNat : Int) == 58) = false := by
  unfold Pl.astart at h
  rw [eq_i b 95 95 rfl, eq_i b 58 58 rfl]
  simp only [Bool.or_eq_false_iff] at h
  exact ⟨h.1.1, h.1.2, h.2⟩
theorem astart_cases {b : UInt8} (h : Pl.astart b = true) : Pl.letter b = true ∨ (Pl.letter b = false ∧ ((b.toNat : Int) == 95) = true) ∨ (Pl.letter b = false ∧ ((b.toNat : Int) == 95) = false ∧ ((b.toNat : Int) == 58) = true) := by
  unfold Pl.astart at h
  rw [eq_i b 95 95 rfl, eq_i b 58 58 rfl]
  cases h1 : Pl.letter b
  · right
    rw [h1] at h
    cases h2 : (b == 95)
    · right; rw [h2] at h; exact ⟨rfl, rfl, by simpa using h⟩
    · left; exact ⟨rfl, rfl⟩
  · left; rfl

theorem extract_rest (s : ByteArray) (a : Nat) : (s.extract a s.size).data.toList = s.data.toList.drop a := by
  have h : (s.extract a s.size).data.toList = (s.data.toList.take s.size).drop a := by
    simp [ByteArray.data_extract, List.extract_eq_take_drop, List.drop_take]
  rw [h, List.take_of_length_le (by simp)]
theorem at_list (a : ByteArray) (i : Nat) (h : i < a.size) (l : List UInt8) (e : a.data.toList = l) : a[i] = l[i]'(by rw [← e]; simpa using h) := by
  subst e; rfl
/-- bytes.IndexByte of what is left from place k on. -/
theorem idx_rest (g : Nat) (s : ByteArray) (k : Nat) (q : UInt8) (w : World) (hc : Lib.Bytes w g 0 s) :
    Calls Try.prog 28 #[.slice (some ⟨g, k, none⟩) (s.size - k) (s.size - k), .int .u8 (q.toNat : Int)] w fun e w' => e = .returned (.int .i64 (Lib.indexByte (s.data.toList.drop k) q)) ∧ w' = w := by
  have hsz : (s.extract k s.size).size = s.size - k := by simp
  have hb : Lib.Bytes w g k (s.extract k s.size) := by
    intro i hi
    have hi' : k + i < s.size := by rw [hsz] at hi; omega
    have h := hc (k + i) hi'
    rw [Nat.zero_add] at h
    rw [h, at_list _ i hi _ (extract_rest s k), List.getElem_drop]
    rfl
  have h := Try.bytes_IndexByte_bytes g k (s.size - k) (s.extract k s.size) (q.toNat : Int) w hb
  have e2 : ((q.toNat : Int).toNat).toUInt8 = q := by simp
  rw [hsz, extract_rest, e2] at h
  exact h
theorem idx_none (g : Nat) (s : ByteArray) (k : Nat) (q : UInt8) (w : World) (hk : ¬ k < s.size) :
    Calls Try.prog 28 #[.slice (some ⟨g, 0, none⟩) 0 0, .int .u8 (q.toNat : Int)] w fun e w' => e = .returned (.int .i64 (Lib.indexByte (s.data.toList.drop k) q)) ∧ w' = w := by
  have h := Try.bytes_IndexByte_bytes g 0 0 ByteArray.empty (q.toNat : Int) w (fun i hi => absurd hi (by simp))
  have e1 : s.data.toList.drop k = [] := by rw [List.drop_of_length_le]; simp; omega
  rw [e1]
  exact h

set_option maxHeartbeats 4000000 in
set_option maxRecDepth 100000 in
theorem whole_open (g : Nat) (s : ByteArray) (w : World) (hs : s.size ≤ 1048576) (h1 : 1 < s.size) (hc : Lib.Bytes w g 0 s) (e : s[1] ≠ 47) (hl : Pl.letter s[1] = true) :
    Calls Try.prog 20 #[.slice (some ⟨g, 0, none⟩) s.size s.size] w fun e w' => e = .returned (.int .i64 (Pl.ans s : Int)) ∧ w' = w := by
  have HA : Hid (Pl.ans s = Pl.R s 2 3) := by show Pl.ans s = _; rw [ans_open s h1 e]; exact Pl.open_start s 1 h1 hl
  have e47 : ((s[1].toNat : Int) == 47) = false := by rw [eq_i _ 47 47 rfl]; simpa using e
  have c1 := cell_at hc 1 h1
  have n1 : ((1 : Int) == (s.size : Int)) = false := by simp; omega
  clear e
  go_enter Try.func20, Try.ntmps20
  go_upto_block 0 with (go_at_call 24; refine (isLetter_any _ _).mono ?_; rintro e w' ⟨rfl, rfl⟩)
  go_cut [3] (fun v wc => ∃ i : Nat, v = .int .i64 i ∧ i ≤ s.size ∧ Hid (Pl.ans s = Pl.R s i 4) ∧ wc = w')
  case first => as_aux_lemma =>
    go_wp2_with fail
    go_loop [3] (fun v => ∃ i : Nat, v = .int .i64 i ∧ i ≤ s.size ∧ Hid (Pl.ans s = Pl.R s i 3)) (fun v => s.size - (intOf v).toNat)
    case atStart => exact ⟨2, rfl, by omega, HA⟩
    case round =>
      clear HA c1
      obtain ⟨i, rfl, hi, HI⟩ := hrel
      by_cases hlt : i < s.size
      · have c3 := cell_at hc i hlt
        cases ha : alnum s[i]
        · cases h45 : ((s[i].toNat : Int) == 45)
          · have HN : Hid (Pl.ans s = Pl.R s i 4) := by show Pl.ans s = _; rw [HI.out]; exact Pl.name_end s i fun _ => by rw [nchar_of, ha, h45]; rfl
            go_wp2_with (go_at_call 25; refine (isAlnum_any _ _).mono ?_; rintro e w' ⟨rfl, rfl⟩)
            go_meet
            case rel => exact ⟨i, rfl, hi, HN, rfl⟩
          · have HN : Hid (Pl.ans s = Pl.R s (i + 1) 3) := by show Pl.ans s = _; rw [HI.out]; exact Pl.name_more s i hlt (by rw [nchar_of, ha, h45]; rfl)
            go_wp2_with (go_at_call 25; refine (isAlnum_any _ _).mono ?_; rintro e w' ⟨rfl, rfl⟩)
            go_round
            case rel => exact ⟨i + 1, by go_num, by omega, HN⟩
            case measure => simp [intOf]; omega
        · have HN : Hid (Pl.ans s = Pl.R s (i + 1) 3) := by show Pl.ans s = _; rw [HI.out]; exact Pl.name_more s i hlt (by rw [nchar_of, ha]; rfl)
          go_wp2_with (go_at_call 25; refine (isAlnum_any _ _).mono ?_; rintro e w' ⟨rfl, rfl⟩)
          go_round
          case rel => exact ⟨i + 1, by go_num, by omega, HN⟩
          case measure => simp [intOf]; omega
      · have HN : Hid (Pl.ans s = Pl.R s i 4) := by show Pl.ans s = _; rw [HI.out]; exact Pl.name_end s i fun h => absurd h hlt
        go_wp2
        go_meet
        case rel => exact ⟨i, rfl, hi, HN, rfl⟩
  case rest => as_aux_lemma =>
    clear HA c1 n1 e47 hl
    obtain ⟨i0, rfl, hi0, HI0, rfl⟩ := hcut
    go_wp2_with fail
    go_loop [3] (fun v => ∃ i : Nat, v = .int .i64 i ∧ i ≤ s.size ∧ Hid (Pl.ans s = Pl.R s i 4)) (fun v => s.size - (intOf v).toNat)
    case atStart => exact ⟨i0, rfl, hi0, HI0⟩
    case round =>
      clear HI0 hi0
      obtain ⟨i, rfl, hi, HI⟩ := hrel
      obtain ⟨j, hsk⟩ := skip_ex s _ i hi rfl
      have HJ : Hid (Calls Try.prog 26 #[.slice (some ⟨g, 0, none⟩) s.size s.size, .int .i64 (i : Int)] wc fun e w' => e = .returned (.int .i64 (j : Int)) ∧ w' = wc) := skip_walk g s i j wc hs hc hsk
      have hj1 := hsk.1
      have hj2 := hsk.2.1
      have HK : Hid (Pl.Skip s i j) := hsk
      clear hsk
      go_upto_block 4 with (go_at_call 26; refine HJ.out.mono ?_; rintro e w' ⟨rfl, rfl⟩)
      go_cut [] (fun wd => i < j ∧ j < s.size ∧ Hid (Pl.ans s = Pl.R s (j + 1) 6) ∧ wd = w')
      case first => as_aux_lemma =>
        clear HJ
        by_cases hj : j < s.size
        · have c3 := cell_at hc j hj
          by_cases h62 : s[j] = 62
          · have HF : Hid (Pl.ans s = j + 1) := by show Pl.ans s = _; rw [HI.out]; exact Pl.head_gt s i j HK.out hj h62
            have f62 : ((s[j].toNat : Int) == 62) = true := by rw [eq_i _ 62 62 rfl, h62]; rfl
            clear h62
            go_wp2
            go_ret
            exact ⟨ret_int (by rw [HF.out]; simp), rfl⟩
          · have f62 : ((s[j].toNat : Int) == 62) = false := by rw [eq_i _ 62 62 rfl]; simpa using h62
            have H62 : Hid (s[j] ≠ 62) := h62
            clear h62
            go_upto_region 18 with fail
            by_cases hsl : ∃ hj1 : j + 1 < s.size, s[j] = 47 ∧ s[j + 1] = 62
            · obtain ⟨hjj, a1, a2⟩ := hsl
              have HF : Hid (Pl.ans s = j + 2) := by show Pl.ans s = _; rw [HI.out]; exact Pl.head_sl s i j HK.out hjj a1 a2
              have c4 := cell_at hc (j + 1) hjj
              have f47 : ((s[j].toNat : Int) == 47) = true := by rw [eq_i _ 47 47 rfl, a1]; rfl
              have g62 : ((s[j + 1].toNat : Int) == 62) = true := by rw [eq_i _ 62 62 rfl, a2]; rfl
              clear a1 a2
              go_wp2
              go_ret
              exact ⟨ret_int (by rw [HF.out]; simp), rfl⟩
            · have HSL : Hid (∀ (hj' : j + 1 < s.size), s[j] = 47 → s[j + 1] ≠ 62) := fun h a b => hsl ⟨h, a, b⟩
              clear hsl
              go_cut [92] (fun v wd => v = .bool false ∧ wd = w')
              case first => as_aux_lemma =>
                by_cases hjj : j + 1 < s.size
                · have c4 := cell_at hc (j + 1) hjj
                  by_cases h47 : s[j] = 47
                  · have g62 : ((s[j + 1].toNat : Int) == 62) = false := by rw [eq_i _ 62 62 rfl]; simpa using HSL.out hjj h47
                    have f47 : ((s[j].toNat : Int) == 47) = true := by rw [eq_i _ 47 47 rfl, h47]; rfl
                    clear h47
                    go_wp2
                    go_meet
                    case rel => exact ⟨rfl, rfl⟩
                  · have f47 : ((s[j].toNat : Int) == 47) = false := by rw [eq_i _ 47 47 rfl]; simpa using h47
                    clear h47
                    go_wp2
                    go_meet
                    case rel => exact ⟨rfl, rfl⟩
                · go_wp2
                  go_meet
                  case rel => exact ⟨rfl, rfl⟩
              case rest => as_aux_lemma =>
                obtain ⟨rfl, rfl⟩ := hcut
                have nj : ((j : Int) == (s.size : Int)) = false := by simp; omega
                by_cases hij : j = i
                · have HF : Hid (Pl.ans s = 0) := by show Pl.ans s = _; rw [HI.out]; exact Pl.head_bad s i j HK.out (fun _ => H62.out) HSL.out (.inl hij)
                  have nij : ((j : Int) == (i : Int)) = true := by simp; omega
                  clear hij
                  go_wp2
                  go_ret
                  exact ⟨ret_int (by rw [HF.out]; rfl), rfl⟩
                · have nij : ((j : Int) == (i : Int)) = false := by simp; omega
                  cases ha : Pl.astart s[j]
                  · have HF : Hid (Pl.ans s = 0) := by show Pl.ans s = _; rw [HI.out]; exact Pl.head_bad s i j HK.out (fun _ => H62.out) HSL.out (.inr (.inr ⟨hj, ha⟩))
                    obtain ⟨b1, b2, b3⟩ := astart_none ha
                    clear ha hij
                    go_wp2_with (go_at_call 24; refine (isLetter_any _ _).mono ?_; rintro e w' ⟨rfl, rfl⟩)
                    go_ret
                    exact ⟨ret_int (by rw [HF.out]; rfl), rfl⟩
                  · have hij' : i < j := by omega
                    have HF : Hid (Pl.ans s = Pl.R s (j + 1) 6) := by show Pl.ans s = _; rw [HI.out]; exact Pl.head_attr s i j HK.out hij' hj ha
                    have HC := astart_cases ha
                    clear ha hij
                    rcases HC with b1 | ⟨b1, b2⟩ | ⟨b1, b2, b3⟩
                    · go_wp2_with (go_at_call 24; refine (isLetter_any _ _).mono ?_; rintro e w' ⟨rfl, rfl⟩)
                      go_meet
                      case rel => exact ⟨hij', hj, HF, rfl⟩
                    · go_wp2_with (go_at_call 24; refine (isLetter_any _ _).mono ?_; rintro e w' ⟨rfl, rfl⟩)
                      go_meet
                      case rel => exact ⟨hij', hj, HF, rfl⟩
                    · go_wp2_with (go_at_call 24; refine (isLetter_any _ _).mono ?_; rintro e w' ⟨rfl, rfl⟩)
                      go_meet
                      case rel => exact ⟨hij', hj, HF, rfl⟩
        · have HF : Hid (Pl.ans s = 0) := by show Pl.ans s = _; rw [HI.out]; exact Pl.head_bad s i j HK.out (fun h => absurd h hj) (fun h => absurd h (by omega)) (.inr (.inl (by omega)))
          have nj : ((j : Int) == (s.size : Int)) = true := by simp; omega
          by_cases hij : j = i
          · have nij : ((j : Int) == (i : Int)) = true := by simp; omega
            clear hij
            go_wp2
            go_ret
            exact ⟨ret_int (by rw [HF.out]; rfl), rfl⟩
          · have nij : ((j : Int) == (i : Int)) = false := by simp; omega
            clear hij
            go_wp2
            go_ret
            exact ⟨ret_int (by rw [HF.out]; rfl), rfl⟩
      case rest => as_aux_lemma =>
        clear HJ HK HI
        obtain ⟨hij, hj, HB, rfl⟩ := hcut
        obtain ⟨wo, rfl⟩ : ∃ wo : World, wo = wc := ⟨_, rfl⟩
        go_upto_block 5 with fail
        go_cut [5] (fun v wd => ∃ k : Nat, v = .int .i64 k ∧ j + 1 ≤ k ∧ k ≤ s.size ∧ Hid (Pl.ans s = Pl.R s k 6) ∧ Hid (∀ hk : k < s.size, Pl.achar s[k] = false) ∧ wd = wo)
        case first => as_aux_lemma =>
          go_wp2_with fail
          go_loop [5] (fun v => ∃ k : Nat, v = .int .i64 k ∧ j + 1 ≤ k ∧ k ≤ s.size ∧ Hid (Pl.ans s = Pl.R s k 6)) (fun v => s.size - (intOf v).toNat)
          case atStart => exact ⟨j + 1, by go_num, Nat.le_refl _, hj, HB⟩
          case round =>
            clear HB
            obtain ⟨k, rfl, hk1, hk, HK⟩ := hrel
            by_cases hlt : k < s.size
            · have c3 := cell_at hc k hlt
              cases ha : alnum s[k]
              · obtain ⟨q, hq1, hq2, hcall⟩ := idxA s[k]
                have HQ : Hid (∀ w, Calls Try.prog 27 #[.string ⟨#[95, 46, 58, 45]⟩, .int .u8 (s[k].toNat : Int)] w fun e w' => e = .returned (.int .i64 q) ∧ w' = w) := hcall
                clear hcall
                cases hA : inA s[k]
                · have HN : Hid (∀ hk : k < s.size, Pl.achar s[k] = false) := fun _ => by rw [achar_of, ha, hA]; rfl
                  obtain rfl := hq2 hA
                  clear hq1 hq2
                  go_wp2_with (first | (go_at_call 25; refine (isAlnum_any _ _).mono ?_; rintro e w' ⟨rfl, rfl⟩) | (go_at_call 27; refine (HQ.out _).mono ?_; rintro e w' ⟨rfl, rfl⟩))
                  go_meet
                  case rel => exact ⟨k, rfl, hk1, hk, HK, HN, rfl⟩
                · have HN : Hid (Pl.ans s = Pl.R s (k + 1) 6) := by show Pl.ans s = _; rw [HK.out]; exact Pl.attr_more s k hlt (by rw [achar_of, ha, hA]; rfl)
                  have hq : 0 ≤ q := hq1 hA
                  clear hq1 hq2
                  go_wp2_with (first | (go_at_call 25; refine (isAlnum_any _ _).mono ?_; rintro e w' ⟨rfl, rfl⟩) | (go_at_call 27; refine (HQ.out _).mono ?_; rintro e w' ⟨rfl, rfl⟩))
                  go_round
                  case rel => exact ⟨k + 1, by go_num, by omega, by omega, HN⟩
                  case measure => simp [intOf]; omega
              · have HN : Hid (Pl.ans s = Pl.R s (k + 1) 6) := by show Pl.ans s = _; rw [HK.out]; exact Pl.attr_more s k hlt (by rw [achar_of, ha]; rfl)
                go_wp2_with (go_at_call 25; refine (isAlnum_any _ _).mono ?_; rintro e w' ⟨rfl, rfl⟩)
                go_round
                case rel => exact ⟨k + 1, by go_num, by omega, by omega, HN⟩
                case measure => simp [intOf]; omega
            · have HN : Hid (∀ hk : k < s.size, Pl.achar s[k] = false) := fun h => absurd h hlt
              go_wp2
              go_meet
              case rel => exact ⟨k, rfl, hk1, hk, HK, HN, rfl⟩
        case rest => as_aux_lemma =>
          clear HB
          obtain ⟨k, rfl, hk1, hk, HR6, HN, hwo⟩ := hcut
          obtain ⟨wp, rfl⟩ : ∃ wp : World, wp = wc := ⟨_, rfl⟩
          subst hwo
          obtain ⟨k2, hsk⟩ := skip_ex s _ k hk rfl
          have HJ : Hid (Calls Try.prog 26 #[.slice (some ⟨g, 0, none⟩) s.size s.size, .int .i64 (k : Int)] wp fun e w' => e = .returned (.int .i64 (k2 : Int)) ∧ w' = wp) := skip_walk g s k k2 wp hs hc hsk
          have hk21 := hsk.1
          have hk22 := hsk.2.1
          have HK : Hid (Pl.Skip s k k2) := hsk
          clear hsk
          by_cases heq : ∃ h : k2 < s.size, s[k2] = 61
          · obtain ⟨hlt2, e61⟩ := heq
            have HV : Hid (Pl.ans s = Pl.R s (k2 + 1) 9) := by show Pl.ans s = _; rw [HR6.out]; exact Pl.attr_eq s k k2 HN.out HK.out hlt2 e61
            have c3 := cell_at hc k2 hlt2
            have f61 : ((s[k2].toNat : Int) == 61) = true := by rw [eq_i _ 61 61 rfl, e61]; rfl
            clear e61 HR6 HN HK
            obtain ⟨k3, hsk⟩ := skip_ex s _ (k2 + 1) hlt2 rfl
            have HJ3 : Hid (Calls Try.prog 26 #[.slice (some ⟨g, 0, none⟩) s.size s.size, .int .i64 ((k2 : Int) + 1)] wp fun e w' => e = .returned (.int .i64 (k3 : Int)) ∧ w' = wp) := by
              have h := skip_walk g s (k2 + 1) k3 wp hs hc hsk
              have e : ((k2 + 1 : Nat) : Int) = (k2 : Int) + 1 := by omega
              rw [e] at h
              exact h
            have hk31 := hsk.1
            have hk32 := hsk.2.1
            have HV3 : Hid (Pl.ans s = Pl.R s k3 9) := by show Pl.ans s = _; rw [HV.out]; exact Pl.val_skip s _ _ hsk
            have HS3 : Hid (∀ h : k3 < s.size, Pl.sp s[k3] = false) := hsk.2.2.2
            clear hsk HV
            have tok : True := trivial
            go_upto_region 29 with (first | (go_at_call 26; have _t := tok; refine HJ.out.mono ?_; rintro e w' ⟨rfl, rfl⟩; clear tok HJ) | (go_at_call 26; refine HJ3.out.mono ?_; rintro e w' ⟨rfl, rfl⟩; clear HJ3))
            clear c3 f61
            by_cases hk3 : k3 < s.size
            · have n3 : ((k3 : Int) == (s.size : Int)) = false := by simp; omega
              have c5 := cell_at hc k3 hk3
              by_cases h34 : s[k3] = 34
              · have f34 : ((s[k3].toNat : Int) == 34) = true := by rw [eq_i _ 34 34 rfl, h34]; rfl
                have HQ : Hid (Pl.ans s = Pl.R s (k3 + 1) 10) := by show Pl.ans s = _; rw [HV3.out]; exact Pl.val_dq s k3 hk3 h34
                as_aux_lemma =>
                  have HLW := Pl.quote_law s 34 10 (.inl ⟨rfl, rfl⟩) _ (k3 + 1) rfl
                  by_cases hend : k3 + 1 < s.size
                  · have hne : ¬ s.size = k3 + 1 := by omega
                    obtain ⟨r, hr, H28⟩ : ∃ r : Int, Hid (r = Lib.indexByte (s.data.toList.drop (k3 + 1)) 34) ∧ Hid (∀ w, Lib.Bytes w g 0 s → Calls Try.prog 28 #[.slice (some ⟨g, k3 + 1, none⟩) (s.size - (k3 + 1)) (s.size - (k3 + 1)), .int .u8 (s[k3].toNat : Int)] w fun e w' => e = .returned (.int .i64 r) ∧ w' = w) :=
                      ⟨_, rfl, fun w hcw => by have h := idx_rest g s (k3 + 1) s[k3] w hcw; rw [show Lib.indexByte (s.data.toList.drop (k3 + 1)) s[k3] = Lib.indexByte (s.data.toList.drop (k3 + 1)) 34 from by rw [h34]] at h; exact h⟩
                    by_cases hr1 : r = -1
                    · have HF : Hid (Pl.ans s = 0) := by show Pl.ans s = _; rw [HQ.out]; exact HLW.1 (by rw [← hr.out]; exact hr1)
                      subst hr1
                      clear hr HLW HQ h34 HV3 HS3
                      go_wp2_with (go_at_call 28; refine (H28.out _ hc).mono ?_; rintro e w' ⟨rfl, rfl⟩)
                      go_ret
                      exact ⟨ret_int (by rw [HF.out]; rfl), rfl⟩
                    · have hge := Lib.indexByte_ge (s.data.toList.drop (k3 + 1)) 34
                      rw [← hr.out] at hge
                      obtain ⟨m, rfl⟩ : ∃ m : Nat, r = m := ⟨r.toNat, by omega⟩
                      obtain ⟨hm, hm2⟩ := HLW.2 m hr.out.symm
                      have HF : Hid (Pl.ans s = Pl.R s (k3 + (m + 2)) 4) := by
                        show Pl.ans s = _
                        rw [HQ.out, hm2]
                        congr 1
                        omega
                      clear hr HLW HQ h34 hm2 hr1 hge HV3 HS3
                      go_wp2_with (go_at_call 28; refine (H28.out _ hc).mono ?_; rintro e w' ⟨rfl, rfl⟩)
                      go_round
                      case rel => exact ⟨k3 + (m + 2), by go_num, by omega, HF⟩
                      case measure => simp [intOf]; omega
                  · have H28 : Hid (∀ w, Calls Try.prog 28 #[.slice (some ⟨g, 0, none⟩) (s.size - (k3 + 1)) (s.size - (k3 + 1)), .int .u8 (s[k3].toNat : Int)] w fun e w' => e = .returned (.int .i64 (-1)) ∧ w' = w) := fun w => by
                      rw [show s.size - (k3 + 1) = 0 from by omega]
                      have h := idx_none g s (k3 + 1) s[k3] w hend
                      rw [show s.data.toList.drop (k3 + 1) = [] from by rw [List.drop_of_length_le]; simp; omega] at h
                      exact h
                    have HF : Hid (Pl.ans s = 0) := by show Pl.ans s = _; rw [HQ.out]; exact Pl.R_end s _ _ hend
                    clear HLW HQ h34 HV3 HS3
                    go_wp2_with (go_at_call 28; refine (H28.out _).mono ?_; rintro e w' ⟨rfl, rfl⟩)
                    go_ret
                    exact ⟨ret_int (by rw [HF.out]; rfl), rfl⟩
              · have f34 : ((s[k3].toNat : Int) == 34) = false := by rw [eq_i _ 34 34 rfl]; simpa using h34
                by_cases h39 : s[k3] = 39
                · have f39 : ((s[k3].toNat : Int) == 39) = true := by rw [eq_i _ 39 39 rfl, h39]; rfl
                  have HQ : Hid (Pl.ans s = Pl.R s (k3 + 1) 11) := by show Pl.ans s = _; rw [HV3.out]; exact Pl.val_sq s k3 hk3 h39
                  as_aux_lemma =>
                    have HLW := Pl.quote_law s 39 11 (.inr ⟨rfl, rfl⟩) _ (k3 + 1) rfl
                    by_cases hend : k3 + 1 < s.size
                    · have hne : ¬ s.size = k3 + 1 := by omega
                      obtain ⟨r, hr, H28⟩ : ∃ r : Int, Hid (r = Lib.indexByte (s.data.toList.drop (k3 + 1)) 39) ∧ Hid (∀ w, Lib.Bytes w g 0 s → Calls Try.prog 28 #[.slice (some ⟨g, k3 + 1, none⟩) (s.size - (k3 + 1)) (s.size - (k3 + 1)), .int .u8 (s[k3].toNat : Int)] w fun e w' => e = .returned (.int .i64 r) ∧ w' = w) :=
                        ⟨_, rfl, fun w hcw => by have h := idx_rest g s (k3 + 1) s[k3] w hcw; rw [show Lib.indexByte (s.data.toList.drop (k3 + 1)) s[k3] = Lib.indexByte (s.data.toList.drop (k3 + 1)) 39 from by rw [h39]] at h; exact h⟩
                      by_cases hr1 : r = -1
                      · have HF : Hid (Pl.ans s = 0) := by show Pl.ans s = _; rw [HQ.out]; exact HLW.1 (by rw [← hr.out]; exact hr1)
                        subst hr1
                        clear hr HLW HQ h39 HV3 HS3
                        go_wp2_with (go_at_call 28; refine (H28.out _ hc).mono ?_; rintro e w' ⟨rfl, rfl⟩)
                        go_ret
                        exact ⟨ret_int (by rw [HF.out]; rfl), rfl⟩
                      · have hge := Lib.indexByte_ge (s.data.toList.drop (k3 + 1)) 39
                        rw [← hr.out] at hge
                        obtain ⟨m, rfl⟩ : ∃ m : Nat, r = m := ⟨r.toNat, by omega⟩
                        obtain ⟨hm, hm2⟩ := HLW.2 m hr.out.symm
                        have HF : Hid (Pl.ans s = Pl.R s (k3 + (m + 2)) 4) := by
                          show Pl.ans s = _
                          rw [HQ.out, hm2]
                          congr 1
                          omega
                        clear hr HLW HQ h39 hm2 hr1 hge HV3 HS3
                        go_wp2_with (go_at_call 28; refine (H28.out _ hc).mono ?_; rintro e w' ⟨rfl, rfl⟩)
                        go_round
                        case rel => exact ⟨k3 + (m + 2), by go_num, by omega, HF⟩
                        case measure => simp [intOf]; omega
                    · have H28 : Hid (∀ w, Calls Try.prog 28 #[.slice (some ⟨g, 0, none⟩) (s.size - (k3 + 1)) (s.size - (k3 + 1)), .int .u8 (s[k3].toNat : Int)] w fun e w' => e = .returned (.int .i64 (-1)) ∧ w' = w) := fun w => by
                        rw [show s.size - (k3 + 1) = 0 from by omega]
                        have h := idx_none g s (k3 + 1) s[k3] w hend
                        rw [show s.data.toList.drop (k3 + 1) = [] from by rw [List.drop_of_length_le]; simp; omega] at h
                        exact h
                      have HF : Hid (Pl.ans s = 0) := by show Pl.ans s = _; rw [HQ.out]; exact Pl.R_end s _ _ hend
                      clear HLW HQ h39 HV3 HS3
                      go_wp2_with (go_at_call 28; refine (H28.out _).mono ?_; rintro e w' ⟨rfl, rfl⟩)
                      go_ret
                      exact ⟨ret_int (by rw [HF.out]; rfl), rfl⟩
                · have f39 : ((s[k3].toNat : Int) == 39) = false := by rw [eq_i _ 39 39 rfl]; simpa using h39
                  as_aux_lemma =>
                    have H34 : Hid (s[k3] ≠ 34) := h34
                    have H39 : Hid (s[k3] ≠ 39) := h39
                    clear h34 h39
                    obtain ⟨wq, rfl⟩ : ∃ wq : World, wq = w' := ⟨_, rfl⟩
                    go_upto_block 8 with fail
                    go_cut [6] (fun v wd => ∃ k4 : Nat, v = .int .i64 k4 ∧ k3 ≤ k4 ∧ k4 ≤ s.size ∧ Hid (Pl.ans s = if k4 = k3 then Pl.R s k3 9 else Pl.R s k4 12) ∧ Hid (∀ h : k4 < s.size, Pl.unq s[k4] = false) ∧ wd = wq)
                    case first => as_aux_lemma =>
                      go_wp2_with fail
                      go_loop [6] (fun v => ∃ k4 : Nat, v = .int .i64 k4 ∧ k3 ≤ k4 ∧ k4 ≤ s.size ∧ Hid (Pl.ans s = if k4 = k3 then Pl.R s k3 9 else Pl.R s k4 12)) (fun v => s.size - (intOf v).toNat)
                      case atStart => exact ⟨k3, rfl, Nat.le_refl _, by omega, by rw [if_pos rfl]; exact HV3⟩
                      case round =>
                        obtain ⟨k4, rfl, hk41, hk42, HU⟩ := hrel
                        clear c5 n3
                        by_cases hlt : k4 < s.size
                        · have c6 := cell_at hc k4 hlt
                          by_cases h32 : 32 < s[k4].toNat
                          · have i32 : (32 : Int) < (s[k4].toNat : Int) := by omega
                            obtain ⟨q, hq1, hq2, hcall⟩ := idxU s[k4]
                            have HC27 : Hid (∀ w, Calls Try.prog 27 #[.string ⟨#[34, 39, 61, 60, 62, 96]⟩, .int .u8 (s[k4].toNat : Int)] w fun e w' => e = .returned (.int .i64 q) ∧ w' = w) := hcall
                            clear hcall
                            cases hU : inU s[k4]
                            · obtain rfl := hq2 hU
                              have hun : Pl.unq s[k4] = true := by rw [unq_of, hU, decide_eq_true h32]; rfl
                              have HF : Hid (Pl.ans s = if k4 + 1 = k3 then Pl.R s k3 9 else Pl.R s (k4 + 1) 12) := by
                                show Pl.ans s = _
                                rw [if_neg (by omega), HU.out]
                                by_cases e : k4 = k3
                                · subst e
                                  rw [if_pos rfl]
                                  exact Pl.val_unq s k4 hlt (HS3.out hlt) H34.out H39.out hun
                                · rw [if_neg e]
                                  exact Pl.unq_more s k4 hlt hun
                              clear hq1 hq2 hun
                              go_wp2_with (go_at_call 27; refine (HC27.out _).mono ?_; rintro e w' ⟨rfl, rfl⟩)
                              go_round
                              case rel => exact ⟨k4 + 1, by go_num, by omega, by omega, HF⟩
                              case measure => simp [intOf]; omega
                            · have hq : 0 ≤ q := hq1 hU
                              have HN : Hid (∀ h : k4 < s.size, Pl.unq s[k4] = false) := fun _ => by rw [unq_of, hU]; simp
                              clear hq1 hq2
                              go_wp2_with (go_at_call 27; refine (HC27.out _).mono ?_; rintro e w' ⟨rfl, rfl⟩)
                              go_meet
                              case rel => exact ⟨k4, rfl, hk41, hk42, HU, HN, rfl⟩
                          · have i32 : ¬ (32 : Int) < (s[k4].toNat : Int) := by omega
                            have HN : Hid (∀ h : k4 < s.size, Pl.unq s[k4] = false) := fun _ => by rw [unq_of, decide_eq_false h32]; rfl
                            go_wp2
                            go_meet
                            case rel => exact ⟨k4, rfl, hk41, hk42, HU, HN, rfl⟩
                        · have HN : Hid (∀ h : k4 < s.size, Pl.unq s[k4] = false) := fun h => absurd h hlt
                          go_wp2
                          go_meet
                          case rel => exact ⟨k4, rfl, hk41, hk42, HU, HN, rfl⟩
                    case rest => as_aux_lemma =>
                      obtain ⟨k4, rfl, hk41, hk42, HU, HN, hwq⟩ := hcut
                      subst hwq
                      clear c5
                      by_cases he : k4 = k3
                      · have HF : Hid (Pl.ans s = 0) := by
                          show Pl.ans s = _
                          rw [HU.out, if_pos he]
                          subst he
                          exact Pl.val_bad s k4 hk3 (HS3.out hk3) H34.out H39.out (HN.out hk3)
                        have n4 : ((k4 : Int) == (k3 : Int)) = true := by simp; omega
                        clear he
                        go_wp2
                        go_ret
                        exact ⟨ret_int (by rw [HF.out]; rfl), rfl⟩
                      · have HF : Hid (Pl.ans s = Pl.R s k4 4) := by
                          show Pl.ans s = _
                          rw [HU.out, if_neg he]
                          exact Pl.unq_end s k4 HN.out
                        have n4 : ((k4 : Int) == (k3 : Int)) = false := by simp; omega
                        go_wp2
                        go_round
                        case rel => exact ⟨k4, rfl, hk42, HF⟩
                        case measure => simp [intOf]; omega
            · have HF : Hid (Pl.ans s = 0) := by show Pl.ans s = _; rw [HV3.out]; exact Pl.R_end s k3 9 hk3
              have n3 : ((k3 : Int) == (s.size : Int)) = true := by simp; omega
              go_wp2
              go_ret
              exact ⟨ret_int (by rw [HF.out]; rfl), rfl⟩
          · have heq' : ∀ h : k2 < s.size, s[k2] ≠ 61 := fun h e => heq ⟨h, e⟩
            have HF : Hid (Pl.ans s = Pl.R s k 4) := by show Pl.ans s = _; rw [HR6.out]; exact Pl.attr_none s k k2 HN.out HK.out heq'
            by_cases hlt2 : k2 < s.size
            · have c3 := cell_at hc k2 hlt2
              have f61 : ((s[k2].toNat : Int) == 61) = false := by rw [eq_i _ 61 61 rfl]; simpa using heq' hlt2
              clear heq heq' HR6 HN HK
              go_wp2_with (go_at_call 26; refine HJ.out.mono ?_; rintro e w' ⟨rfl, rfl⟩)
              go_round
              case rel => exact ⟨k, rfl, hk, HF⟩
              case measure => simp [intOf]; omega
            · clear heq heq' HR6 HN HK
              go_wp2_with (go_at_call 26; refine HJ.out.mono ?_; rintro e w' ⟨rfl, rfl⟩)
              go_round
              case rel => exact ⟨k, rfl, hk, HF⟩
              case measure => simp [intOf]; omega

end Go.Proofs.Qxb6000088a
