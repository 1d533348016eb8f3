/-
  THE WALK of scanWord and modelWord: the model's own automaton answers as 'Pl.sw' says.
-/
import Derived.Test.Qxb6603031aWord
import Derived.Laws.IdiomStrings
import Derived.Laws.BytesArg
namespace Go.Proofs.Qxb6603031a
open Go.RowKit

theorem info5 : (Try.prog.info? 5).map (fun i => (i.zero, i.size, i.bytes)) = some (some (.int .u8 0), 1, 1) := by kernel_rfl

set_option maxHeartbeats 400000 in
theorem esc_any (b : UInt8) (w : World) :
    Calls Try.prog 24 #[.int .u8 b.toNat] w fun e w' => e = .returned (.bool (Pl.esc b)) ∧ w' = w := by
  have E : Hid (Pl.esc b = ((((b.toNat : Int) == 36) || ((b.toNat : Int) == 96)) || ((b.toNat : Int) == 34) || ((b.toNat : Int) == 92))) := by
    show Pl.esc b = _
    unfold Pl.esc
    rw [eq_i b 36 36 rfl, eq_i b 96 96 rfl, eq_i b 34 34 rfl, eq_i b 92 92 rfl]
  cases h1 : ((b.toNat : Int) == 36)
  · cases h2 : ((b.toNat : Int) == 96)
    · cases h3 : ((b.toNat : Int) == 34)
      · go_enter Try.func24, Try.ntmps24
        go_wp2
        go_ret
        exact ⟨ret_bool (by rw [E.out]; simp [h1, h2, h3]), rfl⟩
      · go_enter Try.func24, Try.ntmps24
        go_wp2
        go_ret
        exact ⟨ret_bool (by rw [E.out]; simp [h3]), rfl⟩
    · go_enter Try.func24, Try.ntmps24
      go_wp2
      go_ret
      exact ⟨ret_bool (by rw [E.out]; simp [h2]), rfl⟩
  · go_enter Try.func24, Try.ntmps24
    go_wp2
    go_ret
    exact ⟨ret_bool (by rw [E.out]; simp [h1]), rfl⟩

def ScanPost (s : ByteArray) (w : World) (e : Ending) (w' : World) : Prop :=
  (∃ (o : Value) (acc : List UInt8) (k : Nat), e = .returned (.tuple #[o, .int .i64 k, .bool true]) ∧ w'.ownsRow w.heap.size 5 1 o acc.length (Lib.byteCells acc) ∧ k ≤ s.size ∧ Pl.sw s.data.toList 0 = some (acc, s.data.toList.drop k)) ∨
  (∃ k : Nat, e = .returned (.tuple #[.slice none 0 0, .int .i64 k, .bool false]) ∧ Pl.sw s.data.toList 0 = none)

def Scan (s : ByteArray) (st : Nat) (w : World) (k : Nat) (acc : List UInt8) (o : Value) (wr : World) : Prop :=
  wr.ownsRow w.heap.size 5 1 o acc.length (Lib.byteCells acc) ∧ Below w.heap.size w wr ∧ Pl.sw s.data.toList 0 = Pl.pre acc (Pl.sw (s.data.toList.drop k) st) ∧ acc.length ≤ k

section
variable {s : ByteArray} {st st' : Nat} {w : World} {k k' : Nat} {acc : List UInt8} {o : Value} {wr : World}

theorem Scan.wrote {w3 : World} {v' : Value} {b : UInt8} {X : Obj} (h : Scan s st w k acc o wr) (hown' : w3.ownsRow w.heap.size 5 1 v' (acc.length + 1) (Lib.byteCells acc ++ [.int .u8 (b.toNat : Int)]))
    (hg : (wr.alloc X).grownBy w3 o.ownBlock) (hk : k < k') (hsw : Pl.sw (s.data.toList.drop k) st = Pl.pre [b] (Pl.sw (s.data.toList.drop k') st')) : Scan s st' w k' (acc ++ [b]) v' w3 := by
  obtain ⟨a1, a2, a3, a4⟩ := h
  have hz := a2.size
  refine ⟨?_, (a2.alloc hz X).grown hg (by simp; omega) (fun j hj => (a1.lt j hj).1), ?_, by simp; omega⟩
  · rw [Lib.byteCells_append, List.length_append]; exact hown'
  · rw [a3, hsw, Pl.pre_pre]

theorem Scan.moved (h : Scan s st w k acc o wr) (hk : k ≤ k') (hsw : Pl.sw (s.data.toList.drop k) st = Pl.sw (s.data.toList.drop k') st') : Scan s st' w k' acc o wr :=
  ⟨h.1, h.2.1, by rw [h.2.2.1, hsw], by have := h.2.2.2; omega⟩

theorem Scan.exit (h : Scan s 0 w k acc o wr) (hk : k ≤ s.size) (h2 : Pl.sw (s.data.toList.drop k) 0 = some ([], s.data.toList.drop k)) :
    ScanPost s w (.returned (.tuple #[o, .int .i64 k, .bool true])) wr := by
  refine .inl ⟨o, acc, k, rfl, h.1, hk, ?_⟩
  rw [h.2.2.1, h2]; simp [Pl.pre]

theorem Scan.unclosed (h : Scan s st w k acc o wr) (h2 : Pl.sw (s.data.toList.drop k) st = none) :
    ScanPost s w (.returned (.tuple #[.slice none 0 0, .int .i64 k, .bool false])) wr := .inr ⟨k, rfl, by rw [h.2.2.1, h2]; rfl⟩
end

set_option maxHeartbeats 4000000 in
set_option maxRecDepth 100000 in
theorem scan_any (s : ByteArray) (w : World) (hs : s.size ≤ 16777216) :
    Calls Try.prog 22 #[.string s, .int .i64 0] w fun e w' => ScanPost s w e w' ∧ Below w.heap.size w w' := by
  obtain ⟨i0, hi, hz0, hz1, hz2⟩ := info_parts info5
  go_enter Try.func22, Try.ntmps22
  go_wp2
  go_loopw [1, 7, 8] (fun i st o wr => ∃ (k a : Nat) (acc : List UInt8), a < 3 ∧ k ≤ s.size ∧ i = .int .i64 k ∧ st = .int .i64 a ∧ Scan s a w k acc o wr) (fun i _ _ _ => s.size - (intOf i).toNat)
  case atStart =>
    refine ⟨0, 0, [], by omega, Nat.zero_le _, rfl, rfl, ?_, (Below.refl _ w).alloc (Nat.le_refl _) _, by rw [Pl.pre_nil]; rfl, Nat.le_refl _⟩
    exact World.ownsRow_made w #[] 0 (Nat.le_refl _) (Nat.zero_le _) rfl
  case round =>
    obtain ⟨k, a, acc, ha, hk, rfl, rfl, hI⟩ := hrel
    have hal := hI.2.2.2
    have hsz := hI.2.1.size
    by_cases hlt : k < s.size
    · have HD : Hid (s.data.toList.drop k = s[k] :: s.data.toList.drop (k + 1)) := drop_at s k hlt
      obtain rfl | rfl | rfl : a = 0 ∨ a = 1 ∨ a = 2 := by omega
      · -- outside quotes
        cases hbl : Pl.blank s[k]
        · have HB : Hid (Pl.blank s[k] = false) := hbl
          by_cases h39 : s[k] = 39
          · have e39 : ((s[k].toNat : Int) == 39) = true := by rw [eq_i _ 39 39 rfl, h39]; rfl
            have hJ : Scan s 1 w (k + 1) acc u8 wr := hI.moved (by omega) (by rw [HD.out, h39, Pl.sw0_single])
            clear h39
            go_wp2_with (go_at_call 13; refine (isBlank_any _ _).mono ?_; rintro e w' ⟨rfl, rfl⟩)
            go_roundw
            case rel => exact ⟨k + 1, 1, acc, by omega, by omega, by go_num, rfl, hJ⟩
            case measure => simp [intOf]; omega
          · have e39 : ((s[k].toNat : Int) == 39) = false := by rw [eq_i _ 39 39 rfl]; simpa using h39
            by_cases h34 : s[k] = 34
            · have e34 : ((s[k].toNat : Int) == 34) = true := by rw [eq_i _ 34 34 rfl, h34]; rfl
              have hJ : Scan s 2 w (k + 1) acc u8 wr := hI.moved (by omega) (by rw [HD.out, h34, Pl.sw0_double])
              clear h39 h34
              go_wp2_with (go_at_call 13; refine (isBlank_any _ _).mono ?_; rintro e w' ⟨rfl, rfl⟩)
              go_roundw
              case rel => exact ⟨k + 1, 2, acc, by omega, by omega, by go_num, rfl, hJ⟩
              case measure => simp [intOf]; omega
            · have e34 : ((s[k].toNat : Int) == 34) = false := by rw [eq_i _ 34 34 rfl]; simpa using h34
              by_cases h92 : s[k] = 92
              · have e92 : ((s[k].toNat : Int) == 92) = true := by rw [eq_i _ 92 92 rfl, h92]; rfl
                by_cases hk1 : k + 1 < s.size
                · have HM : Hid (Pl.sw (s.data.toList.drop k) 0 = Pl.pre [s[k + 1]] (Pl.sw (s.data.toList.drop (k + 2)) 0)) := by
                    show _ = _
                    rw [HD.out, h92, drop_at s (k + 1) hk1, Pl.sw0_back]
                  clear h39 h34 h92
                  go_wp2_with (first | (go_at_call 13; refine (isBlank_any _ _).mono ?_; rintro e w' ⟨rfl, rfl⟩) | (at_builtin; refine wpList_append_own _ rfl _ _ 30 rfl w.heap.size 5 i0 (.int .u8 0) 1 1 Try.underlying30 hi hz0 hz1 hz2 rfl (by decide) _ _ _ rfl (hI.1.alloc _) _ 1 1 [.int .u8 (s[k + 1].toNat : Int)] rfl rfl (cell_one_new _ _ _) (fun x hx => by simp at hx; subst hx; rfl) (by unfold maxLen; omega) (by omega) (by simp; omega) ?_; intro v' w3 hown' hgrow3 hnil3))
                  go_roundw
                  case rel => exact ⟨k + 2, 0, acc ++ [s[k + 1]], by omega, by omega, by go_num, rfl, hI.wrote hown' hgrow3 (by omega) HM.out⟩
                  case measure => simp [intOf]; omega
                · have HM : Hid (Pl.sw (s.data.toList.drop k) 0 = Pl.pre [s[k]] (Pl.sw (s.data.toList.drop (k + 1)) 0)) := by
                    show _ = _
                    rw [HD.out, drop_end s (k + 1) hk1, h92]; exact Pl.sw0_back_nil
                  clear h39 h34 h92
                  go_wp2_with (first | (go_at_call 13; refine (isBlank_any _ _).mono ?_; rintro e w' ⟨rfl, rfl⟩) | (at_builtin; refine wpList_append_own _ rfl _ _ 30 rfl w.heap.size 5 i0 (.int .u8 0) 1 1 Try.underlying30 hi hz0 hz1 hz2 rfl (by decide) _ _ _ rfl (hI.1.alloc _) _ 1 1 [.int .u8 (s[k].toNat : Int)] rfl rfl (cell_one_new _ _ _) (fun x hx => by simp at hx; subst hx; rfl) (by unfold maxLen; omega) (by omega) (by simp; omega) ?_; intro v' w3 hown' hgrow3 hnil3))
                  go_roundw
                  case rel => exact ⟨k + 1, 0, acc ++ [s[k]], by omega, by omega, by go_num, rfl, hI.wrote hown' hgrow3 (by omega) HM.out⟩
                  case measure => simp [intOf]; omega
              · have e92 : ((s[k].toNat : Int) == 92) = false := by rw [eq_i _ 92 92 rfl]; simpa using h92
                have HM : Hid (Pl.sw (s.data.toList.drop k) 0 = Pl.pre [s[k]] (Pl.sw (s.data.toList.drop (k + 1)) 0)) := by
                  show _ = _
                  rw [HD.out, Pl.sw0_plain _ _ HB.out h39 h34 h92]
                clear h39 h34 h92
                go_wp2_with (first | (go_at_call 13; refine (isBlank_any _ _).mono ?_; rintro e w' ⟨rfl, rfl⟩) | (at_builtin; refine wpList_append_own _ rfl _ _ 30 rfl w.heap.size 5 i0 (.int .u8 0) 1 1 Try.underlying30 hi hz0 hz1 hz2 rfl (by decide) _ _ _ rfl (hI.1.alloc _) _ 1 1 [.int .u8 (s[k].toNat : Int)] rfl rfl (cell_one_new _ _ _) (fun x hx => by simp at hx; subst hx; rfl) (by unfold maxLen; omega) (by omega) (by simp; omega) ?_; intro v' w3 hown' hgrow3 hnil3))
                go_roundw
                case rel => exact ⟨k + 1, 0, acc ++ [s[k]], by omega, by omega, by go_num, rfl, hI.wrote hown' hgrow3 (by omega) HM.out⟩
                case measure => simp [intOf]; omega
        · have HX : Hid (ScanPost s w (.returned (.tuple #[u8, .int .i64 k, .bool true])) wr) := hI.exit hk (by rw [HD.out]; exact Pl.sw0_blank _ _ hbl)
          go_wp2_with (go_at_call 13; refine (isBlank_any _ _).mono ?_; rintro e w' ⟨rfl, rfl⟩)
          go_ret3
          exact ⟨HX.out, hI.2.1⟩
      · -- in single quotes
        by_cases h39 : s[k] = 39
        · have e39 : ((s[k].toNat : Int) == 39) = true := by rw [eq_i _ 39 39 rfl, h39]; rfl
          have hJ : Scan s 0 w (k + 1) acc u8 wr := hI.moved (by omega) (by rw [HD.out, h39, Pl.sw1_end])
          clear h39
          go_wp2
          go_roundw
          case rel => exact ⟨k + 1, 0, acc, by omega, by omega, by go_num, rfl, hJ⟩
          case measure => simp [intOf]; omega
        · have e39 : ((s[k].toNat : Int) == 39) = false := by rw [eq_i _ 39 39 rfl]; simpa using h39
          have HM : Hid (Pl.sw (s.data.toList.drop k) 1 = Pl.pre [s[k]] (Pl.sw (s.data.toList.drop (k + 1)) 1)) := by
            show _ = _
            rw [HD.out, Pl.sw1_plain _ _ h39]
          clear h39
          go_wp2_with (at_builtin; refine wpList_append_own _ rfl _ _ 30 rfl w.heap.size 5 i0 (.int .u8 0) 1 1 Try.underlying30 hi hz0 hz1 hz2 rfl (by decide) _ _ _ rfl (hI.1.alloc _) _ 1 1 [.int .u8 (s[k].toNat : Int)] rfl rfl (cell_one_new _ _ _) (fun x hx => by simp at hx; subst hx; rfl) (by unfold maxLen; omega) (by omega) (by simp; omega) ?_; intro v' w3 hown' hgrow3 hnil3)
          go_roundw
          case rel => exact ⟨k + 1, 1, acc ++ [s[k]], by omega, by omega, by go_num, rfl, hI.wrote hown' hgrow3 (by omega) HM.out⟩
          case measure => simp [intOf]; omega
      · -- in double quotes
        by_cases h34 : s[k] = 34
        · have e34 : ((s[k].toNat : Int) == 34) = true := by rw [eq_i _ 34 34 rfl, h34]; rfl
          have hJ : Scan s 0 w (k + 1) acc u8 wr := hI.moved (by omega) (by rw [HD.out, h34, Pl.sw2_end])
          clear h34
          go_wp2
          go_roundw
          case rel => exact ⟨k + 1, 0, acc, by omega, by omega, by go_num, rfl, hJ⟩
          case measure => simp [intOf]; omega
        · have e34 : ((s[k].toNat : Int) == 34) = false := by rw [eq_i _ 34 34 rfl]; simpa using h34
          by_cases h92 : s[k] = 92
          · have e92 : ((s[k].toNat : Int) == 92) = true := by rw [eq_i _ 92 92 rfl, h92]; rfl
            by_cases hk1 : k + 1 < s.size
            · cases he : Pl.esc s[k + 1]
              · have HM : Hid (Pl.sw (s.data.toList.drop k) 2 = Pl.pre [s[k]] (Pl.sw (s.data.toList.drop (k + 1)) 2)) := by
                  show _ = _
                  rw [HD.out, h92, drop_at s (k + 1) hk1, Pl.sw2_back _ _ he]
                clear h34 h92
                go_wp2_with (first | (go_at_call 24; refine (esc_any _ _).mono ?_; rintro e w' ⟨rfl, rfl⟩) | (at_builtin; refine wpList_append_own _ rfl _ _ 30 rfl w.heap.size 5 i0 (.int .u8 0) 1 1 Try.underlying30 hi hz0 hz1 hz2 rfl (by decide) _ _ _ rfl (hI.1.alloc _) _ 1 1 [.int .u8 (s[k].toNat : Int)] rfl rfl (cell_one_new _ _ _) (fun x hx => by simp at hx; subst hx; rfl) (by unfold maxLen; omega) (by omega) (by simp; omega) ?_; intro v' w3 hown' hgrow3 hnil3))
                go_roundw
                case rel => exact ⟨k + 1, 2, acc ++ [s[k]], by omega, by omega, by go_num, rfl, hI.wrote hown' hgrow3 (by omega) HM.out⟩
                case measure => simp [intOf]; omega
              · have HM : Hid (Pl.sw (s.data.toList.drop k) 2 = Pl.pre [s[k + 1]] (Pl.sw (s.data.toList.drop (k + 2)) 2)) := by
                  show _ = _
                  rw [HD.out, h92, drop_at s (k + 1) hk1, Pl.sw2_esc _ _ he]
                clear h34 h92
                go_wp2_with (first | (go_at_call 24; refine (esc_any _ _).mono ?_; rintro e w' ⟨rfl, rfl⟩) | (at_builtin; refine wpList_append_own _ rfl _ _ 30 rfl w.heap.size 5 i0 (.int .u8 0) 1 1 Try.underlying30 hi hz0 hz1 hz2 rfl (by decide) _ _ _ rfl (hI.1.alloc _) _ 1 1 [.int .u8 (s[k + 1].toNat : Int)] rfl rfl (cell_one_new _ _ _) (fun x hx => by simp at hx; subst hx; rfl) (by unfold maxLen; omega) (by omega) (by simp; omega) ?_; intro v' w3 hown' hgrow3 hnil3))
                go_roundw
                case rel => exact ⟨k + 2, 2, acc ++ [s[k + 1]], by omega, by omega, by go_num, rfl, hI.wrote hown' hgrow3 (by omega) HM.out⟩
                case measure => simp [intOf]; omega
            · have HM : Hid (Pl.sw (s.data.toList.drop k) 2 = Pl.pre [s[k]] (Pl.sw (s.data.toList.drop (k + 1)) 2)) := by
                show _ = _
                rw [HD.out, drop_end s (k + 1) hk1, h92]; exact Pl.sw2_back_nil
              clear h34 h92
              go_wp2_with (at_builtin; refine wpList_append_own _ rfl _ _ 30 rfl w.heap.size 5 i0 (.int .u8 0) 1 1 Try.underlying30 hi hz0 hz1 hz2 rfl (by decide) _ _ _ rfl (hI.1.alloc _) _ 1 1 [.int .u8 (s[k].toNat : Int)] rfl rfl (cell_one_new _ _ _) (fun x hx => by simp at hx; subst hx; rfl) (by unfold maxLen; omega) (by omega) (by simp; omega) ?_; intro v' w3 hown' hgrow3 hnil3)
              go_roundw
              case rel => exact ⟨k + 1, 2, acc ++ [s[k]], by omega, by omega, by go_num, rfl, hI.wrote hown' hgrow3 (by omega) HM.out⟩
              case measure => simp [intOf]; omega
          · have e92 : ((s[k].toNat : Int) == 92) = false := by rw [eq_i _ 92 92 rfl]; simpa using h92
            have HM : Hid (Pl.sw (s.data.toList.drop k) 2 = Pl.pre [s[k]] (Pl.sw (s.data.toList.drop (k + 1)) 2)) := by
              show _ = _
              rw [HD.out, Pl.sw2_plain _ _ h34 h92]
            clear h34 h92
            go_wp2_with (at_builtin; refine wpList_append_own _ rfl _ _ 30 rfl w.heap.size 5 i0 (.int .u8 0) 1 1 Try.underlying30 hi hz0 hz1 hz2 rfl (by decide) _ _ _ rfl (hI.1.alloc _) _ 1 1 [.int .u8 (s[k].toNat : Int)] rfl rfl (cell_one_new _ _ _) (fun x hx => by simp at hx; subst hx; rfl) (by unfold maxLen; omega) (by omega) (by simp; omega) ?_; intro v' w3 hown' hgrow3 hnil3)
            go_roundw
            case rel => exact ⟨k + 1, 2, acc ++ [s[k]], by omega, by omega, by go_num, rfl, hI.wrote hown' hgrow3 (by omega) HM.out⟩
            case measure => simp [intOf]; omega
    · obtain rfl | rfl | rfl : a = 0 ∨ a = 1 ∨ a = 2 := by omega
      · have HX : Hid (ScanPost s w (.returned (.tuple #[u8, .int .i64 k, .bool true])) wr) := hI.exit hk (by rw [drop_end s k hlt]; rfl)
        go_wp2
        go_ret3
        exact ⟨HX.out, hI.2.1⟩
      · have HX : Hid (ScanPost s w (.returned (.tuple #[.slice none 0 0, .int .i64 k, .bool false])) wr) := hI.unclosed (by rw [drop_end s k hlt]; rfl)
        go_wp2
        go_ret3
        exact ⟨HX.out, hI.2.1⟩
      · have HX : Hid (ScanPost s w (.returned (.tuple #[.slice none 0 0, .int .i64 k, .bool false])) wr) := hI.unclosed (by rw [drop_end s k hlt]; rfl)
        go_wp2
        go_ret3
        exact ⟨HX.out, hI.2.1⟩

end Go.Proofs.Qxb6603031a
