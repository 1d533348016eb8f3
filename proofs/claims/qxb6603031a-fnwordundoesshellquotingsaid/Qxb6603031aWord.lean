/-
  THE WALK of facts.word: it answers as the word automaton 'Pl.sw' says.
-/
import Derived.Test.Qxb6603031aLeaf
import Derived.Test.Qxb6603031aShelf
import Derived.Deep.RegionWith
namespace Go.Proofs.Qxb6603031a
open Go.RowKit

theorem drop_at (s : ByteArray) (k : Nat) (h : k < s.size) : s.data.toList.drop k = s[k] :: s.data.toList.drop (k + 1) := by
  rw [List.drop_eq_getElem_cons (by simpa using h)]; rfl
theorem drop_end (s : ByteArray) (k : Nat) (h : ¬ k < s.size) : s.data.toList.drop k = [] := by
  rw [List.drop_of_length_le]; simp; omega
theorem extract_list (s : ByteArray) (a b : Nat) : (s.extract a b).data.toList = (s.data.toList.take b).drop a := by
  simp [ByteArray.data_extract, List.extract_eq_take_drop, List.drop_take]
theorem extract_rest (s : ByteArray) (a : Nat) : (s.extract a s.size).data.toList = s.data.toList.drop a := by
  rw [extract_list, List.take_of_length_le (by simp)]
theorem neq_i (a : UInt8) (c : UInt8) (n : Int) (hn : (c.toNat : Int) = n) : ((a.toNat : Int) != n) = !(a == c) := by rw [← hn, bne, byte_eq_int a c]
theorem eq_i (a : UInt8) (c : UInt8) (n : Int) (hn : (c.toNat : Int) = n) : ((a.toNat : Int) == n) = (a == c) := by rw [← hn, byte_eq_int a c]

def WordPost (s : ByteArray) (e : Ending) : Prop :=
  (∃ v r : ByteArray, e = .returned (.tuple #[.string v, .string r, .bool true]) ∧ Pl.sw s.data.toList 0 = some (v.data.toList, r.data.toList)) ∨
  (e = .returned (.tuple #[.string ⟨#[]⟩, .string ⟨#[]⟩, .bool false]) ∧ Pl.sw s.data.toList 0 = none)

theorem post_yes (s : ByteArray) (k : Nat) (acc : List UInt8) (h : Pl.sw s.data.toList 0 = Pl.pre acc (Pl.sw (s.data.toList.drop k) 0)) (h2 : Pl.sw (s.data.toList.drop k) 0 = some ([], s.data.toList.drop k)) :
    WordPost s (.returned (.tuple #[.string ⟨acc.toArray⟩, .string (s.extract k s.size), .bool true])) := by
  refine .inl ⟨_, _, rfl, ?_⟩
  rw [h, h2, extract_rest]; simp [Pl.pre]

/-- What is carried from round to round: the builder holds acc; the automaton, from place k on in state st, says the rest. -/
def Inv (s : ByteArray) (st : Nat) (w : World) (k : Nat) (acc : List UInt8) (wr : World) : Prop :=
  Lib.IsBuilderF 35 5 w.heap.size w.heap.size (Lib.byteCells acc) wr ∧ Below w.heap.size w wr ∧ Pl.sw s.data.toList 0 = Pl.pre acc (Pl.sw (s.data.toList.drop k) st) ∧ acc.length ≤ k

theorem Inv.size {s : ByteArray} {st : Nat} {w : World} {k : Nat} {acc : List UInt8} {wr : World} (h : Inv s st w k acc wr) : w.heap.size < wr.heap.size := by
  rcases h.1 with h | h <;> exact h.lt

theorem Inv.len {s : ByteArray} {st : Nat} {w : World} {k : Nat} {acc : List UInt8} {wr : World} (h : Inv s st w k acc wr) : (Lib.byteCells acc).length ≤ k := by
  rw [Lib.byteCells_length]; exact h.2.2.2

/-- A byte has been written; the automaton has gone on by one or two places. -/
theorem Inv.wrote {s : ByteArray} {st st' : Nat} {w : World} {k k' : Nat} {acc : List UInt8} {wr w1 : World} {b : UInt8} (h : Inv s st w k acc wr)
    (h1 : Lib.BuilderAtF 35 5 w.heap.size w.heap.size (.pointer (some ⟨w.heap.size, 0, none⟩)) (Lib.byteCells acc ++ [.int .u8 (b.toNat : Int)]) w1) (hb : Below w.heap.size wr w1) (hk : k < k')
    (hsw : Pl.sw (s.data.toList.drop k) st = Pl.pre [b] (Pl.sw (s.data.toList.drop k') st')) : Inv s st' w k' (acc ++ [b]) w1 := by
  obtain ⟨_, a2, a3, a4⟩ := h
  refine ⟨?_, a2.trans hb, ?_, by simp; omega⟩
  · rw [Lib.byteCells_append]; exact Or.inr h1
  · rw [a3, hsw, Pl.pre_pre]

/-- The bytes between two single quotes have been written. -/
theorem Inv.wroteS {s : ByteArray} {w : World} {k j : Nat} {acc : List UInt8} {wr w1 : World} (h : Inv s 0 w k acc wr)
    (h1 : Lib.BuilderAtF 35 5 w.heap.size w.heap.size (.pointer (some ⟨w.heap.size, 0, none⟩)) (Lib.byteCells acc ++ Lib.strCells (s.extract (k + 1) (k + 1 + j))) w1) (hb : Below w.heap.size wr w1)
    (hsw : Pl.sw (s.data.toList.drop k) 0 = Pl.pre ((s.data.toList.drop (k + 1)).take j) (Pl.sw ((s.data.toList.drop (k + 1)).drop (j + 1)) 0)) : Inv s 0 w (k + (j + 2)) (acc ++ (s.data.toList.drop (k + 1)).take j) w1 := by
  obtain ⟨_, a2, a3, a4⟩ := h
  refine ⟨?_, a2.trans hb, ?_, by simp; omega⟩
  · have e : (s.extract (k + 1) (k + 1 + j)).data.toList = (s.data.toList.drop (k + 1)).take j := by
      rw [extract_list, List.drop_take, show k + 1 + j - (k + 1) = j from by omega]
    rw [Lib.strCells_eq, e] at h1
    rw [Lib.byteCells_append]; exact Or.inr h1
  · rw [a3, hsw, Pl.pre_pre, List.drop_drop, show k + 1 + (j + 1) = k + (j + 2) from by omega]

/-- Nothing written; the automaton has changed its state. -/
theorem Inv.moved {s : ByteArray} {st st' : Nat} {w : World} {k k' : Nat} {acc : List UInt8} {wr : World} (h : Inv s st w k acc wr) (hk : k ≤ k')
    (hsw : Pl.sw (s.data.toList.drop k) st = Pl.sw (s.data.toList.drop k') st') : Inv s st' w k' acc wr :=
  ⟨h.1, h.2.1, by rw [h.2.2.1, hsw], by have := h.2.2.2; omega⟩

theorem Inv.exit {s : ByteArray} {w : World} {k : Nat} {acc : List UInt8} {wr : World} (h : Inv s 0 w k acc wr) (h2 : Pl.sw (s.data.toList.drop k) 0 = some ([], s.data.toList.drop k)) :
    WordPost s (.returned (.tuple #[.string ⟨acc.toArray⟩, .string (s.extract k s.size), .bool true])) := post_yes s k acc h.2.2.1 h2

theorem Inv.unclosed {s : ByteArray} {st : Nat} {w : World} {k : Nat} {acc : List UInt8} {wr : World} (h : Inv s st w k acc wr) (h2 : Pl.sw (s.data.toList.drop k) st = none) :
    WordPost s (.returned (.tuple #[.string ⟨#[]⟩, .string ⟨#[]⟩, .bool false])) := .inr ⟨rfl, by rw [h.2.2.1, h2]; rfl⟩

/-- Behind the loop: 'return out.String(), text[i:], true'. -/
theorem Inv.drew {s : ByteArray} {st : Nat} {w : World} {k : Nat} {acc : List UInt8} {wr : World} (h : Inv s st w k acc wr) : Lib.IsBuilderF 35 5 w.heap.size w.heap.size (Lib.byteCells acc) wr.drew := h.1

theorem idx_esc (d : UInt8) : ∃ q : Int, (Pl.esc d = true → 0 ≤ q) ∧ (Pl.esc d = false → q = -1) ∧ ∀ w, Calls Try.prog 26 #[.string ⟨#[36, 96, 34, 92]⟩, .int .u8 (d.toNat : Int)] w fun e w' => e = .returned (.int .i64 q) ∧ w' = w := by
  refine ⟨Lib.indexByte [36, 96, 34, 92] d, ?_, ?_, fun w => ?_⟩
  · intro h
    unfold Pl.esc at h
    simp only [Bool.or_eq_true, beq_iff_eq] at h
    rcases h with ((rfl | rfl) | rfl) | rfl <;> decide
  · intro h
    unfold Pl.esc at h
    simp only [Bool.or_eq_false_iff, beq_eq_false_iff_ne] at h
    obtain ⟨⟨⟨h1, h2⟩, h3⟩, h4⟩ := h
    simp [Lib.indexByte, Ne.symm h1, Ne.symm h2, Ne.symm h3, Ne.symm h4]
  · have := Try.strings_IndexByte ⟨#[36, 96, 34, 92]⟩ (d.toNat : Int) w
    simpa using this

set_option maxHeartbeats 4000000 in
set_option maxRecDepth 100000 in
theorem word_any (s : ByteArray) (w : World) (hs : s.size ≤ 16777216) :
    Calls Try.prog 21 #[.string s] w fun e w' => WordPost s e ∧ Below w.heap.size w w' := by
  go_enter Try.func21, Try.ntmps21
  go_wp2
  go_loopw [6] (fun i wr => ∃ (k : Nat) (acc : List UInt8), k ≤ s.size ∧ i = .int .i64 k ∧ Inv s 0 w k acc wr) (fun i _ => s.size - (intOf i).toNat)
  case atStart =>
    exact ⟨0, [], Nat.zero_le _, rfl, Lib.IsBuilderF.of (Lib.fresh_isBuilder 35 5 w), (Below.refl _ w).alloc (Nat.le_refl _) _, by rw [Pl.pre_nil]; rfl, Nat.le_refl _⟩
  case round =>
    obtain ⟨k, acc, hk, rfl, hI⟩ := hrel
    have hsz := hI.size
    have hln := hI.len
    by_cases hlt : k < s.size
    · have HD : Hid (s.data.toList.drop k = s[k] :: s.data.toList.drop (k + 1)) := drop_at s k hlt
      by_cases hbl : Pl.blank s[k] = true
      · -- a blank: the word ends here
        have HX : Hid (WordPost s (.returned (.tuple #[.string ⟨acc.toArray⟩, .string (s.extract k s.size), .bool true]))) := hI.exit (by rw [HD.out]; exact Pl.sw0_blank _ _ hbl)
        unfold Pl.blank at hbl
        by_cases h32 : (s[k] == 32) = true
        · have e32 : ((s[k].toNat : Int) != 32) = false := by rw [neq_i _ 32 32 rfl, h32]; rfl
          clear hbl h32
          go_wp2_with fail
          go_region_with (go_at_call 29; refine (Try.Builder_String_any_k w.heap.size w.heap.size acc _ hI.drew (Nat.le_of_lt hsz)).mono ?_; rintro e W1 ⟨rfl, _, b1, _⟩)
          go_wp2
          go_ret3
          exact ⟨HX.out, hI.2.1.drew.trans b1⟩
        · have h9 : (s[k] == 9) = true := by simpa [h32] using hbl
          have e32 : ((s[k].toNat : Int) != 32) = true := by rw [neq_i _ 32 32 rfl]; simpa using h32
          have e9 : ((s[k].toNat : Int) != 9) = false := by rw [neq_i _ 9 9 rfl, h9]; rfl
          clear hbl h32 h9
          go_wp2_with fail
          go_region_with (go_at_call 29; refine (Try.Builder_String_any_k w.heap.size w.heap.size acc _ hI.drew (Nat.le_of_lt hsz)).mono ?_; rintro e W1 ⟨rfl, _, b1, _⟩)
          go_wp2
          go_ret3
          exact ⟨HX.out, hI.2.1.drew.trans b1⟩
      · have hbl' : Pl.blank s[k] = false := by simpa using hbl
        have HB : Hid (Pl.blank s[k] = false) := hbl'
        have e32 : ((s[k].toNat : Int) != 32) = true := by
          rw [neq_i _ 32 32 rfl]; unfold Pl.blank at hbl; simp at hbl ⊢; exact hbl.1
        have e9 : ((s[k].toNat : Int) != 9) = true := by
          rw [neq_i _ 9 9 rfl]; unfold Pl.blank at hbl; simp at hbl ⊢; exact hbl.2
        clear hbl hbl'
        by_cases h39 : s[k] = 39
        · -- a single quote
          have e39 : ((s[k].toNat : Int) == 39) = true := by rw [eq_i _ 39 39 rfl, h39]; rfl
          have HM : Hid (Pl.sw (s.data.toList.drop k) 0 = Pl.sw (s.data.toList.drop (k + 1)) 1) := by
            show _ = _
            rw [HD.out, h39, Pl.sw0_single]
          clear h39
          obtain ⟨q, hq, hcall⟩ : ∃ q : Int, Hid (q = Lib.indexByte (s.data.toList.drop (k + 1)) 39) ∧ ∀ w, Calls Try.prog 26 #[.string (s.extract (k + 1) s.size), .int .u8 39] w fun e w' => e = .returned (.int .i64 q) ∧ w' = w :=
            ⟨_, rfl, fun w => by have := Try.strings_IndexByte (s.extract (k + 1) s.size) 39 w; rw [extract_rest] at this; exact this⟩
          have HC : Hid (∀ w, Calls Try.prog 26 #[.string (s.extract (k + 1) s.size), .int .u8 39] w fun e w' => e = .returned (.int .i64 q) ∧ w' = w) := hcall
          clear hcall
          by_cases hq1 : q = -1
          · have HX : Hid (WordPost s (.returned (.tuple #[.string ⟨#[]⟩, .string ⟨#[]⟩, .bool false]))) := hI.unclosed (by rw [HM.out]; exact Pl.sw1_none _ (by rw [← hq.out]; exact hq1))
            subst hq1
            clear hq
            go_wp2_with (go_at_call 26; refine (HC.out _).mono ?_; rintro e w' ⟨rfl, rfl⟩)
            go_ret3
            exact ⟨HX.out, hI.2.1⟩
          · have hqge := Lib.indexByte_ge (s.data.toList.drop (k + 1)) 39
            rw [← hq.out] at hqge
            obtain ⟨j, rfl⟩ : ∃ j : Nat, q = j := ⟨q.toNat, by omega⟩
            obtain ⟨hj, HS⟩ := Pl.sw1_some _ j hq.out.symm
            have hj' : k + 1 + j < s.size := by simp at hj; omega
            clear hq hq1 hqge hj
            have HS' : Hid (Pl.sw (s.data.toList.drop (k + 1)) 1 = Pl.pre ((s.data.toList.drop (k + 1)).take j) (Pl.sw ((s.data.toList.drop (k + 1)).drop (j + 1)) 0)) := HS
            clear HS
            have hex : (s.extract (k + 1) (k + 1 + j)).size ≤ s.size := by simp; omega
            have HE : Hid ((s.extract (k + 1) (k + 1 + j)).size ≤ s.size) := hex
            clear hex
            go_wp2_with (go_at_call 26; refine (HC.out _).mono ?_; rintro e w' ⟨rfl, rfl⟩)
            refine (Try.Builder_WriteString_k w.heap.size w.heap.size (Lib.byteCells acc) _ _ hI.1 (by have := HE.out; omega) (Nat.le_of_lt hsz)).mono ?_
            rintro e W1 ⟨rfl, hB1, b1, _⟩
            go_wp2
            go_roundw
            case rel => exact ⟨k + (j + 2), acc ++ (s.data.toList.drop (k + 1)).take j, by omega, by go_num, hI.wroteS hB1 b1 (by rw [HM.out, HS'.out])⟩
            case measure => simp [intOf]; omega
        · have e39 : ((s[k].toNat : Int) == 39) = false := by rw [eq_i _ 39 39 rfl]; simpa using h39
          by_cases h34 : s[k] = 34
          · -- a double quote
            have e34 : ((s[k].toNat : Int) == 34) = true := by rw [eq_i _ 34 34 rfl, h34]; rfl
            have hJ : Inv s 2 w (k + 1) acc wr := hI.moved (by omega) (by rw [HD.out, h34, Pl.sw0_double])
            clear h39 h34
            go_wp2_with fail
            obtain ⟨wo, rfl⟩ : ∃ wo : World, wo = wr := ⟨_, rfl⟩
            go_loopw [6] (fun i wr => ∃ (k2 : Nat) (acc2 : List UInt8), k + 1 ≤ k2 ∧ k2 ≤ s.size ∧ i = .int .i64 k2 ∧ Inv s 2 w k2 acc2 wr) (fun i _ => s.size - (intOf i).toNat)
            case atStart => exact ⟨k + 1, acc, Nat.le_refl _, by omega, by go_num, hJ⟩
            case round =>
              obtain ⟨k2, acc2, hk0, hk2, rfl, hI2⟩ := hrel
              have hsz2 := hI2.size
              have hln2 := hI2.len
              clear hI hJ hsz hln
              by_cases hlt2 : k2 < s.size
              · have HD2 : Hid (s.data.toList.drop k2 = s[k2] :: s.data.toList.drop (k2 + 1)) := drop_at s k2 hlt2
                by_cases g34 : s[k2] = 34
                · have f34 : ((s[k2].toNat : Int) != 34) = false := by rw [neq_i _ 34 34 rfl, g34]; rfl
                  have hJ2 : Inv s 0 w (k2 + 1) acc2 wr := hI2.moved (by omega) (by rw [HD2.out, g34, Pl.sw2_end])
                  clear g34
                  have fne : ((k2 : Int) == (s.size : Int)) = false := by simp; omega
                  go_wp2
                  go_roundw
                  case rel => exact ⟨k2 + 1, acc2, by omega, by go_num, hJ2⟩
                  case measure => simp [intOf]; omega
                · have f34 : ((s[k2].toNat : Int) != 34) = true := by rw [neq_i _ 34 34 rfl]; simpa using g34
                  by_cases g92 : s[k2] = 92
                  · have f92 : ((s[k2].toNat : Int) == 92) = true := by rw [eq_i _ 92 92 rfl, g92]; rfl
                    by_cases hk1 : k2 + 1 < s.size
                    · obtain ⟨q, hq1, hq2, hcall⟩ := idx_esc s[k2 + 1]
                      have HC : Hid (∀ w, Calls Try.prog 26 #[.string ⟨#[36, 96, 34, 92]⟩, .int .u8 (s[k2 + 1].toNat : Int)] w fun e w' => e = .returned (.int .i64 q) ∧ w' = w) := hcall
                      clear hcall
                      by_cases he : Pl.esc s[k2 + 1] = true
                      · have HM : Hid (Pl.sw (s.data.toList.drop k2) 2 = Pl.pre [s[k2 + 1]] (Pl.sw (s.data.toList.drop (k2 + 2)) 2)) := by
                          show _ = _
                          rw [HD2.out, g92, drop_at s (k2 + 1) hk1, Pl.sw2_esc _ _ he]
                        have hq : 0 ≤ q := hq1 he
                        clear g34 g92 hq1 hq2 he
                        go_wp2_with (first | (go_at_call 26; refine (HC.out _).mono ?_; rintro e w' ⟨rfl, rfl⟩) | (go_at_call 28; refine (Try.Builder_WriteByte_k w.heap.size w.heap.size (Lib.byteCells acc2) _ _ hI2.1 (by omega) (Nat.le_of_lt hsz2)).mono ?_))
                        rintro e W1 ⟨rfl, hB1, b1, _⟩
                        go_wp2
                        go_roundw
                        case rel => exact ⟨k2 + 2, acc2 ++ [s[k2 + 1]], by omega, by omega, by go_num, hI2.wrote hB1 b1 (by omega) HM.out⟩
                        case measure => simp [intOf]; omega
                      · have he' : Pl.esc s[k2 + 1] = false := by simpa using he
                        have HM : Hid (Pl.sw (s.data.toList.drop k2) 2 = Pl.pre [s[k2]] (Pl.sw (s.data.toList.drop (k2 + 1)) 2)) := by
                          show _ = _
                          rw [HD2.out, g92, drop_at s (k2 + 1) hk1, Pl.sw2_back _ _ he']
                        have hq : q = -1 := hq2 he'
                        subst hq
                        clear g34 g92 hq1 hq2 he he'
                        go_wp2_with (first | (go_at_call 26; refine (HC.out _).mono ?_; rintro e w' ⟨rfl, rfl⟩) | (go_at_call 28; refine (Try.Builder_WriteByte_k w.heap.size w.heap.size (Lib.byteCells acc2) _ _ hI2.1 (by omega) (Nat.le_of_lt hsz2)).mono ?_))
                        rintro e W1 ⟨rfl, hB1, b1, _⟩
                        go_wp2
                        go_roundw
                        case rel => exact ⟨k2 + 1, acc2 ++ [s[k2]], by omega, by omega, by go_num, hI2.wrote hB1 b1 (by omega) HM.out⟩
                        case measure => simp [intOf]; omega
                    · have HM : Hid (Pl.sw (s.data.toList.drop k2) 2 = Pl.pre [s[k2]] (Pl.sw (s.data.toList.drop (k2 + 1)) 2)) := by
                        show _ = _
                        rw [HD2.out, drop_end s (k2 + 1) hk1, g92]; exact Pl.sw2_back_nil
                      clear g34 g92
                      go_wp2_with (go_at_call 28; refine (Try.Builder_WriteByte_k w.heap.size w.heap.size (Lib.byteCells acc2) _ _ hI2.1 (by omega) (Nat.le_of_lt hsz2)).mono ?_)
                      rintro e W1 rfl hB1 b1 _
                      go_wp2
                      go_roundw
                      case rel => exact ⟨k2 + 1, acc2 ++ [s[k2]], by omega, by omega, by go_num, hI2.wrote hB1 b1 (by omega) HM.out⟩
                      case measure => simp [intOf]; omega
                  · have f92 : ((s[k2].toNat : Int) == 92) = false := by rw [eq_i _ 92 92 rfl]; simpa using g92
                    have HM : Hid (Pl.sw (s.data.toList.drop k2) 2 = Pl.pre [s[k2]] (Pl.sw (s.data.toList.drop (k2 + 1)) 2)) := by
                      show _ = _
                      rw [HD2.out, Pl.sw2_plain _ _ g34 g92]
                    clear g34 g92
                    go_wp2_with (go_at_call 28; refine (Try.Builder_WriteByte_k w.heap.size w.heap.size (Lib.byteCells acc2) _ _ hI2.1 (by omega) (Nat.le_of_lt hsz2)).mono ?_)
                    rintro e W1 ⟨rfl, hB1, b1, _⟩
                    go_wp2
                    go_roundw
                    case rel => exact ⟨k2 + 1, acc2 ++ [s[k2]], by omega, by omega, by go_num, hI2.wrote hB1 b1 (by omega) HM.out⟩
                    case measure => simp [intOf]; omega
              · have feq : ((k2 : Int) == (s.size : Int)) = true := by simp; omega
                have HX : Hid (WordPost s (.returned (.tuple #[.string ⟨#[]⟩, .string ⟨#[]⟩, .bool false]))) := hI2.unclosed (by rw [drop_end s k2 hlt2]; rfl)
                go_wp2
                go_ret3
                exact ⟨HX.out, hI2.2.1⟩
          · have e34 : ((s[k].toNat : Int) == 34) = false := by rw [eq_i _ 34 34 rfl]; simpa using h34
            by_cases h92 : s[k] = 92
            · -- a backslash
              have e92 : ((s[k].toNat : Int) == 92) = true := by rw [eq_i _ 92 92 rfl, h92]; rfl
              by_cases hk1 : k + 1 < s.size
              · have HM : Hid (Pl.sw (s.data.toList.drop k) 0 = Pl.pre [s[k + 1]] (Pl.sw (s.data.toList.drop (k + 2)) 0)) := by
                  show _ = _
                  rw [HD.out, h92, drop_at s (k + 1) hk1, Pl.sw0_back]
                clear h39 h34 h92
                go_wp2_with (go_at_call 28; refine (Try.Builder_WriteByte_k w.heap.size w.heap.size (Lib.byteCells acc) _ _ hI.1 (by omega) (Nat.le_of_lt hsz)).mono ?_)
                rintro e W1 ⟨rfl, hB1, b1, _⟩
                go_wp2
                go_roundw
                case rel => exact ⟨k + 2, acc ++ [s[k + 1]], by omega, by go_num, hI.wrote hB1 b1 (by omega) HM.out⟩
                case measure => simp [intOf]; omega
              · have HM : Hid (Pl.sw (s.data.toList.drop k) 0 = Pl.pre [s[k]] (Pl.sw (s.data.toList.drop (k + 1)) 0)) := by
                  show _ = _
                  rw [HD.out, drop_end s (k + 1) hk1, h92]; exact Pl.sw0_back_nil
                clear h39 h34 h92
                go_wp2_with (go_at_call 28; refine (Try.Builder_WriteByte_k w.heap.size w.heap.size (Lib.byteCells acc) _ _ hI.1 (by omega) (Nat.le_of_lt hsz)).mono ?_)
                rintro e W1 ⟨rfl, hB1, b1, _⟩
                go_wp2
                go_roundw
                case rel => exact ⟨k + 1, acc ++ [s[k]], by omega, by go_num, hI.wrote hB1 b1 (by omega) HM.out⟩
                case measure => simp [intOf]; omega
            · -- any other byte
              have e92 : ((s[k].toNat : Int) == 92) = false := by rw [eq_i _ 92 92 rfl]; simpa using h92
              have HM : Hid (Pl.sw (s.data.toList.drop k) 0 = Pl.pre [s[k]] (Pl.sw (s.data.toList.drop (k + 1)) 0)) := by
                show _ = _
                rw [HD.out, Pl.sw0_plain _ _ HB.out h39 h34 h92]
              clear h39 h34 h92
              go_wp2_with (go_at_call 28; refine (Try.Builder_WriteByte_k w.heap.size w.heap.size (Lib.byteCells acc) _ _ hI.1 (by omega) (Nat.le_of_lt hsz)).mono ?_)
              rintro e W1 ⟨rfl, hB1, b1, _⟩
              go_wp2
              go_roundw
              case rel => exact ⟨k + 1, acc ++ [s[k]], by omega, by go_num, hI.wrote hB1 b1 (by omega) HM.out⟩
              case measure => simp [intOf]; omega
    · have HX : Hid (WordPost s (.returned (.tuple #[.string ⟨acc.toArray⟩, .string (s.extract k s.size), .bool true]))) := hI.exit (by rw [drop_end s k hlt]; rfl)
      go_wp2_with fail
      go_region_with (go_at_call 29; refine (Try.Builder_String_any_k w.heap.size w.heap.size acc _ hI.drew (Nat.le_of_lt hsz)).mono ?_; rintro e W1 ⟨rfl, _, b1, _⟩)
      go_wp2
      go_ret3
      exact ⟨HX.out, hI.2.1.drew.trans b1⟩

end Go.Proofs.Qxb6603031a
