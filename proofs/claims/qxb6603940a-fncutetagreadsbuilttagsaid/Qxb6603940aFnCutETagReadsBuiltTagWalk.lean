/-
  THE WALK of the law FnCutETagReadsBuiltTag.
-/
import Derived.Test.Qxb6603940aFnCutETagSplitsExactlyWalk
namespace Go.Proofs.Qxb6603940a
open Go.RowKit

/-- Whatever the lengths: the bound answers, and turns nothing. -/
theorem bytes11_some (s t : ByteArray) (m : Bool) (hs : s.size ≤ maxLen) (ht : t.size ≤ maxLen) :
    ∃ b : Bool, ∀ w, Calls Try.prog 11 #[.string s, .bool m, .string t] w fun e w' => e = .returned (.bool b) ∧ w' = w := by
  unfold maxLen at hs ht
  by_cases h1 : (1048576 : Int) < (s.size : Int)
  · refine ⟨false, fun w => ?_⟩
    go_enter Try.func11, Try.ntmps11
    go_wp2
    go_ret
    exact ⟨rfl, rfl⟩
  · by_cases h2 : (1048576 : Int) < (t.size : Int)
    · refine ⟨false, fun w => ?_⟩
      go_enter Try.func11, Try.ntmps11
      go_wp2
      go_ret
      exact ⟨rfl, rfl⟩
    · by_cases h3 : (1048576 : Int) < (s.size : Int) + (t.size : Int)
      · refine ⟨false, fun w => ?_⟩
        go_enter Try.func11, Try.ntmps11
        go_wp2
        go_ret
        exact ⟨rfl, rfl⟩
      · refine ⟨true, fun w => ?_⟩
        go_enter Try.func11, Try.ntmps11
        go_wp2
        go_ret
        exact ⟨rfl, rfl⟩

theorem first_quote (x y r t : List UInt8) (hx : (34 : UInt8) ∉ x) (hy : (34 : UInt8) ∉ y) (h : x ++ 34 :: r = y ++ 34 :: t) : x = y ∧ r = t := by
  have h1 := Pl.index_first x r 34 hx
  have h2 := Pl.index_first y t 34 hy
  rw [h, h2] at h1
  have hl : y.length = x.length := by omega
  obtain ⟨e1, e2⟩ := List.append_inj h hl.symm
  injection e2 with _ e2
  exact ⟨e1, e2⟩

theorem built (a x rest : ByteArray) (m : Bool) (ha : a.size ≤ 16777216) (hm : Pl.mark a.data.toList = m) (hf : Pl.aft a.data.toList = 34 :: (x.data.toList ++ 34 :: rest.data.toList)) (hx : (34 : UInt8) ∉ x.data.toList) (w : World) :
    Calls Try.prog 9 #[.string a] w fun e w' => e = .returned (.tuple #[.string (⟨#[34]⟩ ++ x ++ ⟨#[34]⟩), .bool m, .string rest, .bool true]) ∧ ∃ n, w' = w.drewN n := by
  refine (zzcut_m a m hm w ha).mono ?_
  rintro e w' ⟨h, hn⟩
  refine ⟨?_, hn⟩
  rcases h with ⟨tag, r, y, rfl, hy, htag, hf2⟩ | ⟨_, hno⟩
  · rw [hf] at hf2
    injection hf2 with _ hf2
    obtain ⟨e1, e2⟩ := first_quote _ _ _ _ hx hy hf2
    have er : rest = r := bytes_ext _ _ e2
    have et : tag = ⟨#[34]⟩ ++ x ++ ⟨#[34]⟩ := bytes_ext _ _ (by rw [htag, ← e1]; simp)
    rw [er, et]
  · exact absurd (by simp) (hno _ hf)

theorem mark_yes (t : List UInt8) : Pl.mark (87 :: 47 :: t) = true ∧ Pl.aft (87 :: 47 :: t) = t := by
  constructor <;> simp [Pl.mark, Pl.aft, Lib.hasPrefix, Lib.trimPrefix, List.isPrefixOf]
theorem mark_no (t : List UInt8) : Pl.mark (34 :: t) = false ∧ Pl.aft (34 :: t) = 34 :: t := by
  constructor <;> simp [Pl.mark, Pl.aft, Lib.hasPrefix, Lib.trimPrefix, List.isPrefixOf]

theorem lst1 (x rest : ByteArray) : (⟨#[34]⟩ ++ x ++ ⟨#[34]⟩ ++ rest : ByteArray).data.toList = 34 :: (x.data.toList ++ 34 :: rest.data.toList) := by simp
theorem lst2 (x rest : ByteArray) : (⟨#[87, 47]⟩ ++ (⟨#[34]⟩ ++ x ++ ⟨#[34]⟩ ++ rest) : ByteArray).data.toList = 87 :: 47 :: 34 :: (x.data.toList ++ 34 :: rest.data.toList) := by simp
theorem sz1 (x rest : ByteArray) (h : x.size ≤ 524288) (h2 : rest.size ≤ 524288) : (⟨#[34]⟩ ++ x ++ ⟨#[34]⟩ ++ rest : ByteArray).size ≤ 16777216 := by
  rw [← size_list, lst1]; simp; omega
theorem sz2 (x rest : ByteArray) (h : x.size ≤ 524288) (h2 : rest.size ≤ 524288) : (⟨#[87, 47]⟩ ++ (⟨#[34]⟩ ++ x ++ ⟨#[34]⟩ ++ rest) : ByteArray).size ≤ 16777216 := by
  rw [← size_list, lst2]; simp; omega
theorem hasQ_no (x : List UInt8) (h : hasQ x = false) : (34 : UInt8) ∉ x := by
  intro hm
  unfold hasQ at h
  rw [List.any_eq_false] at h
  exact h 34 hm (by simp)

set_option maxHeartbeats 2000000 in
set_option maxRecDepth 100000 in
theorem builtWalk (x : ByteArray) (m : Bool) (r : ByteArray) (hx : x.size ≤ maxLen) (hr : r.size ≤ maxLen) (w : World) :
    Calls Try.prog 4 #[.string x, .bool m, .string r] w fun e w' => e = .returned (.bool true) ∧ Below w.heap.size w w' := by
  obtain ⟨b, hb⟩ := bytes11_some x r m hx hr
  have HB : Hid (∀ w, Calls Try.prog 11 #[.string x, .bool m, .string r] w fun e w' => e = .returned (.bool b) ∧ w' = w) := hb
  clear hb
  cases b
  · go_enter Try.func4, Try.ntmps4
    go_wp2_with (go_at_call 11; refine (HB.out _).mono ?_; rintro e w' ⟨rfl, rfl⟩)
    go_ret
    exact ⟨rfl, Below.refl _ _⟩
  · by_cases h1 : x.size ≤ 524288
    · by_cases h2 : r.size ≤ 524288
      · have g1 : ¬ (524288 : Int) < (x.size : Int) := by omega
        have g2 : ¬ (524288 : Int) < (r.size : Int) := by omega
        have H10 : Hid (∀ w, Calls Try.prog 10 #[.string x] w fun e w' => e = .returned (.bool (hasQ x.data.toList)) ∧ w' = w) := fun w => hasQuote_any x w (by omega)
        cases hq : hasQ x.data.toList
        · have HQ : Hid ((34 : UInt8) ∉ x.data.toList) := hasQ_no _ hq
          cases m
          · go_enter Try.func4, Try.ntmps4
            go_wp2_with (first | (go_at_call 11; refine (HB.out _).mono ?_; rintro e w' ⟨rfl, rfl⟩) | (go_at_call 10; refine (H10.out _).mono ?_; rintro e w' ⟨rfl, rfl⟩))
            refine (built _ x r false (by exact sz1 x r h1 h2) (by exact (by rw [lst1]; exact (mark_no _).1)) (by exact (by rw [lst1]; exact (mark_no _).2)) HQ.out _).mono ?_
            rintro e w1 ⟨rfl, n, rfl⟩
            go_wp2
            go_ret
            exact ⟨rfl, below_drewN (Below.refl _ _) _⟩
          · go_enter Try.func4, Try.ntmps4
            go_wp2_with (first | (go_at_call 11; refine (HB.out _).mono ?_; rintro e w' ⟨rfl, rfl⟩) | (go_at_call 10; refine (H10.out _).mono ?_; rintro e w' ⟨rfl, rfl⟩))
            refine (built _ x r true (by exact sz2 x r h1 h2) (by exact (by rw [lst2]; exact (mark_yes _).1)) (by exact (by rw [lst2]; exact (mark_yes _).2)) HQ.out _).mono ?_
            rintro e w1 ⟨rfl, n, rfl⟩
            go_wp2
            go_ret
            exact ⟨rfl, below_drewN (Below.refl _ _) _⟩
        · go_enter Try.func4, Try.ntmps4
          go_wp2_with (first | (go_at_call 11; refine (HB.out _).mono ?_; rintro e w' ⟨rfl, rfl⟩) | (go_at_call 10; refine (H10.out _).mono ?_; rintro e w' ⟨rfl, rfl⟩))
          go_ret
          exact ⟨rfl, Below.refl _ _⟩
      · have g1 : ¬ (524288 : Int) < (x.size : Int) := by omega
        have g2 : (524288 : Int) < (r.size : Int) := by omega
        go_enter Try.func4, Try.ntmps4
        go_wp2_with (go_at_call 11; refine (HB.out _).mono ?_; rintro e w' ⟨rfl, rfl⟩)
        go_ret
        exact ⟨rfl, Below.refl _ _⟩
    · have g1 : (524288 : Int) < (x.size : Int) := by omega
      go_enter Try.func4, Try.ntmps4
      go_wp2_with (go_at_call 11; refine (HB.out _).mono ?_; rintro e w' ⟨rfl, rfl⟩)
      go_ret
      exact ⟨rfl, Below.refl _ _⟩

end Go.Proofs.Qxb6603940a
