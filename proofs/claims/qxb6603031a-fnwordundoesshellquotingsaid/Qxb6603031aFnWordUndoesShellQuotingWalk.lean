/-
  THE WALK of the law FnWordUndoesShellQuoting.
-/
import Derived.Test.Qxb6603031aQuote
import Derived.Test.Qxb6603031aFnWordMatchesAutomatonWalk
namespace Go.Proofs.Qxb6603031a
open Go.RowKit

set_option maxHeartbeats 400000 in
theorem bytes14_any (s t : ByteArray) (w : World) (hs : s.size ≤ 262144) (ht : t.size ≤ 262144) :
    Calls Try.prog 14 #[.string s, .string t] w fun e w' => e = .returned (.bool true) ∧ w' = w := by
  have h1 : ¬ (1048576 : Int) < (s.size : Int) := by omega
  have h2 : ¬ (1048576 : Int) < (t.size : Int) := by omega
  have h3 : ¬ (1048576 : Int) < (s.size : Int) + (t.size : Int) := by omega
  go_enter Try.func14, Try.ntmps14
  go_wp2
  go_ret
  exact ⟨rfl, rfl⟩

/-- Whatever the lengths: it answers, and turns nothing. -/
theorem bytes14_some (s t : ByteArray) (hs : s.size ≤ maxLen) (ht : t.size ≤ maxLen) :
    ∃ b : Bool, ∀ w, Calls Try.prog 14 #[.string s, .string t] w fun e w' => e = .returned (.bool b) ∧ w' = w := by
  unfold maxLen at hs ht
  by_cases h1 : (1048576 : Int) < (s.size : Int)
  · refine ⟨false, fun w => ?_⟩
    go_enter Try.func14, Try.ntmps14
    go_wp2
    go_ret
    exact ⟨rfl, rfl⟩
  · by_cases h2 : (1048576 : Int) < (t.size : Int)
    · refine ⟨false, fun w => ?_⟩
      go_enter Try.func14, Try.ntmps14
      go_wp2
      go_ret
      exact ⟨rfl, rfl⟩
    · by_cases h3 : (1048576 : Int) < (s.size : Int) + (t.size : Int)
      · refine ⟨false, fun w => ?_⟩
        go_enter Try.func14, Try.ntmps14
        go_wp2
        go_ret
        exact ⟨rfl, rfl⟩
      · refine ⟨true, fun w => ?_⟩
        go_enter Try.func14, Try.ntmps14
        go_wp2
        go_ret
        exact ⟨rfl, rfl⟩

theorem cat_le (q t : ByteArray) (c : UInt8) (hq : q.size ≤ 1048578) (ht : t.size ≤ 262144) : (q ++ ⟨#[c]⟩ ++ t : ByteArray).size ≤ 16777216 := by
  have e : (q ++ ⟨#[c]⟩ ++ t : ByteArray).size = q.size + 1 + t.size := by
    rw [ByteArray.size_append, ByteArray.size_append]; rfl
  rw [e]; omega

theorem str_le (l : List UInt8) (h : l.length ≤ 1048578) : (⟨l.toArray⟩ : ByteArray).size ≤ 1048578 := by
  have e : (⟨l.toArray⟩ : ByteArray).size = l.length := by simp [ByteArray.size]
  rw [e]; exact h

set_option maxHeartbeats 400000 in
theorem gives_yes (s v r : ByteArray) (w : World) (hs : s.size ≤ 16777216) (h : Pl.sw s.data.toList 0 = some (v.data.toList, r.data.toList)) :
    Calls Try.prog 23 #[.string s, .string v, .string r] w fun e w' => e = .returned (.bool true) ∧ Below w.heap.size w w' := by
  have H : Hid (Pl.sw s.data.toList 0 = some (v.data.toList, r.data.toList)) := h
  clear h
  go_enter Try.func23, Try.ntmps23
  go_wp2_with (go_at_call 8; refine (zzword_any _ _ hs).mono ?_)
  rintro e w1 ⟨hp, hb⟩
  rcases hp with ⟨v2, r2, rfl, hsw2⟩ | ⟨rfl, hsw2⟩
  · rw [H.out] at hsw2
    simp only [Option.some.injEq, Prod.mk.injEq] at hsw2
    obtain rfl := bytes_ext _ _ hsw2.1
    obtain rfl := bytes_ext _ _ hsw2.2
    clear hsw2
    go_wp2
    go_ret
    exact ⟨rfl, hb⟩
  · rw [H.out] at hsw2; cases hsw2

theorem blank_tail (q v t : ByteArray) (c : UInt8) (hc : Pl.blank c = true) (h : ∀ tl, Pl.sw (q.data.toList ++ tl) 0 = Pl.pre v.data.toList (Pl.sw tl 0)) :
    Pl.sw (q ++ ⟨#[c]⟩ ++ t : ByteArray).data.toList 0 = some (v.data.toList, (⟨#[c]⟩ ++ t : ByteArray).data.toList) := by
  have e1 : (q ++ ⟨#[c]⟩ ++ t : ByteArray).data.toList = q.data.toList ++ (c :: t.data.toList) := by simp
  have e2 : (⟨#[c]⟩ ++ t : ByteArray).data.toList = c :: t.data.toList := by simp
  rw [e1, e2, h, Pl.sw0_blank c _ hc]
  simp [Pl.pre]

set_option maxHeartbeats 1000000 in
theorem readsBack_yes (q v t : ByteArray) (w : World) (hq : q.size ≤ 1048578) (ht : t.size ≤ 262144) (h : ∀ tl, Pl.sw (q.data.toList ++ tl) 0 = Pl.pre v.data.toList (Pl.sw tl 0)) :
    Calls Try.prog 15 #[.string q, .string v, .string t] w fun e w' => e = .returned (.bool true) ∧ Below w.heap.size w w' := by
  have H : Hid (∀ tl, Pl.sw (q.data.toList ++ tl) 0 = Pl.pre v.data.toList (Pl.sw tl 0)) := h
  clear h
  go_enter Try.func15, Try.ntmps15
  go_wp2_with fail
  refine (gives_yes q v ⟨#[]⟩ _ (by omega) (by have := H.out []; rw [List.append_nil] at this; rw [this]; simp [Pl.sw0_nil, Pl.pre])).mono ?_
  rintro e w1 ⟨rfl, hb1⟩
  go_wp2_with fail
  refine (gives_yes _ _ _ _ (by exact cat_le q t 32 hq ht) (by exact blank_tail q v t 32 rfl H.out)).mono ?_
  rintro e w2 ⟨rfl, hb2⟩
  go_wp2_with fail
  refine (gives_yes _ _ _ _ (by exact cat_le q t 9 hq ht) (by exact blank_tail q v t 9 rfl H.out)).mono ?_
  rintro e w3 ⟨rfl, hb3⟩
  go_wp2
  go_ret
  have k1 := hb1.size
  have k2 := hb2.size
  exact ⟨rfl, (hb1.trans (hb2.mono k1)).trans (hb3.mono (Nat.le_trans k1 k2))⟩

set_option maxHeartbeats 1000000 in
theorem quoteWalk (s t : ByteArray) (hs : s.size ≤ maxLen) (ht : t.size ≤ maxLen) (w : World) :
    Calls Try.prog 5 #[.string s, .string t] w fun e w' => e = .returned (.bool true) ∧ Below w.heap.size w w' := by
  by_cases h1 : s.size ≤ 262144
  · by_cases h2 : t.size ≤ 262144
    · have g1 : ¬ (262144 : Int) < (s.size : Int) := by omega
      have g2 : ¬ (262144 : Int) < (t.size : Int) := by omega
      have z1 := q1_len s.data.toList
      have z2 := q2_len s.data.toList
      have z3 := q3_len s.data.toList
      have y0 : s.data.toList.length = s.size := by simp
      have HZ : Hid ((Pl.q1 s.data.toList).length ≤ 1048576 ∧ (Pl.q2 s.data.toList).length ≤ 1048576 ∧ (Pl.q3 s.data.toList).length ≤ 1048576) := ⟨by omega, by omega, by omega⟩
      clear z1 z2 z3 y0
      go_enter Try.func5, Try.ntmps5
      go_wp2_with (go_at_call 14; refine (bytes14_any _ _ _ h1 h2).mono ?_; rintro e w' ⟨rfl, rfl⟩)
      refine (quoteSingle_any s _ h1).mono ?_
      rintro e w1 ⟨rfl, b1⟩
      go_wp2_with fail
      refine (readsBack_yes _ s t _ (str_le _ (by have := HZ.out.1; simp; omega)) h2 (fun tl => by show Pl.sw (39 :: Pl.q1 s.data.toList ++ [39] ++ tl) 0 = _; rw [List.append_assoc, List.cons_append, Pl.sw0_single]; exact Pl.sw_q1 _ _)).mono ?_
      rintro e w2 ⟨rfl, b2⟩
      go_wp2_with fail
      refine (quoteDouble_any s _ h1).mono ?_
      rintro e w3 ⟨rfl, b3⟩
      go_wp2_with fail
      refine (readsBack_yes _ s t _ (str_le _ (by have := HZ.out.2.1; simp; omega)) h2 (fun tl => by show Pl.sw (34 :: Pl.q2 s.data.toList ++ [34] ++ tl) 0 = _; rw [List.append_assoc, List.cons_append, Pl.sw0_double]; exact Pl.sw_q2 _ _)).mono ?_
      rintro e w4 ⟨rfl, b4⟩
      go_wp2_with fail
      refine (quoteBackslash_any s _ h1).mono ?_
      rintro e w5 ⟨rfl, b5⟩
      go_wp2_with fail
      refine (readsBack_yes _ s t _ (by exact str_le (Pl.q3 s.data.toList) (by have := HZ.out.2.2; omega)) h2 (fun tl => Pl.sw_q3 _ _)).mono ?_
      rintro e w6 ⟨rfl, b6⟩
      go_wp2
      go_ret
      have k1 := b1.size
      have k2 := Nat.le_trans k1 b2.size
      have k3 := Nat.le_trans k2 b3.size
      have k4 := Nat.le_trans k3 b4.size
      have k5 := Nat.le_trans k4 b5.size
      exact ⟨rfl, ((((b1.trans (b2.mono k1)).trans (b3.mono k2)).trans (b4.mono k3)).trans (b5.mono k4)).trans (b6.mono k5)⟩
    · have g1 : ¬ (262144 : Int) < (s.size : Int) := by omega
      have g2 : (262144 : Int) < (t.size : Int) := by omega
      obtain ⟨b, hb⟩ := bytes14_some s t hs ht
      have HB : Hid (∀ w, Calls Try.prog 14 #[.string s, .string t] w fun e w' => e = .returned (.bool b) ∧ w' = w) := hb
      clear hb
      cases b
      · go_enter Try.func5, Try.ntmps5
        go_wp2_with (go_at_call 14; refine (HB.out _).mono ?_; rintro e w' ⟨rfl, rfl⟩)
        go_ret
        exact ⟨rfl, Below.refl _ _⟩
      · go_enter Try.func5, Try.ntmps5
        go_wp2_with (go_at_call 14; refine (HB.out _).mono ?_; rintro e w' ⟨rfl, rfl⟩)
        go_ret
        exact ⟨rfl, Below.refl _ _⟩
  · have g1 : (262144 : Int) < (s.size : Int) := by omega
    obtain ⟨b, hb⟩ := bytes14_some s t hs ht
    have HB : Hid (∀ w, Calls Try.prog 14 #[.string s, .string t] w fun e w' => e = .returned (.bool b) ∧ w' = w) := hb
    clear hb
    cases b
    · go_enter Try.func5, Try.ntmps5
      go_wp2_with (go_at_call 14; refine (HB.out _).mono ?_; rintro e w' ⟨rfl, rfl⟩)
      go_ret
      exact ⟨rfl, Below.refl _ _⟩
    · go_enter Try.func5, Try.ntmps5
      go_wp2_with (go_at_call 14; refine (HB.out _).mono ?_; rintro e w' ⟨rfl, rfl⟩)
      go_ret
      exact ⟨rfl, Below.refl _ _⟩

end Go.Proofs.Qxb6603031a
