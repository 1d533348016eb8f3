/-
  THE WALK of the law FnCutETagSplitsExactly.
-/
import Derived.Test.Qxb6603940aCut
import Derived.Deep.DeepCutAuto
namespace Go.Proofs.Qxb6603940a
open Go.RowKit

theorem list1 (l : List UInt8) (h : 0 < l.length) : l = l[0] :: l.drop 1 := by
  match l, h with
  | a :: t, _ => rfl
theorem list2 (l : List UInt8) (h : 2 ≤ l.length) : l = l[0] :: l[1] :: l.drop 2 := by
  match l, h with
  | a :: b :: t, _ => rfl

/-- What region 6 asks of s: whether it opens with the mark. -/
theorem mark_facts (s : ByteArray) (m : Bool) (hm : Pl.mark s.data.toList = m) :
    (m = true ∧ ∃ (h2 : 2 ≤ s.size), s[0] = 87 ∧ s[1] = 47 ∧ (s.extract 2 s.size).data.toList = Pl.aft s.data.toList) ∨
    (m = false ∧ s.data.toList = Pl.aft s.data.toList ∧ (s.size < 2 ∨ ∃ (h2 : 2 ≤ s.size), s[0] ≠ 87 ∨ (s[0] = 87 ∧ s[1] ≠ 47))) := by
  rcases Pl.mark_split s.data.toList with ⟨h1, h2⟩ | ⟨h1, h2, h3⟩
  · left
    have hsz : 2 ≤ s.size := by rw [← size_list, h2]; simp
    refine ⟨hm.symm.trans h1, hsz, ?_, ?_, ?_⟩
    · rw [at_list s 0 (by omega) _ h2]; rfl
    · rw [at_list s 1 (by omega) _ h2]; rfl
    · rw [extract_rest]; conv => lhs; rw [h2]
      rfl
  · right
    refine ⟨hm.symm.trans h1, h2.symm, ?_⟩
    by_cases hsz : s.size < 2
    · exact .inl hsz
    · right
      refine ⟨by omega, ?_⟩
      by_cases h0 : s[0] = 87
      · right
        refine ⟨h0, fun h => h3 ?_⟩
        have hl : 2 ≤ s.data.toList.length := by rw [size_list]; omega
        refine ⟨s.data.toList.drop 2, ?_⟩
        rw [show (87 : UInt8) = s[0] from h0.symm, show (47 : UInt8) = s[1] from h.symm]
        have e0 : s[0] = s.data.toList[0] := rfl
        have e1 : s[1] = s.data.toList[1] := rfl
        rw [e0, e1]
        exact list2 _ hl
      · exact .inl h0

theorem zzcut_m (s : ByteArray) (m : Bool) (hm : Pl.mark s.data.toList = m) (w : World) (hs : s.size ≤ 16777216) :
    Calls Try.prog 9 #[.string s] w fun e w' => ((∃ (tag rest : ByteArray) (x : List UInt8), e = .returned (.tuple #[.string tag, .bool m, .string rest, .bool true]) ∧ (34 : UInt8) ∉ x ∧ tag.data.toList = 34 :: (x ++ [34]) ∧ Pl.aft s.data.toList = 34 :: (x ++ 34 :: rest.data.toList)) ∨
  (e = .returned (.tuple #[.string ⟨#[]⟩, .bool false, .string ⟨#[]⟩, .bool false]) ∧ ∀ T, Pl.aft s.data.toList = 34 :: T → (34 : UInt8) ∉ T)) ∧ ∃ n, w' = w.drewN n := by
  refine (zzcut_any s w hs).mono ?_
  rintro e w' ⟨h, hn⟩
  unfold CutPost at h
  rw [hm] at h
  exact ⟨h, hn⟩

theorem fin_eq (p tag rest s : ByteArray) (h : s.data.toList = p.data.toList ++ tag.data.toList ++ rest.data.toList) : ((p ++ tag ++ rest : ByteArray).toList == s.toList) = true := by
  rw [ByteArray.toList_eq, ByteArray.toList_eq, h]; simp
theorem at_first (a : ByteArray) (t : List UInt8) (h : a.data.toList = 34 :: t) (h0 : 0 < a.size) : ((a[0].toNat : Int) == 34) = true := by
  rw [eq_i _ 34 34 rfl, at_list a 0 h0 _ h]; rfl
theorem at_first' (a : ByteArray) (t : List UInt8) (h : a.data.toList = 34 :: t) (h0 : 0 < a.size) : ((a[0].toNat : Int) != 34) = false := by
  rw [neq_i _ 34 34 rfl, at_list a 0 h0 _ h]; rfl
theorem tag_last (tag : ByteArray) (x : List UInt8) (h : tag.data.toList = 34 :: (x ++ [34])) (h1 : tag.size - 1 < tag.size) : ((tag[tag.size - 1].toNat : Int) != 34) = false := by
  have hl : tag.size = x.length + 2 := by rw [← size_list, h]; simp
  rw [neq_i _ 34 34 rfl, at_list tag (tag.size - 1) h1 _ h]
  simp only [hl]
  simp
theorem at_hit (a : ByteArray) (x r : List UInt8) (h : a.data.toList = 34 :: (x ++ 34 :: r)) (j : Nat) (hj : j = x.length + 1) (hja : j < a.size) : ((a[j].toNat : Int) == 34) = true := by
  rw [eq_i _ 34 34 rfl, at_list a j hja _ h]
  subst hj
  simp
theorem at_miss (a : ByteArray) (x r : List UInt8) (h : a.data.toList = 34 :: (x ++ 34 :: r)) (hx : (34 : UInt8) ∉ x) (j : Nat) (h1 : 1 ≤ j) (hj : j ≤ x.length) (hja : j < a.size) : ((a[j].toNat : Int) == 34) = false := by
  rw [eq_i _ 34 34 rfl, at_list a j hja _ h]
  obtain ⟨i, rfl⟩ : ∃ i, j = i + 1 := ⟨j - 1, by omega⟩
  rw [List.getElem_cons_succ, List.getElem_append_left (by omega), beq_eq_false_iff_ne]
  intro h
  exact hx (h ▸ List.getElem_mem _)
theorem at_none (a : ByteArray) (h0 : 0 < a.size) (hq : a[0] = 34) (hn : ∀ T, a.data.toList = 34 :: T → (34 : UInt8) ∉ T) : ∀ j (hj : j < a.size), 1 ≤ j → ((a[j].toNat : Int) == 34) = false := by
  intro j hj h1
  have hl : 0 < a.data.toList.length := by rw [size_list]; exact h0
  have e : a.data.toList = 34 :: a.data.toList.drop 1 := by
    have e0 : a.data.toList[0] = 34 := hq
    rw [← e0]
    exact list1 _ hl
  have h2 := hn _ e
  rw [eq_i _ 34 34 rfl, beq_eq_false_iff_ne]
  intro h3
  apply h2
  rw [← h3]
  have e3 : a[j] = a.data.toList[j]'(by simpa using hj) := rfl
  rw [e3, List.mem_drop_iff_getElem]
  exact ⟨j - 1, by rw [size_list]; omega, by congr 1; omega⟩
theorem hasQ_none (x : List UInt8) (h : (34 : UInt8) ∉ x) : hasQ x = false := by
  unfold hasQ
  rw [List.any_eq_false]
  intro b hb hb2
  simp at hb2
  exact h (hb2 ▸ hb)
theorem tag_inner (tag : ByteArray) (x : List UInt8) (h : tag.data.toList = 34 :: (x ++ [34])) (hx : (34 : UInt8) ∉ x) (hs : tag.size ≤ 16777216) :
    ∀ w, Calls Try.prog 10 #[.string (tag.extract 1 (tag.size - 1))] w fun e w' => e = .returned (.bool false) ∧ w' = w := by
  intro w
  have hl : tag.size = x.length + 2 := by rw [← size_list, h]; simp
  have hc := hasQuote_any (tag.extract 1 (tag.size - 1)) w (by simp; omega)
  have e : (tag.extract 1 (tag.size - 1)).data.toList = x := by
    rw [extract_list, h, hl, show x.length + 2 - 1 = x.length + 1 from by omega, List.take_succ_cons, List.drop_succ_cons, List.drop_zero]
    simp
  rw [e, hasQ_none x hx] at hc
  exact hc

set_option maxHeartbeats 2000000 in
set_option maxRecDepth 100000 in
theorem splitWalk (s : ByteArray) (w : World) :
    Calls Try.prog 3 #[.string s] w fun e w' => e = .returned (.bool true) ∧ Below w.heap.size w w' := by
  by_cases hs : s.size ≤ 1048576
  · have h1 : ¬ (1048576 : Int) < (s.size : Int) := by omega
    obtain ⟨m, hm⟩ : ∃ m, Pl.mark s.data.toList = m := ⟨_, rfl⟩
    have HM := mark_facts s m hm
    obtain ⟨a, ha⟩ : ∃ a : ByteArray, a.data.toList = Pl.aft s.data.toList := ⟨⟨(Pl.aft s.data.toList).toArray⟩, rfl⟩
    have HC : Hid (∀ w, Calls Try.prog 9 #[.string s] w fun e w' => ((∃ (tag rest : ByteArray) (x : List UInt8), e = .returned (.tuple #[.string tag, .bool m, .string rest, .bool true]) ∧ (34 : UInt8) ∉ x ∧ tag.data.toList = 34 :: (x ++ [34]) ∧ a.data.toList = 34 :: (x ++ 34 :: rest.data.toList)) ∨
  (e = .returned (.tuple #[.string ⟨#[]⟩, .bool false, .string ⟨#[]⟩, .bool false]) ∧ ∀ T, a.data.toList = 34 :: T → (34 : UInt8) ∉ T)) ∧ ∃ n, w' = w.drewN n) := fun w => by rw [ha]; exact zzcut_m s m hm w (by omega)
    have HM' : Hid ((m = true ∧ ∃ (h2 : 2 ≤ s.size), s[0] = 87 ∧ s[1] = 47 ∧ s.extract 2 s.size = a) ∨
        (m = false ∧ s = a ∧ (s.size < 2 ∨ ∃ (h2 : 2 ≤ s.size), s[0] ≠ 87 ∨ (s[0] = 87 ∧ s[1] ≠ 47)))) := by
      rcases HM with ⟨a1, a2, a3, a4, a5⟩ | ⟨a1, a2, a3⟩
      · exact .inl ⟨a1, a2, a3, a4, bytes_ext _ _ (by rw [a5, ha])⟩
      · exact .inr ⟨a1, bytes_ext _ _ (by rw [ha]; exact a2), a3⟩
    have HA : Hid (s.data.toList = (if m then [87, 47] else []) ++ a.data.toList) := by
      show s.data.toList = _
      rw [ha]
      rcases Pl.mark_split s.data.toList with ⟨b1, b2⟩ | ⟨b1, b2, _⟩
      · rw [← hm, b1]; exact b2
      · rw [← hm, b1, b2]; rfl
    have hasz : a.size ≤ 1048576 := by
      have e := congrArg List.length HA.out
      rw [List.length_append, size_list, size_list] at e
      omega
    clear HM hm ha
    go_enter Try.func3, Try.ntmps3
    go_wp2_with (first | (go_at_call 8; refine (bytes8_yes _ _ hs).mono ?_; rintro e w' ⟨rfl, rfl⟩) | (go_at_call 9; refine (HC.out _).mono ?_))
    rintro e w1 ⟨hp, n, rfl⟩
    rcases hp with ⟨tag, rest, x, rfl, hx, htag, haft⟩ | ⟨rfl, hno⟩
    · have hxl : a.size = x.length + rest.size + 2 := by
        rw [← size_list, haft]; simp; omega
      have htl : tag.size = x.length + 2 := by
        rw [← size_list, htag]; simp
      have HX : Hid ((34 : UInt8) ∉ x) := hx
      have HT : Hid (tag.data.toList = 34 :: (x ++ [34])) := htag
      have HF : Hid (a.data.toList = 34 :: (x ++ 34 :: rest.data.toList)) := haft
      have HL : Hid (a.size = x.length + rest.size + 2) := hxl
      have HTL : Hid (tag.size = x.length + 2) := htl
      clear hx htag haft hxl htl
      go_upto_region 6 with fail
      go_cut [7] (fun v wc => v = .bool m ∧ wc = w'.drewN n)
      case first =>
        rcases HM'.out with ⟨rfl, a2, a3, a4, -⟩ | ⟨rfl, -, a3⟩
        · have e0 : ((s[0].toNat : Int) == 87) = true := by rw [eq_i _ 87 87 rfl, a3]; rfl
          have e1 : ((s[1].toNat : Int) == 47) = true := by rw [eq_i _ 47 47 rfl, a4]; rfl
          clear a3 a4
          go_wp2
          go_meet
          case rel => exact ⟨rfl, rfl⟩
        · rcases a3 with a3 | ⟨a2, a3 | ⟨a3, a4⟩⟩
          · go_wp2
            go_meet
            case rel => exact ⟨rfl, rfl⟩
          · have e0 : ((s[0].toNat : Int) == 87) = false := by rw [eq_i _ 87 87 rfl]; simpa using a3
            clear a3
            go_wp2
            go_meet
            case rel => exact ⟨rfl, rfl⟩
          · have e0 : ((s[0].toNat : Int) == 87) = true := by rw [eq_i _ 87 87 rfl, a3]; rfl
            have e1 : ((s[1].toNat : Int) == 47) = false := by rw [eq_i _ 47 47 rfl]; simpa using a4
            clear a3 a4
            go_wp2
            go_meet
            case rel => exact ⟨rfl, rfl⟩
      case rest =>
        obtain ⟨rfl, rfl⟩ := hcut
        go_upto_if 39 with fail
        go_cut [8] (fun v wc => v = .string a ∧ wc = w'.drewN n)
        case first =>
          rcases HM'.out with ⟨rfl, a2, -, -, a5⟩ | ⟨rfl, a2, -⟩
          · have A5 : Hid (s.extract 2 s.size = a) := a5
            clear a5
            go_wp2
            go_meet
            case rel => exact ⟨by rw [← A5.out], rfl⟩
          · have A2 : Hid (s = a) := a2
            clear a2
            go_wp2
            go_meet
            case rel => exact ⟨by rw [← A2.out], rfl⟩
        case rest =>
          obtain ⟨rfl, rfl⟩ := hcut
          have h0 : 0 < a.size := by have := HL.out; omega
          have e34 : ((a[0].toNat : Int) == 34) = true := at_first a _ HF.out h0
          have t4 : rest.size ≤ 1048576 := by have := HL.out; omega
          have t2 : 2 ≤ tag.size := by have := HTL.out; omega
          have t3 : tag.size ≤ 1048576 := by have := HTL.out; have := HL.out; omega
          have f0 : ((tag[0].toNat : Int) != 34) = false := at_first' tag _ HT.out (by omega)
          have f1 : ((tag[tag.size - 1].toNat : Int) != 34) = false := tag_last tag x HT.out (by omega)
          have H10 : Hid (∀ w, Calls Try.prog 10 #[.string (tag.extract 1 (tag.size - 1))] w fun e w' => e = .returned (.bool false) ∧ w' = w) :=
            tag_inner tag x HT.out HX.out (by have := HTL.out; have := HL.out; omega)
          go_wp2_with fail
          go_loop [9, 10] (fun c i => ∃ j : Nat, c = .bool false ∧ i = .int .i64 j ∧ 1 ≤ j ∧ j ≤ x.length + 1) (fun _ i => a.size - (intOf i).toNat)
          case atStart => exact ⟨1, rfl, rfl, Nat.le_refl _, by omega⟩
          case round =>
            obtain ⟨j, rfl, rfl, hj1, hj2⟩ := hrel
            have hja : j < a.size := by have := HL.out; omega
            by_cases hj : j = x.length + 1
            · have g34 : ((a[j].toNat : Int) == 34) = true := at_hit a x _ HF.out j hj hja
              clear hj
              go_wp2_with fail
              refine (H10.out _).mono ?_
              rintro e w2 ⟨rfl, rfl⟩
              cases m
              · go_wp2
                go_ret
                exact ⟨ret_bool (fin_eq ⟨#[]⟩ tag rest s (by rw [HA.out, HF.out, HT.out]; simp)), below_drewN (Below.refl _ _) _⟩
              · go_wp2
                go_ret
                exact ⟨ret_bool (fin_eq ⟨#[87, 47]⟩ tag rest s (by rw [HA.out, HF.out, HT.out]; simp)), below_drewN (Below.refl _ _) _⟩
            · have g34 : ((a[j].toNat : Int) == 34) = false := at_miss a x _ HF.out HX.out j hj1 (by omega) hja
              go_wp2
              go_round
              case rel => exact ⟨j + 1, rfl, by go_num, by omega, by omega⟩
              case measure => simp [intOf]; omega
    · have HN : Hid (∀ T, a.data.toList = 34 :: T → (34 : UInt8) ∉ T) := hno
      clear hno
      go_upto_region 6 with fail
      go_cut [7] (fun v wc => v = .bool m ∧ wc = w'.drewN n)
      case first =>
        rcases HM'.out with ⟨rfl, a2, a3, a4, -⟩ | ⟨rfl, -, a3⟩
        · have e0 : ((s[0].toNat : Int) == 87) = true := by rw [eq_i _ 87 87 rfl, a3]; rfl
          have e1 : ((s[1].toNat : Int) == 47) = true := by rw [eq_i _ 47 47 rfl, a4]; rfl
          clear a3 a4
          go_wp2
          go_meet
          case rel => exact ⟨rfl, rfl⟩
        · rcases a3 with a3 | ⟨a2, a3 | ⟨a3, a4⟩⟩
          · go_wp2
            go_meet
            case rel => exact ⟨rfl, rfl⟩
          · have e0 : ((s[0].toNat : Int) == 87) = false := by rw [eq_i _ 87 87 rfl]; simpa using a3
            clear a3
            go_wp2
            go_meet
            case rel => exact ⟨rfl, rfl⟩
          · have e0 : ((s[0].toNat : Int) == 87) = true := by rw [eq_i _ 87 87 rfl, a3]; rfl
            have e1 : ((s[1].toNat : Int) == 47) = false := by rw [eq_i _ 47 47 rfl]; simpa using a4
            clear a3 a4
            go_wp2
            go_meet
            case rel => exact ⟨rfl, rfl⟩
      case rest =>
        obtain ⟨rfl, rfl⟩ := hcut
        go_upto_if 39 with fail
        go_cut [8] (fun v wc => v = .string a ∧ wc = w'.drewN n)
        case first =>
          rcases HM'.out with ⟨rfl, a2, -, -, a5⟩ | ⟨rfl, a2, -⟩
          · have A5 : Hid (s.extract 2 s.size = a) := a5
            clear a5
            go_wp2
            go_meet
            case rel => exact ⟨by rw [← A5.out], rfl⟩
          · have A2 : Hid (s = a) := a2
            clear a2
            go_wp2
            go_meet
            case rel => exact ⟨by rw [← A2.out], rfl⟩
        case rest =>
          obtain ⟨rfl, rfl⟩ := hcut
          by_cases h0 : 0 < a.size
          · by_cases hq : a[0] = 34
            · have e34 : ((a[0].toNat : Int) == 34) = true := by rw [eq_i _ 34 34 rfl, hq]; rfl
              have HQ : Hid (∀ j (hj : j < a.size), 1 ≤ j → ((a[j].toNat : Int) == 34) = false) := at_none a h0 hq HN.out
              clear hq
              go_wp2_with fail
              go_loop [9, 10] (fun c i => ∃ j : Nat, c = .bool false ∧ i = .int .i64 j ∧ 1 ≤ j ∧ j ≤ a.size) (fun _ i => a.size - (intOf i).toNat)
              case atStart => exact ⟨1, rfl, rfl, Nat.le_refl _, h0⟩
              case round =>
                obtain ⟨j, rfl, rfl, hj1, hj2⟩ := hrel
                by_cases hja : j < a.size
                · have g34 : ((a[j].toNat : Int) == 34) = false := HQ.out j hja hj1
                  go_wp2
                  go_round
                  case rel => exact ⟨j + 1, rfl, by go_num, by omega, by omega⟩
                  case measure => simp [intOf]; omega
                · go_wp2
                  go_ret
                  exact ⟨rfl, below_drewN (Below.refl _ _) _⟩
            · have e34 : ((a[0].toNat : Int) == 34) = false := by rw [eq_i _ 34 34 rfl]; simpa using hq
              clear hq
              go_wp2
              go_ret
              exact ⟨rfl, below_drewN (Below.refl _ _) _⟩
          · go_wp2
            go_ret
            exact ⟨rfl, below_drewN (Below.refl _ _) _⟩
  · have h1 : 1048576 < s.size := by omega
    go_enter Try.func3, Try.ntmps3
    go_wp2_with (go_at_call 8; refine (bytes8_no _ _ h1).mono ?_; rintro e w' ⟨rfl, rfl⟩)
    go_ret
    exact ⟨rfl, Below.refl _ _⟩

end Go.Proofs.Qxb6603940a
