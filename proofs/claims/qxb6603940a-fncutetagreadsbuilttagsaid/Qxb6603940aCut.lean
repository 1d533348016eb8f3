/-
  THE WALKS of cutETag, ZZCutETag, zzHasQuote and the two bounds.
-/
import Derived.Test.Qxb6603940aRows
import Derived.Test.Qxb6603940aPlain
import Derived.Test.Qxb6603940aShelf
import Derived.WalkKit
import Derived.WalkSpells
import Derived.WalkLawsBesides
import Derived.Deep.QuietTactic
import Derived.BigQuiet
import Derived.Deep.Draws
namespace Go.Proofs.Qxb6603940a
open Go.RowKit

theorem ret_bool {a b : Bool} (h : a = b) : Ending.returned (.bool a) = .returned (.bool b) := by rw [h]
theorem byte_eq_int (b c : UInt8) : ((b.toNat : Int) == (c.toNat : Int)) = (b == c) := by
  rw [Bool.eq_iff_iff]
  simp only [beq_iff_eq]
  constructor
  · intro h; exact UInt8.toNat_inj.1 (by omega)
  · rintro rfl; rfl
theorem neq_i (a : UInt8) (c : UInt8) (n : Int) (hn : (c.toNat : Int) = n) : ((a.toNat : Int) != n) = !(a == c) := by rw [← hn, bne, byte_eq_int a c]
theorem eq_i (a : UInt8) (c : UInt8) (n : Int) (hn : (c.toNat : Int) = n) : ((a.toNat : Int) == n) = (a == c) := by rw [← hn, byte_eq_int a c]
theorem extract_list (s : ByteArray) (a b : Nat) : (s.extract a b).data.toList = (s.data.toList.take b).drop a := by
  simp [ByteArray.data_extract, List.extract_eq_take_drop, List.drop_take]
theorem extract_rest (s : ByteArray) (a : Nat) : (s.extract a s.size).data.toList = s.data.toList.drop a := by
  rw [extract_list, List.take_of_length_le (by simp)]
theorem bytes_ext (a b : ByteArray) (h : a.data.toList = b.data.toList) : a = b := by
  obtain ⟨⟨x⟩⟩ := a
  obtain ⟨⟨y⟩⟩ := b
  simp at h
  rw [h]
theorem size_list (a : ByteArray) : a.data.toList.length = a.size := by simp
theorem at_list (a : ByteArray) (i : Nat) (h : i < a.size) (l : List UInt8) (e : a.data.toList = l) : a[i] = l[i]'(by rw [← e]; simpa using h) := by
  subst e; rfl

def CutPost (s : ByteArray) (e : Ending) : Prop :=
  (∃ (tag rest : ByteArray) (x : List UInt8), e = .returned (.tuple #[.string tag, .bool (Pl.mark s.data.toList), .string rest, .bool true]) ∧ (34 : UInt8) ∉ x ∧ tag.data.toList = 34 :: (x ++ [34]) ∧ Pl.aft s.data.toList = 34 :: (x ++ 34 :: rest.data.toList)) ∨
  (e = .returned (.tuple #[.string ⟨#[]⟩, .bool false, .string ⟨#[]⟩, .bool false]) ∧ ∀ T, Pl.aft s.data.toList = 34 :: T → (34 : UInt8) ∉ T)

theorem post_yes (s a : ByteArray) (k : Nat) (T : List UInt8) (ha : a.data.toList = Pl.aft s.data.toList) (hT : a.data.toList = 34 :: T) (hk : Lib.indexByte T 34 = k) :
    CutPost s (.returned (.tuple #[.string (a.extract 0 (k + 2)), .bool (Pl.mark s.data.toList), .string (a.extract (k + 2) a.size), .bool true])) := by
  obtain ⟨h1, h2, h3⟩ := Pl.index_some T 34 k hk
  refine .inl ⟨_, _, T.take k, rfl, h3, ?_, ?_⟩
  · rw [extract_list, hT, List.drop_zero, List.take_succ_cons]
    congr 1
    conv => lhs; rw [h2]
    rw [List.take_append, List.length_take, Nat.min_eq_left (by omega), List.take_of_length_le (by rw [List.length_take]; omega), show k + 1 - k = 1 from by omega]
    simp
  · rw [extract_rest, ← ha, hT, List.drop_succ_cons]
    congr 1

set_option maxHeartbeats 1000000 in
theorem cut_any (s : ByteArray) (w : World) (hs : s.size ≤ 16777216) :
    Calls Try.prog 20 #[.string s] w fun e w' => CutPost s e ∧ ∃ n, w' = w.drewN n := by
  obtain ⟨a, ha, hc1⟩ : ∃ a : ByteArray, Hid (a.data.toList = Pl.aft s.data.toList) ∧ ∀ w, Calls Try.prog 22 #[.string s, .string ⟨#[87, 47]⟩] w fun e w' => e = .returned (.tuple #[.string a, .bool (Pl.mark s.data.toList)]) ∧ w' = w :=
    ⟨⟨(Pl.aft s.data.toList).toArray⟩, rfl, fun w => Try.strings_CutPrefix s ⟨#[87, 47]⟩ w⟩
  have H1 : Hid (∀ w, Calls Try.prog 22 #[.string s, .string ⟨#[87, 47]⟩] w fun e w' => e = .returned (.tuple #[.string a, .bool (Pl.mark s.data.toList)]) ∧ w' = w) := hc1
  clear hc1
  have hasz : a.size ≤ 16777216 := by
    have h1 : a.data.toList.length ≤ s.data.toList.length := by
      rw [ha.out]; unfold Pl.aft Lib.trimPrefix; split
      · simp
      · exact Nat.le_refl _
    rw [size_list, size_list] at h1; omega
  have H2 : Hid (∀ w, Calls Try.prog 23 #[.string a, .string ⟨#[34]⟩] w fun e w' => e = .returned (.bool (Lib.hasPrefix a.data.toList [34])) ∧ w' = w) := fun w => Try.strings_HasPrefix a ⟨#[34]⟩ w
  by_cases hp : ∃ T, a.data.toList = 34 :: T
  · obtain ⟨T, hT⟩ := hp
    have H2' : Hid (∀ w, Calls Try.prog 23 #[.string a, .string ⟨#[34]⟩] w fun e w' => e = .returned (.bool true) ∧ w' = w) := by
      have e : Lib.hasPrefix a.data.toList [34] = true := by rw [hT]; simp [Lib.hasPrefix, List.isPrefixOf]
      have := H2.out
      rw [e] at this
      exact this
    have h1 : 1 ≤ a.size := by rw [← size_list, hT]; simp
    obtain ⟨q, hq, hc3⟩ : ∃ q : Int, Hid (q = Lib.indexByte T 34) ∧ ∀ w, Calls Try.prog 24 #[.string (a.extract 1 a.size), .int .u8 34] w fun e w' => e = .returned (.int .i64 q) ∧ w' = w :=
      ⟨_, rfl, fun w => by have := Try.strings_IndexByte (a.extract 1 a.size) 34 w; rw [extract_rest, hT] at this; exact this⟩
    have H3 : Hid (∀ w, Calls Try.prog 24 #[.string (a.extract 1 a.size), .int .u8 34] w fun e w' => e = .returned (.int .i64 q) ∧ w' = w) := hc3
    have HT : Hid (a.data.toList = 34 :: T) := hT
    clear hc3 H2 hT
    by_cases hq1 : q = -1
    · have HE : Hid (CutPost s (.returned (.tuple #[.string ⟨#[]⟩, .bool false, .string ⟨#[]⟩, .bool false]))) := by
        refine .inr ⟨rfl, fun T' hT' => ?_⟩
        rw [← ha.out, HT.out] at hT'
        injection hT' with _ hT'
        rw [← hT']
        exact Pl.index_none T 34 (by rw [← hq.out]; exact hq1)
      subst hq1
      clear hq
      go_enter Try.func20, Try.ntmps20
      go_wp2_with (first | (go_at_call 22; refine (H1.out _).mono ?_; rintro e w' ⟨rfl, rfl⟩) | (go_at_call 23; refine (H2'.out _).mono ?_; rintro e w' ⟨rfl, rfl⟩) | (go_at_call 24; refine (H3.out _).mono ?_; rintro e w' ⟨rfl, rfl⟩))
      exact bodyPost_ret (v := .tuple #[.string ⟨#[]⟩, .bool false, .string ⟨#[]⟩, .bool false]) (by simp [results, Try.results20, go_sem]) rfl ⟨HE.out, 0, rfl⟩
    · have hqge := Lib.indexByte_ge T 34
      rw [← hq.out] at hqge
      obtain ⟨k, rfl⟩ : ∃ k : Nat, q = k := ⟨q.toNat, by omega⟩
      have HE : Hid (CutPost s (.returned (.tuple #[.string (a.extract 0 (k + 2)), .bool (Pl.mark s.data.toList), .string (a.extract (k + 2) a.size), .bool true]))) := post_yes s a k T ha.out HT.out hq.out.symm
      have hk : k + 2 ≤ a.size := by
        have := (Pl.index_some T 34 k hq.out.symm).1
        rw [← size_list, HT.out]; simp; omega
      clear hq hq1 hqge
      go_enter Try.func20, Try.ntmps20
      go_wp2_with (first | (go_at_call 22; refine (H1.out _).mono ?_; rintro e w' ⟨rfl, rfl⟩) | (go_at_call 23; refine (H2'.out _).mono ?_; rintro e w' ⟨rfl, rfl⟩) | (go_at_call 24; refine (H3.out _).mono ?_; rintro e w' ⟨rfl, rfl⟩))
      go_quiet (fail)
      go_wp2
      exact bodyPost_ret (v := .tuple #[.string (a.extract 0 (k + 2)), .bool (Pl.mark s.data.toList), .string (a.extract (k + 2) a.size), .bool true]) (by simp [results, Try.results20, go_sem]) rfl ⟨HE.out, _, rfl⟩
  · have H2' : Hid (∀ w, Calls Try.prog 23 #[.string a, .string ⟨#[34]⟩] w fun e w' => e = .returned (.bool false) ∧ w' = w) := by
      have e : Lib.hasPrefix a.data.toList [34] = false := by
        cases hl : a.data.toList with
        | nil => simp [Lib.hasPrefix]
        | cons b t =>
          have hb : b ≠ 34 := by rintro rfl; exact hp ⟨t, hl⟩
          simp [Lib.hasPrefix, List.isPrefixOf, Ne.symm hb]
      have := H2.out
      rw [e] at this
      exact this
    have HE : Hid (CutPost s (.returned (.tuple #[.string ⟨#[]⟩, .bool false, .string ⟨#[]⟩, .bool false]))) :=
      .inr ⟨rfl, fun T hT => absurd ⟨T, by rw [ha.out, hT]⟩ hp⟩
    clear H2 hp
    go_enter Try.func20, Try.ntmps20
    go_wp2_with (first | (go_at_call 22; refine (H1.out _).mono ?_; rintro e w' ⟨rfl, rfl⟩) | (go_at_call 23; refine (H2'.out _).mono ?_; rintro e w' ⟨rfl, rfl⟩))
    exact bodyPost_ret (v := .tuple #[.string ⟨#[]⟩, .bool false, .string ⟨#[]⟩, .bool false]) (by simp [results, Try.results20, go_sem]) rfl ⟨HE.out, 0, rfl⟩

set_option maxHeartbeats 400000 in
theorem zzcut_any (s : ByteArray) (w : World) (hs : s.size ≤ 16777216) :
    Calls Try.prog 9 #[.string s] w fun e w' => CutPost s e ∧ ∃ n, w' = w.drewN n := by
  go_enter Try.func9, Try.ntmps9
  go_wp2_with (go_at_call 20; refine (cut_any _ _ hs).mono ?_)
  rintro e w1 ⟨hp, n, rfl⟩
  rcases hp with ⟨tag, rest, x, rfl, h1, h2, h3⟩ | ⟨rfl, h1⟩
  · have HE : Hid (CutPost s (.returned (.tuple #[.string tag, .bool (Pl.mark s.data.toList), .string rest, .bool true]))) := .inl ⟨tag, rest, x, rfl, h1, h2, h3⟩
    clear h1 h2 h3
    go_wp2
    exact bodyPost_ret (v := .tuple #[.string tag, .bool (Pl.mark s.data.toList), .string rest, .bool true]) (by simp [results, Try.results9, go_sem]) rfl ⟨HE.out, n, rfl⟩
  · have HE : Hid (CutPost s (.returned (.tuple #[.string ⟨#[]⟩, .bool false, .string ⟨#[]⟩, .bool false]))) := .inr ⟨rfl, h1⟩
    clear h1
    go_wp2
    exact bodyPost_ret (v := .tuple #[.string ⟨#[]⟩, .bool false, .string ⟨#[]⟩, .bool false]) (by simp [results, Try.results9, go_sem]) rfl ⟨HE.out, n, rfl⟩

def hasQ (l : List UInt8) : Bool := l.any fun b => b == 34

theorem take_snoc (s : ByteArray) (k : Nat) (h : k < s.size) : s.data.toList.take (k + 1) = s.data.toList.take k ++ [s[k]] := by
  rw [List.take_succ_eq_append_getElem (by simpa using h)]; rfl

theorem hasQ_hit (s : ByteArray) (k : Nat) (h : k < s.size) (h2 : s[k] = 34) : hasQ s.data.toList = true := by
  unfold hasQ
  rw [List.any_eq_true]
  exact ⟨s[k], by simp [ByteArray.getElem_eq_getElem_data], by simp [h2]⟩

set_option maxHeartbeats 400000 in
theorem hasQuote_any (s : ByteArray) (w : World) (hs : s.size ≤ 16777216) :
    Calls Try.prog 10 #[.string s] w fun e w' => e = .returned (.bool (hasQ s.data.toList)) ∧ w' = w := by
  go_enter Try.func10, Try.ntmps10
  go_wp2
  go_loop [3] (fun i => ∃ k : Nat, k ≤ s.size ∧ i = .int .i64 k ∧ Hid (hasQ (s.data.toList.take k) = false)) (fun i => s.size - (intOf i).toNat)
  case atStart => exact ⟨0, Nat.zero_le _, rfl, rfl⟩
  case round =>
    obtain ⟨k, hk, rfl, HN⟩ := hrel
    by_cases hlt : k < s.size
    · by_cases hc : s[k] = 34
      · have HH : Hid (hasQ s.data.toList = true) := hasQ_hit s k hlt hc
        have e34 : ((s[k].toNat : Int) == 34) = true := by rw [eq_i _ 34 34 rfl, hc]; rfl
        clear hc
        go_wp2
        go_ret
        exact ⟨ret_bool HH.out.symm, rfl⟩
      · have e34 : ((s[k].toNat : Int) == 34) = false := by rw [eq_i _ 34 34 rfl]; simpa using hc
        have HS : Hid (hasQ (s.data.toList.take (k + 1)) = false) := by
          show hasQ _ = false
          rw [take_snoc s k hlt]
          have := HN.out
          unfold hasQ at this ⊢
          rw [List.any_append, this]
          simpa using hc
        clear hc
        go_wp2
        go_round
        case rel => exact ⟨k + 1, by omega, by go_num, HS⟩
        case measure => simp [intOf]; omega
    · go_wp2
      go_ret
      exact ⟨ret_bool (by have := HN.out; rw [List.take_of_length_le (by simp; omega)] at this; exact this.symm), rfl⟩

set_option maxHeartbeats 400000 in
theorem bytes8_yes (s : ByteArray) (w : World) (h : s.size ≤ 1048576) :
    Calls Try.prog 8 #[.string s] w fun e w' => e = .returned (.bool true) ∧ w' = w := by
  have h1 : ¬ (1048576 : Int) < (s.size : Int) := by omega
  go_enter Try.func8, Try.ntmps8
  go_wp2
  go_ret
  exact ⟨rfl, rfl⟩

set_option maxHeartbeats 400000 in
theorem bytes8_no (s : ByteArray) (w : World) (h : 1048576 < s.size) :
    Calls Try.prog 8 #[.string s] w fun e w' => e = .returned (.bool false) ∧ w' = w := by
  have h1 : (1048576 : Int) < (s.size : Int) := by omega
  go_enter Try.func8, Try.ntmps8
  go_wp2
  go_ret
  exact ⟨rfl, rfl⟩

end Go.Proofs.Qxb6603940a
