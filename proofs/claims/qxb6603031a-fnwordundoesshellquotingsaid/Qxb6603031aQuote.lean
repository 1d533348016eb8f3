/-
  THE WALKS of quoteSingle, quoteDouble, quoteBackslash.
-/
import Derived.Test.Qxb6603031aModel
namespace Go.Proofs.Qxb6603031a
open Go.RowKit

/-- The cells of a new row, whatever its length. -/
theorem cells_new (w : World) (C : List Value) (t : TypeId) : ∀ j u, C[j]? = some u → (w.alloc (.cells C.toArray t)).cell? ((⟨w.heap.size, 0, none⟩ : Addr).add j) = some u := by
  intro j u hj
  rw [Addr.add_lit, Nat.zero_add, World.cell?_alloc_mark]
  simpa using hj

theorem le_alloc {n : Nat} {w : World} (h : n ≤ w.heap.size) (o : Obj) : n ≤ (w.alloc o).heap.size := by simp; omega

/-- A slice of the call's own that holds the bytes acc. -/
def Buf (w wr : World) (o : Value) (acc : List UInt8) : Prop := wr.ownsRow w.heap.size 5 1 o acc.length (Lib.byteCells acc) ∧ Below w.heap.size w wr

theorem Buf.app {w wr w3 : World} {o v' : Value} {acc : List UInt8} {X : Obj} (h : Buf w wr o acc) (news : List UInt8) (hown' : w3.ownsRow w.heap.size 5 1 v' (acc.length + news.length) (Lib.byteCells acc ++ Lib.byteCells news))
    (hg : (wr.alloc X).grownBy w3 o.ownBlock) : Buf w w3 v' (acc ++ news) := by
  have hz := h.2.size
  refine ⟨?_, (h.2.alloc hz X).grown hg (by simp; omega) (fun j hj => (h.1.lt j hj).1)⟩
  rw [Lib.byteCells_append, List.length_append]; exact hown'

theorem q1_take (s : ByteArray) (k : Nat) (h : k < s.size) : Pl.q1 (s.data.toList.take (k + 1)) = Pl.q1 (s.data.toList.take k) ++ (if s[k] = 39 then [39, 92, 39, 39] else [s[k]]) := by
  rw [take_snoc s k h]; simp [Pl.q1]
theorem q2_take (s : ByteArray) (k : Nat) (h : k < s.size) : Pl.q2 (s.data.toList.take (k + 1)) = Pl.q2 (s.data.toList.take k) ++ (if Pl.esc s[k] then [92, s[k]] else [s[k]]) := by
  rw [take_snoc s k h]; simp [Pl.q2]
theorem q3_take (s : ByteArray) (k : Nat) (h : k < s.size) : Pl.q3 (s.data.toList.take (k + 1)) = Pl.q3 (s.data.toList.take k) ++ [92, s[k]] := by
  rw [take_snoc s k h]; simp [Pl.q3]
theorem q1_len (l : List UInt8) : (Pl.q1 l).length ≤ 4 * l.length := by
  induction l with
  | nil => simp [Pl.q1]
  | cons c t ih =>
    simp only [Pl.q1, List.flatMap_cons, List.length_append, List.length_cons] at ih ⊢
    split <;> simp only [List.length_cons, List.length_nil] <;> omega
theorem q2_len (l : List UInt8) : (Pl.q2 l).length ≤ 2 * l.length := by
  induction l with
  | nil => simp [Pl.q2]
  | cons c t ih =>
    simp only [Pl.q2, List.flatMap_cons, List.length_append, List.length_cons] at ih ⊢
    split <;> simp only [List.length_cons, List.length_nil] <;> omega
theorem q3_len (l : List UInt8) : (Pl.q3 l).length ≤ 2 * l.length := by
  induction l with
  | nil => simp [Pl.q3]
  | cons c t ih =>
    simp only [Pl.q3, List.flatMap_cons, List.length_append, List.length_cons] at ih ⊢
    simp only [List.length_nil]; omega

theorem ret_str {a b : List UInt8} (h : a = b) : Ending.returned (.string ⟨a.toArray⟩) = .returned (.string ⟨b.toArray⟩) := by rw [h]

theorem take_len (s : ByteArray) (k : Nat) : (s.data.toList.take k).length ≤ k := List.length_take_le _ _

set_option maxHeartbeats 1000000 in
set_option maxRecDepth 100000 in
theorem quoteSingle_any (s : ByteArray) (w : World) (hs : s.size ≤ 262144) :
    Calls Try.prog 16 #[.string s] w fun e w' => e = .returned (.string ⟨(39 :: Pl.q1 s.data.toList ++ [39]).toArray⟩) ∧ Below w.heap.size w w' := by
  obtain ⟨i0, hi, hz0, hz1, hz2⟩ := info_parts info5
  go_enter Try.func16, Try.ntmps16
  go_wp2_with (first | (at_make; refine wpList_make_own _ rfl _ _ 30 rfl w.heap.size 5 i0 (.int .u8 0) 1 Try.underlying30 hi hz0 hz1 _ _ _ (s.size + 2) rfl rfl (by omega) (by rw [hz2]; omega) (by unfold maxLen; omega) (Nat.le_refl _) ?_; intro w1 hown1 hgrow1; have hz1' := hgrow1.size) | (at_builtin; refine wpList_append_own _ rfl _ _ 30 rfl w.heap.size 5 i0 (.int .u8 0) 1 1 Try.underlying30 hi hz0 hz1 hz2 rfl (by decide) _ _ _ rfl (hown1.alloc _) _ 1 1 [.int .u8 39] rfl rfl (cell_one_new _ _ _) (fun x hx => by simp at hx; subst hx; rfl) (by unfold maxLen; omega) (by omega) (by simp; omega) ?_; intro v2 w2 hown2 hgrow2 hnil2))
  have hB : Buf w w2 v2 [39] := Buf.app (o := .slice (some ⟨w.heap.size, 0, none⟩) 0 (s.size + 2)) (acc := []) ⟨hown1, (Below.refl _ w).grown hgrow1 (Nat.le_refl _) (by simp)⟩ [39] hown2 hgrow2
  clear hown1 hgrow1 hz1' hown2 hgrow2 hnil2
  go_loopw [3, 4] (fun o i wr => ∃ k : Nat, k ≤ s.size ∧ i = .int .i64 k ∧ Buf w wr o (39 :: Pl.q1 (s.data.toList.take k))) (fun _ i _ => s.size - (intOf i).toNat)
  case atStart => exact ⟨0, Nat.zero_le _, rfl, hB⟩
  case round =>
    clear hB
    obtain ⟨k, hk, rfl, hB⟩ := hrel
    have hsz := hB.2.size
    have hl1 := q1_len (s.data.toList.take k)
    have hl2 := take_len s k
    have hln : (39 :: Pl.q1 (s.data.toList.take k)).length ≤ 4 * k + 1 := by simp; omega
    generalize hacc : (39 :: Pl.q1 (s.data.toList.take k)) = acc at *
    have HA : Hid (39 :: Pl.q1 (s.data.toList.take k) = acc) := hacc
    clear hacc hl1 hl2
    by_cases hlt : k < s.size
    · by_cases h39 : s[k] = 39
      · have e39 : ((s[k].toNat : Int) == 39) = true := by rw [eq_i _ 39 39 rfl, h39]; rfl
        have HN : Hid (39 :: Pl.q1 (s.data.toList.take (k + 1)) = acc ++ [39, 92, 39, 39]) := by
          show _ = _
          rw [q1_take s k hlt, if_pos h39, ← HA.out]; rfl
        clear h39
        go_wp2_with (at_builtin; refine wpList_append_own _ rfl _ _ 30 rfl w.heap.size 5 i0 (.int .u8 0) 1 1 Try.underlying30 hi hz0 hz1 hz2 rfl (by decide) _ _ _ rfl (hB.1.alloc _) _ 4 4 [.int .u8 39, .int .u8 92, .int .u8 39, .int .u8 39] rfl rfl (cells_new _ _ _) (fun x hx => by simp at hx; rcases hx with rfl | rfl | rfl <;> rfl) (by unfold maxLen; omega) (by omega) (by simp; omega) ?_; intro v2 w2 hown2 hgrow2 hnil2)
        go_roundw
        case rel => exact ⟨k + 1, by omega, by go_num, by rw [HN.out]; exact hB.app [39, 92, 39, 39] hown2 hgrow2⟩
        case measure => simp [intOf]; omega
      · have e39 : ((s[k].toNat : Int) == 39) = false := by rw [eq_i _ 39 39 rfl]; simpa using h39
        have HN : Hid (39 :: Pl.q1 (s.data.toList.take (k + 1)) = acc ++ [s[k]]) := by
          show _ = _
          rw [q1_take s k hlt, if_neg h39, ← HA.out]; rfl
        clear h39
        go_wp2_with (at_builtin; refine wpList_append_own _ rfl _ _ 30 rfl w.heap.size 5 i0 (.int .u8 0) 1 1 Try.underlying30 hi hz0 hz1 hz2 rfl (by decide) _ _ _ rfl (hB.1.alloc _) _ 1 1 [.int .u8 (s[k].toNat : Int)] rfl rfl (cell_one_new _ _ _) (fun x hx => by simp at hx; subst hx; rfl) (by unfold maxLen; omega) (by omega) (by simp; omega) ?_; intro v2 w2 hown2 hgrow2 hnil2)
        go_roundw
        case rel => exact ⟨k + 1, by omega, by go_num, by rw [HN.out]; exact hB.app [s[k]] hown2 hgrow2⟩
        case measure => simp [intOf]; omega
    · have HE : Hid (39 :: Pl.q1 s.data.toList = acc) := by
        show _ = _
        rw [← HA.out, List.take_of_length_le (by simp; omega)]
      go_wp2_with (at_builtin; refine wpList_append_own _ rfl _ _ 30 rfl w.heap.size 5 i0 (.int .u8 0) 1 1 Try.underlying30 hi hz0 hz1 hz2 rfl (by decide) _ _ _ rfl (hB.1.alloc _) _ 1 1 [.int .u8 39] rfl rfl (cell_one_new _ _ _) (fun x hx => by simp at hx; subst hx; rfl) (by unfold maxLen; omega) (by omega) (by simp; omega) ?_; intro v2 w2 hown2 hgrow2 hnil2; have hB2 := hB.app [39] hown2 hgrow2; obtain ⟨_, _, _, rfl, hcv⟩ := convert_owned _ _ _ _ hB2.1; have hcv0 := hcv 0; rw [World.drewN_zero] at hcv0; clear hcv hown2 hgrow2 hnil2)
      go_ret
      exact ⟨ret_str (by rw [← HE.out]; rfl), hB2.2⟩

set_option maxHeartbeats 1000000 in
set_option maxRecDepth 100000 in
theorem quoteBackslash_any (s : ByteArray) (w : World) (hs : s.size ≤ 262144) :
    Calls Try.prog 18 #[.string s] w fun e w' => e = .returned (.string ⟨(Pl.q3 s.data.toList).toArray⟩) ∧ Below w.heap.size w w' := by
  obtain ⟨i0, hi, hz0, hz1, hz2⟩ := info_parts info5
  go_enter Try.func18, Try.ntmps18
  go_wp2_with (at_make; refine wpList_make_own _ rfl _ _ 30 rfl w.heap.size 5 i0 (.int .u8 0) 1 Try.underlying30 hi hz0 hz1 _ _ _ (2 * s.size) rfl rfl (by omega) (by rw [hz2]; omega) (by unfold maxLen; omega) (Nat.le_refl _) ?_; intro w1 hown1 hgrow1)
  have hB : Buf w w1 (.slice (some ⟨w.heap.size, 0, none⟩) 0 (2 * s.size)) [] := ⟨hown1, (Below.refl _ w).grown hgrow1 (Nat.le_refl _) (by simp)⟩
  clear hown1 hgrow1
  go_loopw [3, 4] (fun o i wr => ∃ k : Nat, k ≤ s.size ∧ i = .int .i64 k ∧ Buf w wr o (Pl.q3 (s.data.toList.take k))) (fun _ i _ => s.size - (intOf i).toNat)
  case atStart => exact ⟨0, Nat.zero_le _, rfl, hB⟩
  case round =>
    clear hB
    obtain ⟨k, hk, rfl, hB⟩ := hrel
    have hsz := hB.2.size
    have hl1 := q3_len (s.data.toList.take k)
    have hl2 := take_len s k
    have hln : (Pl.q3 (s.data.toList.take k)).length ≤ 2 * k := by omega
    generalize hacc : Pl.q3 (s.data.toList.take k) = acc at *
    have HA : Hid (Pl.q3 (s.data.toList.take k) = acc) := hacc
    clear hacc hl1 hl2
    by_cases hlt : k < s.size
    · have HN : Hid (Pl.q3 (s.data.toList.take (k + 1)) = acc ++ [92, s[k]]) := by
        show _ = _
        rw [q3_take s k hlt, ← HA.out]
      go_wp2_with (at_builtin; refine wpList_append_own _ rfl _ _ 30 rfl w.heap.size 5 i0 (.int .u8 0) 1 1 Try.underlying30 hi hz0 hz1 hz2 rfl (by decide) _ _ _ rfl (hB.1.alloc _) _ 2 2 [.int .u8 92, .int .u8 (s[k].toNat : Int)] rfl rfl (cells_new _ _ _) (fun x hx => by simp at hx; rcases hx with rfl | rfl <;> rfl) (by unfold maxLen; omega) (by omega) (by simp; omega) ?_; intro v2 w2 hown2 hgrow2 hnil2)
      go_roundw
      case rel => exact ⟨k + 1, by omega, by go_num, by rw [HN.out]; exact hB.app [92, s[k]] hown2 hgrow2⟩
      case measure => simp [intOf]; omega
    · have HE : Hid (Pl.q3 s.data.toList = acc) := by
        show _ = _
        rw [← HA.out, List.take_of_length_le (by simp; omega)]
      obtain ⟨_, _, _, rfl, hcv⟩ := convert_owned _ _ _ _ hB.1
      have hcv0 := hcv 0
      rw [World.drewN_zero] at hcv0
      clear hcv
      go_wp2
      go_ret
      exact ⟨ret_str HE.out.symm, hB.2⟩

set_option maxHeartbeats 1000000 in
set_option maxRecDepth 100000 in
theorem quoteDouble_any (s : ByteArray) (w : World) (hs : s.size ≤ 262144) :
    Calls Try.prog 17 #[.string s] w fun e w' => e = .returned (.string ⟨(34 :: Pl.q2 s.data.toList ++ [34]).toArray⟩) ∧ Below w.heap.size w w' := by
  obtain ⟨i0, hi, hz0, hz1, hz2⟩ := info_parts info5
  go_enter Try.func17, Try.ntmps17
  go_wp2_with (first | (at_make; refine wpList_make_own _ rfl _ _ 30 rfl w.heap.size 5 i0 (.int .u8 0) 1 Try.underlying30 hi hz0 hz1 _ _ _ (s.size + 2) rfl rfl (by omega) (by rw [hz2]; omega) (by unfold maxLen; omega) (Nat.le_refl _) ?_; intro w1 hown1 hgrow1; have hz1' := hgrow1.size) | (at_builtin; refine wpList_append_own _ rfl _ _ 30 rfl w.heap.size 5 i0 (.int .u8 0) 1 1 Try.underlying30 hi hz0 hz1 hz2 rfl (by decide) _ _ _ rfl (hown1.alloc _) _ 1 1 [.int .u8 34] rfl rfl (cell_one_new _ _ _) (fun x hx => by simp at hx; subst hx; rfl) (by unfold maxLen; omega) (by omega) (by simp; omega) ?_; intro v2 w2 hown2 hgrow2 hnil2))
  have hB : Buf w w2 v2 [34] := Buf.app (o := .slice (some ⟨w.heap.size, 0, none⟩) 0 (s.size + 2)) (acc := []) ⟨hown1, (Below.refl _ w).grown hgrow1 (Nat.le_refl _) (by simp)⟩ [34] hown2 hgrow2
  clear hown1 hgrow1 hz1' hown2 hgrow2 hnil2
  go_loopw [3, 4] (fun o i wr => ∃ k : Nat, k ≤ s.size ∧ i = .int .i64 k ∧ Buf w wr o (34 :: Pl.q2 (s.data.toList.take k))) (fun _ i _ => s.size - (intOf i).toNat)
  case atStart => exact ⟨0, Nat.zero_le _, rfl, hB⟩
  case round =>
    clear hB
    obtain ⟨k, hk, rfl, hB⟩ := hrel
    have hsz := hB.2.size
    have hl1 := q2_len (s.data.toList.take k)
    have hl2 := take_len s k
    have hln : (34 :: Pl.q2 (s.data.toList.take k)).length ≤ 2 * k + 1 := by simp; omega
    generalize hacc : (34 :: Pl.q2 (s.data.toList.take k)) = acc at *
    have HA : Hid (34 :: Pl.q2 (s.data.toList.take k) = acc) := hacc
    clear hacc hl1 hl2
    by_cases hlt : k < s.size
    · cases he : Pl.esc s[k]
      · have HN : Hid (34 :: Pl.q2 (s.data.toList.take (k + 1)) = acc ++ [s[k]]) := by
          show _ = _
          rw [q2_take s k hlt, if_neg (by simp [he]), ← HA.out]; rfl
        go_wp2_with (first | (go_at_call 24; refine (esc_any _ _).mono ?_; rintro e w' ⟨rfl, rfl⟩) | (at_builtin; refine wpList_append_own _ rfl _ _ 30 rfl w.heap.size 5 i0 (.int .u8 0) 1 1 Try.underlying30 hi hz0 hz1 hz2 rfl (by decide) _ _ _ rfl (hB.1.alloc _) _ 1 1 [.int .u8 (s[k].toNat : Int)] rfl rfl (cell_one_new _ _ _) (fun x hx => by simp at hx; subst hx; rfl) (by unfold maxLen; omega) (by omega) (by simp; omega) ?_; intro v2 w2 hown2 hgrow2 hnil2))
        go_roundw
        case rel => exact ⟨k + 1, by omega, by go_num, by rw [HN.out]; exact hB.app [s[k]] hown2 hgrow2⟩
        case measure => simp [intOf]; omega
      · have HN : Hid (34 :: Pl.q2 (s.data.toList.take (k + 1)) = acc ++ [92] ++ [s[k]]) := by
          show _ = _
          rw [q2_take s k hlt, if_pos he, ← HA.out]; simp
        have tok1 : True := trivial
        go_wp2_with (first | (go_at_call 24; refine (esc_any _ _).mono ?_; rintro e w' ⟨rfl, rfl⟩) | (at_builtin; have _t := tok1; refine wpList_append_own _ rfl _ _ 30 rfl w.heap.size 5 i0 (.int .u8 0) 1 1 Try.underlying30 hi hz0 hz1 hz2 rfl (by decide) _ _ _ rfl (hB.1.alloc _) _ 1 1 [.int .u8 92] rfl rfl (cell_one_new _ _ _) (fun x hx => by simp at hx; subst hx; rfl) (by unfold maxLen; omega) (by omega) (le_alloc hsz _) ?_; intro v3 w3 hown3 hgrow3 hnil3; have hB3 := hB.app [92] hown3 hgrow3; have hsz3 := hB3.2.size; have hln3 : (acc ++ [92]).length = acc.length + 1 := (by simp); clear tok1) | (at_builtin; refine wpList_append_own _ rfl _ _ 30 rfl w.heap.size 5 i0 (.int .u8 0) 1 1 Try.underlying30 hi hz0 hz1 hz2 rfl (by decide) _ _ _ rfl (hB3.1.alloc _) _ 1 1 [.int .u8 (s[k].toNat : Int)] rfl rfl (cell_one_new _ _ _) (fun x hx => by simp at hx; subst hx; rfl) (by unfold maxLen; omega) (by omega) (le_alloc hsz3 _) ?_; intro v2 w2 hown2 hgrow2 hnil2))
        go_roundw
        case rel => exact ⟨k + 1, by omega, by go_num, by rw [HN.out]; exact hB3.app [s[k]] hown2 hgrow2⟩
        case measure => simp [intOf]; omega
    · have HE : Hid (34 :: Pl.q2 s.data.toList = acc) := by
        show _ = _
        rw [← HA.out, List.take_of_length_le (by simp; omega)]
      go_wp2_with (at_builtin; refine wpList_append_own _ rfl _ _ 30 rfl w.heap.size 5 i0 (.int .u8 0) 1 1 Try.underlying30 hi hz0 hz1 hz2 rfl (by decide) _ _ _ rfl (hB.1.alloc _) _ 1 1 [.int .u8 34] rfl rfl (cell_one_new _ _ _) (fun x hx => by simp at hx; subst hx; rfl) (by unfold maxLen; omega) (by omega) (by simp; omega) ?_; intro v2 w2 hown2 hgrow2 hnil2; have hB2 := hB.app [34] hown2 hgrow2; obtain ⟨_, _, _, rfl, hcv⟩ := convert_owned _ _ _ _ hB2.1; have hcv0 := hcv 0; rw [World.drewN_zero] at hcv0; clear hcv hown2 hgrow2 hnil2)
      go_ret
      exact ⟨ret_str (by rw [← HE.out]; rfl), hB2.2⟩

end Go.Proofs.Qxb6603031a
