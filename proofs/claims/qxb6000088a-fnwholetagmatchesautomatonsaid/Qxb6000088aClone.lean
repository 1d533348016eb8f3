/-
  THE WALKS of zzClone, skipTagSpace, zzTagModel and the bound.
-/
import Derived.Test.Qxb6000088aStep
import Derived.Laws.CopyOwn
namespace Go.Proofs.Qxb6000088a
open Go.RowKit

theorem info5 : (Try.prog.info? 5).map (fun i => (i.zero, i.size, i.bytes)) = some (some (.int .u8 0), 1, 1) := by kernel_rfl
theorem size5 : (Try.prog.info? 5).map (·.size) = some 1 := by kernel_rfl

def cellsOf (s : ByteArray) : List Value := s.data.toList.map fun b => Value.int .u8 (b.toNat : Int)
theorem cellsOf_length (s : ByteArray) : (cellsOf s).length = s.size := by simp [cellsOf]

theorem own_heap {w : World} {B g n cap : Nat} {xs : List Value} (h : w.ownsRow B 5 1 (.slice (some ⟨g, 0, none⟩) n cap) n xs) : ∃ cur : List Value, w.heap[g]? = some (.cells cur.toArray 5 (0, 0)) ∧ cur.length = cap := by
  rcases h.2 with ⟨h', _⟩ | ⟨g', cap', cur, h', _, hg, _, _, hcs, _⟩
  · simp at h'
  · simp at h'
    obtain ⟨rfl, rfl⟩ := h'
    exact ⟨cur.toList, by simpa using hg, by simp [hcs]⟩

theorem splice_all (L cs : List Value) (h : L.length = cs.length) : splice L 0 cs = cs := by
  simp [splice, h]

theorem bytes_of_row {w : World} {g : Nat} {s : ByteArray} (h : w.heap[g]? = some (.cells (cellsOf s).toArray 5 (0, 0))) : Lib.Bytes w g 0 s := by
  intro i hi
  have hl : i < s.data.toList.length := by simpa using hi
  rw [Nat.zero_add]
  simp only [World.cell?, h]
  simp [cellsOf, hi]
  rfl

set_option maxHeartbeats 400000 in
theorem bytes8_yes (a : Option Addr) (len cap : Nat) (w : World) (h : len ≤ 1048576) :
    Calls Try.prog 8 #[.slice a len cap] w fun e w' => e = .returned (.bool true) ∧ w' = w := by
  have h1 : ¬ (1048576 : Int) < (len : Int) := by omega
  go_enter Try.func8, Try.ntmps8
  go_wp2
  go_ret
  exact ⟨rfl, rfl⟩

set_option maxHeartbeats 400000 in
theorem bytes8_no (a : Option Addr) (len cap : Nat) (w : World) (h : 1048576 < len) :
    Calls Try.prog 8 #[.slice a len cap] w fun e w' => e = .returned (.bool false) ∧ w' = w := by
  have h1 : (1048576 : Int) < (len : Int) := by omega
  go_enter Try.func8, Try.ntmps8
  go_wp2
  go_ret
  exact ⟨rfl, rfl⟩

theorem copy_run (a : Addr) (cap : Nat) (s : ByteArray) (w w1 : World) (ha : a.block < w.heap.size) (cur : List Value) (hg : w1.heap[w.heap.size]? = some (.cells cur.toArray 5 (0, 0))) (hcl : cur.length = s.size) (hb : Below w.heap.size w w1)
    (hc : ∀ i (h : i < s.size), w.cell? (a.add i) = some (.int .u8 (s[i].toNat : Int))) :
    ∃ w2, (∀ ty, (Builtin.copy_ #[22, 22] ty #[.slice (some ⟨w.heap.size, 0, none⟩) s.size s.size, .slice (some a) s.size cap]).run Try.prog w1 = .ok (goInt (s.size : Int)) w2) ∧
      w2.heap[w.heap.size]? = some (.cells (cellsOf s).toArray 5 (0, 0)) ∧ Below w.heap.size w w2 := by
  have hblk : ∀ i, (a.add i).block = a.block := fun i => by cases a; simp [Addr.add]; split <;> rfl
  have hsrc : ∀ j v, (cellsOf s)[j]? = some v → w1.cell? (a.add j) = some v := by
    intro j v hj
    have hjl : j < s.size := by
      have := (List.getElem?_eq_some_iff.1 hj).1
      rwa [cellsOf_length] at this
    rw [hb.cell (by rw [hblk]; exact ha), hc j hjl, ← hj]
    simp [cellsOf, hjl]
    rfl
  refine ⟨w1.setRow w.heap.size (cellsOf s).toArray, fun ty => ?_, setRow_heap w1 w.heap.size _ _ 5 _ hg, below_setRow hb (Nat.le_refl _) _⟩
  have h := run_copy_row (P := Try.prog) w1 22 22 ty 5 w.heap.size 0 s.size s.size a s.size cap cur.toArray 5 (cellsOf s) Try.underlying22 size5 hg (by rw [cellsOf_length]; exact (Nat.min_self _).symm) hsrc (by rw [cellsOf_length]; simp [hcl]) (fun v hv => by
    simp only [cellsOf, List.mem_map] at hv
    obtain ⟨_, _, rfl⟩ := hv
    rfl)
  have e : (List.take 0 cur.toArray.toList ++ cellsOf s ++ List.drop (0 + (cellsOf s).length) cur.toArray.toList) = cellsOf s := by
    rw [cellsOf_length]; simp [hcl]
  rw [e, cellsOf_length] at h
  exact h

theorem clone_step (a : Addr) (cap : Nat) (s : ByteArray) (w w1 : World) (ha : a.block < w.heap.size) {xs : List Value} (hown : w1.ownsRow w.heap.size 5 1 (.slice (some ⟨w.heap.size, 0, none⟩) s.size s.size) s.size xs) (hgrow : w.grownBy w1 none)
    (hc : ∀ i (h : i < s.size), w.cell? (a.add i) = some (.int .u8 (s[i].toNat : Int))) :
    ∃ w2, (∀ ty, (Builtin.copy_ #[22, 22] ty #[.slice (some ⟨w.heap.size, 0, none⟩) s.size s.size, .slice (some a) s.size cap]).run Try.prog w1 = .ok (goInt (s.size : Int)) w2) ∧
      Hid (w2.heap[w.heap.size]? = some (.cells (cellsOf s).toArray 5 (0, 0))) ∧ Below w.heap.size w w2 := by
  obtain ⟨cur, hcur, hcl⟩ := own_heap hown
  exact copy_run a cap s w w1 ha cur hcur hcl ((Below.refl _ w).grown hgrow (Nat.le_refl _) (by simp)) hc

set_option maxHeartbeats 1000000 in
theorem clone_any (a : Addr) (cap : Nat) (s : ByteArray) (w : World) (hs : s.size ≤ 1048576) (ha : a.block < w.heap.size) (hc : ∀ i (h : i < s.size), w.cell? (a.add i) = some (.int .u8 (s[i].toNat : Int))) :
    Calls Try.prog 9 #[.slice (some a) s.size cap] w fun e w' => e = .returned (.slice (some ⟨w.heap.size, 0, none⟩) s.size s.size) ∧ Lib.Bytes w' w.heap.size 0 s ∧ Below w.heap.size w w' := by
  obtain ⟨i0, hi, hz0, hz1, hz2⟩ := info_parts info5
  have HC : Hid (∀ i (h : i < s.size), w.cell? (a.add i) = some (.int .u8 (s[i].toNat : Int))) := hc
  clear hc
  have hnil := fun wx => Lib.run_eql_slice_nil (P := Try.prog) (w := wx) 22 5 (some a) s.size cap 0 0 Try.underlying22
  go_enter Try.func9, Try.ntmps9
  go_wp2_with (at_make; refine wpList_make_full _ rfl _ _ 22 rfl w.heap.size 5 i0 (.int .u8 0) 1 Try.underlying22 hi hz0 hz1 _ _ _ _ s.size rfl rfl (by omega) (by omega) (by rw [hz2]; omega) (by unfold maxLen; omega) (Nat.le_refl _) ?_; intro w1 hown1 hgrow1; obtain ⟨w2, hrun, HW, hb2⟩ := clone_step a cap s w w1 ha hown1 hgrow1 HC.out; clear hown1 hgrow1)
  go_ret
  exact ⟨rfl, bytes_of_row HW.out, hb2⟩

theorem cell_at {w : World} {g : Nat} {s : ByteArray} (h : Lib.Bytes w g 0 s) (k : Nat) (hk : k < s.size) : w.cell? ⟨g, k, none⟩ = some (.int .u8 (s[k].toNat : Int)) := by
  have := h k hk
  rwa [Nat.zero_add] at this

theorem skip_ex (s : ByteArray) (d : Nat) : ∀ i, i ≤ s.size → s.size - i = d → ∃ j, Pl.Skip s i j := by
  induction d with
  | zero =>
    intro i hi hd
    exact ⟨i, Nat.le_refl _, hi, fun k _ h1 h2 => by omega, fun hj => by omega⟩
  | succ d ih =>
    intro i hi hd
    have hlt : i < s.size := by omega
    cases hs : Pl.sp s[i]
    · exact ⟨i, Nat.le_refl _, hi, fun k _ h1 h2 => by omega, fun _ => hs⟩
    · obtain ⟨j, h1, h2, h3, h4⟩ := ih (i + 1) (by omega) (by omega)
      refine ⟨j, by omega, h2, fun k hk g1 g2 => ?_, h4⟩
      by_cases e : k = i
      · subst e; exact hs
      · exact h3 k hk (by omega) g2

theorem sp_cases {b : UInt8} (h : Pl.sp b = true) : ((b.toNat : Int) == 32) = true ∨ (((b.toNat : Int) == 32) = false ∧ ((b.toNat : Int) == 9) = true) ∨ (((b.toNat : Int) == 32) = false ∧ ((b.toNat : Int) == 9) = false ∧ ((b.toNat : Int) == 11) = true) ∨ (((b.toNat : Int) == 32) = false ∧ ((b.toNat : Int) == 9) = false ∧ ((b.toNat : Int) == 11) = false ∧ ((b.toNat : Int) == 12) = true) := by
  unfold Pl.sp at h
  simp only [Bool.or_eq_true, beq_iff_eq] at h
  rcases h with ((rfl | rfl) | rfl) | rfl <;> decide
theorem sp_none {b : UInt8} (h : Pl.sp b = false) : ((b.toNat : Int) == 32) = false ∧ ((b.toNat : Int) == 9) = false ∧ ((b.toNat : Int) == 11) = false ∧ ((b.toNat : Int) == 12) = false := by
  unfold Pl.sp at h
  rw [eq_i b 32 32 rfl, eq_i b 9 9 rfl, eq_i b 11 11 rfl, eq_i b 12 12 rfl]
  simp only [Bool.or_eq_false_iff] at h
  exact ⟨h.1.1.1, h.1.1.2, h.1.2, h.2⟩

set_option maxHeartbeats 1000000 in
theorem skip_walk (g : Nat) (s : ByteArray) (i j : Nat) (w : World) (hs : s.size ≤ 1048576) (hc : Lib.Bytes w g 0 s) (hsk : Pl.Skip s i j) :
    Calls Try.prog 26 #[.slice (some ⟨g, 0, none⟩) s.size s.size, .int .i64 (i : Int)] w fun e w' => e = .returned (.int .i64 (j : Int)) ∧ w' = w := by
  obtain ⟨h1, h2, h3, h4⟩ := hsk
  have H3 : Hid (∀ k (hk : k < s.size), i ≤ k → k < j → Pl.sp s[k] = true) := h3
  have H4 : Hid (∀ hj : j < s.size, Pl.sp s[j] = false) := h4
  clear h3 h4
  go_enter Try.func26, Try.ntmps26
  go_wp2
  go_loop [1] (fun v => ∃ k : Nat, v = .int .i64 k ∧ i ≤ k ∧ k ≤ j) (fun v => s.size - (intOf v).toNat)
  case atStart => exact ⟨i, rfl, Nat.le_refl _, h1⟩
  case round =>
    obtain ⟨k, rfl, hk1, hk2⟩ := hrel
    by_cases hkj : k < j
    · have hks : k < s.size := by omega
      have c1 := cell_at hc k hks
      rcases sp_cases (H3.out k hks hk1 hkj) with e1 | ⟨e1, e2⟩ | ⟨e1, e2, e3⟩ | ⟨e1, e2, e3, e4⟩
      all_goals
        go_wp2
        go_round
        case rel => exact ⟨k + 1, by go_num, by omega, by omega⟩
        case measure => simp [intOf]; omega
    · obtain rfl : k = j := by omega
      by_cases hks : k < s.size
      · have c1 := cell_at hc k hks
        obtain ⟨e1, e2, e3, e4⟩ := sp_none (H4.out hks)
        go_wp2
        go_ret
        exact ⟨rfl, rfl⟩
      · go_wp2
        go_ret
        exact ⟨rfl, rfl⟩

theorem ite_le {c : Prop} [Decidable c] {a b n : Nat} (ha : a ≤ n) (hb : b ≤ n) : (if c then a else b) ≤ n := by split <;> assumption
theorem step_le (st : Nat) (b : UInt8) : Pl.step st b ≤ 16 := by
  have hi : Pl.afterItem b ≤ 16 := by
    unfold Pl.afterItem
    repeat' (refine ite_le ?_ ?_)
    all_goals omega
  have hn : Pl.afterName b ≤ 16 := by
    unfold Pl.afterName
    repeat' (refine ite_le ?_ ?_)
    all_goals omega
  unfold Pl.step
  repeat' (refine ite_le ?_ ?_)
  all_goals first | exact hi | exact hn | omega

set_option maxHeartbeats 1000000 in
/-- The model's automaton: it answers 'Pl.ans'. -/
theorem model_any (g : Nat) (s : ByteArray) (w : World) (hs : s.size ≤ 1048576) (hc : Lib.Bytes w g 0 s) :
    Calls Try.prog 11 #[.slice (some ⟨g, 0, none⟩) s.size s.size] w fun e w' => e = .returned (.int .i64 (Pl.ans s : Int)) ∧ w' = w := by
  by_cases h2 : s.size < 2
  · have HA : Hid (Pl.ans s = 0) := by show Pl.ans s = 0; unfold Pl.ans; rw [dif_pos h2]
    go_enter Try.func11, Try.ntmps11
    go_wp2
    go_ret
    exact ⟨ret_int (by rw [HA.out]; rfl), rfl⟩
  · have h2' : 1 < s.size := by omega
    have c1 := cell_at hc 1 h2'
    by_cases h47 : s[1] = 47
    · have e47 : ((s[1].toNat : Int) == 47) = true := by rw [eq_i _ 47 47 rfl, h47]; rfl
      have HA : Hid (Pl.ans s = Pl.R s 2 14) := by show Pl.ans s = _; unfold Pl.ans; rw [dif_neg h2, if_pos h47]
      clear h47
      go_enter Try.func11, Try.ntmps11
      go_wp2_with fail
      go_loop [3, 4] (fun st i => ∃ a k : Nat, st = .int .i64 a ∧ i = .int .i64 k ∧ 2 ≤ a ∧ a ≤ 16 ∧ k ≤ s.size ∧ Hid (Pl.ans s = Pl.R s k a)) (fun _ i => s.size - (intOf i).toNat)
      case atStart => exact ⟨14, 2, rfl, rfl, by omega, by omega, by omega, HA⟩
      case round =>
        clear HA
        obtain ⟨a, k, rfl, rfl, ha2, ha16, hk, HK⟩ := hrel
        by_cases hlt : k < s.size
        · have c2 := cell_at hc k hlt
          obtain ⟨r, hr⟩ : ∃ r, Pl.step a s[k] = r := ⟨_, rfl⟩
          have hr16 := step_le a s[k]
          have H21 : Hid (∀ w, Calls Try.prog 21 #[.int .i64 (a : Int), .int .u8 (s[k].toNat : Int)] w fun e w' => e = .returned (.int .i64 (r : Int)) ∧ w' = w) := fun w => by rw [← hr]; exact step_any a s[k] w ha2 ha16
          rw [hr] at hr16
          by_cases hr1 : r = 1
          · have HF : Hid (Pl.ans s = k + 1) := by show Pl.ans s = _; rw [HK.out]; exact Pl.R_yes s k a hlt (by rw [hr, hr1])
            subst hr1
            clear hr
            go_wp2_with (go_at_call 21; refine (H21.out _).mono ?_; rintro e w' ⟨rfl, rfl⟩)
            go_ret
            exact ⟨ret_int (by rw [HF.out]; simp), rfl⟩
          · by_cases hr0 : r = 0
            · have HF : Hid (Pl.ans s = 0) := by show Pl.ans s = _; rw [HK.out]; exact Pl.R_no s k a hlt (by rw [hr, hr0])
              subst hr0
              clear hr
              go_wp2_with (go_at_call 21; refine (H21.out _).mono ?_; rintro e w' ⟨rfl, rfl⟩)
              go_ret
              exact ⟨ret_int (by rw [HF.out]; rfl), rfl⟩
            · have HF : Hid (Pl.ans s = Pl.R s (k + 1) r) := by show Pl.ans s = _; rw [HK.out]; exact Pl.R_go s k a r hlt hr hr1 hr0
              have n1 : ((r : Int) == 1) = false := by simp; omega
              have n0 : ((r : Int) == 0) = false := by simp; omega
              clear hr
              go_wp2_with (go_at_call 21; refine (H21.out _).mono ?_; rintro e w' ⟨rfl, rfl⟩)
              go_round
              case rel => exact ⟨r, k + 1, rfl, by go_num, by omega, hr16, by omega, HF⟩
              case measure => simp [intOf]; omega
        · have HF : Hid (Pl.ans s = 0) := by show Pl.ans s = _; rw [HK.out]; exact Pl.R_end s k a hlt
          go_wp2
          go_ret
          exact ⟨ret_int (by rw [HF.out]; rfl), rfl⟩
    · have e47 : ((s[1].toNat : Int) == 47) = false := by rw [eq_i _ 47 47 rfl]; simpa using h47
      have HA : Hid (Pl.ans s = Pl.R s 1 2) := by show Pl.ans s = _; unfold Pl.ans; rw [dif_neg h2, if_neg h47]
      clear h47
      go_enter Try.func11, Try.ntmps11
      go_wp2_with fail
      go_loop [3, 4] (fun st i => ∃ a k : Nat, st = .int .i64 a ∧ i = .int .i64 k ∧ 2 ≤ a ∧ a ≤ 16 ∧ k ≤ s.size ∧ Hid (Pl.ans s = Pl.R s k a)) (fun _ i => s.size - (intOf i).toNat)
      case atStart => exact ⟨2, 1, rfl, rfl, by omega, by omega, by omega, HA⟩
      case round =>
        clear HA
        obtain ⟨a, k, rfl, rfl, ha2, ha16, hk, HK⟩ := hrel
        by_cases hlt : k < s.size
        · have c2 := cell_at hc k hlt
          obtain ⟨r, hr⟩ : ∃ r, Pl.step a s[k] = r := ⟨_, rfl⟩
          have hr16 := step_le a s[k]
          have H21 : Hid (∀ w, Calls Try.prog 21 #[.int .i64 (a : Int), .int .u8 (s[k].toNat : Int)] w fun e w' => e = .returned (.int .i64 (r : Int)) ∧ w' = w) := fun w => by rw [← hr]; exact step_any a s[k] w ha2 ha16
          rw [hr] at hr16
          by_cases hr1 : r = 1
          · have HF : Hid (Pl.ans s = k + 1) := by show Pl.ans s = _; rw [HK.out]; exact Pl.R_yes s k a hlt (by rw [hr, hr1])
            subst hr1
            clear hr
            go_wp2_with (go_at_call 21; refine (H21.out _).mono ?_; rintro e w' ⟨rfl, rfl⟩)
            go_ret
            exact ⟨ret_int (by rw [HF.out]; simp), rfl⟩
          · by_cases hr0 : r = 0
            · have HF : Hid (Pl.ans s = 0) := by show Pl.ans s = _; rw [HK.out]; exact Pl.R_no s k a hlt (by rw [hr, hr0])
              subst hr0
              clear hr
              go_wp2_with (go_at_call 21; refine (H21.out _).mono ?_; rintro e w' ⟨rfl, rfl⟩)
              go_ret
              exact ⟨ret_int (by rw [HF.out]; rfl), rfl⟩
            · have HF : Hid (Pl.ans s = Pl.R s (k + 1) r) := by show Pl.ans s = _; rw [HK.out]; exact Pl.R_go s k a r hlt hr hr1 hr0
              have n1 : ((r : Int) == 1) = false := by simp; omega
              have n0 : ((r : Int) == 0) = false := by simp; omega
              clear hr
              go_wp2_with (go_at_call 21; refine (H21.out _).mono ?_; rintro e w' ⟨rfl, rfl⟩)
              go_round
              case rel => exact ⟨r, k + 1, rfl, by go_num, by omega, hr16, by omega, HF⟩
              case measure => simp [intOf]; omega
        · have HF : Hid (Pl.ans s = 0) := by show Pl.ans s = _; rw [HK.out]; exact Pl.R_end s k a hlt
          go_wp2
          go_ret
          exact ⟨ret_int (by rw [HF.out]; rfl), rfl⟩

end Go.Proofs.Qxb6000088a
