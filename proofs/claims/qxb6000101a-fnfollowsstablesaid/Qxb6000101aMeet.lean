/-
  THE WALK of Version.Meet, where the second map holds the first one's entries.
-/
import Derived.Test.Qxb6000101aSame
namespace Go.Proofs.Qxb6000101a
open Go.RowKit Go.Maps Go.WideMaps

set_option maxHeartbeats 2000000 in
set_option maxRecDepth 100000 in
theorem meet_any (b n : Nat) (D0 : DataW Unit) (m2 : Option Nat) (w : World) (hown : w.ownsMap Try.prog 9 (plainElem Try.prog 33) b n D0) (hmax : Maps.size D0 ≤ 65536)
    (hlook : ∀ (x : ByteArray) (c : Int) (wx : World), x.size ≤ maxLen → Below w.heap.size w wx → (∀ zd, D0.atKey (.string x.data.toList) zd = .lit (.int .u64 c)) → (Instr.lookup 27 (.map m2) (.string x) false).run Try.prog wx = .ok (.int .u64 c) wx ∧ 0 < c) :
    Calls Try.prog 22 #[.map (some b), .map m2] w fun e w' => e = .returned (.map (some w.heap.size)) ∧ w'.ownsMap Try.prog 9 (plainElem Try.prog 33) w.heap.size (Maps.size D0) D0 ∧ Below w.heap.size w w' := by
  have hmm := @run_makeMap Try.prog
  have hbl := hown.lt
  have e1 : (w.alloc (.map #[] 0)).heap.size = w.heap.size + 1 := by simp
  have HL : Hid (∀ (x : ByteArray) (c : Int) (wx : World), x.size ≤ maxLen → Below w.heap.size w wx → (∀ zd, D0.atKey (.string x.data.toList) zd = .lit (.int .u64 c)) → (Instr.lookup 27 (.map m2) (.string x) false).run Try.prog wx = .ok (.int .u64 c) wx ∧ 0 < c) := hlook
  clear hlook
  go_enter Try.func22, Try.ntmps22
  go_wp2_with (first
    | (at_range; refine wpList_range_own _ rfl _ 27 rfl 9 33 law9 Try.underlying27 _ b n _ rfl (hown.alloc _) ?_; intro w0 hrg0 hg0 hs0)
    | go_in)
  go_frame
  rw [e1] at hrg0 hs0 ⊢
  go_loopw [6] (fun _ wr => ∃ (left : Lit → Bool) (cnt : Nat) (Dout : DataW Unit), wr.ranges Try.prog 9 (plainElem Try.prog 33) b (w.heap.size + 1) n D0 left cnt ∧ cnt ≤ Maps.size D0 ∧
      wr.ownsMap Try.prog 9 (plainElem Try.prog 33) w.heap.size (Maps.size D0 - cnt) Dout ∧ Agree Dout D0 left ∧ Below w.heap.size w wr)
    (fun _ wr => wr.rangeLeft b (w.heap.size + 1))
  case atStart =>
    exact ⟨_, _, .map [], hrg0, Nat.le_refl _, ((World.ownsMap_made _ _ _ _).kept hg0 (by simp)).mono (Nat.zero_le _), agree_start D0, ((Below.refl _ _).alloc (Nat.le_refl _) _).grown hg0 (by simp) (fun j hj => by cases hj)⟩
  case round =>
    obtain ⟨left, cnt, Dout, hrg, hcs, hout, hA, hnx⟩ := hrel
    go_wp2_with (first
      | (at_next; refine wpList_next_su _ rfl _ rfl 9 33 .u64 law9 Try.underlying9 Try.underlying33 b (w.heap.size + 1) n _ _ _ rfl hrg ?_ ?_)
      | go_in)
    · -- nothing is left
      intro hc0 hl0
      go_wp2
      go_ret
      subst hc0
      have e := agree_end hA hl0 (hout.canon law9) (hown.canon law9)
      subst e
      exact ⟨rfl, by simpa using hout, hnx⟩
    · -- an entry has come
      intro x c w1 cnt1 hwx hwc hlx hat hrg1 hlt hg1 hs1 hen
      have hout1 := hout.kept hg1 (by simp)
      have hnxx : Below w.heap.size w w1 := hnx.grown hg1 hnx.size (fun j hj => by cases hj; exact Nat.le_succ _)
      have hML : Maps.size D0 - cnt < maxLen := by have : (65536 : Nat) < maxLen := by decide
                                                   omega
      obtain ⟨hlk, hpos⟩ := HL.out x c w1 hwx hnxx hat
      go_wp2_with (first
        | (at_mapUpdate; refine wpList_mapUpdate_own _ rfl _ _ _ 27 rfl 9 33 law9 Try.underlying27 _ w.heap.size (Maps.size D0 - cnt) Dout rfl hout1 hML _ _ _ rfl rfl (kl_of x hwx) _ [] (plainElem_int Try.underlying33 hwc) ?_; intro w2 hout2 hg2; go_frame)
        | go_in)
      have hrg2 := hrg1.kept hg2 (fun e => by have := Option.some.inj e; omega) (fun e => by have := Option.some.inj e; omega)
      go_roundw
      case rel =>
        exact ⟨_, cnt1, _, hrg2, by omega, hout2.mono (by omega), agree_step hA hout.isMap trivial hat,
          hnxx.grown hg2 hnxx.size (fun j hj => by cases hj; exact Nat.le_refl _)⟩
      case measure => rw [hrg2.left_eq, hrg.left_eq]; exact hlt

end Go.Proofs.Qxb6000101a
