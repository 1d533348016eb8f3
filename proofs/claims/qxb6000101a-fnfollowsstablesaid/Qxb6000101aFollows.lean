/-
  THE WALK of causal.Follows.
-/
import Derived.Test.Qxb6000101aMaps
import Derived.WalkSmall
namespace Go.Proofs.Qxb6000101a
open Go.RowKit Go.Maps Go.WideMaps

/-- Which entries Follows takes. -/
def sel (later : ByteArray) (D0 : DataW Unit) (k : Lit) : Bool :=
  match k with
  | .string l => !(l == later.data.toList) && ((nd ⟨l.toArray⟩).toList == (nd later).toList) && (match D0.atKey k (.lit (.int .u64 0)) with | .lit (.int _ c) => decide (0 < c) | _ => false)
  | _ => false

theorem sel_of (later x : ByteArray) (D0 : DataW Unit) (c : Int) (hat : ∀ zd, D0.atKey (.string x.data.toList) zd = .lit (.int .u64 c)) :
    sel later D0 (.string x.data.toList) = (!(x.toList == later.toList) && ((nd x).toList == (nd later).toList) && decide (0 < c)) := by
  have e : (⟨x.data.toList.toArray⟩ : ByteArray) = x := by simp
  simp only [sel, hat, e, ByteArray.toList_eq]

set_option maxHeartbeats 2000000 in
set_option maxRecDepth 100000 in
theorem follows_any (later : ByteArray) (b n : Nat) (D0 : DataW Unit) (w : World) (hl : later.size ≤ 1048576) (hown : w.ownsMap Try.prog 9 (plainElem Try.prog 33) b n D0)
    (hkeys : ∀ s : ByteArray, Maps.has D0 (.string s.data.toList) = true → s.size ≤ 1048576) (hmax : Maps.size D0 ≤ 65536) :
    Calls Try.prog 28 #[.string later, .map (some b)] w fun e w' => e = .returned (.map (some w.heap.size)) ∧
      (∃ D1, w'.ownsMap Try.prog 9 (plainElem Try.prog 33) w.heap.size (Maps.size D0) D1 ∧ (∀ k, Maps.has D1 k = (Maps.has D0 k && sel later D0 k)) ∧ ∀ k z, Maps.has D1 k = true → D1.atKey k z = D0.atKey k z) ∧ Below w.heap.size w w' := by
  have hmm := @run_makeMap Try.prog
  have hbl := hown.lt
  have e1 : (w.alloc (.map #[] 0)).heap.size = w.heap.size + 1 := by simp
  have HK : Hid (∀ s : ByteArray, Maps.has D0 (.string s.data.toList) = true → s.size ≤ 1048576) := hkeys
  clear hkeys
  go_enter Try.func28, Try.ntmps28
  go_wp2_with (first
    | (at_range; refine wpList_range_own _ rfl _ 27 rfl 9 33 law9 Try.underlying27 _ b n _ rfl (hown.alloc _) ?_; intro w0 hrg0 hg0 hs0)
    | go_in)
  go_frame
  rw [e1] at hrg0 hs0 ⊢
  go_loopw [6] (fun _ wr => ∃ (left : Lit → Bool) (cnt : Nat) (Dout : DataW Unit), wr.ranges Try.prog 9 (plainElem Try.prog 33) b (w.heap.size + 1) n D0 left cnt ∧ cnt ≤ Maps.size D0 ∧
      wr.ownsMap Try.prog 9 (plainElem Try.prog 33) w.heap.size (Maps.size D0 - cnt) Dout ∧ AgreeS Dout D0 left (sel later D0) ∧ Below w.heap.size w wr)
    (fun _ wr => wr.rangeLeft b (w.heap.size + 1))
  case atStart =>
    exact ⟨_, _, .map [], hrg0, Nat.le_refl _, ((World.ownsMap_made _ _ _ _).kept hg0 (by simp)).mono (Nat.zero_le _), agreeS_start D0 _, ((Below.refl _ _).alloc (Nat.le_refl _) _).grown hg0 (by simp) (fun j hj => by cases hj)⟩
  case round =>
    obtain ⟨left, cnt, Dout, hrg, hcs, hout, hA, hnx⟩ := hrel
    go_wp2_with (first
      | (at_next; refine wpList_next_su _ rfl _ rfl 9 33 .u64 law9 Try.underlying9 Try.underlying33 b (w.heap.size + 1) n _ _ _ rfl hrg ?_ ?_)
      | go_in)
    · -- nothing is left
      intro hc0 hl0
      go_wp2
      go_ret
      subst hc0
      exact ⟨rfl, ⟨Dout, by simpa using hout, fun k => by rw [hA.1 k, hl0 k]; simp, hA.2⟩, hnx⟩
    · -- an entry has come
      intro x c w1 cnt1 hwx hwc hlx hat hrg1 hlt hg1 hs1 hen
      have hxs : x.size ≤ 1048576 := HK.out x (has_true_of_atKey hat)
      have hout1 := hout.kept hg1 (by simp)
      have hso := sel_of later x D0 c hat
      have hnxx : Below w.heap.size w w1 := hnx.grown hg1 hnx.size (fun j hj => by cases hj; exact Nat.le_succ _)
      have FIN0 : sel later D0 (.string x.data.toList) = false → ∀ m : Nat, ∃ (left : Lit → Bool) (cnt : Nat) (Dout : DataW Unit), (w1.drewN m).ranges Try.prog 9 (plainElem Try.prog 33) b (w.heap.size + 1) n D0 left cnt ∧ cnt ≤ Maps.size D0 ∧
          (w1.drewN m).ownsMap Try.prog 9 (plainElem Try.prog 33) w.heap.size (Maps.size D0 - cnt) Dout ∧ AgreeS Dout D0 left (sel later D0) ∧ Below w.heap.size w (w1.drewN m) := fun hsel m =>
        ⟨_, cnt1, Dout, show w1.ranges Try.prog 9 (plainElem Try.prog 33) b (w.heap.size + 1) n D0 _ cnt1 from hrg1, by omega, hout1.mono (by omega), agreeS_skip hA (kl := .string x.data.toList) trivial hsel, ⟨hnxx.os, hnxx.tape, hnxx.output, hnxx.size, hnxx.block⟩⟩
      have FM0 : ∀ m : Nat, (w1.drewN m).rangeLeft b (w.heap.size + 1) < wr.rangeLeft b (w.heap.size + 1) := fun m => by
        rw [show (w1.drewN m).rangeLeft b (w.heap.size + 1) = cnt1 from hrg1.left_eq, hrg.left_eq]; exact hlt
      have hout1D : ∀ m : Nat, (w1.drewN m).ownsMap Try.prog 9 (plainElem Try.prog 33) w.heap.size (Maps.size D0 - cnt) Dout := fun _ => hout1
      have hML : Maps.size D0 - cnt < maxLen := by have : (65536 : Nat) < maxLen := by decide
                                                   omega
      have tok : True := trivial
      cases hx : (x.toList == later.toList)
      · cases hn : ((nd x).toList == (nd later).toList)
        · go_wp2_with (first
            | (go_at_call 32; clear tok; refine (node_any x _ hxs).mono ?_; rintro e _ ⟨rfl, m1, rfl⟩)
            | (go_at_call 32; refine (node_any later _ hl).mono ?_; rintro e _ ⟨rfl, m2, rfl⟩)
            | go_in)
          exact ⟨FIN0 (by rw [hso, hx, hn]; rfl) _, FM0 _⟩
        · cases hc : decide (0 < c)
          · go_wp2_with (first
              | (go_at_call 32; clear tok; refine (node_any x _ hxs).mono ?_; rintro e _ ⟨rfl, m1, rfl⟩)
              | (go_at_call 32; refine (node_any later _ hl).mono ?_; rintro e _ ⟨rfl, m2, rfl⟩)
              | go_in)
            exact ⟨FIN0 (by rw [hso, hx, hn, hc]; rfl) _, FM0 _⟩
          · go_wp2_with (first
              | (go_at_call 32; clear tok; refine (node_any x _ hxs).mono ?_; rintro e _ ⟨rfl, m1, rfl⟩)
              | (go_at_call 32; refine (node_any later _ hl).mono ?_; rintro e _ ⟨rfl, m2, rfl⟩)
              | (at_mapUpdate; refine wpList_mapUpdate_own _ rfl _ _ _ 27 rfl 9 33 law9 Try.underlying27 _ w.heap.size (Maps.size D0 - cnt) Dout rfl (hout1D _) hML _ _ _ rfl rfl (kl_of x hwx) _ [] (plainElem_int Try.underlying33 hwc) ?_; intro w2 hout2 hg2; go_frame)
              | go_in)
            have hrg2 := (show (w1.drewN (m1 + m2)).ranges Try.prog 9 (plainElem Try.prog 33) b (w.heap.size + 1) n D0 (fun z => left z && !z.sameKey (.string x.data.toList)) cnt1 from hrg1).kept hg2 (fun e => by have := Option.some.inj e; omega) (fun e => by have := Option.some.inj e; omega)
            go_roundw
            case rel =>
              exact ⟨_, cnt1, _, hrg2, by omega, hout2.mono (by omega), agreeS_put hA hout.isMap trivial hat (by rw [hso, hx, hn, hc]; rfl),
                (show Below w.heap.size w (w1.drewN (m1 + m2)) from ⟨hnxx.os, hnxx.tape, hnxx.output, hnxx.size, hnxx.block⟩).grown hg2 (show _ ≤ w1.heap.size from hnxx.size) (fun j hj => by cases hj; exact Nat.le_refl _)⟩
            case measure => rw [hrg2.left_eq, hrg.left_eq]; exact hlt
      · go_wp2
        exact ⟨FIN0 (by rw [hso, hx]; rfl) 0, FM0 0⟩

end Go.Proofs.Qxb6000101a
