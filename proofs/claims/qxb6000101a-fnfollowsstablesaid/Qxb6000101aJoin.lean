/-
  THE WALK of Version.Join, where the second map holds the first one's entries.
-/
import Derived.Test.Qxb6000101aMeet
namespace Go.Proofs.Qxb6000101a
open Go.RowKit Go.Maps Go.WideMaps

/-- X's entries are entries of D. -/
def Part (X D : DataW Unit) : Prop := ∀ k, Maps.has X k = true → Maps.has D k = true ∧ ∀ z, X.atKey k z = D.atKey k z

theorem part_refl (D : DataW Unit) : Part D D := fun _ h => ⟨h, fun _ => rfl⟩
theorem part_nil (D : DataW Unit) : Part (.map []) D := fun _ h => by cases h

/-- What 'out' holds while m is ranged over. -/
def AgreeJ (X Dst D0 V : DataW Unit) (left : Lit → Bool) : Prop := (∀ k, Maps.has X k = (Maps.has Dst k || (Maps.has D0 k && !left k))) ∧ Part X V

theorem agreeJ_start {Dst D0 V : DataW Unit} (hP : Part Dst V) : AgreeJ Dst Dst D0 V (Maps.has D0) := ⟨fun k => by cases Maps.has D0 k <;> simp, hP⟩

theorem agreeJ_put {X Dst D0 V : DataW Unit} {left : Lit → Bool} {kl : Lit} {d : DataW Unit} (hA : AgreeJ X Dst D0 V left) (hm : IsMap X) (hk : WideAt.IsKeyLit kl) (hat : ∀ zd, D0.atKey kl zd = d) (hP : Part D0 V) :
    AgreeJ (X.put kl d) Dst D0 V (fun z => left z && !z.sameKey kl) := by
  have hh := has_true_of_atKey hat
  refine ⟨fun k => ?_, fun k h => ?_⟩
  · by_cases e : k = kl
    · subst e
      show Maps.has (X.put k d) k = (Maps.has Dst k || (Maps.has D0 k && !(left k && !k.sameKey k)))
      rw [has_put_same hm hk, hh, WideAt.sameKey_self hk]
      simp
    · show Maps.has (X.put kl d) k = (Maps.has Dst k || (Maps.has D0 k && !(left k && !k.sameKey kl)))
      rw [has_put_other e, hA.1 k, sameKey_ne e]
      simp
  · by_cases e : k = kl
    · subst e
      refine ⟨(hP k hh).1, fun z => ?_⟩
      rw [atKey_put_same hm hk, ← (hP k hh).2 z, hat]
    · rw [has_put_other e] at h
      refine ⟨(hA.2 k h).1, fun z => ?_⟩
      rw [atKey_put_other e, (hA.2 k h).2 z]

theorem wf_u64 {c : Int} (h : (Lit.int .u64 c).wf = true) : 0 ≤ c ∧ c < 18446744073709551616 := by
  simp [Lit.wf, IntKind.min, IntKind.max, IntKind.signed, IntKind.bits] at h
  omega

/-- What out[x] is before the store: the same number, or none. -/
theorem agreeJ_look {X Dst D0 V : DataW Unit} {left : Lit → Bool} {kl : Lit} {c c' : Int} (hA : AgreeJ X Dst D0 V left) (hP : Part D0 V) (hat : ∀ zd, D0.atKey kl zd = .lit (.int .u64 c)) (hl : X.atKey kl (.lit (.int .u64 0)) = .lit (.int .u64 c')) (hw : (Lit.int .u64 c).wf = true) : c' ≤ c := by
  have hh := has_true_of_atKey hat
  cases h : Maps.has X kl
  · rw [atKey_of_not_has h] at hl
    injection hl with h1
    injection h1 with _ h2
    have := wf_u64 hw
    omega
  · have := (hA.2 kl h).2 (.lit (.int .u64 0))
    rw [hl, ← (hP kl hh).2, hat] at this
    injection this with h1
    injection h1 with _ h2
    omega

/-- A map's value, and what it reads as: nil, or a block. -/
def MapIs (w : World) (mv : Option Nat) (D : DataW Unit) : Prop := (mv = none ∧ D = .map []) ∨ ∃ b n, mv = some b ∧ w.ownsMap Try.prog 9 (plainElem Try.prog 33) b n D

theorem MapIs.below {w w' : World} {mv : Option Nat} {D : DataW Unit} {B : Nat} (h : MapIs w mv D) (hb : Below B w w') (hB : B = w.heap.size) : MapIs w' mv D := by
  rcases h with h | ⟨b, n, rfl, h⟩
  · exact Or.inl h
  · exact Or.inr ⟨b, n, rfl, own_below h hb (hB ▸ h.lt)⟩

theorem MapIs.canon {w : World} {mv : Option Nat} {D : DataW Unit} (h : MapIs w mv D) : Canon D := by
  rcases h with ⟨_, rfl⟩ | ⟨b, n, rfl, h⟩
  · exact canon_empty
  · exact h.canon law9

/-- What 'out' reads as ahead of round j. -/
def JAt (D1 D2 : DataW Unit) (j : Nat) (X : DataW Unit) : Prop := (j = 0 ∧ X = .map []) ∨ (j = 1 ∧ X = D1) ∨ (j = 2 ∧ X = D2)

theorem jat_step {D1 D2 X : DataW Unit} {j : Nat} {m1 m2 : Option Nat} {w : World} (h1 : MapIs w m1 D1) (h2 : MapIs w m2 D2) (hP : Part D1 D2) (hm1 : Maps.size D1 ≤ 65536) (hm2 : Maps.size D2 ≤ 65536) (h : JAt D1 D2 j X) (hj : j ≠ 2) :
    ∃ (mv : Option Nat) (Dm : DataW Unit), ((j = 0 ∧ mv = m1) ∨ (j = 1 ∧ mv = m2)) ∧ MapIs w mv Dm ∧ Maps.size Dm ≤ 65536 ∧ Part Dm D2 ∧ Part X D2 ∧ ∀ Y, Part Y D2 → Canon Y → (∀ k, Maps.has Y k = (Maps.has X k || Maps.has Dm k)) → JAt D1 D2 (j + 1) Y := by
  rcases h with ⟨rfl, rfl⟩ | ⟨rfl, rfl⟩ | ⟨rfl, _⟩
  · refine ⟨m1, D1, Or.inl ⟨rfl, rfl⟩, h1, hm1, hP, part_nil _, fun Y hY cY hk => Or.inr (Or.inl ⟨rfl, ?_⟩)⟩
    have hk' : ∀ k, Maps.has Y k = Maps.has D1 k := fun k => by rw [hk]; rfl
    exact Maps.ext cY h1.canon hk' (fun k z h => by rw [(hY k h).2 z, (hP k (hk' k ▸ h)).2 z])
  · refine ⟨m2, D2, Or.inr ⟨rfl, rfl⟩, h2, hm2, part_refl _, hP, fun Y hY cY hk => Or.inr (Or.inr ⟨rfl, ?_⟩)⟩
    exact Maps.ext cY h2.canon (fun k => by
      rw [hk]
      cases e : Maps.has X k
      · rfl
      · rw [(hP k e).1]; rfl) (fun k z h => (hY k h).2 z)
  · exact absurd rfl hj

set_option maxHeartbeats 4000000 in
set_option maxRecDepth 100000 in
theorem join_any (m1 m2 : Option Nat) (D1 D2 : DataW Unit) (w : World) (h1 : MapIs w m1 D1) (h2 : MapIs w m2 D2) (hP : Part D1 D2) (hm1 : Maps.size D1 ≤ 65536) (hm2 : Maps.size D2 ≤ 65536) :
    Calls Try.prog 16 #[.map m1, .map m2] w fun e w' => e = .returned (.map (some w.heap.size)) ∧ (∃ n, w'.ownsMap Try.prog 9 (plainElem Try.prog 33) w.heap.size n D2) ∧ Below w.heap.size w w' := by
  have hmm := @run_makeMap Try.prog
  have HP : Hid (Part D1 D2) := hP
  clear hP
  go_enter Try.func16, Try.ntmps16
  go_wp2
  go_loopw [15] (fun i wr => ∃ (j nO : Nat) (X : DataW Unit), i = .int .i64 j ∧ j ≤ 2 ∧ wr.ownsMap Try.prog 9 (plainElem Try.prog 33) w.heap.size nO X ∧ nO ≤ j * 65536 ∧ Hid (JAt D1 D2 j X) ∧
      wr.cell? ⟨w.heap.size + 1, 0, none⟩ = some (.map m1) ∧ wr.cell? ⟨w.heap.size + 1, 1, none⟩ = some (.map m2) ∧ w.heap.size + 2 ≤ wr.heap.size ∧ Below w.heap.size w wr) (fun i _ => 2 - (intOf i).toNat)
  case atStart =>
    refine ⟨0, 0, .map [], rfl, by omega, (World.ownsMap_made _ _ _ _).alloc _, by omega, Or.inl ⟨rfl, rfl⟩, ?_, ?_, by simp, ((Below.refl _ _).alloc (Nat.le_refl _) _).alloc (by simp) _⟩
    · exact World.cell?_alloc_at _ _ _ _ (by simp)
    · exact World.cell?_alloc_at _ _ _ _ (by simp)
  case round =>
    obtain ⟨j, nO, X, rfl, hj, hout, hnO, HX, hc0, hc1, hsz, hbel⟩ := hrel
    by_cases hj2 : j = 2
    · have hX2 : X = D2 := by
        rcases HX.out with ⟨h, _⟩ | ⟨h, _⟩ | ⟨_, h⟩
        · omega
        · omega
        · exact h
      subst hX2
      subst hj2
      go_wp2
      go_ret
      exact ⟨rfl, ⟨nO, hout⟩, hbel⟩
    · have hws : IntKind.i64.wrap ((j : Int) + 1) = ((j + 1 : Nat) : Int) := by rw [IntKind.wrap_i64]; omega
      obtain ⟨mv, Dm, hmv, hM, hsm, hPm, hPX, hnext⟩ := jat_step h1 h2 HP.out hm1 hm2 HX.out hj2
      have hcell : wr.cell? ⟨w.heap.size + 1, j, none⟩ = some (.map mv) := by
        rcases hmv with ⟨rfl, rfl⟩ | ⟨rfl, rfl⟩
        · exact hc0
        · exact hc1
      have HNX : Hid (∀ Y, Part Y D2 → Canon Y → (∀ k, Maps.has Y k = (Maps.has X k || Maps.has Dm k)) → JAt D1 D2 (j + 1) Y) := hnext
      clear hnext
      have HPm : Hid (Part Dm D2) := hPm
      have HPX : Hid (Part X D2) := hPX
      clear hPm hPX
      have hM' := hM.below hbel rfl
      rcases hM' with ⟨rfl, rfl⟩ | ⟨bm, nm, rfl, hown⟩
      · have hrg := run_range_nilMap (P := Try.prog) wr 27 9 33 Try.underlying27
        have hnx : ∀ ty, (Instr.next (.pointer (some ⟨wr.heap.size, 0, none⟩)) false ty).run Try.prog (wr.alloc (.mapIter none 0 #[] 0)) = _ := fun ty => run_next_nilMap _ ty 0 0 #[]
        go_wp2
        refine wp_loop_rounds 1 ?_
        rw [rounds_succ]
        go_wp2
        go_roundw
        case rel =>
          refine ⟨j + 1, nO, X, by simp, by omega, hout.alloc _, Nat.le_trans hnO (Nat.mul_le_mul_right _ (Nat.le_succ j)), HNX.out X HPX.out (hout.canon law9) (fun k => (Bool.or_false _).symm), ?_, ?_, by simp; omega, hbel.alloc hbel.size _⟩
          · rw [World.cell?_alloc_past _ _ _ (by omega)]; exact hc0
          · rw [World.cell?_alloc_past _ _ _ (by omega)]; exact hc1
        case measure => simp [intOf]; omega
      · have hbm : bm < w.heap.size := by
          rcases hM with ⟨h, _⟩ | ⟨b', n', h, ho⟩
          · cases h
          · cases h; exact ho.lt
        go_wp2_with (first
          | (at_range; refine wpList_range_own _ rfl _ 27 rfl 9 33 law9 Try.underlying27 _ bm nm _ rfl hown ?_; intro w0 hrg0 hg0 hs0)
          | go_in)
        go_frame
        rw [show decide ((j : Int) < 2) = true from (by simp; omega)]
        have hbel0 : Below w.heap.size w w0 := hbel.grown hg0 hbel.size (fun j hj => by cases hj)
        have hc00 := hg0.cell hc0 (by simp)
        have hc10 := hg0.cell hc1 (by simp)
        have hout0 := hout.kept hg0 (by simp)
        go_loopw [8] (fun _ wx => ∃ (left : Lit → Bool) (cnt : Nat) (Y : DataW Unit), wx.ranges Try.prog 9 (plainElem Try.prog 33) bm wr.heap.size nm Dm left cnt ∧ cnt ≤ Maps.size Dm ∧
            wx.ownsMap Try.prog 9 (plainElem Try.prog 33) w.heap.size (nO + (Maps.size Dm - cnt)) Y ∧ AgreeJ Y X Dm D2 left ∧
            wx.cell? ⟨w.heap.size + 1, 0, none⟩ = some (.map m1) ∧ wx.cell? ⟨w.heap.size + 1, 1, none⟩ = some (.map m2) ∧ wr.heap.size + 1 ≤ wx.heap.size ∧ Below w.heap.size w wx)
          (fun _ wx => wx.rangeLeft bm wr.heap.size)
        case atStart => exact ⟨_, _, X, hrg0, Nat.le_refl _, hout0.mono (by omega), agreeJ_start HPX.out, hc00, hc10, by omega, hbel0⟩
        case round =>
          obtain ⟨left, cnt, Y, hrg, hcs, houtY, hA, hd0, hd1, hszx, hnx⟩ := hrel
          go_wp2_with (first
            | (at_next; refine wpList_next_su _ rfl _ rfl 9 33 .u64 law9 Try.underlying9 Try.underlying33 bm _ nm _ _ _ rfl hrg ?_ ?_)
            | go_in)
          · -- nothing is left
            intro hc0' hl0
            go_wp2
            go_roundw
            case rel =>
              subst hc0'
              exact ⟨j + 1, _, Y, by simp, by omega, houtY, by omega, HNX.out Y hA.2 (houtY.canon law9) (fun k => by rw [hA.1 k, hl0 k]; simp), hd0, hd1, by omega, hnx⟩
            case measure => simp [intOf]; omega
          · -- an entry has come
            intro x c w1 cnt1 hwx hwc hlx hat hrg1 hlt hg1 hs1 hen
            have houtY1 := houtY.kept hg1 (fun e => by have := Option.some.inj e; omega)
            have hnxx : Below w.heap.size w w1 := hnx.grown hg1 hnx.size (fun j hj => by cases hj; omega)
            have hML : nO + (Maps.size Dm - cnt) < maxLen := by have : (9000000 : Nat) < maxLen := by decide
                                                                omega
            obtain ⟨c', hlk, hat', hwc'⟩ := houtY1.lookup_int law9 Try.underlying27 Try.underlying33 (zero33 w1) (kl_of x hwx)
            have hcc := Int.max_eq_right (agreeJ_look hA HPm.out hat hat' hwc)
            go_wp2_with (first
              | (at_mapUpdate; refine wpList_mapUpdate_own _ rfl _ _ _ 27 rfl 9 33 law9 Try.underlying27 _ w.heap.size _ Y rfl houtY1 hML _ _ _ rfl rfl (kl_of x hwx) (.lit (.int .u64 c)) [] (by first | exact plainElem_int Try.underlying33 hwc | (rw [hcc]; exact plainElem_int Try.underlying33 hwc)) ?_; intro w2 hout2 hg2; go_frame)
              | go_in)
            have hrg2 := hrg1.kept hg2 (fun e => by have := Option.some.inj e; omega) (fun e => by have := Option.some.inj e; omega)
            go_roundw
            case rel =>
              have hsz2 := hg2.size
              exact ⟨_, cnt1, _, hrg2, by omega, hout2.mono (by omega), agreeJ_put hA houtY.isMap (kl := .string x.data.toList) trivial hat HPm.out,
                hg2.cell (hg1.cell hd0 (fun e => by have := Option.some.inj e; simp at this; omega)) (fun e => by have := Option.some.inj e; simp at this),
                hg2.cell (hg1.cell hd1 (fun e => by have := Option.some.inj e; simp at this; omega)) (fun e => by have := Option.some.inj e; simp at this),
                by omega, hnxx.grown hg2 hnxx.size (fun j hj => by cases hj; exact Nat.le_refl _)⟩
            case measure => rw [hrg2.left_eq, hrg.left_eq]; exact hlt

end Go.Proofs.Qxb6000101a
