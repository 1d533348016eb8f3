/-
  THE WALK of FnFollowsStable.
-/
import Derived.Test.Qxb6000101aJoin
import Derived.Test.Qxb6000101aFollows
namespace Go.Proofs.Qxb6000101a
open Go.RowKit Go.Maps Go.WideMaps

theorem follows_nil (later : ByteArray) (w : World) : Calls Try.prog 28 #[.string later, .map none] w fun e w' => e = .returned (.map (some w.heap.size)) ∧ w'.ownsMap Try.prog 9 (plainElem Try.prog 33) w.heap.size 0 (.map [] : DataW Unit) ∧ Below w.heap.size w w' := by
  have hmm := @run_makeMap Try.prog
  have hrg := run_range_nilMap (P := Try.prog) (w.alloc (.map #[] 0)) 27 9 33 Try.underlying27
  have hnx : ∀ ty, (Instr.next (.pointer (some ⟨(w.alloc (.map #[] 0)).heap.size, 0, none⟩)) false ty).run Try.prog ((w.alloc (.map #[] 0)).alloc (.mapIter none 0 #[] 0)) = _ := fun ty => run_next_nilMap _ ty 0 0 #[]
  have e1 : (w.alloc (.map #[] 0)).heap.size = w.heap.size + 1 := by simp
  rw [e1] at hrg hnx
  go_enter Try.func28, Try.ntmps28
  go_wp2
  refine wp_loop_rounds 1 ?_
  rw [rounds_succ]
  go_wp2
  go_ret
  exact ⟨rfl, (World.ownsMap_made _ _ _ _).alloc _, ((Below.refl _ _).alloc (Nat.le_refl _) _).alloc (by simp) _⟩

theorem sel_congr (later : ByteArray) {D1 D : DataW Unit} {k : Lit} (h : D1.atKey k (.lit (.int .u64 0)) = D.atKey k (.lit (.int .u64 0))) : sel later D1 k = sel later D k := by
  unfold sel
  cases k <;> simp [h]

theorem sel_self (later : ByteArray) (D : DataW Unit) : sel later D (.string later.data.toList) = false := by simp [sel]

/-- Follows of what Follows gave: the same. -/
theorem follows_twice {later : ByteArray} {D D1 D2 : DataW Unit} (c1 : Canon D1) (c2 : Canon D2) (h1 : ∀ k, Maps.has D1 k = (Maps.has D k && sel later D k)) (a1 : ∀ k z, Maps.has D1 k = true → D1.atKey k z = D.atKey k z)
    (h2 : ∀ k, Maps.has D2 k = (Maps.has D1 k && sel later D1 k)) (a2 : ∀ k z, Maps.has D2 k = true → D2.atKey k z = D1.atKey k z) : D2 = D1 := by
  refine Maps.ext c2 c1 (fun k => ?_) a2
  rw [h2]
  cases h : Maps.has D1 k
  · rfl
  · have e := h1 k
    rw [h] at e
    have : sel later D k = true := by cases hs : sel later D k <;> rw [hs] at e <;> simp at e ⊢
    rw [sel_congr later (a1 k _ h), this]
    rfl

theorem grown_of {w w' : World} (h : Below w.heap.size w w') : w.grownBy w' none := ⟨h.os, h.tape, h.output, h.size, fun i hi _ => h.block i hi⟩

theorem row_on {w w' : World} {base size n : Nat} {e : TypeId} {v : Value} {xs : List Value} (h : w.ownsRow base e size v n xs) (hb : Below w.heap.size w w') : w'.ownsRow base e size v n xs :=
  h.kept (grown_of hb) (by
    cases hv : v.ownBlock
    · exact Or.inl rfl
    · exact Or.inr (by simp))

theorem own_on {w w' : World} {b n : Nat} {D : DataW Unit} (h : w.ownsMap Try.prog 9 (plainElem Try.prog 33) b n D) (hb : Below w.heap.size w w') : w'.ownsMap Try.prog 9 (plainElem Try.prog 33) b n D := own_below h hb h.lt

theorem sel_pos {later x : ByteArray} {D : DataW Unit} {c : Int} (hat : ∀ zd, D.atKey (.string x.data.toList) zd = .lit (.int .u64 c)) (h : sel later D (.string x.data.toList) = true) : 0 < c := by
  rw [sel_of later x D c hat] at h
  simp at h
  exact h.2

/-- What Meet reads in d at f's keys. -/
theorem meet_look {later : ByteArray} {D D1 : DataW Unit} {w wx : World} {b n : Nat} (own : w.ownsMap Try.prog 9 (plainElem Try.prog 33) b n D) (hb : Below w.heap.size w wx) (h1 : ∀ k, Maps.has D1 k = (Maps.has D k && sel later D k)) (a1 : ∀ k z, Maps.has D1 k = true → D1.atKey k z = D.atKey k z)
    (x : ByteArray) (c : Int) (hx : x.size ≤ maxLen) (hat : ∀ zd, D1.atKey (.string x.data.toList) zd = .lit (.int .u64 c)) : (Instr.lookup 27 (.map (some b)) (.string x) false).run Try.prog wx = .ok (.int .u64 c) wx ∧ 0 < c := by
  have hh := has_true_of_atKey hat
  have hatD : ∀ zd, D.atKey (.string x.data.toList) zd = .lit (.int .u64 c) := fun zd => by rw [← a1 _ zd hh, hat]
  obtain ⟨c', hrun, hc', _⟩ := (own_below own hb own.lt).lookup_int law9 Try.underlying27 Try.underlying33 (zero33 wx) (kl_of x hx)
  rw [hatD] at hc'
  injection hc' with e1
  injection e1 with _ e2
  subst e2
  refine ⟨hrun, sel_pos (later := later) hatD ?_⟩
  rw [h1] at hh
  simp at hh
  exact hh.2

set_option maxHeartbeats 4000000 in
set_option maxRecDepth 100000 in
theorem top_some (later : ByteArray) (a : Addr) (len cap B : Nat) (K : Nat → ByteArray) (S : Nat → Int) (w : World) (hl : later.size ≤ maxLen) (hlen : len ≤ maxLen) (hB : B ≤ w.heap.size) (R : Row w B (some a) len K S) :
    Calls Try.prog 10 #[.string later, .slice (some a) len cap] w fun e w' => e = .returned (.bool true) ∧ Below w.heap.size w w' := by
  have hml : maxLen = 9223372036854775807 := by decide
  have hmm := @run_makeMap Try.prog
  go_enter Try.func10, Try.ntmps10
  go_wp2_with (go_at_call 31; refine (zzBytes_any later (some a) len cap B K S _ hl hlen R).mono ?_)
  rintro e w' ⟨r, rfl, hr, rfl⟩
  cases r with
  | false =>
    go_wp2
    go_ret
    exact ⟨rfl, Below.refl _ _⟩
  | true =>
  obtain ⟨hl20, hK⟩ := hr rfl
  have HK : Hid (∀ i, i < len → (K i).size ≤ 1048576) := hK
  clear hr hK
  by_cases hL : 65536 < len
  · go_wp2
    go_ret
    exact ⟨rfl, Below.refl _ _⟩
  have hL' : len ≤ 65536 := by omega
  go_wp2_with (go_at_call 12; refine (bytesOf_any (some a) len cap B K S _ hL' R HK.out).mono ?_)
  rintro e w0 ⟨q, rfl, hq, rfl⟩
  have hwq : IntKind.i64.wrap ((later.size : Int) + (q : Int)) = ((later.size + q : Nat) : Int) := by rw [IntKind.wrap_i64]; omega
  by_cases hQ : 1048576 < later.size + q
  · go_wp2
    go_ret
    exact ⟨rfl, Below.refl _ _⟩
  go_wp2_with (go_at_call 13; refine (copy_any a len cap B K S _ hL' hB R).mono ?_)
  rintro e w1 ⟨rfl, R1, b1⟩
  go_wp2_with (go_at_call 14; refine (mk_any _ len len w1.heap.size K S _ hL' (Nat.le_refl _) R1).mono ?_)
  rintro e w2 ⟨rfl, ⟨D, ownD, keysD⟩, b2⟩
  -- the copy's row, the map d (block w1.heap.size), in the worlds to come
  have HD : Hid (∀ k, Maps.has D k = true → ∃ i, i < len ∧ k = .string (K i).data.toList) := keysD
  clear keysD
  have hsD : Maps.size D ≤ 65536 := Nat.le_trans ownD.size_le hL'
  have hkeys : Hid (∀ s : ByteArray, Maps.has D (.string s.data.toList) = true → s.size ≤ 1048576) := fun s h => by
    obtain ⟨i, hi, e⟩ := HD.out _ h
    rw [lit_inj e]
    exact HK.out i hi
  have b1s := b1.size
  have b2s := b2.size
  have hdlt := ownD.lt
  have R2 : Row (w2.alloc (.map #[] 0)) w1.heap.size (some ⟨w0.heap.size, 0, none⟩) len K S := (R1.below b2 (Nat.le_refl _)).below ((Below.refl _ _).alloc (Nat.le_refl _) _) b2s
  have ownS : (w2.alloc (.map #[] 0)).ownsMap Try.prog 9 (plainElem Try.prog 4) w2.heap.size 0 (.map [] : DataW Unit) := World.ownsMap_made _ _ _ _
  go_wp2_with (go_at_call 15; refine (keys_any _ len len w1.heap.size w2.heap.size K S _ hL' b2s R2 ownS).mono ?_)
  rintro e w3 ⟨v, KS, rfl, hrow, hKl, hKn, hKc, hKw, b3⟩
  have HKS : Hid (∀ k, Maps.has D k = true → ∃ s ∈ KS, k = .string s.data.toList) := fun k h => by
    obtain ⟨i, hi, e⟩ := HD.out _ h
    exact ⟨K i, hKc i hi, e⟩
  have HN : Hid KS.Nodup := hKn
  have HW : Hid (∀ s ∈ KS, s.size ≤ maxLen) := hKw
  clear hKc hKn hKw
  have b3' : Below w2.heap.size w2 w3 := ((Below.refl _ _).alloc (Nat.le_refl _) _).trans b3
  have b3s := b3'.size
  have ownD3 := own_below ownD b3' hdlt
  go_wp2_with (go_at_call 28; refine (follows_any later w1.heap.size len D _ hl20 ownD3 hkeys.out hsD).mono ?_)
  rintro e w4 ⟨rfl, ⟨D1, ownF, h1, a1⟩, b4⟩
  have H1 : Hid (∀ k, Maps.has D1 k = (Maps.has D k && sel later D k)) := h1
  have A1 : Hid (∀ k z, Maps.has D1 k = true → D1.atKey k z = D.atKey k z) := a1
  clear h1 a1
  have hD1 : Hid (∀ k, Maps.has D1 k = true → Maps.has D k = true) := fun k h => by
    rw [H1.out k] at h
    simp at h
    exact h.1
  have b4s := b4.size
  have hflt := ownF.lt
  have hsD1 : Maps.size D1 ≤ 65536 := Nat.le_trans ownF.size_le hsD
  obtain ⟨cl, hcl, _⟩ := look_num ownF later hl
  have hsl : hs D1 later = false := by
    show Maps.has _ _ = false
    rw [H1.out, sel_self]
    simp
  have lkf := look_two ownF later hl cl hcl
  rw [hsl] at lkf
  have hkeys1 : Hid (∀ s : ByteArray, Maps.has D1 (.string s.data.toList) = true → s.size ≤ 1048576) := fun s h => hkeys.out s (hD1.out _ h)
  go_wp2_with (go_at_call 28; refine (follows_any later w3.heap.size (Maps.size D) D1 w4 hl20 ownF hkeys1.out hsD1).mono ?_)
  rintro e w5 ⟨rfl, ⟨D2, ownG, h2, a2⟩, b5⟩
  have e21 := (follows_twice (ownF.canon law9) (ownG.canon law9) H1.out A1.out h2 a2).symm
  subst e21
  clear h2 a2
  have b5s := b5.size
  have hrow5 := row_on (row_on hrow b4) b5
  have ownF5 := own_on ownF b5
  have ownD5 := own_on (own_on ownD3 b4) b5
  have HKS1 : Hid (∀ k, Maps.has D1 k = true → ∃ s ∈ KS, k = .string s.data.toList) := fun k h => HKS.out k (hD1.out k h)
  have hKl' : KS.length ≤ 65536 := Nat.le_trans hKl hL'
  go_wp2_with (go_at_call 19; refine (same_any w4.heap.size w3.heap.size (Maps.size D1) (Maps.size D) _ D1 v KS w5 ownG ownF5 hrow5 hKl' HN.out HW.out HKS1.out).mono ?_)
  rintro e w5 ⟨rfl, rfl⟩
  have hlk : Hid (∀ (x : ByteArray) (c : Int) (wx : World), x.size ≤ maxLen → Below w5.heap.size w5 wx → (∀ zd, D1.atKey (.string x.data.toList) zd = .lit (.int .u64 c)) → (Instr.lookup 27 (.map (some w1.heap.size)) (.string x) false).run Try.prog wx = .ok (.int .u64 c) wx ∧ 0 < c) :=
    fun x c wx hx hb hat => meet_look ownD5 hb H1.out A1.out x c hx hat
  go_wp2_with (go_at_call 22; refine (meet_any w3.heap.size (Maps.size D) D1 (some w1.heap.size) w5 ownF5 hsD1 hlk.out).mono ?_)
  rintro e w6 ⟨rfl, ownM, b6⟩
  clear hlk
  have b6s := b6.size
  have hrow6 := row_on hrow5 b6
  have ownF6 := own_on ownF5 b6
  have ownD6 := own_on ownD5 b6
  go_wp2_with (go_at_call 19; refine (same_any w5.heap.size w3.heap.size (Maps.size D1) (Maps.size D) _ D1 v KS w6 ownM ownF6 hrow6 hKl' HN.out HW.out HKS1.out).mono ?_)
  rintro e w6 ⟨rfl, rfl⟩
  have hpart : Hid (Part D1 D) := fun k h => ⟨hD1.out k h, fun z => A1.out k z h⟩
  go_wp2_with (go_at_call 16; refine (join_any (some w3.heap.size) (some w1.heap.size) D1 D w6 (Or.inr ⟨_, _, rfl, ownF6⟩) (Or.inr ⟨_, _, rfl, ownD6⟩) hpart.out hsD1 hsD).mono ?_)
  rintro e w7 ⟨rfl, ⟨nj, ownJ⟩, b7⟩
  have hrow7 := row_on hrow6 b7
  have ownD7 := own_on ownD6 b7
  go_wp2_with (go_at_call 19; refine (same_any w6.heap.size w1.heap.size nj len _ D v KS w7 ownJ ownD7 hrow7 hKl' HN.out HW.out HKS.out).mono ?_)
  rintro e w7 ⟨rfl, rfl⟩
  go_wp2
  go_ret
  refine ⟨rfl, b1.trans ((b2.mono b1s).trans ((b3'.mono (by omega)).trans ((b4.mono (by omega)).trans ((b5.mono (by omega)).trans ((b6.mono (by omega)).trans (b7.mono (by omega)))))))⟩

end Go.Proofs.Qxb6000101a
