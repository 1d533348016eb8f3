/-
  THE WALK of FnFollowsStable at a nil row.
-/
import Derived.Test.Qxb6000101aTop
namespace Go.Proofs.Qxb6000101a
open Go.RowKit Go.Maps Go.WideMaps

set_option maxHeartbeats 1000000 in
theorem same_nil (b1 n1 base : Nat) (v : Value) (w : World) (h1 : w.ownsMap Try.prog 9 (plainElem Try.prog 33) b1 n1 (.map [] : DataW Unit)) (hrow : w.ownsRow base 9 1 v 0 []) :
    Calls Try.prog 19 #[.map (some b1), .map none, v] w fun e w' => e = .returned (.bool true) ∧ w' = w := by
  have l1 := fun ty => h1.len Try.underlying27 ty
  have l2 := fun ty => Maps.len_nil (w := w) Try.underlying27 ty
  have e0 : Maps.size (.map [] : DataW Unit) = 0 := rfl
  rw [e0] at l1
  obtain ⟨oa, cap, rfl, -⟩ := row_open (KS := []) hrow
  go_enter Try.func19, Try.ntmps19
  go_wp2
  refine wp_loop_rounds 1 ?_
  rw [rounds_succ]
  go_wp2
  go_ret
  exact ⟨rfl, rfl⟩

theorem row_nil (w : World) (B : Nat) (K : Nat → ByteArray) (S : Nat → Int) : Row w B none 0 K S := ⟨fun i hi => absurd hi (Nat.not_lt_zero i), fun b off e => (by cases e), fun b off e => (by cases e), fun i hi => absurd hi (Nat.not_lt_zero i)⟩

set_option maxHeartbeats 4000000 in
set_option maxRecDepth 100000 in
theorem top_nil (later : ByteArray) (w : World) (hl : later.size ≤ maxLen) :
    Calls Try.prog 10 #[.string later, .slice none 0 0] w fun e w' => e = .returned (.bool true) ∧ Below w.heap.size w w' := by
  have hml : maxLen = 9223372036854775807 := by decide
  have hmm := @run_makeMap Try.prog
  go_enter Try.func10, Try.ntmps10
  go_wp2_with (go_at_call 31; refine (zzBytes_any later none 0 0 0 (fun _ => ⟨#[]⟩) (fun _ => 0) _ hl (Nat.zero_le _) (row_nil _ _ _ _)).mono ?_)
  rintro e w' ⟨r, rfl, hr, rfl⟩
  cases r with
  | false =>
    go_wp2
    go_ret
    exact ⟨rfl, Below.refl _ _⟩
  | true =>
  obtain ⟨hl20, -⟩ := hr rfl
  clear hr
  go_wp2_with (go_at_call 12; refine (bytesOf_any none 0 0 0 (fun _ => ⟨#[]⟩) (fun _ => 0) _ (Nat.zero_le _) (row_nil _ _ _ _) (fun i hi => absurd hi (Nat.not_lt_zero i))).mono ?_)
  rintro e w0 ⟨q, rfl, hq, rfl⟩
  have hwq : IntKind.i64.wrap ((later.size : Int) + (q : Int)) = ((later.size + q : Nat) : Int) := by rw [IntKind.wrap_i64]; omega
  by_cases hQ : 1048576 < later.size + q
  · go_wp2
    go_ret
    exact ⟨rfl, Below.refl _ _⟩
  go_wp2_with (go_at_call 13; refine (copy_nil _).mono ?_)
  rintro e w0 ⟨rfl, rfl⟩
  go_wp2_with (go_at_call 14; refine (mk_nil _).mono ?_)
  rintro e w0 ⟨rfl, rfl⟩
  have ownS : (w0.alloc (.map #[] 0)).ownsMap Try.prog 9 (plainElem Try.prog 4) w0.heap.size 0 (.map [] : DataW Unit) := World.ownsMap_made _ _ _ _
  go_wp2_with (go_at_call 15; refine (keys_any none 0 0 0 w0.heap.size (fun _ => ⟨#[]⟩) (fun _ => 0) _ (Nat.zero_le _) (Nat.zero_le _) (row_nil _ _ _ _) ownS).mono ?_)
  rintro e w3 ⟨v, KS, rfl, hrow, hKl, -, -, -, b3⟩
  have eKS : KS = [] := List.length_eq_zero_iff.1 (Nat.le_zero.1 hKl)
  subst eKS
  clear hKl
  have b3' : Below w0.heap.size w0 w3 := ((Below.refl _ _).alloc (Nat.le_refl _) _).trans b3
  have b3s := b3'.size
  go_wp2_with (go_at_call 28; refine (follows_nil later _).mono ?_)
  rintro e w4 ⟨rfl, ownF, b4⟩
  have b4s := b4.size
  have lkf := look_two ownF later hl 0 rfl
  have hsl : hs (.map []) later = false := rfl
  rw [hsl] at lkf
  have hz : Maps.size (.map [] : DataW Unit) ≤ 65536 := Nat.zero_le _
  have HK0 : Hid (∀ s : ByteArray, Maps.has (.map [] : DataW Unit) (.string s.data.toList) = true → s.size ≤ 1048576) := fun s h => by cases h
  go_wp2_with (go_at_call 28; refine (follows_any later w3.heap.size 0 (.map []) w4 hl20 ownF HK0.out hz).mono ?_)
  rintro e w5 ⟨rfl, ⟨D2, ownG, h2, a2⟩, b5⟩
  have e21 : D2 = .map [] := Maps.ext (ownG.canon law9) canon_empty (fun k => by rw [h2]; rfl) a2
  subst e21
  clear h2 a2
  have b5s := b5.size
  have hrow5 := row_on (row_on hrow b4) b5
  have ownF5 := own_on ownF b5
  have HS0 : Hid (∀ k, Maps.has (.map [] : DataW Unit) k = true → ∃ s ∈ ([] : List ByteArray), k = .string s.data.toList) := fun k h => by cases h
  go_wp2_with (go_at_call 19; refine (same_any w4.heap.size w3.heap.size _ 0 _ (.map []) v [] w5 ownG ownF5 hrow5 (Nat.zero_le _) List.nodup_nil (fun s h => by cases h) HS0.out).mono ?_)
  rintro e w5 ⟨rfl, rfl⟩
  have hlk : Hid (∀ (x : ByteArray) (c : Int) (wx : World), x.size ≤ maxLen → Below w5.heap.size w5 wx → (∀ zd, (.map [] : DataW Unit).atKey (.string x.data.toList) zd = .lit (.int .u64 c)) → (Instr.lookup 27 (.map none) (.string x) false).run Try.prog wx = .ok (.int .u64 c) wx ∧ 0 < c) :=
    fun x c wx hx hb hat => by cases has_true_of_atKey hat
  go_wp2_with (go_at_call 22; refine (meet_any w3.heap.size 0 (.map []) none w5 ownF5 hz hlk.out).mono ?_)
  rintro e w6 ⟨rfl, ownM, b6⟩
  clear hlk
  have b6s := b6.size
  have hrow6 := row_on hrow5 b6
  have ownF6 := own_on ownF5 b6
  go_wp2_with (go_at_call 19; refine (same_any w5.heap.size w3.heap.size _ 0 _ (.map []) v [] w6 ownM ownF6 hrow6 (Nat.zero_le _) List.nodup_nil (fun s h => by cases h) HS0.out).mono ?_)
  rintro e w6 ⟨rfl, rfl⟩
  go_wp2_with (go_at_call 16; refine (join_any (some w3.heap.size) none (.map []) (.map []) w6 (Or.inr ⟨_, _, rfl, ownF6⟩) (Or.inl ⟨rfl, rfl⟩) (part_refl _) hz hz).mono ?_)
  rintro e w7 ⟨rfl, ⟨nj, ownJ⟩, b7⟩
  have hrow7 := row_on hrow6 b7
  go_wp2_with (go_at_call 19; refine (same_nil w6.heap.size nj _ v w7 ownJ hrow7).mono ?_)
  rintro e w7 ⟨rfl, rfl⟩
  go_wp2
  go_ret
  refine ⟨rfl, b3'.trans ((b4.mono (by omega)).trans ((b5.mono (by omega)).trans ((b6.mono (by omega)).trans (b7.mono (by omega)))))⟩

end Go.Proofs.Qxb6000101a
