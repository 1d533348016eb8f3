/-
  THE WALK of causalB1AddKeys.
-/
import Derived.Test.Qxb6000101aMk
import Derived.Maps.AppendAt
namespace Go.Proofs.Qxb6000101a
open Go.RowKit Go.Maps Go.WideMaps

theorem info9 : (Try.prog.info? 9).map (fun i => (i.zero, i.size, i.bytes)) = some (some (.string ⟨#[]⟩), 1, 16) := by kernel_rfl

theorem plainElem_bool_inv {P : Program} {e : TypeId} (he : P.underlying e = some .bool) {v : Value} {z : DataW Unit × List MemPlace} (h : plainElem P e v = some z) : ∃ x, v = .bool x ∧ z = (.lit (.bool x), []) := by
  unfold plainElem at h
  rw [he] at h
  cases v <;> simp at h
  subst h
  exact ⟨_, rfl, rfl⟩

/-- What 'seen' says of the keys gathered so far. -/
def Seen (D : DataW Unit) (KS : List ByteArray) : Prop :=
  (∀ s : ByteArray, s ∈ KS → D.atKey (.string s.data.toList) (.lit (.bool false)) = .lit (.bool true)) ∧ ∀ s : ByteArray, s ∉ KS → D.atKey (.string s.data.toList) (.lit (.bool false)) = .lit (.bool false)

theorem lit_inj {s t : ByteArray} (h : (Lit.string s.data.toList) = .string t.data.toList) : s = t := by
  have h1 : s.data.toList = t.data.toList := by injection h
  have h2 : s.data = t.data := Array.toList_inj.1 h1
  cases s; cases t; simp at h2; subst h2; rfl

theorem Seen.put {D : DataW Unit} {KS : List ByteArray} (h : Seen D KS) (hm : IsMap D) (x : ByteArray) : Seen (D.put (.string x.data.toList) (.lit (.bool true))) (KS ++ [x]) := by
  refine ⟨fun s hs => ?_, fun s hs => ?_⟩
  · by_cases e : s = x
    · subst e
      exact atKey_put_same hm (k := .string s.data.toList) trivial _ _
    · rw [atKey_put_other (fun h => e (lit_inj h))]
      exact h.1 s (by simpa [e] using hs)
  · have e : s ≠ x := fun e => hs (by simp [e])
    rw [atKey_put_other (fun h => e (lit_inj h))]
    exact h.2 s (fun h => hs (by simp [h]))

theorem seen_look {w : World} {b n : Nat} {D : DataW Unit} (h : w.ownsMap Try.prog 9 (plainElem Try.prog 4) b n D) (x : ByteArray) (hx : x.size ≤ maxLen) (c : Bool) (hat : D.atKey (.string x.data.toList) (.lit (.bool false)) = .lit (.bool c)) :
    (Instr.lookup 29 (.map (some b)) (.string x) false).run Try.prog w = .ok (.bool c) w := by
  obtain ⟨v, ps, hrun, hv⟩ := h.lookup law9 Try.underlying29 (zero4 w) (plainElem_bool Try.underlying4 false) (kl_of x hx)
  obtain ⟨x', rfl, hz⟩ := plainElem_bool_inv Try.underlying4 hv
  rw [hat] at hz
  simp at hz
  rw [hrun, hz.1]

theorem own_ne {w : World} {base size n sb : Nat} {e : TypeId} {v : Value} {xs : List Value} (h : w.ownsRow base e size v n xs) (hsb : sb < base) : v.ownBlock = none ∨ v.ownBlock ≠ some sb := by
  right
  intro e
  have := h.lt sb e
  omega

def KeysPost (len : Nat) (K : Nat → ByteArray) (w : World) (sb : Nat) (e : Ending) (w' : World) : Prop :=
  ∃ (v : Value) (KS : List ByteArray), e = .returned v ∧ w'.ownsRow w.heap.size 9 1 v KS.length (KS.map Value.string) ∧ KS.length ≤ len ∧ KS.Nodup ∧ (∀ i, i < len → K i ∈ KS) ∧ (∀ s ∈ KS, s.size ≤ maxLen) ∧ Below sb w w'

set_option maxHeartbeats 2000000 in
theorem keys_any (oa : Option Addr) (len cap B sb : Nat) (K : Nat → ByteArray) (S : Nat → Int) (w : World) (hlen : len ≤ 65536) (hB : B ≤ sb) (R : Row w B oa len K S) (hs : w.ownsMap Try.prog 9 (plainElem Try.prog 4) sb 0 (.map [] : DataW Unit)) :
    Calls Try.prog 15 #[.slice none 0 0, .map (some sb), .slice oa len cap] w fun e w' => KeysPost len K w sb e w' := by
  obtain ⟨i0, hi, hz0, hz1, hz2⟩ := info_parts info9
  have hml : maxLen = 9223372036854775807 := by decide
  have hsb := hs.lt
  go_enter Try.func15, Try.ntmps15
  go_wp2
  go_loopw [0, 7] (fun v i wr => ∃ (k : Nat) (KS : List ByteArray) (D : DataW Unit), i = .int .i64 k ∧ k ≤ len ∧ wr.ownsRow w.heap.size 9 1 v KS.length (KS.map Value.string) ∧ KS.length ≤ k ∧ wr.ownsMap Try.prog 9 (plainElem Try.prog 4) sb k D ∧
      Hid (Seen D KS) ∧ Hid (KS.Nodup) ∧ Hid (∀ i, i < k → K i ∈ KS) ∧ Hid (∀ s ∈ KS, s.size ≤ maxLen) ∧ Below sb w wr) (fun _ i _ => len - (intOf i).toNat)
  case atStart => exact ⟨0, [], .map [], rfl, by omega, World.ownsRow_nil _ _ _ _, Nat.le_refl _, hs, ⟨fun s h => (by cases h), fun s _ => rfl⟩, List.nodup_nil, fun i hi => by omega, fun s h => (by cases h), Below.refl _ _⟩
  case round =>
    obtain ⟨k, KS, D, rfl, hk, hrow, hKk, hown, HS, HN, HC, HW, hbel⟩ := hrel
    by_cases hkl : k < len
    · obtain ⟨b, off, rfl, hb⟩ := R.some k hkl
      have R' := R.below hbel hB
      have c0 := R'.key b off rfl k hkl
      have hws : IntKind.i64.wrap ((k : Int) + 1) = ((k + 1 : Nat) : Int) := by rw [IntKind.wrap_i64]; omega
      have hkw := (R'.wide k hkl).1
      by_cases hin : K k ∈ KS
      · have hrun := seen_look hown (K k) hkw true (HS.out.1 _ hin)
        go_wp2
        go_roundw
        case rel => exact ⟨k + 1, KS, D, by simp, by omega, hrow, by omega, hown.mono (by omega), HS, HN, fun i hi => (by by_cases e : i = k; exact e ▸ hin; exact HC.out i (by omega)), HW, hbel⟩
        case measure => simp [intOf]; omega
      · have hrun := seen_look hown (K k) hkw false (HS.out.2 _ hin)
        have hszw := hbel.size
        go_wp2_with (first
          | (at_mapUpdate; refine wpList_mapUpdate_own _ rfl _ _ _ 29 rfl 9 4 law9 Try.underlying29 _ sb k D rfl hown (by omega) _ _ _ rfl rfl (kl_of (K k) hkw) _ [] (plainElem_bool Try.underlying4 true) ?_; intro w2 hown2 hg2)
          | (at_builtin; refine wpList_append_own _ rfl _ _ 30 rfl w.heap.size 9 i0 (.string ⟨#[]⟩) 1 16 Try.underlying30 hi hz0 hz1 hz2 rfl (by decide) _ _ _ rfl ((hrow.kept hg2 (own_ne hrow hsb)).alloc _) _ 1 1 [.string (K k)] rfl rfl (cell_one_new _ _ _) (fun x hx => by simp at hx; subst hx; rfl) (by omega) (by omega) (by have h1 := hg2.size; simp; omega) ?_; intro v3 w3 hown3 hg3 hnil3)
          | go_in)
        go_roundw
        case rel =>
          have hsz2 := hg2.size
          have hown3' := (hown2.alloc (.cells #[.string (K k)] 9)).kept hg3 (fun e => by have := hrow.lt sb e.symm; omega)
          refine ⟨k + 1, KS ++ [K k], _, by simp, by omega, ?_, by simp; omega, hown3', HS.out.put hown.isMap (K k), ?_, fun i hi => ?_, fun s h => ?_, ?_⟩
          · rw [List.length_append, List.map_append]
            exact hown3
          · exact List.nodup_append.2 ⟨HN.out, by simp, fun a ha b hb e => hin (by simp at hb; subst hb; exact e ▸ ha)⟩
          · by_cases e : i = k
            · subst e; simp
            · exact List.mem_append_left _ (HC.out i (by omega))
          · rcases List.mem_append.1 h with h | h
            · exact HW.out s h
            · simp at h
              subst h
              exact hkw
          · exact ((hbel.grown hg2 (by omega) (fun j hj => by cases hj; exact Nat.le_refl _)).alloc (by omega) _).grown hg3 (by simp; omega) (fun j hj => by have := hrow.lt j hj; omega)
        case measure => simp [intOf]; omega
    · go_wp2
      go_ret
      have hke : k = len := by omega
      subst hke
      exact ⟨_, KS, rfl, hrow, hKk, HN.out, HC.out, HW.out, hbel⟩

end Go.Proofs.Qxb6000101a
