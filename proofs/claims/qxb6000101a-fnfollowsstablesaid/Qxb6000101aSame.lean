/-
  THE WALK of causalB1Same at two maps that read as one datum.
-/
import Derived.Test.Qxb6000101aKeys
namespace Go.Proofs.Qxb6000101a
open Go.RowKit Go.Maps Go.WideMaps

def hs (D : DataW Unit) (s : ByteArray) : Bool := Maps.has D (.string s.data.toList)

theorem size_filter {D : DataW Unit} (hc : Canon D) (KS : List ByteArray) (hn : KS.Nodup) (hsub : ∀ k, Maps.has D k = true → ∃ s ∈ KS, k = .string s.data.toList) : (KS.filter (hs D)).length = Maps.size D := by
  obtain ⟨es, rfl, s1, k1⟩ := hc
  have n1 : ((KS.filter (hs (.map es))).map (fun s => Lit.string s.data.toList)).Nodup := List.Pairwise.map _ (fun a b h e => h (lit_inj e)) (hn.filter _)
  have n2 : (es.map (·.1)).Nodup := List.Pairwise.map _ (fun a b h => h) (apart_of_rising s1)
  have key : ∀ a, a ∈ (KS.filter (hs (.map es))).map (fun s => Lit.string s.data.toList) ↔ a ∈ es.map (·.1) := by
    intro a
    rw [List.mem_map, List.mem_map]
    constructor
    · rintro ⟨s, h, rfl⟩
      obtain ⟨p, hp, he⟩ := List.any_eq_true.1 (List.mem_filter.1 h).2
      exact ⟨p, hp, WideAt.sameKey_eq he⟩
    · rintro ⟨p, hp, rfl⟩
      have h1 : Maps.has (.map es) p.1 = true := List.any_eq_true.2 ⟨p, hp, WideAt.sameKey_self (k1 p hp)⟩
      obtain ⟨s, hs1, he⟩ := hsub p.1 h1
      exact ⟨s, List.mem_filter.2 ⟨hs1, by show Maps.has _ _ = true; rw [← he]; exact h1⟩, he.symm⟩
  have := ((List.perm_ext_iff_of_nodup n1 n2).2 key).length_eq
  rw [List.length_map, List.length_map] at this
  exact this

theorem look_two {w : World} {b n : Nat} {D : DataW Unit} (h : w.ownsMap Try.prog 9 (plainElem Try.prog 33) b n D) (x : ByteArray) (hx : x.size ≤ maxLen) (c : Int) (hat : D.atKey (.string x.data.toList) (.lit (.int .u64 0)) = .lit (.int .u64 c)) :
    (Instr.lookup 27 (.map (some b)) (.string x) true).run Try.prog w = .ok (.tuple #[.int .u64 c, .bool (hs D x)]) w := by
  obtain ⟨v, ps, hrun, hv⟩ := h.look_ok law9 Try.underlying27 (zero33 w) (plainElem_int Try.underlying33 (by decide : (Lit.int .u64 0).wf = true)) (kl_of x hx)
  obtain ⟨c', rfl, hz, _⟩ := plainElem_int_inv Try.underlying33 hv
  rw [hat] at hz
  simp at hz
  rw [hrun, hz.1]
  rfl

theorem look_num {w : World} {b n : Nat} {D : DataW Unit} (h : w.ownsMap Try.prog 9 (plainElem Try.prog 33) b n D) (x : ByteArray) (hx : x.size ≤ maxLen) : ∃ c, D.atKey (.string x.data.toList) (.lit (.int .u64 0)) = .lit (.int .u64 c) ∧ (Lit.int .u64 c).wf = true := by
  obtain ⟨c, _, h1, h2⟩ := h.lookup_int law9 Try.underlying27 Try.underlying33 (zero33 w) (kl_of x hx)
  exact ⟨c, h1, h2⟩

/-- A row of strings, as the walk reads it. -/
theorem row_open {w : World} {base : Nat} {v : Value} {KS : List ByteArray} (h : w.ownsRow base 9 1 v KS.length (KS.map Value.string)) :
    ∃ oa cap, v = .slice oa KS.length cap ∧ ∀ i (hi : i < KS.length), ∃ g, oa = some ⟨g, 0, none⟩ ∧ w.cell? ⟨g, i, none⟩ = some (.string KS[i]) := by
  have h0 := h
  rcases h.2 with ⟨rfl, hn⟩ | ⟨g, cap, cur, rfl, _⟩
  · exact ⟨none, 0, by rw [hn], fun i hi => by omega⟩
  · refine ⟨_, _, rfl, fun i hi => ⟨g, rfl, ?_⟩⟩
    rw [h0.cellAt i (by omega), List.getElem?_map, List.getElem?_eq_getElem hi]
    rfl

set_option maxHeartbeats 2000000 in
theorem same_any (b1 b2 n1 n2 base : Nat) (D : DataW Unit) (v : Value) (KS : List ByteArray) (w : World) (h1 : w.ownsMap Try.prog 9 (plainElem Try.prog 33) b1 n1 D) (h2 : w.ownsMap Try.prog 9 (plainElem Try.prog 33) b2 n2 D)
    (hrow : w.ownsRow base 9 1 v KS.length (KS.map Value.string)) (hlen : KS.length ≤ 65536) (hn : KS.Nodup) (hw : ∀ s ∈ KS, s.size ≤ maxLen) (hsub : ∀ k, Maps.has D k = true → ∃ s ∈ KS, k = .string s.data.toList) :
    Calls Try.prog 19 #[.map (some b1), .map (some b2), v] w fun e w' => e = .returned (.bool true) ∧ w' = w := by
  have hsz := size_filter (h1.canon law9) KS hn hsub
  have hle : (KS.filter (hs D)).length ≤ KS.length := List.length_filter_le _ _
  have l1 := fun ty => h1.len Try.underlying27 ty
  have l2 := fun ty => h2.len Try.underlying27 ty
  obtain ⟨oa, cap, rfl, hcell⟩ := row_open hrow
  generalize hN : Maps.size D = N at *
  have HF : Hid ((KS.filter (hs D)).length = N) := hsz
  clear hsz hsub hn
  go_enter Try.func19, Try.ntmps19
  go_wp2
  go_loop [7, 8] (fun c i => ∃ m k : Nat, c = .int .i64 m ∧ i = .int .i64 k ∧ k ≤ KS.length ∧ m ≤ k ∧ Hid (((KS.take k).filter (hs D)).length = m)) (fun _ i => KS.length - (intOf i).toNat)
  case atStart => exact ⟨0, 0, rfl, rfl, Nat.zero_le _, Nat.le_refl _, rfl⟩
  case round =>
    obtain ⟨m, k, rfl, rfl, hk, hmk, HM⟩ := hrel
    by_cases hkl : k < KS.length
    · obtain ⟨g, rfl, hc⟩ := hcell k hkl
      have hkw := hw _ (List.getElem_mem hkl)
      have hws : IntKind.i64.wrap ((k : Int) + 1) = ((k + 1 : Nat) : Int) := by rw [IntKind.wrap_i64]; omega
      have hwm : IntKind.i64.wrap ((m : Int) + 1) = ((m + 1 : Nat) : Int) := by rw [IntKind.wrap_i64]; omega
      obtain ⟨c, hat, hwc⟩ := look_num h1 KS[k] hkw
      have r1 := look_two h1 KS[k] hkw c hat
      have r2 := look_two h2 KS[k] hkw c hat
      have HS : Hid (((KS.take (k + 1)).filter (hs D)).length = m + (if hs D KS[k] then 1 else 0)) := by
        show _ = _
        rw [List.take_succ_eq_append_getElem hkl, List.filter_append, List.length_append, HM.out]
        cases hb : hs D KS[k] <;> simp [hb]
      generalize hb : hs D KS[k] = hb1 at *
      generalize KS[k] = x at *
      cases hb1
      · go_wp2
        go_round
        case rel => exact ⟨m, k + 1, rfl, by simp, by omega, by omega, HS⟩
        case measure => simp [intOf]; omega
      · go_wp2
        go_round
        case rel => exact ⟨m + 1, k + 1, by simp, by simp, by omega, by omega, HS⟩
        case measure => simp [intOf]; omega
    · have hke : k = KS.length := by omega
      subst hke
      have e : m = N := by have := HM.out; rw [List.take_length, HF.out] at this; exact this.symm
      subst e
      go_wp2
      go_ret
      exact ⟨by simp, rfl⟩

end Go.Proofs.Qxb6000101a
