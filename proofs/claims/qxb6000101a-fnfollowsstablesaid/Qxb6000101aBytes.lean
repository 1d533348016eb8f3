/-
  THE ROW OF ENTRIES, and the walks of zzBytes_FnFollowsStable and causalB1BytesOf.
-/
import Derived.Test.Qxb6000101aMaps
namespace Go.Proofs.Qxb6000101a
open Go.RowKit Go.Maps Go.WideMaps

/-- The row of entries: key i, sequence number i. -/
structure Row (w : World) (B : Nat) (oa : Option Addr) (len : Nat) (K : Nat → ByteArray) (S : Nat → Int) : Prop where
  some : ∀ i, i < len → ∃ b off, oa = some ⟨b, off, none⟩ ∧ b < B
  key : ∀ b off, oa = Option.some ⟨b, off, none⟩ → ∀ i, i < len → w.cell? ⟨b, off + i * 2, none⟩ = Option.some (.string (K i))
  seq : ∀ b off, oa = Option.some ⟨b, off, none⟩ → ∀ i, i < len → w.cell? ⟨b, off + i * 2 + 1, none⟩ = Option.some (.int .u64 (S i))
  wide : ∀ i, i < len → (K i).size ≤ maxLen ∧ (Lit.int .u64 (S i)).wf = true

theorem Row.below {w w' : World} {B : Nat} {oa : Option Addr} {len : Nat} {K : Nat → ByteArray} {S : Nat → Int} (h : Row w B oa len K S) {B' : Nat} (hb : Below B' w w') (hB : B ≤ B') : Row w' B oa len K S where
  some := h.some
  key b off e i hi := by
    obtain ⟨b', off', e', hlt⟩ := h.some i hi
    have := e.symm.trans e'
    cases this
    rw [hb.cell (by show b < B'; omega)]
    exact h.key b off e i hi
  seq b off e i hi := by
    obtain ⟨b', off', e', hlt⟩ := h.some i hi
    have := e.symm.trans e'
    cases this
    rw [hb.cell (by show b < B'; omega)]
    exact h.seq b off e i hi
  wide := h.wide

def ZzPost (later : ByteArray) (len : Nat) (K : Nat → ByteArray) (w : World) (e : Ending) (w' : World) : Prop := ∃ r : Bool, e = .returned (.bool r) ∧ (r = true → later.size ≤ 1048576 ∧ ∀ i, i < len → (K i).size ≤ 1048576) ∧ w' = w

set_option maxHeartbeats 1000000 in
theorem zzBytes_any (later : ByteArray) (oa : Option Addr) (len cap B : Nat) (K : Nat → ByteArray) (S : Nat → Int) (w : World) (hl : later.size ≤ maxLen) (hlen : len ≤ maxLen) (R : Row w B oa len K S) :
    Calls Try.prog 31 #[.string later, .slice oa len cap] w fun e w' => ZzPost later len K w e w' := by
  have hml : maxLen = 9223372036854775807 := by decide
  have hw1 : IntKind.i64.wrap (0 + (later.size : Int)) = (later.size : Int) := by rw [IntKind.wrap_i64]; omega
  by_cases h1 : 1048576 < later.size
  · go_enter Try.func31, Try.ntmps31
    go_wp2
    go_ret
    exact ⟨false, rfl, by simp, rfl⟩
  by_cases h2 : 1048576 < len
  · go_enter Try.func31, Try.ntmps31
    go_wp2
    go_ret
    exact ⟨false, rfl, by simp, rfl⟩
  have hw2 : IntKind.i64.wrap ((later.size : Int) + (len : Int)) = ((later.size + len : Nat) : Int) := by rw [IntKind.wrap_i64]; omega
  by_cases h3 : 1048576 < later.size + len
  · go_enter Try.func31, Try.ntmps31
    go_wp2
    go_ret
    exact ⟨false, rfl, by simp, rfl⟩
  go_enter Try.func31, Try.ntmps31
  go_wp2
  go_loop [5, 6] (fun v i => ∃ t k : Nat, v = .int .i64 t ∧ t ≤ 1048576 ∧ i = .int .i64 k ∧ k ≤ len ∧ Hid (∀ j, j < k → (K j).size ≤ 1048576)) (fun _ i => len - (intOf i).toNat)
  case atStart => exact ⟨later.size + len, 0, by simp, by omega, rfl, by omega, fun j hj => by omega⟩
  case round =>
    obtain ⟨t, k, rfl, ht, rfl, hk, HK⟩ := hrel
    by_cases hkl : k < len
    · obtain ⟨b, off, rfl, hb⟩ := R.some k hkl
      have hkey := R.key b off rfl k hkl
      have hkw := R.wide k hkl
      have hws : IntKind.i64.wrap ((k : Int) + 1) = ((k + 1 : Nat) : Int) := by rw [IntKind.wrap_i64]; omega
      generalize hkk : K k = kk at *
      by_cases h4 : 1048576 < kk.size
      · go_wp2
        go_ret
        exact ⟨false, rfl, by simp, rfl⟩
      · have hwt : IntKind.i64.wrap ((t : Int) + (kk.size : Int)) = ((t + kk.size : Nat) : Int) := by rw [IntKind.wrap_i64]; omega
        by_cases h5 : 1048576 < t + kk.size
        · go_wp2
          go_ret
          exact ⟨false, rfl, by simp, rfl⟩
        · go_wp2
          go_round
          case rel =>
            refine ⟨t + kk.size, k + 1, by simp, by omega, by simp, by omega, fun j hj => ?_⟩
            by_cases hjk : j = k
            · subst hjk
              rw [hkk]
              omega
            · exact HK.out j (by omega)
          case measure => simp [intOf]; omega
    · go_wp2
      go_ret
      exact ⟨true, rfl, fun _ => ⟨by omega, fun i hi => HK.out i (by omega)⟩, rfl⟩

def BytesPost (w : World) (e : Ending) (w' : World) : Prop := ∃ r : Nat, e = .returned (.int .i64 r) ∧ r ≤ 4194304 ∧ w' = w

set_option maxHeartbeats 1000000 in
theorem bytesOf_any (oa : Option Addr) (len cap B : Nat) (K : Nat → ByteArray) (S : Nat → Int) (w : World) (hlen : len ≤ 65536) (R : Row w B oa len K S) (hK : ∀ i, i < len → (K i).size ≤ 1048576) :
    Calls Try.prog 12 #[.slice oa len cap] w fun e w' => BytesPost w e w' := by
  have hw1 : IntKind.i64.wrap (24 * (len : Int)) = ((24 * len : Nat) : Int) := by rw [IntKind.wrap_i64]; omega
  go_enter Try.func12, Try.ntmps12
  go_wp2
  go_loop [3, 4] (fun v i => ∃ t k : Nat, v = .int .i64 t ∧ t ≤ 2097152 ∧ i = .int .i64 k ∧ k ≤ len) (fun _ i => len - (intOf i).toNat)
  case atStart => exact ⟨24 * len, 0, by simp, by omega, rfl, by omega⟩
  case round =>
    obtain ⟨t, k, rfl, ht, rfl, hk⟩ := hrel
    by_cases hkl : k < len
    · obtain ⟨b, off, rfl, hb⟩ := R.some k hkl
      have hkey := R.key b off rfl k hkl
      have hkw := hK k hkl
      have hws : IntKind.i64.wrap ((k : Int) + 1) = ((k + 1 : Nat) : Int) := by rw [IntKind.wrap_i64]; omega
      generalize hkk : K k = kk at *
      have hwt : IntKind.i64.wrap ((t : Int) + (kk.size : Int)) = ((t + kk.size : Nat) : Int) := by rw [IntKind.wrap_i64]; omega
      by_cases h5 : 2097152 < t + kk.size
      · go_wp2
        go_ret
        exact ⟨t + kk.size, by simp, by omega, rfl⟩
      · go_wp2
        go_round
        case rel => exact ⟨t + kk.size, k + 1, by simp, by omega, by simp, by omega⟩
        case measure => simp [intOf]; omega
    · go_wp2
      go_ret
      exact ⟨t, rfl, by omega, rfl⟩

end Go.Proofs.Qxb6000101a
