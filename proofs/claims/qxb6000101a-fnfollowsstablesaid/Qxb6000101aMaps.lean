/-
  MAPS WITH STRING KEYS AND uint64 ELEMENTS: the laws that the walks of the seat b6000101a share.
-/
import Derived.Test.Qxb6000101aNode
import Derived.Maps.RangeWalk
import Derived.Maps.Ext
import Derived.Maps.OwnSet
import Derived.Maps.OwnOps
import Derived.Maps.Own
namespace Go.Proofs.Qxb6000101a
open Go.RowKit Go.Maps Go.WideMaps

theorem law9 : Keyed Try.prog 9 := string_keyed Try.underlying9
theorem zero33 (w : World) : (zeroValue 33).run Try.prog w = .ok (.int .u64 0) w := by kernel_rfl
theorem zero4 (w : World) : (zeroValue 4).run Try.prog w = .ok (.bool false) w := by kernel_rfl

theorem kl_of (s : ByteArray) (hs : s.size ≤ maxLen) : keyOf Try.prog 9 (.string s) = some (.string s.data.toList) := keyOf_string_mk Try.underlying9 hs

theorem own_below {w w' : World} {B b n : Nat} {k : TypeId} {R : Value → Option (DataW Unit × List MemPlace)} {D : DataW Unit} (h : w.ownsMap Try.prog k R b n D) (hb : Below B w w') (hB : b < B) : w'.ownsMap Try.prog k R b n D := by
  obtain ⟨es, clock, hh, F, hs, hD⟩ := h
  exact ⟨es, clock, (hb.block b hB).trans hh, F, hs, hD⟩

/-- Dout HOLDS JUST THOSE ENTRIES OF D0 THAT sel TAKES AND THAT ARE NO LONGER TO COME. -/
def AgreeS (Dout D0 : DataW Unit) (left sel : Lit → Bool) : Prop := (∀ k, Maps.has Dout k = (Maps.has D0 k && !left k && sel k)) ∧ ∀ k z, Maps.has Dout k = true → Dout.atKey k z = D0.atKey k z

theorem agreeS_start (D0 : DataW Unit) (sel : Lit → Bool) : AgreeS (.map []) D0 (Maps.has D0) sel := ⟨fun k => by cases Maps.has D0 k <;> rfl, fun k z h => by cases h⟩

theorem agreeS_put {Dout D0 : DataW Unit} {left sel : Lit → Bool} {kl : Lit} {d : DataW Unit} (hA : AgreeS Dout D0 left sel) (hm : IsMap Dout) (hk : WideAt.IsKeyLit kl) (hat : ∀ zd, D0.atKey kl zd = d) (hsel : sel kl = true) :
    AgreeS (Dout.put kl d) D0 (fun z => left z && !z.sameKey kl) sel := by
  refine ⟨fun k => ?_, fun k z h => ?_⟩
  · by_cases e : k = kl
    · subst e
      show Maps.has (Dout.put k d) k = (Maps.has D0 k && !(left k && !k.sameKey k) && sel k)
      rw [has_put_same hm hk, has_true_of_atKey hat, WideAt.sameKey_self hk, hsel]
      simp
    · show Maps.has (Dout.put kl d) k = (Maps.has D0 k && !(left k && !k.sameKey kl) && sel k)
      rw [has_put_other e, hA.1 k, sameKey_ne e]
      simp
  · by_cases e : k = kl
    · subst e
      rw [atKey_put_same hm hk, hat]
    · rw [has_put_other e] at h
      rw [atKey_put_other e, hA.2 k z h]

theorem agreeS_skip {Dout D0 : DataW Unit} {left sel : Lit → Bool} {kl : Lit} (hA : AgreeS Dout D0 left sel) (hk : WideAt.IsKeyLit kl) (hsel : sel kl = false) :
    AgreeS Dout D0 (fun z => left z && !z.sameKey kl) sel := by
  refine ⟨fun k => ?_, hA.2⟩
  by_cases e : k = kl
  · subst e
    show Maps.has Dout k = (Maps.has D0 k && !(left k && !k.sameKey k) && sel k)
    rw [hA.1, hsel]
    simp
  · show Maps.has Dout k = (Maps.has D0 k && !(left k && !k.sameKey kl) && sel k)
    rw [hA.1, sameKey_ne e]
    simp

/-- THE STEP of 'for k, v := range m', keys strings, elements integers. -/
theorem wpList_next_su {P : Program} (w : World) {ops : Array Oper} {rest : List Oper} {o : Oper} {a : Act} {Q : Exit → Act → World → Prop} (hg : o.guard = none) (it : Operand) (hop : o.op = Op.next it false) (k e : TypeId) (qe : IntKind) (K : Keyed P k) (hk : P.underlying k = some .string) (he : P.underlying e = some (.int qe))
    (b r n : Nat) (D : DataW Unit) (left : Lit → Bool) (cnt : Nat) (hit : a.eval it = .pointer (some ⟨r, 0, none⟩)) (h : w.ranges P k (plainElem P e) b r n D left cnt)
    (hDone : cnt = 0 → (∀ kl, left kl = false) → wpList P ops Q rest (a.put o.dst (.tuple #[.bool false])) w)
    (hMore : ∀ (x : ByteArray) (c : Int) (w' : World) (cnt' : Nat), x.size ≤ maxLen → (Lit.int qe c).wf = true → left (.string x.data.toList) = true → (∀ zd, D.atKey (.string x.data.toList) zd = .lit (.int qe c)) → w'.ranges P k (plainElem P e) b r n D (fun z => left z && !z.sameKey (.string x.data.toList)) cnt' → cnt' < cnt →
      w.grownBy w' (some r) → w'.heap.size = w.heap.size → (Instr.entry (.pointer (some ⟨r, 0, none⟩))).run P w' = .ok (.tuple #[.string x, .int qe c]) w' → wpList P ops Q rest (a.put o.dst (.tuple #[.bool true, .string x, .int qe c])) w') :
    wpList P ops Q (o :: rest) a w :=
  wpList_next_ranges w hg it hop k K (plainElem P e) Value.string (Value.int qe) (fun key kl hkey => by obtain ⟨x, rfl, _⟩ := string_of_keyOf hk hkey; exact ⟨x, rfl⟩) (fun v y hv => by obtain ⟨c, rfl, _⟩ := plainElem_int_inv he hv; exact ⟨c, rfl⟩)
    b r n D left cnt hit h hDone (fun x c kl y w' cnt' hkey hlk hv hat hrg hlt hgr hsz hen => by
      obtain ⟨x', ex, rfl, hwx⟩ := string_of_keyOf hk hkey
      cases ex
      obtain ⟨c', ec, rfl, hwc⟩ := plainElem_int_inv he hv
      cases ec
      exact hMore x c w' cnt' hwx hwc hlk hat hrg hlt hgr hsz hen)

end Go.Proofs.Qxb6000101a
