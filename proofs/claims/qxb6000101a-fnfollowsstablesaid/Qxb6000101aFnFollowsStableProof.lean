/-
  THE PROOF OF 'Rows.FnFollowsStableSaid': the frame is the guide's skeleton, the walk is in Qxb6000101aTop and Qxb6000101aTopNil.
-/
import Derived.Test.Qxb6000101aRows
import Derived.Test.Qxb6000101aTopNil
import Derived.WalkKit
import Derived.ProofKit
import Derived.OpenShut
import Derived.ShutString
import Derived.ChangeOld
import Derived.Below
import Derived.Deep.SlicePairs
namespace Go.Proofs.Qxb6000101a.fnFollowsStable
open Go.ChangeShapes Go.WideShapes Go.ChangeAt Go.RowKit Go.Deep
open Go.ChangeMaps (open_string shut_string)
set_option linter.unusedVariables false

theorem own : ownKnob Try.prog.godebug = none := by kernel_rfl
theorem laidOut : laidOutB Try.prog = true := by kernel_rfl

def pair44 (u : Option TypeDesc) : Bool :=
  match u with
  | some (.struct fs) => match fs.toList with
    | [f0, f1] => decide (f0.offset = 0) && decide (f1.offset = 1) && decide (f0.type = 9) && decide (f1.type = 33)
    | _ => false
  | _ => false
theorem pair44_ok : pair44 (Try.prog.underlying 44) = true := by kernel_rfl
theorem fields44 : ∃ f0 f1 : Field, Try.prog.underlying 44 = some (.struct #[f0, f1]) ∧ f0.offset = 0 ∧ f1.offset = 1 ∧ f0.type = 9 ∧ f1.type = 33 := by
  have h := pair44_ok
  generalize Try.prog.underlying 44 = u at h ⊢
  unfold pair44 at h
  split at h
  · rename_i fs
    split at h
    · rename_i f0 f1 e
      simp at h
      refine ⟨f0, f1, ?_, h.1.1.1, h.1.1.2, h.1.2, h.2⟩
      congr 2
      exact Array.ext' (by simpa using e)
    · cases h
  · cases h
theorem cells44 : Try.prog.cellsOf 44 = 2 := by kernel_rfl
theorem cells9 : Try.prog.cellsOf 9 = 1 := by kernel_rfl
theorem cells33 : Try.prog.cellsOf 33 = 1 := by kernel_rfl

/-- WHAT THE WALK IS TOLD OF THE ROW THAT CAME IN. -/
def IsRow (w : World) (a : Option Addr) (len cap : Nat) : Prop :=
  (a = none ∧ len = 0 ∧ cap = 0) ∨ ∃ x K S, a = some x ∧ len ≤ maxLen ∧ Row w w.heap.size (some x) len K S

theorem walk (later : ByteArray) (a : Option Addr) (len cap : Nat) (w : World) (hl : later.size ≤ maxLen) (h : IsRow w a len cap) :
    Calls Try.prog 10 #[.string later, .slice a len cap] w fun e w' => e = .returned (.bool true) ∧ Below w.heap.size w w' := by
  rcases h with ⟨rfl, rfl, rfl⟩ | ⟨x, K, S, rfl, hm, R⟩
  · exact top_nil later w hl
  · exact top_some later x len cap w.heap.size K S w hl hm (Nat.le_refl _) R

theorem row_of {H : Type} {enc : TypeId × Value → H} {W : World} {a : Option Addr} {len cap fuel : Nat} {x : DataW H × List MemPlace} (h : DataW.trod enc Try.prog W 0 (fun _ => true) true fuel 22 [.slice a len cap] = some x) : IsRow W a len cap := by
  obtain ⟨f0, f1, he, o0, o1, t0, t1⟩ := fields44
  rcases open_slice_pairs slice22 he cells44 o0 o1 (by rw [t0]; exact cells9) (by rw [t1]; exact cells33) h with ⟨hcs, _⟩ | ⟨ad, l, c, m, n, V0, V1, D0, D1, P0, P1, hcs, _, hl, hm, hmm, _, hx⟩
  · simp at hcs
    exact Or.inl hcs
  · simp at hcs
    obtain ⟨rfl, rfl, rfl⟩ := hcs
    simp at hmm
    subst hmm
    have hk : ∀ i, i < len → ∃ q : ByteArray × Int, V0 i = .string q.1 ∧ V1 i = .int .u64 q.2 ∧ q.1.size ≤ maxLen ∧ (Lit.int .u64 q.2).wf = true := by
      intro i hi
      obtain ⟨_, _, g0, g1⟩ := hx i (by omega)
      obtain ⟨s, e0, _, hs⟩ := DataW.trod_string (by rw [t0]; exact Try.underlying9) g0
      obtain ⟨z, e1, _, hz⟩ := DataW.trod_int (by rw [t1]; exact Try.underlying33) g1
      simp at e0 e1
      exact ⟨(s, z), e0, e1, hs, hz⟩
    obtain ⟨q, hq⟩ := choose_lt hk
    refine Or.inr ⟨ad, fun i => (q i).1, fun i => (q i).2, rfl, Nat.le_trans hl hm, ⟨fun i hi => ?_, fun b off e i hi => ?_, fun b off e i hi => ?_, fun i hi => ⟨(hq i hi).2.2.1, (hq i hi).2.2.2⟩⟩⟩
    · obtain ⟨b, off, spot⟩ := ad
      have hc := (hx 0 (by omega)).1
      have hspot : spot = none := by simpa [Addr.add] using World.cell?_spot hc
      subst hspot
      exact ⟨b, off, rfl, by simpa [Addr.add] using block_lt_of_cell hc⟩
    · cases e
      rw [← add_plain, (hx i (by omega)).1, (hq i hi).1]
    · cases e
      rw [Nat.add_assoc, ← add_plain, (hx i (by omega)).2.1, (hq i hi).2.1]

set_option maxRecDepth 100000 in
theorem lifted (os : Os) (started : os.Started) (H : Type) (enc : TypeId × Value → H) :
    ReturnsInHanded {} Try.checked os 10 .any (Rows.fnFollowsStableSpec.pre6 enc Try.prog Try.f10 Rows.fnFollowsStableRow.domain false) (Rows.fnFollowsStableSpec.post enc Try.prog Try.f10 false true false false) := by
  refine returnsInHanded_of_change (C := Try.checked) own started (by kernel_rfl) Try.func10
    (ChangeSpec.witness6 (enc := enc) (C := Try.checked) false ⟨#[], #[.string ⟨#[]⟩, .slice none 0 0], []⟩ 8 (by kernel_rfl) (by kernel_rfl) (by kernel_rfl) (by kernel_rfl)) ?_
  intro W base args ds gs before hval0 hW hcnd _
  have hval : ∀ (j : Nat) t v, Try.f10.params[j]? = some t → args[j]? = some v → Value.okWide Try.prog W .any base t v := hval0
  have hW' := hW
  obtain ⟨p, q, hA0, hV, rfl, hfz, hnd⟩ := hW
  have hA : DataW.TrodAll enc Try.prog W 0 (fun _ => true) true Try.f10.params.toList args.toList ds p := hA0
  rw [Try.params10] at hA hval
  obtain ⟨v0, vs0, d0, ds0, p0, q0, hargs, rfl, rfl, h0, r0⟩ := trodAll_cons hA
  obtain ⟨v1, vs1, d1, ds1, p1, q1, hargs1, rfl, rfl, h1, r1⟩ := trodAll_cons r0
  obtain ⟨rfl, rfl, rfl⟩ := trodAll_nil r1
  obtain rfl : args = #[v0, v1] := by cases args; simp_all
  obtain ⟨rfl, rfl⟩ := trodVars_none hV
  obtain ⟨a0, rfl, rfl, rfl, w0⟩ := open_string Try.underlying9 (hval 0 9 v0 rfl rfl) h0
  obtain ⟨a1, len1, cap1, rfl⟩ := okWide_slice slice22 (hval 1 22 v1 rfl rfl)
  have k1 := h1
  have lt1 : ∀ x ∈ p1, x.block < W.heap.size := by obtain ⟨m, hm⟩ := k1; exact DataW.trod_lt m _ _ _ hm
  have w1 : IsRow W a1 len1 cap1 := by
    obtain ⟨fuel, hf⟩ := h1
    exact row_of hf
  clear hA0 hval0
  refine (walk a0 a1 len1 cap1 W w0 w1).mono fun e W' ⟨he, bel⟩ => ?_
  subst he
  exact ⟨_, rfl, _, _, _, [], _, [], hW', trodAll_mk1 (shut_bool Try.underlying4 _), (trodAll_cons_mk (shut_string Try.underlying9 w0) (trodAll_cons_mk (Below.trod laidOut (by kernel_rfl) (of_decide_eq_true (by kernel_rfl)) k1 bel lt1) trodAll_mk0)), rfl, bel.frame _, fun h => by cases h⟩

theorem over : Rows.fnFollowsStableRow.holds Try.pinned (OpenSpec.ofChange Rows.fnFollowsStableSpec) :=
  OpenClaim.holds_of_wide 10 Try.f10 rfl rfl rfl rfl rfl rfl rfl ⟨rfl, rfl, rfl, rfl, rfl⟩ rfl rfl rfl rfl rfl (by kernel_rfl) Try.func10 (by kernel_rfl)
    (of_decide_eq_true (by kernel_rfl)) (by unfold Func.isWrapper; first | (rw [if_pos (by decide +kernel)]; kernel_rfl) | (rw [if_neg (by decide +kernel)]; exact ⟨rfl, rfl⟩))
    (fun os started H enc _ => lifted os started H enc)

/-- THE STATEMENT -/
theorem proved : Rows.FnFollowsStableSaid := over
#print axioms proved
end Go.Proofs.Qxb6000101a.fnFollowsStable
