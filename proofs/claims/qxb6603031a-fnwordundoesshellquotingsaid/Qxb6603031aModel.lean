/-
  THE WALK of modelWord, and of the law FnWordMatchesAutomaton.
-/
import Derived.Test.Qxb6603031aScan
import Derived.Test.Qxb6603031aFnWordRestIsBlankSuffixWalk
namespace Go.Proofs.Qxb6603031a
open Go.RowKit

/-- 'string(out)' of a slice that the call owns, in whatever world in which its row still lies. -/
theorem convert_owned (W : World) (B : Nat) (o : Value) (acc : List UInt8) (h : W.ownsRow B 5 1 o acc.length (Lib.byteCells acc)) :
    ∃ (a : Option Addr) (n c : Nat), o = .slice a n c ∧ ∀ q : Nat, (convert 30 9 o).run Try.prog (W.drewN q) = .ok (.string ⟨acc.toArray⟩) (W.drewN q) := by
  rcases h.2 with ⟨rfl, h0⟩ | ⟨g, cap, cur, rfl, hbg, hg, hnc, hcm, hcs, htake⟩
  · refine ⟨_, _, _, rfl, fun q => ?_⟩
    obtain rfl : acc = [] := List.eq_nil_of_length_eq_zero h0
    exact run_convert_bytes_nil (W.drewN q) 30 5 Try.underlying30 Try.underlying5 0 0 9 Try.underlying9
  · refine ⟨_, _, _, rfl, fun q => ?_⟩
    refine run_convert_bytes_back (W.drewN q) 30 9 5 ⟨g, 0, none⟩ cap acc Try.underlying30 Try.underlying5 Try.underlying9 fun j hj => ?_
    have := h.cells (g := g) rfl j (.int .u8 (acc[j].toNat : Int)) (by simp [Lib.byteCells, hj])
    exact this

set_option maxHeartbeats 1000000 in
theorem model_any (s : ByteArray) (w : World) (hs : s.size ≤ 16777216) :
    Calls Try.prog 9 #[.string s] w fun e w' => WordPost s e ∧ Below w.heap.size w w' := by
  go_enter Try.func9, Try.ntmps9
  go_wp2_with (go_at_call 22; refine (scan_any _ _ hs).mono ?_)
  rintro e w1 ⟨hp, hb⟩
  rcases hp with ⟨o, acc, k, rfl, hown, hk, hsw⟩ | ⟨k, rfl, hsw⟩
  · have HX : Hid (WordPost s (.returned (.tuple #[.string ⟨acc.toArray⟩, .string (s.extract k s.size), .bool true]))) := by
      refine .inl ⟨_, _, rfl, ?_⟩
      rw [hsw, extract_rest]
    obtain ⟨a, n, c, rfl, hcv⟩ := convert_owned w1 _ o acc hown
    clear hsw hown
    have hk2 : (k : Int) ≤ (s.size : Int) := by omega
    have hcv1 := hcv 1
    go_wp2_with fail
    go_quiet (fail)
    go_wp2
    go_ret3
    exact ⟨HX.out, below_drewN hb _⟩
  · have HX : Hid (WordPost s (.returned (.tuple #[.string ⟨#[]⟩, .string ⟨#[]⟩, .bool false]))) := .inr ⟨rfl, hsw⟩
    clear hsw
    go_wp2
    go_ret3
    exact ⟨HX.out, hb⟩

end Go.Proofs.Qxb6603031a
