/-
  THE PLAIN LAWS of the seat b6603031a (module ladle): the shell's word automaton over lists of bytes. No Go text here.
-/
import Derived.Lib.Bytealg
namespace Go.Proofs.Qxb6603031a.Pl

def blank (c : UInt8) : Bool := c == 32 || c == 9
def esc (c : UInt8) : Bool := c == 36 || c == 96 || c == 34 || c == 92

/-- The word automaton. States: 0 outside quotes, 1 in single quotes, 2 in double quotes, 3 behind a backslash outside, 4 behind a backslash in double quotes. -/
def sw : List UInt8 → Nat → Option (List UInt8 × List UInt8)
  | [], st => if st = 0 then some ([], []) else if st = 3 then some ([92], []) else none
  | c :: t, st =>
    if st = 0 then
      if blank c then some ([], c :: t)
      else if c = 39 then sw t 1
      else if c = 34 then sw t 2
      else if c = 92 then sw t 3
      else (sw t 0).map fun p => (c :: p.1, p.2)
    else if st = 1 then
      if c = 39 then sw t 0 else (sw t 1).map fun p => (c :: p.1, p.2)
    else if st = 2 then
      if c = 34 then sw t 0 else if c = 92 then sw t 4 else (sw t 2).map fun p => (c :: p.1, p.2)
    else if st = 3 then (sw t 0).map fun p => (c :: p.1, p.2)
    else if esc c then (sw t 2).map fun p => (c :: p.1, p.2) else (sw t 2).map fun p => (92 :: c :: p.1, p.2)

/-- What was gathered, ahead of what is still to come. -/
def pre (acc : List UInt8) (o : Option (List UInt8 × List UInt8)) : Option (List UInt8 × List UInt8) := o.map fun p => (acc ++ p.1, p.2)

theorem pre_nil (o : Option (List UInt8 × List UInt8)) : pre [] o = o := by cases o <;> simp [pre]
theorem pre_pre (a b : List UInt8) (o : Option (List UInt8 × List UInt8)) : pre a (pre b o) = pre (a ++ b) o := by cases o <;> simp [pre]
theorem map_cons (c : UInt8) (o : Option (List UInt8 × List UInt8)) : (o.map fun p => (c :: p.1, p.2)) = pre [c] o := by cases o <;> simp [pre]
theorem map_cons2 (c d : UInt8) (o : Option (List UInt8 × List UInt8)) : (o.map fun p => (c :: d :: p.1, p.2)) = pre [c, d] o := by cases o <;> simp [pre]

theorem esc92 : esc 92 = true := by decide
theorem esc34 : esc 34 = true := by decide

/-! ### One step, in each state -/
theorem sw0_nil : sw [] 0 = some ([], []) := rfl
theorem sw1_nil : sw [] 1 = none := rfl
theorem sw2_nil : sw [] 2 = none := rfl
theorem sw0_blank (c : UInt8) (t : List UInt8) (h : blank c = true) : sw (c :: t) 0 = some ([], c :: t) := by simp [sw, h]
theorem sw0_single (t : List UInt8) : sw (39 :: t) 0 = sw t 1 := by
  rw [sw]; simp [show blank 39 = false from by decide]
theorem sw0_double (t : List UInt8) : sw (34 :: t) 0 = sw t 2 := by
  rw [sw]; simp [show blank 34 = false from by decide]
theorem sw0_back_nil : sw [92] 0 = pre [92] (sw [] 0) := by decide
theorem sw0_back (d : UInt8) (t : List UInt8) : sw (92 :: d :: t) 0 = pre [d] (sw t 0) := by
  rw [sw]; simp only [show blank 92 = false from by decide]; simp [sw, map_cons]
theorem sw0_plain (c : UInt8) (t : List UInt8) (hb : blank c = false) (h1 : c ≠ 39) (h2 : c ≠ 34) (h3 : c ≠ 92) : sw (c :: t) 0 = pre [c] (sw t 0) := by
  rw [sw]; simp [hb, h1, h2, h3, map_cons]
theorem sw1_end (t : List UInt8) : sw (39 :: t) 1 = sw t 0 := by rw [sw]; simp
theorem sw1_plain (c : UInt8) (t : List UInt8) (h : c ≠ 39) : sw (c :: t) 1 = pre [c] (sw t 1) := by rw [sw]; simp [h, map_cons]
theorem sw2_end (t : List UInt8) : sw (34 :: t) 2 = sw t 0 := by rw [sw]; simp
theorem sw2_plain (c : UInt8) (t : List UInt8) (h : c ≠ 34) (h2 : c ≠ 92) : sw (c :: t) 2 = pre [c] (sw t 2) := by rw [sw]; simp [h, h2, map_cons]
theorem sw2_esc (d : UInt8) (t : List UInt8) (h : esc d = true) : sw (92 :: d :: t) 2 = pre [d] (sw t 2) := by
  rw [sw]; simp; rw [sw]; simp [h, map_cons]
theorem sw2_back (d : UInt8) (t : List UInt8) (h : esc d = false) : sw (92 :: d :: t) 2 = pre [92] (sw (d :: t) 2) := by
  have hd : d ≠ 34 := by rintro rfl; exact absurd h (by decide)
  have hd2 : d ≠ 92 := by rintro rfl; exact absurd h (by decide)
  rw [sw2_plain d t hd hd2, pre_pre]
  rw [sw]; simp; rw [sw]; simp [h, map_cons2]
theorem sw2_back_nil : sw [92] 2 = pre [92] (sw [] 2) := by decide

/-- strings.IndexByte of the closing quote: not there: the word is not closed. -/
theorem sw1_none (l : List UInt8) (h : Lib.indexByte l 39 = -1) : sw l 1 = none := by
  induction l with
  | nil => rfl
  | cons c t ih =>
    unfold Lib.indexByte at h
    by_cases hc : c = 39
    · subst hc; simp at h
    · have hc' : (c == 39) = false := by simpa using hc
      have hge := Lib.indexByte_ge t 39
      rw [hc'] at h
      rw [sw1_plain c t hc]
      by_cases ht : Lib.indexByte t 39 = -1
      · rw [ih ht]; rfl
      · simp [ht] at h; omega
theorem sw1_some (l : List UInt8) (k : Nat) (h : Lib.indexByte l 39 = k) : k < l.length ∧ sw l 1 = pre (l.take k) (sw (l.drop (k + 1)) 0) := by
  induction l generalizing k with
  | nil => simp [Lib.indexByte] at h
  | cons c t ih =>
    unfold Lib.indexByte at h
    by_cases hc : c = 39
    · subst hc
      simp at h
      obtain rfl : k = 0 := by omega
      refine ⟨by simp, ?_⟩
      rw [sw1_end]; simp [pre_nil]
    · have hc' : (c == 39) = false := by simpa using hc
      have hge := Lib.indexByte_ge t 39
      rw [hc'] at h
      by_cases ht : Lib.indexByte t 39 = -1
      · simp [ht] at h
      · have ht' : (Lib.indexByte t 39 == -1) = false := by simpa using ht
        rw [ht'] at h
        simp only [Bool.false_eq_true, if_false] at h
        obtain ⟨j, rfl⟩ : ∃ j, k = j + 1 := ⟨k - 1, by omega⟩
        obtain ⟨h1, h2⟩ := ih j (by omega)
        refine ⟨by simp; omega, ?_⟩
        rw [sw1_plain c t hc, h2, pre_pre]
        simp

/-! ### What the word's answer is like -/
theorem sw_none (l : List UInt8) (st : Nat) (h : sw l st = none) (h0 : st = 0 ∨ st = 3) : (39 : UInt8) ∈ l ∨ (34 : UInt8) ∈ l := by
  induction l generalizing st with
  | nil => rcases h0 with rfl | rfl <;> simp [sw] at h
  | cons c t ih =>
    rcases h0 with rfl | rfl
    · rw [sw] at h
      simp only [if_true] at h
      by_cases hb : blank c = true
      · simp [hb] at h
      by_cases h1 : c = 39
      · subst h1; simp
      by_cases h2 : c = 34
      · subst h2; simp
      by_cases h3 : c = 92
      · simp [h3, show blank 92 = false from by decide] at h
        rcases ih 3 h (.inr rfl) with h | h <;> simp [h]
      · simp [hb, h1, h2, h3] at h
        rcases ih 0 h (.inl rfl) with h | h <;> simp [h]
    · rw [sw] at h
      simp at h
      rcases ih 0 h (.inl rfl) with h | h <;> simp [h]

theorem sw_some (l : List UInt8) (st : Nat) (v r : List UInt8) (h : sw l st = some (v, r)) (h5 : st < 5) :
    ∃ u, l = u ++ r ∧ v.length ≤ u.length + (if st < 3 then 0 else 1) ∧ (r = [] ∨ ∃ c t, r = c :: t ∧ blank c = true) := by
  induction l generalizing st v with
  | nil =>
    rw [sw] at h
    by_cases h0 : st = 0
    · subst h0; simp at h; obtain ⟨rfl, rfl⟩ := h; exact ⟨[], by simp⟩
    · by_cases h3 : st = 3
      · subst h3; simp at h; obtain ⟨rfl, rfl⟩ := h; exact ⟨[], by simp⟩
      · simp [h0, h3] at h
  | cons c t ih =>
    have key : ∀ st' v', st' < 5 → sw t st' = some (v', r) → ∃ u, t = u ++ r ∧ v'.length ≤ u.length + (if st' < 3 then 0 else 1) ∧ (r = [] ∨ ∃ c t, r = c :: t ∧ blank c = true) := fun st' v' h5 h => ih st' v' h h5
    have lift : ∀ {st' : Nat} {v' : List UInt8}, st' < 5 → sw t st' = some (v', r) → v.length + (if st' < 3 then 0 else 1) ≤ v'.length + 1 + (if st < 3 then 0 else 1) → ∃ u, c :: t = u ++ r ∧ v.length ≤ u.length + (if st < 3 then 0 else 1) ∧ (r = [] ∨ ∃ c t, r = c :: t ∧ blank c = true) := by
      intro st' v' h5 hs hl
      obtain ⟨u, e, hu, hr⟩ := key st' v' h5 hs
      refine ⟨c :: u, by rw [e]; rfl, ?_, hr⟩
      simp only [List.length_cons]
      omega
    have onto : ∀ {st' : Nat} {a : List UInt8}, st' < 5 → a.length + (if st' < 3 then 0 else 1) ≤ 1 + (if st < 3 then 0 else 1) → pre a (sw t st') = some (v, r) → ∃ u, c :: t = u ++ r ∧ v.length ≤ u.length + (if st < 3 then 0 else 1) ∧ (r = [] ∨ ∃ c t, r = c :: t ∧ blank c = true) := by
      intro st' a h5 ha hp
      cases hs : sw t st' with
      | none => rw [hs] at hp; simp [pre] at hp
      | some p =>
        rw [hs] at hp
        simp [pre] at hp
        obtain ⟨rfl, rfl⟩ := hp
        refine lift h5 hs ?_
        simp only [List.length_append]
        omega
    rw [sw] at h
    simp only [map_cons, map_cons2] at h
    by_cases h0 : st = 0
    · subst h0
      simp only [if_true] at h
      by_cases hb : blank c = true
      · simp [hb] at h
        obtain ⟨rfl, rfl⟩ := h
        exact ⟨[], by simp, by simp, .inr ⟨c, t, rfl, hb⟩⟩
      · by_cases h1 : c = 39
        · simp only [if_neg hb, if_pos h1] at h
          exact onto (st' := 1) (a := []) (by omega) (by simp) (by rw [pre_nil]; exact h)
        · by_cases h2 : c = 34
          · simp only [if_neg hb, if_neg h1, if_pos h2] at h
            exact onto (st' := 2) (a := []) (by omega) (by simp) (by rw [pre_nil]; exact h)
          · by_cases h3 : c = 92
            · simp only [if_neg hb, if_neg h1, if_neg h2, if_pos h3] at h
              exact onto (st' := 3) (a := []) (by omega) (by simp) (by rw [pre_nil]; exact h)
            · simp only [if_neg hb, if_neg h1, if_neg h2, if_neg h3] at h
              exact onto (st' := 0) (a := [c]) (by omega) (by simp) h
    · by_cases h1 : st = 1
      · subst h1
        simp only [if_neg h0, if_true] at h
        by_cases hc : c = 39
        · simp only [if_pos hc] at h
          exact onto (st' := 0) (a := []) (by omega) (by simp) (by rw [pre_nil]; exact h)
        · simp only [if_neg hc] at h
          exact onto (st' := 1) (a := [c]) (by omega) (by simp) h
      · by_cases h2 : st = 2
        · subst h2
          simp only [if_neg h0, if_neg h1, if_true] at h
          by_cases hc : c = 34
          · simp only [if_pos hc] at h
            exact onto (st' := 0) (a := []) (by omega) (by simp) (by rw [pre_nil]; exact h)
          · by_cases hd : c = 92
            · simp only [if_neg hc, if_pos hd] at h
              exact onto (st' := 4) (a := []) (by omega) (by simp) (by rw [pre_nil]; exact h)
            · simp only [if_neg hc, if_neg hd] at h
              exact onto (st' := 2) (a := [c]) (by omega) (by simp) h
        · by_cases h3 : st = 3
          · subst h3
            simp only [if_neg h0, if_neg h1, if_neg h2, if_true] at h
            exact onto (st' := 0) (a := [c]) (by omega) (by simp) h
          · simp only [if_neg h0, if_neg h1, if_neg h2, if_neg h3] at h
            have h4 : ¬ st < 3 := by omega
            by_cases he : esc c = true
            · simp only [if_pos he] at h
              exact onto (st' := 2) (a := [c]) (by omega) (by simp [h4]) h
            · simp only [if_neg he] at h
              exact onto (st' := 2) (a := [92, c]) (by omega) (by simp [h4]) h

/-! ### The three quotings read back -/
def q1 (v : List UInt8) : List UInt8 := v.flatMap fun c => if c = 39 then [39, 92, 39, 39] else [c]
def q2 (v : List UInt8) : List UInt8 := v.flatMap fun c => if esc c then [92, c] else [c]
def q3 (v : List UInt8) : List UInt8 := v.flatMap fun c => [92, c]

theorem sw_q1 (v tl : List UInt8) : sw (q1 v ++ 39 :: tl) 1 = pre v (sw tl 0) := by
  induction v with
  | nil => simp [q1, sw1_end, pre_nil]
  | cons c t ih =>
    by_cases hc : c = 39
    · subst hc
      have e : q1 (39 :: t) ++ 39 :: tl = 39 :: 92 :: 39 :: 39 :: (q1 t ++ 39 :: tl) := by simp [q1]
      rw [e, sw1_end, sw0_back, sw0_single, ih, pre_pre]
      rfl
    · have e : q1 (c :: t) ++ 39 :: tl = c :: (q1 t ++ 39 :: tl) := by simp [q1, hc]
      rw [e, sw1_plain c _ hc, ih, pre_pre]
      rfl

theorem sw_q2 (v tl : List UInt8) : sw (q2 v ++ 34 :: tl) 2 = pre v (sw tl 0) := by
  induction v with
  | nil => simp [q2, sw2_end, pre_nil]
  | cons c t ih =>
    by_cases hc : esc c = true
    · have e : q2 (c :: t) ++ 34 :: tl = 92 :: c :: (q2 t ++ 34 :: tl) := by simp [q2, hc]
      rw [e, sw2_esc c _ hc, ih, pre_pre]
      rfl
    · have e : q2 (c :: t) ++ 34 :: tl = c :: (q2 t ++ 34 :: tl) := by simp [q2, hc]
      rw [e, sw2_plain c _ (by rintro rfl; exact hc (by decide)) (by rintro rfl; exact hc (by decide)), ih, pre_pre]
      rfl

theorem sw_q3 (v tl : List UInt8) : sw (q3 v ++ tl) 0 = pre v (sw tl 0) := by
  induction v with
  | nil => simp [q3, pre_nil]
  | cons c t ih =>
    have e : q3 (c :: t) ++ tl = 92 :: c :: (q3 t ++ tl) := by simp [q3]
    rw [e, sw0_back, ih, pre_pre]
    rfl

end Go.Proofs.Qxb6603031a.Pl
