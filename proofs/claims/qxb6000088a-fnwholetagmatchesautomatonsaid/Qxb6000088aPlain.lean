/-
  THE PLAIN LAWS of the seat b6000088a (module parlorkeep): the tag automaton over bytes. No Go text here.
-/
import Derived.Lib.Bytealg
namespace Go.Proofs.Qxb6000088a.Pl

def sp (b : UInt8) : Bool := b == 32 || b == 9 || b == 11 || b == 12
def letter (b : UInt8) : Bool := (decide (97 ≤ b.toNat) && decide (b.toNat ≤ 122)) || (decide (65 ≤ b.toNat) && decide (b.toNat ≤ 90))
def digit (b : UInt8) : Bool := decide (48 ≤ b.toNat) && decide (b.toNat ≤ 57)
def nchar (b : UInt8) : Bool := letter b || digit b || b == 45
def astart (b : UInt8) : Bool := letter b || b == 95 || b == 58
def achar (b : UInt8) : Bool := letter b || digit b || b == 95 || b == 46 || b == 58 || b == 45
def unq (b : UInt8) : Bool := decide (32 < b.toNat) && !(b == 34) && !(b == 39) && !(b == 61) && !(b == 60) && !(b == 62) && !(b == 96)
def afterItem (b : UInt8) : Nat := if sp b then 5 else if b = 62 then 1 else if b = 47 then 13 else 0
def afterName (b : UInt8) : Nat := if sp b then 8 else if b = 61 then 9 else if b = 62 then 1 else if b = 47 then 13 else 0
def step (st : Nat) (b : UInt8) : Nat :=
  if st = 2 then (if letter b then 3 else 0)
  else if st = 3 then (if nchar b then 3 else afterItem b)
  else if st = 4 then afterItem b
  else if st = 5 then (if sp b then 5 else if b = 62 then 1 else if b = 47 then 13 else if astart b then 6 else 0)
  else if st = 6 then (if achar b then 6 else afterName b)
  else if st = 7 then afterName b
  else if st = 8 then (if sp b then 8 else if b = 61 then 9 else if b = 62 then 1 else if b = 47 then 13 else if astart b then 6 else 0)
  else if st = 9 then (if sp b then 9 else if b = 34 then 10 else if b = 39 then 11 else if unq b then 12 else 0)
  else if st = 10 then (if b = 34 then 4 else 10)
  else if st = 11 then (if b = 39 then 4 else 11)
  else if st = 12 then (if unq b then 12 else afterItem b)
  else if st = 13 then (if b = 62 then 1 else 0)
  else if st = 14 then (if letter b then 15 else 0)
  else if st = 15 then (if nchar b then 15 else if sp b then 16 else if b = 62 then 1 else 0)
  else if st = 16 then (if sp b then 16 else if b = 62 then 1 else 0)
  else 0

/-- The automaton from a state on: how many bytes till it accepts. -/
def run : List UInt8 → Nat → Option Nat
  | [], _ => none
  | b :: t, st => if step st b = 1 then some 1 else if step st b = 0 then none else (run t (step st b)).map (· + 1)

def fin (i : Nat) : Option Nat → Nat
  | none => 0
  | some c => i + c

def R (s : ByteArray) (i st : Nat) : Nat := fin i (run (s.data.toList.drop i) st)

def ans (s : ByteArray) : Nat := if h : s.size < 2 then 0 else if s[1]'(by omega) = 47 then R s 2 14 else R s 1 2

theorem R_end (s : ByteArray) (i st : Nat) (h : ¬ i < s.size) : R s i st = 0 := by
  unfold R
  rw [List.drop_of_length_le (by simp; omega)]; rfl

theorem R_step (s : ByteArray) (i st : Nat) (h : i < s.size) : R s i st = if step st s[i] = 1 then i + 1 else if step st s[i] = 0 then 0 else R s (i + 1) (step st s[i]) := by
  have hd : s.data.toList.drop i = s[i] :: s.data.toList.drop (i + 1) := by rw [List.drop_eq_getElem_cons (by simpa using h)]; rfl
  unfold R
  rw [hd, run]
  split
  · rfl
  · split
    · rfl
    · cases run (s.data.toList.drop (i + 1)) (step st s[i]) with
      | none => rfl
      | some c => simp [fin]; omega

theorem R_go (s : ByteArray) (i st st' : Nat) (h : i < s.size) (hs : step st s[i] = st') (h1 : st' ≠ 1) (h0 : st' ≠ 0) : R s i st = R s (i + 1) st' := by
  rw [R_step s i st h, hs, if_neg h1, if_neg h0]
theorem R_yes (s : ByteArray) (i st : Nat) (h : i < s.size) (hs : step st s[i] = 1) : R s i st = i + 1 := by
  rw [R_step s i st h, hs, if_pos rfl]
theorem R_no (s : ByteArray) (i st : Nat) (h : i < s.size) (hs : step st s[i] = 0) : R s i st = 0 := by
  rw [R_step s i st h, hs, if_neg (by omega), if_pos rfl]

/-- Two states that part at no byte that can stand here are one. -/
theorem R_same (s : ByteArray) (i st st' : Nat) (h : ∀ h : i < s.size, step st s[i] = step st' s[i]) : R s i st = R s i st' := by
  by_cases hi : i < s.size
  · rw [R_step s i st hi, R_step s i st' hi, h hi]
  · rw [R_end s i st hi, R_end s i st' hi]

/-- From i to j there is white space, and at j there is none, or the end. -/
def Skip (s : ByteArray) (i j : Nat) : Prop := i ≤ j ∧ j ≤ s.size ∧ (∀ k (hk : k < s.size), i ≤ k → k < j → sp s[k] = true) ∧ (∀ hj : j < s.size, sp s[j] = false)

theorem R_skip (s : ByteArray) (i j st : Nat) (h : Skip s i j) (hst : ∀ b, sp b = true → step st b = st) (h1 : st ≠ 1) (h0 : st ≠ 0) : R s i st = R s j st := by
  obtain ⟨hij, hjn, hsp, -⟩ := h
  obtain ⟨d, rfl⟩ : ∃ d, j = i + d := ⟨j - i, by omega⟩
  clear hij
  induction d generalizing i with
  | zero => rfl
  | succ d ih =>
    rw [R_go s i st st (by omega) (hst _ (hsp i (by omega) (Nat.le_refl _) (by omega))) h1 h0]
    rw [ih (i + 1) (by omega) (fun k hk h1 h2 => hsp k hk (by omega) (by omega))]
    congr 1
    omega

theorem sp_not {b : UInt8} (h : sp b = true) : b ≠ 62 ∧ b ≠ 47 ∧ b ≠ 61 ∧ b ≠ 34 ∧ b ≠ 39 ∧ letter b = false ∧ digit b = false ∧ b ≠ 95 ∧ b ≠ 58 ∧ b ≠ 46 ∧ b ≠ 45 := by
  unfold sp at h
  simp only [Bool.or_eq_true, beq_iff_eq] at h
  rcases h with ((rfl | rfl) | rfl) | rfl <;> decide

theorem letter_not {b : UInt8} (h : letter b = true) : sp b = false ∧ b ≠ 62 ∧ b ≠ 47 := by
  unfold letter at h
  simp only [Bool.or_eq_true, Bool.and_eq_true, decide_eq_true_eq] at h
  refine ⟨?_, ?_, ?_⟩
  · cases hs : sp b
    · rfl
    · unfold sp at hs
      simp only [Bool.or_eq_true, beq_iff_eq] at hs
      rcases hs with ((rfl | rfl) | rfl) | rfl <;> revert h <;> decide
  · rintro rfl; revert h; decide
  · rintro rfl; revert h; decide

theorem astart_not {b : UInt8} (h : astart b = true) : sp b = false ∧ b ≠ 62 ∧ b ≠ 47 := by
  unfold astart at h
  simp only [Bool.or_eq_true, beq_iff_eq] at h
  rcases h with (h | rfl) | rfl
  · exact letter_not h
  · decide
  · decide

theorem step4_sp {b : UInt8} (h : sp b = true) : step 4 b = 5 := by simp [step, afterItem, h]
theorem step5_sp {b : UInt8} (h : sp b = true) : step 5 b = 5 := by simp [step, h]
theorem step8_sp {b : UInt8} (h : sp b = true) : step 8 b = 8 := by simp [step, h]
theorem step9_sp {b : UInt8} (h : sp b = true) : step 9 b = 9 := by simp [step, h]
theorem step16_sp {b : UInt8} (h : sp b = true) : step 16 b = 16 := by simp [step, h]

theorem Skip.first {s : ByteArray} {i j : Nat} (h : Skip s i j) (hij : i < j) : ∃ hi : i < s.size, sp s[i] = true := by
  obtain ⟨_, h2, h3, _⟩ := h
  exact ⟨by omega, h3 i (by omega) (Nat.le_refl _) hij⟩
theorem Skip.next {s : ByteArray} {i j : Nat} (h : Skip s i j) (hij : i < j) : Skip s (i + 1) j := by
  obtain ⟨_, h2, h3, h4⟩ := h
  exact ⟨by omega, h2, fun k hk h1 h2 => h3 k hk (by omega) h2, h4⟩

/-- Behind an item: white space first, then on in state 5; or nothing skipped. -/
theorem head_skip (s : ByteArray) (i j : Nat) (h : Skip s i j) (hij : i < j) : R s i 4 = R s j 5 := by
  obtain ⟨hi, hsp⟩ := h.first hij
  rw [R_go s i 4 5 hi (step4_sp hsp) (by omega) (by omega)]
  exact R_skip s (i + 1) j 5 (h.next hij) (fun b => step5_sp) (by omega) (by omega)

theorem head_gt (s : ByteArray) (i j : Nat) (h : Skip s i j) (hj : j < s.size) (e : s[j] = 62) : R s i 4 = j + 1 := by
  by_cases hij : i < j
  · rw [head_skip s i j h hij]
    exact R_yes s j 5 hj (by rw [e]; decide)
  · obtain rfl : i = j := by have := h.1; omega
    exact R_yes s i 4 hj (by rw [e]; decide)

theorem head_sl (s : ByteArray) (i j : Nat) (h : Skip s i j) (hj : j + 1 < s.size) (e : s[j] = 47) (e2 : s[j + 1] = 62) : R s i 4 = j + 2 := by
  have hr : R s (j + 1) 13 = j + 2 := R_yes s (j + 1) 13 hj (by rw [e2]; decide)
  by_cases hij : i < j
  · rw [head_skip s i j h hij, R_go s j 5 13 (by omega) (by rw [e]; decide) (by omega) (by omega), hr]
  · obtain rfl : i = j := by have := h.1; omega
    rw [R_go s i 4 13 (by omega) (by rw [e]; decide) (by omega) (by omega), hr]

theorem slash_bad (s : ByteArray) (j : Nat) (h : ∀ h : j + 1 < s.size, s[j + 1] ≠ 62) : R s (j + 1) 13 = 0 := by
  by_cases hj : j + 1 < s.size
  · exact R_no s (j + 1) 13 hj (by simp [step, h hj])
  · exact R_end s _ _ hj

theorem head_bad (s : ByteArray) (i j : Nat) (h : Skip s i j) (h1 : ∀ hj : j < s.size, s[j] ≠ 62) (h2 : ∀ (hj : j + 1 < s.size), s[j] = 47 → s[j + 1] ≠ 62) (h3 : j = i ∨ j = s.size ∨ ∃ hj : j < s.size, astart s[j] = false) : R s i 4 = 0 := by
  by_cases hij : i < j
  · rw [head_skip s i j h hij]
    by_cases hj : j < s.size
    · have h4 := h.2.2.2 hj
      by_cases e : s[j] = 47
      · rw [R_go s j 5 13 hj (by rw [e]; decide) (by omega) (by omega)]
        exact slash_bad s j fun hj' => h2 hj' e
      · obtain ⟨_, ha⟩ : ∃ hj : j < s.size, astart s[j] = false := by
          rcases h3 with h3 | h3 | h3
          · omega
          · omega
          · exact h3
        exact R_no s j 5 hj (by simp [step, h4, h1 hj, e, ha])
    · exact R_end s _ _ hj
  · obtain rfl : i = j := by have := h.1; omega
    by_cases hj : i < s.size
    · have h4 := h.2.2.2 hj
      by_cases e : s[i] = 47
      · rw [R_go s i 4 13 hj (by rw [e]; decide) (by omega) (by omega)]
        exact slash_bad s i fun hj' => h2 hj' e
      · exact R_no s i 4 hj (by simp [step, afterItem, h4, h1 hj, e])
    · exact R_end s _ _ hj

theorem head_attr (s : ByteArray) (i j : Nat) (h : Skip s i j) (hij : i < j) (hj : j < s.size) (ha : astart s[j] = true) : R s i 4 = R s (j + 1) 6 := by
  rw [head_skip s i j h hij]
  obtain ⟨h1, h2, h3⟩ := astart_not ha
  exact R_go s j 5 6 hj (by simp [step, h1, h2, h3, ha]) (by omega) (by omega)

theorem attr_more (s : ByteArray) (j : Nat) (hj : j < s.size) (ha : achar s[j] = true) : R s j 6 = R s (j + 1) 6 :=
  R_go s j 6 6 hj (by simp [step, ha]) (by omega) (by omega)

theorem step6_end {b : UInt8} (h : achar b = false) : step 6 b = afterName b := by simp [step, h]

theorem attr_skip (s : ByteArray) (j k : Nat) (h0 : ∀ hj : j < s.size, achar s[j] = false) (h : Skip s j k) (hjk : j < k) : R s j 6 = R s k 8 := by
  obtain ⟨hj, hsp⟩ := h.first hjk
  rw [R_go s j 6 8 hj (by rw [step6_end (h0 hj)]; simp [afterName, hsp]) (by omega) (by omega)]
  exact R_skip s (j + 1) k 8 (h.next hjk) (fun b => step8_sp) (by omega) (by omega)

theorem attr_eq (s : ByteArray) (j k : Nat) (h0 : ∀ hj : j < s.size, achar s[j] = false) (h : Skip s j k) (hk : k < s.size) (e : s[k] = 61) : R s j 6 = R s (k + 1) 9 := by
  by_cases hjk : j < k
  · rw [attr_skip s j k h0 h hjk]
    exact R_go s k 8 9 hk (by rw [e]; decide) (by omega) (by omega)
  · obtain rfl : j = k := by have := h.1; omega
    exact R_go s j 6 9 hk (by rw [e]; decide) (by omega) (by omega)

theorem attr_none (s : ByteArray) (j k : Nat) (h0 : ∀ hj : j < s.size, achar s[j] = false) (h : Skip s j k) (hk : ∀ hk : k < s.size, s[k] ≠ 61) : R s j 6 = R s j 4 := by
  by_cases hjk : j < k
  · rw [attr_skip s j k h0 h hjk, head_skip s j k h hjk]
    refine R_same s k 8 5 fun hk' => ?_
    simp [step, h.2.2.2 hk', hk hk']
  · obtain rfl : j = k := by have := h.1; omega
    refine R_same s j 6 4 fun hj => ?_
    rw [step6_end (h0 hj)]
    simp [step, afterName, afterItem, h.2.2.2 hj, hk hj]

theorem val_skip (s : ByteArray) (k k2 : Nat) (h : Skip s k k2) : R s k 9 = R s k2 9 := R_skip s k k2 9 h (fun b => step9_sp) (by omega) (by omega)
theorem val_dq (s : ByteArray) (k : Nat) (hk : k < s.size) (e : s[k] = 34) : R s k 9 = R s (k + 1) 10 := R_go s k 9 10 hk (by rw [e]; decide) (by omega) (by omega)
theorem val_sq (s : ByteArray) (k : Nat) (hk : k < s.size) (e : s[k] = 39) : R s k 9 = R s (k + 1) 11 := R_go s k 9 11 hk (by rw [e]; decide) (by omega) (by omega)
theorem val_bad (s : ByteArray) (k : Nat) (hk : k < s.size) (h0 : sp s[k] = false) (h1 : s[k] ≠ 34) (h2 : s[k] ≠ 39) (h3 : unq s[k] = false) : R s k 9 = 0 := R_no s k 9 hk (by simp [step, h0, h1, h2, h3])
theorem val_unq (s : ByteArray) (k : Nat) (hk : k < s.size) (h0 : sp s[k] = false) (h1 : s[k] ≠ 34) (h2 : s[k] ≠ 39) (h3 : unq s[k] = true) : R s k 9 = R s (k + 1) 12 := R_go s k 9 12 hk (by simp [step, h0, h1, h2, h3]) (by omega) (by omega)
theorem unq_more (s : ByteArray) (k : Nat) (hk : k < s.size) (h3 : unq s[k] = true) : R s k 12 = R s (k + 1) 12 := R_go s k 12 12 hk (by simp [step, h3]) (by omega) (by omega)
theorem unq_end (s : ByteArray) (k : Nat) (h : ∀ hk : k < s.size, unq s[k] = false) : R s k 12 = R s k 4 := R_same s k 12 4 fun hk => by simp [step, h hk]

theorem drop_at (s : ByteArray) (k : Nat) (h : k < s.size) : s.data.toList.drop k = s[k] :: s.data.toList.drop (k + 1) := by
  rw [List.drop_eq_getElem_cons (by simpa using h)]; rfl

/-- In quotation marks (state 10) or apostrophes (state 11). -/
theorem quote_law (s : ByteArray) (q : UInt8) (st : Nat) (hst : (st = 10 ∧ q = 34) ∨ (st = 11 ∧ q = 39)) (d : Nat) : ∀ k, s.size - k = d →
    (Lib.indexByte (s.data.toList.drop k) q = -1 → R s k st = 0) ∧ (∀ e : Nat, Lib.indexByte (s.data.toList.drop k) q = e → k + e < s.size ∧ R s k st = R s (k + e + 1) 4) := by
  have hq : ∀ b, b = q → step st b = 4 := by
    intro b hb
    rcases hst with ⟨rfl, rfl⟩ | ⟨rfl, rfl⟩ <;> (subst hb; decide)
  have hn : ∀ b, b ≠ q → step st b = st := by
    intro b hb
    rcases hst with ⟨rfl, rfl⟩ | ⟨rfl, rfl⟩ <;> simp [step, hb]
  have h2 : 10 ≤ st := by omega
  induction d with
  | zero =>
    intro k hk
    have hks : ¬ k < s.size := by omega
    have e0 : s.data.toList.drop k = [] := by rw [List.drop_of_length_le]; simp; omega
    rw [e0]
    refine ⟨fun _ => R_end s _ _ hks, fun e he => ?_⟩
    simp [Lib.indexByte] at he
  | succ d ih =>
    intro k hk
    have hks : k < s.size := by omega
    have ih' := ih (k + 1) (by omega)
    have hge := Lib.indexByte_ge (s.data.toList.drop (k + 1)) q
    rw [drop_at s k hks, Lib.indexByte]
    by_cases hb : s[k] = q
    · have hb' : (s[k] == q) = true := by simpa using hb
      rw [hb']
      refine ⟨fun h => by simp at h, fun e he => ?_⟩
      simp at he
      obtain rfl : e = 0 := by omega
      exact ⟨by omega, R_go s k st 4 hks (hq _ hb) (by omega) (by omega)⟩
    · have hb' : (s[k] == q) = false := by simpa using hb
      rw [hb']
      have hgo : R s k st = R s (k + 1) st := R_go s k st st hks (hn _ hb) (by omega) (by omega)
      by_cases ht : Lib.indexByte (s.data.toList.drop (k + 1)) q = -1
      · rw [ht]
        refine ⟨fun _ => by rw [hgo]; exact ih'.1 ht, fun e he => ?_⟩
        simp at he
      · have ht' : (Lib.indexByte (s.data.toList.drop (k + 1)) q == -1) = false := by simpa using ht
        rw [ht']
        simp only [Bool.false_eq_true, if_false]
        refine ⟨fun h => by omega, fun e he => ?_⟩
        obtain ⟨e', rfl⟩ : ∃ e', e = e' + 1 := ⟨e - 1, by omega⟩
        obtain ⟨g1, g2⟩ := ih'.2 e' (by omega)
        refine ⟨by omega, ?_⟩
        rw [hgo, g2]
        congr 1
        omega

/-! ### The name, and the closing tag -/
theorem open_start (s : ByteArray) (i : Nat) (hi : i < s.size) (h : letter s[i] = true) : R s i 2 = R s (i + 1) 3 := R_go s i 2 3 hi (by simp [step, h]) (by omega) (by omega)
theorem open_bad (s : ByteArray) (i : Nat) (h : ∀ hi : i < s.size, letter s[i] = false) : R s i 2 = 0 := by
  by_cases hi : i < s.size
  · exact R_no s i 2 hi (by simp [step, h hi])
  · exact R_end s _ _ hi
theorem close_start (s : ByteArray) (i : Nat) (hi : i < s.size) (h : letter s[i] = true) : R s i 14 = R s (i + 1) 15 := R_go s i 14 15 hi (by simp [step, h]) (by omega) (by omega)
theorem close_bad (s : ByteArray) (i : Nat) (h : ∀ hi : i < s.size, letter s[i] = false) : R s i 14 = 0 := by
  by_cases hi : i < s.size
  · exact R_no s i 14 hi (by simp [step, h hi])
  · exact R_end s _ _ hi
theorem name_more (s : ByteArray) (i : Nat) (hi : i < s.size) (h : nchar s[i] = true) : R s i 3 = R s (i + 1) 3 := R_go s i 3 3 hi (by simp [step, h]) (by omega) (by omega)
theorem cname_more (s : ByteArray) (i : Nat) (hi : i < s.size) (h : nchar s[i] = true) : R s i 15 = R s (i + 1) 15 := R_go s i 15 15 hi (by simp [step, h]) (by omega) (by omega)
theorem name_end (s : ByteArray) (i : Nat) (h : ∀ hi : i < s.size, nchar s[i] = false) : R s i 3 = R s i 4 := R_same s i 3 4 fun hi => by simp [step, h hi]
theorem cname_skip (s : ByteArray) (i j : Nat) (h0 : ∀ hi : i < s.size, nchar s[i] = false) (h : Skip s i j) (hij : i < j) : R s i 15 = R s j 16 := by
  obtain ⟨hi, hsp⟩ := h.first hij
  rw [R_go s i 15 16 hi (by simp [step, h0 hi, hsp]) (by omega) (by omega)]
  exact R_skip s (i + 1) j 16 (h.next hij) (fun b => step16_sp) (by omega) (by omega)
theorem cname_yes (s : ByteArray) (i j : Nat) (h0 : ∀ hi : i < s.size, nchar s[i] = false) (h : Skip s i j) (hj : j < s.size) (e : s[j] = 62) : R s i 15 = j + 1 := by
  by_cases hij : i < j
  · rw [cname_skip s i j h0 h hij]
    exact R_yes s j 16 hj (by rw [e]; decide)
  · obtain rfl : i = j := by have := h.1; omega
    exact R_yes s i 15 hj (by rw [e]; decide)
theorem cname_no (s : ByteArray) (i j : Nat) (h0 : ∀ hi : i < s.size, nchar s[i] = false) (h : Skip s i j) (e : ∀ hj : j < s.size, s[j] ≠ 62) : R s i 15 = 0 := by
  by_cases hij : i < j
  · rw [cname_skip s i j h0 h hij]
    by_cases hj : j < s.size
    · exact R_no s j 16 hj (by simp [step, h.2.2.2 hj, e hj])
    · exact R_end s _ _ hj
  · obtain rfl : i = j := by have := h.1; omega
    by_cases hj : i < s.size
    · exact R_no s i 15 hj (by simp [step, h0 hj, h.2.2.2 hj, e hj])
    · exact R_end s _ _ hj

theorem R_le (s : ByteArray) (i st : Nat) : R s i st ≤ s.size := by
  by_cases hi : i < s.size
  · obtain ⟨d, hd⟩ : ∃ d, s.size - i = d := ⟨_, rfl⟩
    induction d generalizing i st with
    | zero => omega
    | succ d ih =>
      rw [R_step s i st hi]
      split
      · omega
      · split
        · omega
        · by_cases h2 : i + 1 < s.size
          · exact ih (i + 1) _ h2 (by omega)
          · rw [R_end s _ _ h2]; omega
  · rw [R_end s _ _ hi]; omega

end Go.Proofs.Qxb6000088a.Pl
