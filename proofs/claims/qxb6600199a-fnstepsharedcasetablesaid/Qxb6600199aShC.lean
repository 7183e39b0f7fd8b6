/-
  Rows of shares: the rank of a name, insertion, removal. No program here.
-/
import Derived.Test.Qxb6600199aShA
namespace Go.Proofs.Qxb6600199a

def below (n : Nat) (s : Sh) : Bool := decide (num s.1 < n)
/-- The shares whose names are below n, and the rest. -/
def lo (S : List Sh) (n : Nat) : List Sh := S.takeWhile (below n)
def hi (S : List Sh) (n : Nat) : List Sh := S.dropWhile (below n)
theorem lo_hi (S : List Sh) (n : Nat) : lo S n ++ hi S n = S := List.takeWhile_append_dropWhile
theorem lo_below {S : List Sh} {n : Nat} : ∀ s ∈ lo S n, num s.1 < n := by
  intro s hs
  have : below n s = true := by
    induction S with
    | nil => simp [lo] at hs
    | cons a r ih =>
      unfold lo at hs ih
      rw [List.takeWhile_cons] at hs
      split at hs
      · rcases List.mem_cons.1 hs with rfl | h
        · assumption
        · exact ih h
      · cases hs
  simpa [below] using this
theorem hi_above {S : List Sh} {n : Nat} (h : Srt S) : ∀ s ∈ hi S n, n ≤ num s.1 := by
  induction S with
  | nil => intro s hs; simp [hi] at hs
  | cons a r ih =>
    intro s hs
    unfold hi at hs ih
    rw [List.dropWhile_cons] at hs
    have hp := List.pairwise_cons.1 h
    split at hs
    · exact ih hp.2 s hs
    · rename_i hb
      have ha : n ≤ num a.1 := by simpa [below] using hb
      rcases List.mem_cons.1 hs with rfl | hm
      · exact ha
      · have := hp.1 s hm
        omega
/-- The split is the only one of its kind. -/
theorem split_unique {n : Nat} : ∀ {A B : List Sh}, (∀ s ∈ A, num s.1 < n) → (∀ s ∈ B, n ≤ num s.1) → lo (A ++ B) n = A ∧ hi (A ++ B) n = B
  | [], B, _, hb => by
    match B, hb with
    | [], _ => exact ⟨rfl, rfl⟩
    | b :: r, hb =>
      have h1 : below n b = false := by
        have := hb b (List.mem_cons_self ..)
        simp [below]; omega
      simp [lo, hi, h1]
  | a :: A, B, ha, hb => by
    have h1 : below n a = true := by
      have := ha a (List.mem_cons_self ..)
      simp [below]; omega
    obtain ⟨e1, e2⟩ := split_unique (n := n) (A := A) (B := B) (fun s hs => ha s (List.mem_cons_of_mem _ hs)) hb
    simp only [lo, hi] at e1 e2 ⊢
    rw [List.cons_append, List.takeWhile_cons, List.dropWhile_cons, if_pos h1, if_pos h1, e1, e2]
    exact ⟨rfl, rfl⟩

theorem rank_of {S : List Sh} {n r : Nat} (h1 : ∀ s ∈ S.take r, num s.1 < n) (h2 : ∀ s ∈ S.drop r, n ≤ num s.1) : lo S n = S.take r ∧ hi S n = S.drop r := by
  have := split_unique h1 h2
  rwa [List.take_append_drop] at this

theorem srt_get {S : List Sh} (h : Srt S) {i j : Nat} (hj : j < S.length) (hij : i ≤ j) : num (S[i]'(by omega)).1 ≤ num (S[j]).1 := by
  rcases Nat.lt_or_eq_of_le hij with h1 | rfl
  · exact Nat.le_of_lt (List.pairwise_iff_getElem.1 h i j (by omega) hj h1)
  · exact Nat.le_refl _
theorem take_below {S : List Sh} (h : Srt S) {n k : Nat} (hk : k < S.length) (hn : num (S[k]).1 < n) : ∀ s ∈ S.take (k + 1), num s.1 < n := by
  intro s hs
  obtain ⟨i, hi, rfl⟩ := List.getElem_of_mem hs
  rw [List.getElem_take]
  have hi' : i ≤ k := by simp at hi; omega
  have := srt_get h hk hi'
  omega
theorem drop_above {S : List Sh} (h : Srt S) {n k : Nat} (hk : k < S.length) (hn : n ≤ num (S[k]).1) : ∀ s ∈ S.drop k, n ≤ num s.1 := by
  intro s hs
  obtain ⟨i, hi, rfl⟩ := List.getElem_of_mem hs
  rw [List.getElem_drop]
  have := srt_get h (i := k) (j := k + i) (by simp at hi; omega) (by omega)
  omega

/-- Whether a name has a share, and that share's token. -/
def foundAt (S : List Sh) (nm : List UInt8) : Bool := match hi S (num nm) with | [] => false | s :: _ => decide (s.1 = nm)
def tokAt (S : List Sh) (nm : List UInt8) : Nat := match hi S (num nm) with | [] => 0 | s :: _ => num s.2
def tokOr (S : List Sh) (nm : List UInt8) : Nat := if foundAt S nm = true then tokAt S nm else 0
def rk (S : List Sh) (nm : List UInt8) : Nat := (lo S (num nm)).length
def ins (S : List Sh) (nm : List UInt8) (t : Nat) : List Sh := lo S (num nm) ++ (nm, be8 t) :: hi S (num nm)
def rem (S : List Sh) (nm : List UInt8) : List Sh := lo S (num nm) ++ (hi S (num nm)).tail

theorem rk_le (S : List Sh) (nm : List UInt8) : rk S nm ≤ S.length := by
  have := congrArg List.length (lo_hi S (num nm))
  simp at this
  unfold rk
  omega
theorem lo_take (S : List Sh) (nm : List UInt8) : lo S (num nm) = S.take (rk S nm) ∧ hi S (num nm) = S.drop (rk S nm) := by
  have h := lo_hi S (num nm)
  unfold rk
  generalize lo S (num nm) = A at h
  generalize hi S (num nm) = B at h
  subst h
  exact ⟨List.take_left.symm, List.drop_left.symm⟩

theorem found_mem {S : List Sh} (hs : Srt S) {nm : List UInt8} : foundAt S nm = true ↔ ∃ s ∈ S, s.1 = nm := by
  constructor
  · intro h
    unfold foundAt at h
    split at h
    · cases h
    · rename_i s r e
      refine ⟨s, ?_, by simpa using h⟩
      rw [← lo_hi S (num nm), e]
      exact List.mem_append_right _ (List.mem_cons_self ..)
  · rintro ⟨s, hm, rfl⟩
    rw [← lo_hi S (num s.1)] at hm
    rcases List.mem_append.1 hm with h | h
    · exact absurd (lo_below s h) (Nat.lt_irrefl _)
    · unfold foundAt
      match hq : hi S (num s.1), h with
      | a :: r, h =>
        simp only [decide_eq_true_eq]
        rcases List.mem_cons.1 h with rfl | h
        · rfl
        · have hsr : Srt (a :: r) := by
            have : Srt (lo S (num s.1) ++ hi S (num s.1)) := by rw [lo_hi]; exact hs
            have := (List.pairwise_append.1 this).2.1
            rwa [hq] at this
          have h1 := (List.pairwise_cons.1 hsr).1 s h
          have h2 := hi_above (n := num s.1) hs a (by rw [hq]; exact List.mem_cons_self ..)
          omega

/-- A new share keeps the row in order. -/
theorem ins_good {S : List Sh} (hw : WF S) (hs : Srt S) {nm : List UInt8} (hn : nm.length = 4) (hf : foundAt S nm = false) (t : Nat) : WF (ins S nm t) ∧ Srt (ins S nm t) := by
  have hsp : lo S (num nm) ++ hi S (num nm) = S := lo_hi S (num nm)
  have hw' : WF (lo S (num nm) ++ hi S (num nm)) := by rw [hsp]; exact hw
  have hs' : Srt (lo S (num nm) ++ hi S (num nm)) := by rw [hsp]; exact hs
  obtain ⟨p1, p2, p3⟩ := List.pairwise_append.1 hs'
  refine ⟨hw'.left.append ?_, ?_⟩
  · intro x hx
    rcases List.mem_cons.1 hx with rfl | hx
    · exact ⟨hn, be8_length t⟩
    · exact hw'.right x hx
  · unfold ins
    refine List.pairwise_append.2 ⟨p1, List.pairwise_cons.2 ⟨?_, p2⟩, ?_⟩
    · intro s hm
      have h1 := hi_above hs s hm
      rcases Nat.lt_or_eq_of_le h1 with h | h
      · exact h
      · exfalso
        have e : s.1 = nm := num_inj (by rw [(hw'.right s hm).1, hn]) h.symm
        have := (found_mem hs).2 ⟨s, by rw [← hsp]; exact List.mem_append_right _ hm, e⟩
        rw [hf] at this
        cases this
    · intro a ha b hb
      rcases List.mem_cons.1 hb with rfl | hb
      · exact lo_below a ha
      · exact p3 a ha b hb
theorem ins_split {S : List Sh} (hs : Srt S) (nm : List UInt8) (t : Nat) : lo (ins S nm t) (num nm) = lo S (num nm) ∧ hi (ins S nm t) (num nm) = (nm, be8 t) :: hi S (num nm) := by
  refine split_unique lo_below ?_
  intro s hm
  rcases List.mem_cons.1 hm with rfl | hm
  · exact Nat.le_refl _
  · exact hi_above hs s hm
theorem ins_found {S : List Sh} (hs : Srt S) (nm : List UInt8) (t : Nat) : foundAt (ins S nm t) nm = true := by
  unfold foundAt
  rw [(ins_split hs nm t).2]
  simp
theorem ins_tok {S : List Sh} (hs : Srt S) (nm : List UInt8) (t : Nat) (ht : t < 18446744073709551616) : tokAt (ins S nm t) nm = t := by
  unfold tokAt
  rw [(ins_split hs nm t).2]
  exact num_be8 t ht
theorem rem_ins {S : List Sh} (hs : Srt S) (nm : List UInt8) (t : Nat) : rem (ins S nm t) nm = S := by
  unfold rem
  rw [(ins_split hs nm t).1, (ins_split hs nm t).2, List.tail_cons, lo_hi]
theorem ins_length (S : List Sh) (nm : List UInt8) (t : Nat) : (ins S nm t).length = S.length + 1 := by
  have := congrArg List.length (lo_hi S (num nm))
  simp at this
  simp [ins]
  omega
theorem rem_good {S : List Sh} (hw : WF S) (hs : Srt S) (nm : List UInt8) : WF (rem S nm) ∧ Srt (rem S nm) := by
  have hsub : (rem S nm).Sublist S := by
    have := List.Sublist.append_left (List.tail_sublist (hi S (num nm))) (lo S (num nm))
    rwa [lo_hi] at this
  exact ⟨fun x hx => hw x (hsub.subset hx), hs.sublist hsub⟩

/-- Reading a share's name and its token out of the row. -/
theorem enc_name {S : List Sh} (h : WF S) (i : Nat) (hi : i < S.length) : ((enc S).drop (12 * i)).take 4 = (S[i]).1 ∧ ((enc S).drop (12 * i + 4)).take 8 = (S[i]).2 ∧ ((enc S).drop (12 * i)).take 12 = encS (S[i]) := by
  have hw := h (S[i]) (List.getElem_mem hi)
  have e : (enc S).drop (12 * i) = encS (S[i]) ++ enc (S.drop (i + 1)) := by
    rw [(enc_split h i (by omega)).2, List.drop_eq_getElem_cons hi, enc_cons]
  have e4 : (enc S).drop (12 * i + 4) = (S[i]).2 ++ enc (S.drop (i + 1)) := by
    rw [← List.drop_drop, e, encS, List.append_assoc]
    rw [← hw.1]
    exact List.drop_left
  refine ⟨?_, ?_, ?_⟩
  · rw [e, encS, List.append_assoc, ← hw.1]
    exact List.take_left
  · rw [e4, ← hw.2]
    exact List.take_left
  · rw [e, ← encS_length hw]
    exact List.take_left

end Go.Proofs.Qxb6600199a
