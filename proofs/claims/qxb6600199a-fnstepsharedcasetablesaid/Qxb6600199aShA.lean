/-
  Rows of shares as plain lists: a share is its name (four bytes) and its token (eight bytes). No program here.
-/
import Derived.WalkSpells
namespace Go.Proofs.Qxb6600199a

abbrev Sh := List UInt8 × List UInt8
def encS (s : Sh) : List UInt8 := s.1 ++ s.2
def enc (S : List Sh) : List UInt8 := S.flatMap encS
/-- A row of bytes as a number, most significant first. -/
def num (l : List UInt8) : Nat := l.foldl (fun a b => a * 256 + b.toNat) 0
def WF (S : List Sh) : Prop := ∀ s ∈ S, s.1.length = 4 ∧ s.2.length = 8
def Srt (S : List Sh) : Prop := S.Pairwise (fun a b => num a.1 < num b.1)

theorem enc_nil : enc [] = [] := rfl
theorem enc_append (A B : List Sh) : enc (A ++ B) = enc A ++ enc B := by simp [enc]
theorem enc_cons (s : Sh) (S : List Sh) : enc (s :: S) = encS s ++ enc S := by simp [enc]
theorem WF.tail {s : Sh} {S : List Sh} (h : WF (s :: S)) : WF S := fun x hx => h x (List.mem_cons_of_mem _ hx)
theorem WF.head {s : Sh} {S : List Sh} (h : WF (s :: S)) : s.1.length = 4 ∧ s.2.length = 8 := h s (List.mem_cons_self ..)
theorem WF.append {A B : List Sh} (ha : WF A) (hb : WF B) : WF (A ++ B) := fun x hx => (List.mem_append.1 hx).elim (ha x) (hb x)
theorem WF.left {A B : List Sh} (h : WF (A ++ B)) : WF A := fun x hx => h x (List.mem_append_left _ hx)
theorem WF.right {A B : List Sh} (h : WF (A ++ B)) : WF B := fun x hx => h x (List.mem_append_right _ hx)
theorem encS_length {s : Sh} (h : s.1.length = 4 ∧ s.2.length = 8) : (encS s).length = 12 := by simp [encS]; omega
theorem enc_length : ∀ {S : List Sh}, WF S → (enc S).length = 12 * S.length
  | [], _ => rfl
  | s :: S, h => by
    rw [enc_cons, List.length_append, encS_length h.head, enc_length h.tail, List.length_cons]
    omega

/-- The row split behind i shares. -/
theorem enc_split {S : List Sh} (h : WF S) (i : Nat) (hi : i ≤ S.length) : (enc S).take (12 * i) = enc (S.take i) ∧ (enc S).drop (12 * i) = enc (S.drop i) := by
  have e : enc S = enc (S.take i) ++ enc (S.drop i) := by rw [← enc_append, List.take_append_drop]
  have hl : (enc (S.take i)).length = 12 * i := by
    rw [enc_length (fun x hx => h x (List.mem_of_mem_take hx))]
    simp; omega
  rw [e, ← hl]
  exact ⟨List.take_left, List.drop_left⟩

theorem num_nil : num [] = 0 := rfl
theorem foldl_num (l : List UInt8) : ∀ a : Nat, l.foldl (fun a b => a * 256 + b.toNat) a = a * 256 ^ l.length + num l := by
  induction l with
  | nil => intro a; simp [num]
  | cons c r ih =>
    intro a
    have e0 : num (c :: r) = c.toNat * 256 ^ r.length + num r := by
      show List.foldl (fun a b => a * 256 + b.toNat) (0 * 256 + c.toNat) r = _
      rw [ih]
      simp
    rw [List.foldl_cons, ih, e0]
    simp only [List.length_cons, Nat.pow_succ]
    have e : a * (256 ^ r.length * 256) = a * 256 * 256 ^ r.length := by rw [Nat.mul_comm (256 ^ r.length) 256, Nat.mul_assoc]
    rw [e, Nat.add_mul]
    omega
theorem num_snoc (l : List UInt8) (c : UInt8) : num (l ++ [c]) = num l * 256 + c.toNat := by simp [num, List.foldl_append]
theorem num_append (a b : List UInt8) : num (a ++ b) = num a * 256 ^ b.length + num b := by
  unfold num
  rw [List.foldl_append, foldl_num]
  rfl
theorem num_lt (l : List UInt8) : num l < 256 ^ l.length := by
  induction l with
  | nil => simp [num]
  | cons c r ih =>
    have := num_append [c] r
    rw [List.singleton_append] at this
    rw [this]
    have e1 : num [c] = c.toNat := by simp [num]
    rw [e1, List.length_cons, Nat.pow_succ]
    have hc : c.toNat < 256 := c.toNat_lt
    have hm : c.toNat * 256 ^ r.length ≤ 255 * 256 ^ r.length := Nat.mul_le_mul_right _ (by omega)
    omega
theorem num_inj : ∀ {a b : List UInt8}, a.length = b.length → num a = num b → a = b := by
  intro a
  induction a with
  | nil => intro b hl _; exact (List.eq_nil_of_length_eq_zero hl.symm).symm
  | cons c r ih =>
    intro b hl hn
    match b, hl with
    | d :: q, hl =>
      have hlq : r.length = q.length := by simpa using hl
      have e1 := num_append [c] r
      have e2 := num_append [d] q
      rw [List.singleton_append] at e1 e2
      rw [e1, e2, hlq] at hn
      have h1 := num_lt r
      have h2 := num_lt q
      rw [hlq] at h1
      have f1 : num [c] = c.toNat := by simp [num]
      have f2 : num [d] = d.toNat := by simp [num]
      rw [f1, f2] at hn
      have hp : 0 < 256 ^ q.length := Nat.lt_of_le_of_lt (Nat.zero_le _) h2
      have hq : c.toNat = d.toNat := by
        have a1 : (c.toNat * 256 ^ q.length + num r) / 256 ^ q.length = c.toNat := by
          rw [Nat.mul_comm, Nat.mul_add_div hp, Nat.div_eq_of_lt h1]; omega
        have a2 : (d.toNat * 256 ^ q.length + num q) / 256 ^ q.length = d.toNat := by
          rw [Nat.mul_comm, Nat.mul_add_div hp, Nat.div_eq_of_lt h2]; omega
        rw [← a1, ← a2, hn]
      rw [hq] at hn
      have hr : num r = num q := by omega
      rw [ih hlq hr, UInt8.toNat_inj.1 hq]

/-- A number's eight bytes, most significant first. -/
def be8 (t : Nat) : List UInt8 := [UInt8.ofNat (t / 256 ^ 7), UInt8.ofNat (t / 256 ^ 6), UInt8.ofNat (t / 256 ^ 5), UInt8.ofNat (t / 256 ^ 4), UInt8.ofNat (t / 256 ^ 3), UInt8.ofNat (t / 256 ^ 2), UInt8.ofNat (t / 256), UInt8.ofNat t]
theorem be8_length (t : Nat) : (be8 t).length = 8 := rfl
theorem num_be8 (t : Nat) (h : t < 18446744073709551616) : num (be8 t) = t := by
  simp only [num, be8, List.foldl_cons, List.foldl_nil, UInt8.toNat_ofNat']
  omega

/-- Every row of bytes of the right length is a row of shares. -/
theorem chunks : ∀ (k : Nat) (l : List UInt8), l.length = 12 * k → ∃ S : List Sh, WF S ∧ S.length = k ∧ enc S = l
  | 0, l, h => ⟨[], by simp [WF], rfl, (List.eq_nil_of_length_eq_zero (by omega)).symm⟩
  | k + 1, l, h => by
    obtain ⟨S, hw, hk, he⟩ := chunks k (l.drop 12) (by simp; omega)
    refine ⟨((l.take 4), (l.drop 4).take 8) :: S, ?_, by simp [hk], ?_⟩
    · intro x hx
      rcases List.mem_cons.1 hx with rfl | hx
      · simp; omega
      · exact hw x hx
    · rw [enc_cons, he]
      simp only [encS]
      have : l.drop 12 = (l.drop 4).drop 8 := by rw [List.drop_drop]
      rw [this, List.append_assoc, List.take_append_drop, List.take_append_drop]

end Go.Proofs.Qxb6600199a
