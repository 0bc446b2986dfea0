/-
  THE PLAIN LAW: FNV-1a of 64 bits: no Go in sight. Each step is one to one: xor with a byte, then times an odd number modulo 2^64.
-/
namespace Go.Proofs.Qxb6614628a

/-- One step of the hash. -/
def step (h c : Nat) : Nat := ((h ^^^ c) * 1099511628211) % 18446744073709551616

/-- The hash of a row of bytes, from the state h. -/
def fnv (h : Nat) (l : List Nat) : Nat := l.foldl step h

theorem step_lt (h c : Nat) : step h c < 18446744073709551616 := Nat.mod_lt _ (by decide)

theorem fnv_lt (l : List Nat) : ∀ h, h < 18446744073709551616 → fnv h l < 18446744073709551616 := by
  induction l with
  | nil => intro h hh; exact hh
  | cons c l ih => intro h _; exact ih (step h c) (step_lt h c)

theorem fnv_append (h : Nat) (a b : List Nat) : fnv h (a ++ b) = fnv (fnv h a) b := by simp [fnv, List.foldl_append]

theorem foldl_snoc (f : Nat → Nat → Nat) (h : Nat) (l : List Nat) (c : Nat) : (l ++ [c]).foldl f h = f (l.foldl f h) c := by simp
theorem fnv_snoc (h : Nat) (l : List Nat) (c : Nat) : fnv h (l ++ [c]) = step (fnv h l) c := foldl_snoc step h l c

theorem times_back (x : Nat) (hx : x < 18446744073709551616) : (x * 1099511628211 % 18446744073709551616) * 14886173955864302971 % 18446744073709551616 = x := by
  rw [Nat.mod_mul_mod, Nat.mul_assoc]
  have e : 1099511628211 * 14886173955864302971 = 18446744073709551616 * 887285111055 + 1 := by decide
  rw [e, Nat.mul_add, Nat.mul_one, ← Nat.mul_assoc, Nat.mul_comm x, Nat.mul_assoc, Nat.mul_add_mod]
  exact Nat.mod_eq_of_lt hx

theorem xor_lt {h c : Nat} (hh : h < 18446744073709551616) (hc : c < 256) : h ^^^ c < 18446744073709551616 :=
  Nat.xor_lt_two_pow (n := 64) hh (Nat.lt_of_lt_of_le hc (by decide))

theorem step_inj {h1 h2 c1 c2 : Nat} (a1 : h1 < 18446744073709551616) (a2 : h2 < 18446744073709551616) (b1 : c1 < 256) (b2 : c2 < 256) (e : step h1 c1 = step h2 c2) : h1 ^^^ c1 = h2 ^^^ c2 := by
  have e1 := times_back (h1 ^^^ c1) (xor_lt a1 b1)
  have e2 := times_back (h2 ^^^ c2) (xor_lt a2 b2)
  unfold step at e
  rw [e] at e1
  exact e1.symm.trans e2

theorem xor_cancel_right {a b c : Nat} (h : a ^^^ c = b ^^^ c) : a = b := by
  have h' := congrArg (· ^^^ c) h
  simpa [Nat.xor_assoc] using h'

theorem xor_cancel_left {a b c : Nat} (h : c ^^^ a = c ^^^ b) : a = b := by
  rw [Nat.xor_comm c a, Nat.xor_comm c b] at h
  exact xor_cancel_right h

theorem fnv_inj (l : List Nat) (hl : ∀ c ∈ l, c < 256) : ∀ h1 h2, h1 < 18446744073709551616 → h2 < 18446744073709551616 → fnv h1 l = fnv h2 l → h1 = h2 := by
  induction l with
  | nil => intro h1 h2 _ _ e; exact e
  | cons c l ih =>
    intro h1 h2 a1 a2 e
    have hc := hl c (List.mem_cons.2 (Or.inl rfl))
    have e' := ih (fun x hx => hl x (List.mem_cons.2 (Or.inr hx))) (step h1 c) (step h2 c) (step_lt _ _) (step_lt _ _) e
    exact xor_cancel_right (step_inj a1 a2 hc hc e')

/-- Two rows that part in one byte alone have one hash just if the bytes are one. -/
theorem one_byte (h : Nat) (hh : h < 18446744073709551616) (pre post : List Nat) (hpost : ∀ c ∈ post, c < 256) (c1 c2 : Nat) (b1 : c1 < 256) (b2 : c2 < 256) :
    fnv h (pre ++ c1 :: post) = fnv h (pre ++ c2 :: post) ↔ c1 = c2 := by
  constructor
  · intro e
    rw [fnv_append, fnv_append] at e
    have hp := fnv_lt pre h hh
    have e1 : fnv (step (fnv h pre) c1) post = fnv (step (fnv h pre) c2) post := e
    have e2 := fnv_inj post hpost _ _ (step_lt _ _) (step_lt _ _) e1
    exact xor_cancel_left (step_inj hp hp b1 b2 e2)
  · intro e
    rw [e]
end Go.Proofs.Qxb6614628a
