/- The plain part: no Go in sight. Bytes of a text, line continuations, and where a run of them ends. -/
namespace Go.Proofs.Ybulkcygw.plain

/-- The byte of a text at a place, as an integer (0 beyond the end). -/
def byt (s : ByteArray) (q : Nat) : Int := if h : q < s.size then ((s[q]'h).toNat : Int) else 0

theorem byt_eq {s : ByteArray} {q : Nat} (h : q < s.size) : byt s q = ((s[q]'h).toNat : Int) := by
  unfold byt; rw [dif_pos h]

/-- At q stands a line continuation: a backslash, a newline. -/
def cont (s : ByteArray) (q : Nat) : Prop := q + 1 < s.size ∧ byt s q = 92 ∧ byt s (q + 1) = 10

/-- From p to q there are line continuations alone. -/
def Run (s : ByteArray) (p q : Nat) : Prop := ∃ n : Nat, q = p + 2 * n ∧ ∀ i, i < n → cont s (p + 2 * i)

theorem Run.refl (s : ByteArray) (p : Nat) : Run s p p := ⟨0, by omega, fun i hi => by omega⟩

theorem Run.step {s : ByteArray} {p q : Nat} (h : Run s p q) (c : cont s q) : Run s p (q + 2) := by
  obtain ⟨n, rfl, hn⟩ := h
  refine ⟨n + 1, by omega, fun i hi => ?_⟩
  by_cases e : i = n
  · subst e; exact c
  · exact hn i (by omega)

/-- Where a run of continuations ends is one place. -/
theorem Run.one {s : ByteArray} {p q r : Nat} (h : Run s p q) (hq : ¬ cont s q) (k : Run s p r) (hr : ¬ cont s r) : q = r := by
  obtain ⟨n, rfl, hn⟩ := h
  obtain ⟨m, rfl, hm⟩ := k
  rcases Nat.lt_trichotomy n m with e | e | e
  · exact absurd (hm n e) hq
  · rw [e]
  · exact absurd (hn m e) hr
end Go.Proofs.Ybulkcygw.plain
