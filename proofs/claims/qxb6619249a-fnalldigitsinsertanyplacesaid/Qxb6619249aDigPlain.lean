/-
  THE PLAIN LAW OF ALL DIGITS over lists of bytes: no Go in sight.
-/
namespace Go.Proofs.Qxb6619249a.Dig

def isDig (c : UInt8) : Bool := decide (48 ≤ c.toNat) && decide (c.toNat ≤ 57)

def allDig (l : List UInt8) : Bool := l.all isDig && !l.isEmpty

/-- put c at any place of x ++ y: all digits exactly when c is one and x ++ y is empty or all digits -/
theorem allDig_put (x y : List UInt8) (c : UInt8) : allDig (x ++ [c] ++ y) = (((x ++ y).isEmpty || allDig (x ++ y)) && isDig c) := by
  unfold allDig
  simp only [List.all_append, List.all_cons, List.all_nil]
  cases hx : x <;> cases hy : y <;> cases isDig c <;> simp

theorem all_snoc (l : List UInt8) (c : UInt8) : (l ++ [c]).all isDig = (l.all isDig && isDig c) := by simp

theorem take_snoc (s : ByteArray) (k : Nat) (h : k < s.size) : s.data.toList.take (k + 1) = s.data.toList.take k ++ [s[k]] := by
  rw [List.take_succ_eq_append_getElem (by simpa using h)]; rfl

/-- a bad byte anywhere: not all digits -/
theorem allDig_bad (s : ByteArray) (k : Nat) (h : k < s.size) (hb : isDig s[k] = false) : allDig s.data.toList = false := by
  unfold allDig
  have hm : s[k] ∈ s.data.toList := by
    have : s[k] = s.data.toList[k]'(by simpa using h) := rfl
    rw [this]
    exact List.getElem_mem _
  have : s.data.toList.all isDig = false := by
    rw [Bool.eq_false_iff]
    intro hc
    rw [List.all_eq_true] at hc
    rw [hc _ hm] at hb
    exact absurd hb (by decide)
  rw [this]
  rfl

theorem allDig_good (s : ByteArray) (k : Nat) (hk : s.size ≤ k) (h : (s.data.toList.take k).all isDig = true) : allDig s.data.toList = !s.data.toList.isEmpty := by
  unfold allDig
  rw [List.take_of_length_le (by simpa using hk)] at h
  rw [h]
  rfl

end Go.Proofs.Qxb6619249a.Dig
