/-
  THE WALK of FnAllDigitsInsertAnyPlace (function 3): 'make', three appends onto the call's own row, 'string(b)', the two tests; out of the leaves' contracts and the plain law.
-/
import Derived.Test.Qxb6619249aDigWalks
import Derived.Lib.AppendStr
import Derived.Laws.IdiomStrings
import Derived.Laws.MakeOwn
import Derived.Deep.RegionWith
namespace Go.Proofs.Qxb6619249a.Dig
open Go.RowKit

theorem info5 : (Try.prog.info? 5).map (fun i => (i.zero, i.size, i.bytes)) = some (some (.int .u8 0), 1, 1) := by kernel_rfl

theorem bytes_yes (s : ByteArray) (i c : Int) (hs : s.size ≤ 1048576) (w : World) :
    Calls Try.prog 6 #[.string s, .int .i64 i, .int .u8 c] w fun e w' => e = .returned (.bool true) ∧ w' = w := by
  go_enter Try.func6, Try.ntmps6
  go_wp2
  go_ret
  exact ⟨rfl, rfl⟩

theorem bytes_no (s : ByteArray) (i c : Int) (hm : s.size ≤ maxLen) (hs : 1048576 < s.size) (w : World) :
    Calls Try.prog 6 #[.string s, .int .i64 i, .int .u8 c] w fun e w' => e = .returned (.bool false) ∧ w' = w := by
  unfold maxLen at hm
  go_enter Try.func6, Try.ntmps6
  go_wp2
  go_ret
  exact ⟨rfl, rfl⟩

theorem conv_own {w : World} {base n : Nat} {v : Value} {xs : List Value} (l : List UInt8) (h : w.ownsRow base 5 1 v n xs) (hxs : xs = l.map fun b => Value.int .u8 b.toNat) (hl : 0 < l.length) :
    (convert 23 9 v).run Try.prog w = .ok (.string ⟨l.toArray⟩) w := by
  obtain ⟨h1, h2⟩ := h
  have hn : n = l.length := by
    rw [hxs] at h1
    simpa using h1.symm
  rcases h2 with ⟨_, h0⟩ | ⟨g, cap, cur, rfl, hb, hg, hc, hm, hs, ht⟩
  · omega
  · subst hn
    refine run_convert_bytes_back w 23 9 5 ⟨g, 0, none⟩ cap l Try.underlying23 Try.underlying5 Try.underlying9 (fun j hj => ?_)
    have hw : w.ownsRow base 5 1 (.slice (some ⟨g, 0, none⟩) l.length cap) l.length xs := ⟨h1, .inr ⟨g, cap, cur, rfl, hb, hg, hc, hm, hs, ht⟩⟩
    refine hw.cells (g := g) rfl j _ ?_
    rw [hxs]
    simp [hj]

/-- s with c at place i -/
def put (s : ByteArray) (i : Nat) (c : UInt8) : List UInt8 := s.data.toList.take i ++ [c] ++ s.data.toList.drop i

theorem put_pos (s : ByteArray) (i : Nat) (c : UInt8) : 0 < (put s i c).length := by
  unfold put
  simp only [List.length_append, List.length_cons]
  omega

theorem put_length (s : ByteArray) (i : Nat) (c : UInt8) (hi : i ≤ s.size) : (put s i c).length = s.size + 1 := by
  have h : s.data.toList.length = s.size := rfl
  unfold put
  simp only [List.length_append, List.length_cons, List.length_nil, List.length_take, List.length_drop, h]
  omega

theorem put_cells (s : ByteArray) (i : Nat) (c : UInt8) :
    Lib.strCells (s.extract 0 i) ++ Value.int IntKind.u8 c.toNat :: Lib.strCells (s.extract i s.size) = (put s i c).map fun b => Value.int .u8 b.toNat := by
  have e1 : (s.extract 0 i).data.toList = s.data.toList.take i := by simp
  have e2 : (s.extract i s.size).data.toList = s.data.toList.drop i := by
    have h : s.data.toList.length = s.size := rfl
    simp
    rw [List.take_of_length_le (by simp only [List.length_drop, h]; omega)]
  unfold put Lib.strCells
  rw [e1, e2]
  simp

theorem put_law (s : ByteArray) (i : Nat) (c : UInt8) : allDig (put s i c) = ((s.data.toList.isEmpty || allDig s.data.toList) && isDig c) := by
  unfold put
  rw [allDig_put, List.take_append_drop]

theorem isDigit_u8 (c : UInt8) (w : World) :
    Calls Try.prog 8 #[.int .u8 c.toNat] w fun e w' => e = .returned (.bool (isDig c)) ∧ w' = w := by
  have h := isDigit_any c.toNat (by omega) (by have := c.toNat_lt; omega) w
  simpa using h

set_option maxHeartbeats 400000 in
theorem core (s : ByteArray) (i : Nat) (c : UInt8) (hs : s.size ≤ 1048575) (hi : i ≤ s.size) (w : World) :
    Calls Try.prog 3 #[.string s, .int .i64 i, .int .u8 c.toNat] w fun e w' => e = .returned (.bool true) ∧ Below w.heap.size w w' := by
  obtain ⟨i0, hi0, hz0, hz1, hz2⟩ := info_parts info5
  go_enter Try.func3, Try.ntmps3
  go_wp2_with fail
  refine (bytes_yes s _ _ (by omega) _).mono ?_
  rintro e w1 ⟨rfl, hw1⟩; subst w1
  go_wp2_with (at_make; (refine wpList_make_own _ rfl _ _ 23 rfl w.heap.size 5 i0 (.int .u8 0) 1 Try.underlying23 hi0 hz0 hz1 _ _ _ (s.size + 1) rfl rfl (by omega) ?b2 ?b3 (Nat.le_refl _) ?_))
  case b2 => rw [hz2]; omega
  case b3 => unfold maxLen; omega
  intro w0 hown0 hgrow0
  have hx : (s.extract 0 i).size ≤ 1048575 := by simp only [ByteArray.size_extract]; omega
  have hy : (s.extract i s.size).size ≤ 1048575 := by simp only [ByteArray.size_extract]; omega
  have hb0 : Below w.heap.size w w0 := (Below.refl _ _).grown hgrow0 (Nat.le_refl _) (fun k h => by cases h)
  have hB0 := hb0.size
  go_wp2_with (at_builtin; (refine Lib.wpList_append_own_string _ rfl (.tmp 30) (.tmp 33) 23 9 rfl w.heap.size 5 i0 Try.underlying23 Try.underlying9 hi0 hz0 hz1 hz2 _ 0 [] rfl hown0 (s.extract 0 i) rfl ?c1 ?c2 ?c3 ?_))
  case c1 => unfold maxLen; omega
  case c2 => omega
  case c3 => exact hB0
  intro v1 w1 hown1 hgrow1 _
  have hb1 : Below w.heap.size w w1 := hb0.grown hgrow1 hB0 (fun k h => by cases h; exact Nat.le_refl _)
  have hB1 := hb1.size
  clear hown0 hgrow0 hgrow1
  go_wp2_with (at_builtin; (refine wpList_append_own _ rfl (.tmp 35) (.tmp 37) 23 rfl w.heap.size 5 i0 (.int .u8 0) 1 1 Try.underlying23 hi0 hz0 hz1 hz2 rfl (by decide) _ _ _ rfl (hown1.alloc _) ⟨w1.heap.size, 0, none⟩ 1 1 [.int .u8 c.toNat] rfl rfl ?d1 ?d2 ?d3 ?d4 ?d5 ?_))
  case d1 =>
    intro j u hj
    match j, hj with
    | 0, hj => simp at hj; subst hj; simp [Addr.add]
  case d2 => intro u hu; simp at hu; subst hu; rfl
  case d3 => unfold maxLen; omega
  case d4 => omega
  case d5 => simp; omega
  intro v2 w2 hown2 hgrow2 _
  have hb2 : Below w.heap.size w w2 := (hb1.alloc hB1 _).grown hgrow2 (by simp; omega) (fun k h => (hown1.lt k h).1)
  have hB2 := hb2.size
  clear hown1 hgrow2
  go_wp2_with (at_builtin; (refine Lib.wpList_append_own_string _ rfl (.tmp 39) (.tmp 42) 23 9 rfl w.heap.size 5 i0 Try.underlying23 Try.underlying9 hi0 hz0 hz1 hz2 _ _ _ rfl hown2 (s.extract i s.size) rfl ?e1 ?e2 ?e3 ?_))
  case e1 => unfold maxLen; omega
  case e2 => omega
  case e3 => exact hB2
  intro v3 w3 hown3 hgrow3 _
  have hb3 : Below w.heap.size w w3 := hb2.grown hgrow3 hB2 (fun k h => (hown2.lt k h).1)
  clear hown2 hgrow3 hb2 hB2 hb1 hB1 hb0 hB0
  have hcv := conv_own (put s i c) hown3 (put_cells s i c) (put_pos s i c)
  have hul : (ByteArray.mk (put s i c).toArray).size ≤ maxLen := by
    have : (ByteArray.mk (put s i c).toArray).size = (put s i c).length := by simp [ByteArray.size]
    rw [this, put_length s i c hi]
    unfold maxLen
    omega
  have hsl : s.size ≤ maxLen := by unfold maxLen; omega
  have c1 := fun w => zzAllDigits_any s hsl w
  have c2 := fun w => zzAllDigits_any (ByteArray.mk (put s i c).toArray) hul w
  have c3 := fun w => isDigit_u8 c w
  have hlaw : allDig (put s i c) = ((s.toList.isEmpty || allDig s.data.toList) && isDig c) := by rw [ByteArray.toList_eq]; exact put_law s i c
  have hdt : (ByteArray.mk (put s i c).toArray).data.toList = put s i c := rfl
  rw [hdt] at c2
  generalize ByteArray.mk (put s i c).toArray = u at hcv c2
  generalize allDig s.data.toList = p at c1 hlaw
  generalize allDig (put s i c) = r at c2 hlaw
  generalize isDig c = q at c3 hlaw
  have C1 : Hid _ := c1
  have C2 : Hid _ := c2
  have C3 : Hid _ := c3
  have HL : Hid _ := hlaw
  clear c1 c2 c3 hlaw hown3 hul hsl hx hy
  cases hE : s.toList.isEmpty
  all_goals cases p
  all_goals cases q
  all_goals cases r
  -- the plain law shuts out half of the sixteen ways
  all_goals first
    | (exfalso
       have h := HL.out
       rw [hE] at h
       exact absurd h (by decide))
    | clear HL
  all_goals go_wp2_with (first
    | (go_at_call_of 7 (Value.string s); refine (C1.out _).mono ?_; rintro e w4 ⟨rfl, hw4⟩; subst w4)
    | (go_at_call_of 7 (Value.string u); refine (C2.out _).mono ?_; rintro e w4 ⟨rfl, hw4⟩; subst w4)
    | (go_at_call 8; refine (C3.out _).mono ?_; rintro e w4 ⟨rfl, hw4⟩; subst w4))
  all_goals
    go_ret
    exact ⟨rfl, hb3⟩

/-- the string is too long for the law's own bound -/
theorem long (s : ByteArray) (i c : Int) (hm : s.size ≤ maxLen) (hs : 1048576 < s.size) (w : World) :
    Calls Try.prog 3 #[.string s, .int .i64 i, .int .u8 c] w fun e w' => e = .returned (.bool true) ∧ Below w.heap.size w w' := by
  go_enter Try.func3, Try.ntmps3
  go_wp2_with (go_at_call 6; refine (bytes_no s _ _ hm hs _).mono ?_; rintro e w1 ⟨rfl, hw1⟩; subst w1)
  go_ret
  exact ⟨rfl, Below.refl _ _⟩

/-- one byte over the law's second bound -/
theorem full (s : ByteArray) (i c : Int) (h1 : s.size ≤ 1048576) (h2 : 1048575 < s.size) (w : World) :
    Calls Try.prog 3 #[.string s, .int .i64 i, .int .u8 c] w fun e w' => e = .returned (.bool true) ∧ Below w.heap.size w w' := by
  go_enter Try.func3, Try.ntmps3
  go_wp2_with (go_at_call 6; refine (bytes_yes s _ _ h1 _).mono ?_; rintro e w1 ⟨rfl, hw1⟩; subst w1)
  go_ret
  exact ⟨rfl, Below.refl _ _⟩

/-- no such place: before the string -/
theorem before (s : ByteArray) (i c : Int) (hs : s.size ≤ 1048575) (hi : i < 0) (w : World) :
    Calls Try.prog 3 #[.string s, .int .i64 i, .int .u8 c] w fun e w' => e = .returned (.bool true) ∧ Below w.heap.size w w' := by
  go_enter Try.func3, Try.ntmps3
  go_wp2_with (go_at_call 6; refine (bytes_yes s _ _ (by omega) _).mono ?_; rintro e w1 ⟨rfl, hw1⟩; subst w1)
  go_ret
  exact ⟨rfl, Below.refl _ _⟩

/-- no such place: behind the string -/
theorem behind (s : ByteArray) (i c : Int) (hs : s.size ≤ 1048575) (hi : (s.size : Int) < i) (w : World) :
    Calls Try.prog 3 #[.string s, .int .i64 i, .int .u8 c] w fun e w' => e = .returned (.bool true) ∧ Below w.heap.size w w' := by
  have h0 : ¬ i < 0 := by omega
  go_enter Try.func3, Try.ntmps3
  go_wp2_with (go_at_call 6; refine (bytes_yes s _ _ (by omega) _).mono ?_; rintro e w1 ⟨rfl, hw1⟩; subst w1)
  go_ret
  exact ⟨rfl, Below.refl _ _⟩

theorem law (s : ByteArray) (i c : Int) (hm : s.size ≤ maxLen) (c0 : 0 ≤ c) (c1 : c ≤ 255) (w : World) :
    Calls Try.prog 3 #[.string s, .int .i64 i, .int .u8 c] w fun e w' => e = .returned (.bool true) ∧ Below w.heap.size w w' := by
  by_cases h1 : 1048576 < s.size
  · exact long s i c hm h1 w
  · by_cases h2 : 1048575 < s.size
    · exact full s i c (by omega) h2 w
    · by_cases h3 : i < 0
      · exact before s i c (by omega) h3 w
      · by_cases h4 : (s.size : Int) < i
        · exact behind s i c (by omega) h4 w
        · have h := core s i.toNat (UInt8.ofNat c.toNat) (by omega) (by omega) w
          have e1 : ((i.toNat : Nat) : Int) = i := by omega
          have e2 : ((UInt8.ofNat c.toNat).toNat : Int) = c := by
            rw [UInt8.toNat_ofNat']
            omega
          rw [e1, e2] at h
          exact h

end Go.Proofs.Qxb6619249a.Dig
