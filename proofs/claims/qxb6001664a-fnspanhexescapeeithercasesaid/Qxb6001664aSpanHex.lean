/- Plain law for 'FnSpanHexEscapeEitherCase'. No Go in sight. -/
import Derived.Test.Qxb6001664aSpanPlain
namespace Go.Proofs.Qxb6001664a.SpanHex
open Go.Proofs.Qxb6001664a.SpanPlain
set_option linter.unusedVariables false

/-- A digit of the escape and the byte that writes it in the text. -/
def Pair (c x : UInt8) : Prop := c ≠ 92 ∧ (x = c ∨ lowH x = c)

/-- The digits of the escape and the bytes that write them, one for one. -/
def Pairs : List UInt8 → List UInt8 → Prop
  | [], [] => True
  | c :: cs, x :: xs => Pair c x ∧ Pairs cs xs
  | _, _ => False

theorem pairs_len : ∀ {cs xs : List UInt8}, Pairs cs xs → cs.length = xs.length
  | [], [], _ => rfl
  | c :: cs, x :: xs, h => by simp [pairs_len h.2]
  | [], x :: xs, h => h.elim
  | c :: cs, [], h => h.elim

theorem pairs_snoc : ∀ {cs xs : List UInt8} {c x : UInt8}, Pairs cs xs → Pair c x → Pairs (cs ++ [c]) (xs ++ [x])
  | [], [], _, _, _, hp => ⟨hp, True.intro⟩
  | c :: cs, x :: xs, _, _, h, hp => ⟨h.1, pairs_snoc h.2 hp⟩
  | [], x :: xs, _, _, h, _ => h.elim
  | c :: cs, [], _, _, h, _ => h.elim

theorem span_pairs (suf : List UInt8) : ∀ (cs xs : List UInt8) (j : Nat), Pairs cs xs → spanFrom true cs (xs ++ suf) j = (((j + cs.length : Nat) : Int), ((j + cs.length : Nat) : Int), false)
  | [], [], j, _ => by cases suf <;> simp [spanFrom]
  | c :: cs, x :: xs, j, h => by
    rw [List.cons_append, spanFrom, if_neg (fun e => h.1.1 e.1), if_pos]
    · rw [span_pairs suf cs xs (j + 1) h.2]
      rw [show j + 1 + cs.length = j + (c :: cs).length from by simp; omega]
    · rcases h.1.2 with e | e
      · exact Or.inl e
      · exact Or.inr ⟨rfl, e⟩
  | [], x :: xs, j, h => h.elim
  | c :: cs, [], j, h => h.elim

theorem bs_one {l : UInt8} (hl : l ≠ 92) (r : List UInt8) : bsN (92 :: l :: r) = 1 := by
  rw [bsN, if_pos rfl, bsN, if_neg hl]

/-- The text that writes the escape, in whichever case, takes just its length. -/
theorem hex_yes (l : UInt8) (hl : l ≠ 92) (cs xs suf : List UInt8) (h : Pairs cs xs) :
    spanAll true (92 :: l :: cs) (92 :: l :: (xs ++ suf)) = (((2 + cs.length : Nat) : Int), ((2 + cs.length : Nat) : Int), false) := by
  unfold spanAll
  split
  · simp; omega
  · rw [spanFrom, if_pos ⟨rfl, rfl⟩, bs_one hl]
    have h2 := span_pairs suf (l :: cs) (l :: xs) 1 ⟨⟨hl, Or.inl rfl⟩, h⟩
    rw [List.cons_append] at h2
    simp only [List.isEmpty_cons, List.drop_succ_cons, List.drop_zero, Nat.zero_add]
    rw [h2]
    simp; omega

/-- A text that writes its letter otherwise does not begin with it. -/
theorem hex_no (l o : UInt8) (ho : o ≠ 92) (hne : o ≠ l) (hlo : lowH o ≠ l) (cs r : List UInt8) :
    spanAll true (92 :: l :: cs) (92 :: o :: r) = (-1, -1, false) := by
  unfold spanAll
  rw [if_neg]
  · rw [spanFrom, if_pos ⟨rfl, rfl⟩, bs_one ho]
    simp only [List.isEmpty_cons, List.drop_succ_cons, List.drop_zero, Nat.zero_add]
    show spanFrom true (l :: cs) (o :: r) 1 = _
    rw [spanFrom, if_neg (fun e => by
      have := e.2
      exact hne this), if_neg]
    rintro (e | ⟨_, e⟩)
    · exact hne e
    · exact hlo e
  · rintro ⟨_, _, e⟩
    simp at e
    exact hne e.1

/-- The digit d, in lower case, and what the law writes for it. -/
def lowD (d : Nat) : UInt8 := if 10 ≤ d then UInt8.ofNat (87 + d) else UInt8.ofNat (48 + d)

theorem pair_same (d : Nat) (hd : d < 16) : Pair (lowD d) (lowD d) := by
  refine ⟨?_, Or.inl rfl⟩
  have : ∀ d : Fin 16, lowD d.val ≠ 92 := by decide
  exact this ⟨d, hd⟩

theorem pair_upper (d : Nat) (hd : d < 16) (h10 : 10 ≤ d) : Pair (lowD d) (UInt8.ofNat (55 + d)) := by
  have h1 : ∀ d : Fin 16, lowD d.val ≠ 92 := by decide
  have h2 : ∀ d : Fin 16, 10 ≤ d.val → lowH (UInt8.ofNat (55 + d.val)) = lowD d.val := by decide
  exact ⟨h1 ⟨d, hd⟩, Or.inr (h2 ⟨d, hd⟩ h10)⟩

theorem lowD_lo (d : Nat) (h : d < 10) : ((lowD d).toNat : Int) = 48 + d := by
  unfold lowD
  rw [if_neg (by omega)]
  simp; omega
theorem lowD_hi (d : Nat) (h : 10 ≤ d) (hd : d < 16) : ((lowD d).toNat : Int) = 87 + d := by
  unfold lowD
  rw [if_pos h]
  simp; omega

end Go.Proofs.Qxb6001664a.SpanHex
