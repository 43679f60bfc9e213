/- Plain functions on bytes for the two laws on 'span'. No Go in sight. -/
namespace Go.Proofs.Qxb6001664a.SpanPlain

/-- How many backslashes a text begins with. -/
def bsN : List UInt8 → Nat
  | [] => 0
  | x :: xs => if x = 92 then bsN xs + 1 else 0

theorem bsN_le : ∀ l, bsN l ≤ l.length
  | [] => by simp [bsN]
  | x :: xs => by
    have := bsN_le xs
    unfold bsN
    split <;> simp <;> omega

theorem bsN_at : ∀ (l : List UInt8) (k : Nat), k < bsN l → l[k]? = some 92
  | [], k, h => by simp [bsN] at h
  | x :: xs, k, h => by
    unfold bsN at h
    split at h
    · rename_i e
      cases k with
      | zero => simp [e]
      | succ k => simpa using bsN_at xs k (by omega)
    · omega

theorem bsN_end : ∀ (l : List UInt8), l[bsN l]? ≠ some 92
  | [] => by simp [bsN]
  | x :: xs => by
    unfold bsN
    split
    · simpa using bsN_end xs
    · rename_i e; simpa using e

/-- A hex digit from A to F in lower case; else the byte itself. -/
def lowH (x : UInt8) : UInt8 := if 65 ≤ x.toNat ∧ x.toNat ≤ 70 then x + 32 else x

/-- The loop of span: what is left of the spelling, what is left of the text, where that begins. -/
def spanFrom (hex : Bool) : List UInt8 → List UInt8 → Nat → Int × Int × Bool
  | [], _, j => (j, j, false)
  | _ :: _, [], _ => (-1, -1, true)
  | c :: cs, x :: xs, j =>
    if c = 92 ∧ x = c then
      if cs.isEmpty then ((j : Int) + 1, (j : Int) + bsN (x :: xs), ((x :: xs).drop (bsN (x :: xs))).isEmpty)
      else spanFrom hex cs ((x :: xs).drop (bsN (x :: xs))) (j + bsN (x :: xs))
    else if x = c ∨ (hex = true ∧ lowH x = c) then spanFrom hex cs xs (j + 1)
    else (-1, -1, false)

/-- span: a hex spelling that the text holds byte for byte takes just itself. -/
def spanAll (hex : Bool) (s t : List UInt8) : Int × Int × Bool :=
  if hex = true ∧ s.length ≤ t.length ∧ t.take s.length = s then ((s.length : Int), (s.length : Int), false)
  else spanFrom hex s t 0

theorem drop_cons {l : List UInt8} {i : Nat} (h : i < l.length) : l.drop i = l[i] :: l.drop (i + 1) := by
  rw [List.drop_eq_getElem_cons h]

section
variable (hex : Bool) (s t : List UInt8) (i j : Nat)

theorem at_done (h : s.length ≤ i) : spanFrom hex (s.drop i) (t.drop j) j = ((j : Int), (j : Int), false) := by
  rw [List.drop_eq_nil_of_le h]
  cases t.drop j <;> rfl

theorem at_stop (h : i < s.length) (hj : t.length ≤ j) : spanFrom hex (s.drop i) (t.drop j) j = (-1, -1, true) := by
  rw [List.drop_eq_nil_of_le hj, drop_cons h]
  rfl

theorem at_run_last (h : i < s.length) (hj : j < t.length) (hc : s[i] = 92) (hx : t[j] = s[i]) (hl : i + 1 = s.length) :
    spanFrom hex (s.drop i) (t.drop j) j = ((j : Int) + 1, (j : Int) + bsN (t.drop j), decide (j + bsN (t.drop j) = t.length)) := by
  have e : t.drop j = t[j] :: t.drop (j + 1) := drop_cons hj
  rw [drop_cons h]
  rw [show s.drop (i + 1) = [] from List.drop_eq_nil_of_le (by omega)]
  have hb := bsN_le (t.drop j)
  rw [List.length_drop] at hb
  have e2 : ((t.drop j).drop (bsN (t.drop j))).isEmpty = decide (j + bsN (t.drop j) = t.length) := by
    rw [List.drop_drop, Bool.eq_iff_iff]
    simp
    omega
  rw [← e2]
  rw [e]
  unfold spanFrom
  rw [if_pos ⟨hc, hx⟩]
  simp

theorem at_run (h : i < s.length) (hj : j < t.length) (hc : s[i] = 92) (hx : t[j] = s[i]) (hl : ¬ i + 1 = s.length) :
    spanFrom hex (s.drop i) (t.drop j) j = spanFrom hex (s.drop (i + 1)) (t.drop (j + bsN (t.drop j))) (j + bsN (t.drop j)) := by
  have e : t.drop j = t[j] :: t.drop (j + 1) := drop_cons hj
  rw [← List.drop_drop]
  generalize hT : t.drop j = T at *
  subst e
  rw [drop_cons h]
  have hne : (s.drop (i + 1)).isEmpty = false := by
    rw [List.isEmpty_eq_false_iff]
    intro h0
    have := congrArg List.length h0
    simp at this
    omega
  rw [spanFrom, if_pos ⟨hc, hx⟩, hne]
  simp

theorem at_one (h : i < s.length) (hj : j < t.length) (hn : ¬ (s[i] = 92 ∧ t[j] = s[i])) (hx : t[j] = s[i] ∨ (hex = true ∧ lowH t[j] = s[i])) :
    spanFrom hex (s.drop i) (t.drop j) j = spanFrom hex (s.drop (i + 1)) (t.drop (j + 1)) (j + 1) := by
  rw [drop_cons h, drop_cons hj, spanFrom, if_neg hn, if_pos hx]

theorem at_no (h : i < s.length) (hj : j < t.length) (hn : ¬ (s[i] = 92 ∧ t[j] = s[i])) (hx : ¬ (t[j] = s[i] ∨ (hex = true ∧ lowH t[j] = s[i]))) :
    spanFrom hex (s.drop i) (t.drop j) j = (-1, -1, false) := by
  rw [drop_cons h, drop_cons hj, spanFrom, if_neg hn, if_neg hx]
end

end Go.Proofs.Qxb6001664a.SpanPlain
