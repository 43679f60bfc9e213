/- Plain law for 'FnSpanTakesWholeBackslashRuns': the text that writes each backslash of a spelling as a run. No Go in sight. -/
import Derived.Test.Qxb6001664aSpanPlain
namespace Go.Proofs.Qxb6001664a.SpanRuns
open Go.Proofs.Qxb6001664a.SpanPlain

/-- One byte of the spelling: the text so far, how many runs it has, where the last one begins. -/
def step (r : Nat → Nat) (st : List UInt8 × Nat × Int) (c : UInt8) : List UInt8 × Nat × Int :=
  if c = 92 then (st.1 ++ List.replicate (r st.2.1) 92, st.2.1 + 1, (st.1.length : Int)) else (st.1 ++ [c], st.2.1, st.2.2)

def build (r : Nat → Nat) (l : List UInt8) : List UInt8 × Nat × Int := l.foldl (step r) ([], 0, -1)

theorem build_zero (r : Nat → Nat) (l : List UInt8) : build r (l.take 0) = ([], 0, -1) := by simp [build]

theorem build_succ (r : Nat → Nat) (l : List UInt8) (i : Nat) (h : i < l.length) : build r (l.take (i + 1)) = step r (build r (l.take i)) l[i] := by
  unfold build
  rw [List.take_succ_eq_append_getElem h, List.foldl_append]
  rfl

theorem build_run (r : Nat → Nat) (l : List UInt8) (i : Nat) (h : i < l.length) (hc : l[i] = 92) :
    build r (l.take (i + 1)) = ((build r (l.take i)).1 ++ List.replicate (r (build r (l.take i)).2.1) 92, (build r (l.take i)).2.1 + 1, ((build r (l.take i)).1.length : Int)) := by
  rw [build_succ r l i h, step, if_pos hc]

theorem build_one (r : Nat → Nat) (l : List UInt8) (i : Nat) (h : i < l.length) (hc : ¬ l[i] = 92) :
    build r (l.take (i + 1)) = ((build r (l.take i)).1 ++ [l[i]], (build r (l.take i)).2.1, (build r (l.take i)).2.2) := by
  rw [build_succ r l i h, step, if_neg hc]

theorem build_bd (r : Nat → Nat) (hr : ∀ k, r k ≤ 8) (l : List UInt8) : ∀ i, i ≤ l.length →
    (build r (l.take i)).1.length ≤ 8 * i ∧ (build r (l.take i)).2.1 ≤ i ∧ -1 ≤ (build r (l.take i)).2.2 ∧ (build r (l.take i)).2.2 ≤ 8 * i := by
  intro i
  induction i with
  | zero => intro _; rw [build_zero]; simp
  | succ i ih =>
    intro h
    have h0 := ih (by omega)
    by_cases hc : l[i] = 92
    · have := hr (build r (l.take i)).2.1
      rw [build_run r l i (by omega) hc]
      simp only [List.length_append, List.length_replicate]
      omega
    · rw [build_one r l i (by omega) hc]
      simp only [List.length_append, List.length_cons, List.length_nil]
      omega

theorem bsN_rep (n : Nat) (Y : List UInt8) : bsN (List.replicate n 92 ++ Y) = n + bsN Y := by
  induction n with
  | zero => simp
  | succ n ih =>
    rw [List.replicate_succ, List.cons_append, bsN, if_pos rfl, ih]
    omega

theorem bsN_none {Y : List UInt8} (h : Y.head? ≠ some 92) : bsN Y = 0 := by
  cases Y with
  | nil => rfl
  | cons y ys => rw [bsN, if_neg (by simpa using h)]

/-- No two backslashes stand together. -/
def noAdj : List UInt8 → Prop
  | [] => True
  | [_] => True
  | a :: b :: l => ¬ (a = 92 ∧ b = 92) ∧ noAdj (b :: l)

theorem noAdj_tail {c : UInt8} {cs : List UInt8} (h : noAdj (c :: cs)) : noAdj cs := by
  cases cs with
  | nil => exact True.intro
  | cons b l => exact h.2

theorem noAdj_of : ∀ l : List UInt8, (∀ i (h : i + 1 < l.length), ¬ (l[i] = 92 ∧ l[i + 1] = 92)) → noAdj l
  | [], _ => True.intro
  | [_], _ => True.intro
  | a :: b :: l, h => by
    refine ⟨?_, noAdj_of (b :: l) fun i hi => ?_⟩
    · have := h 0 (by simp)
      simpa using this
    · have := h (i + 1) (by simp at hi ⊢; omega)
      simpa using this

def endsB (l : List UInt8) : Bool := l.getLast? == some 92

theorem law (r : Nat → Nat) (hr : ∀ k, 1 ≤ r k) (suf : List UInt8) : ∀ (cs T0 : List UInt8) (k : Nat) (last : Int), noAdj cs → (endsB cs = true → suf.head? ≠ some 92) →
    ∃ X, (cs.foldl (step r) (T0, k, last)).1 = T0 ++ X ∧ (∀ c cs', cs = c :: cs' → ∃ X', X = c :: X') ∧
      spanFrom false cs (X ++ suf) T0.length = if endsB cs = true then ((cs.foldl (step r) (T0, k, last)).2.2 + 1, ((cs.foldl (step r) (T0, k, last)).1.length : Int), suf.isEmpty) else (((cs.foldl (step r) (T0, k, last)).1.length : Int), ((cs.foldl (step r) (T0, k, last)).1.length : Int), false) := by
  intro cs
  induction cs with
  | nil =>
    intro T0 k last _ _
    refine ⟨[], by simp, fun c cs' h => (by cases h), ?_⟩
    rw [if_neg (by simp [endsB])]
    cases suf <;> simp [spanFrom]
  | cons c cs ih =>
    intro T0 k last hadj hsuf
    have hadj' := noAdj_tail hadj
    by_cases hc : c = 92
    · subst hc
      have hstep : step r (T0, k, last) 92 = (T0 ++ List.replicate (r k) 92, k + 1, (T0.length : Int)) := by simp [step]
      obtain ⟨m, hm⟩ : ∃ m, r k = m + 1 := ⟨r k - 1, by have := hr k; omega⟩
      cases cs with
      | nil =>
        have hs : suf.head? ≠ some 92 := hsuf (by simp [endsB])
        refine ⟨List.replicate (r k) 92, by simp [hstep], fun c' cs' h => ?_, ?_⟩
        · injection h with h1 h2
          exact ⟨List.replicate m 92, by rw [hm, List.replicate_succ, h1]⟩
        · rw [if_pos (by simp [endsB])]
          have hb : bsN (List.replicate (r k) 92 ++ suf) = r k := by rw [bsN_rep, bsN_none hs]; omega
          have hcons : List.replicate (r k) 92 ++ suf = 92 :: (List.replicate m 92 ++ suf) := by rw [hm, List.replicate_succ]; rfl
          have hd : (List.replicate (r k) 92 ++ suf).drop (r k) = suf := by simp
          rw [hcons] at hb hd ⊢
          rw [spanFrom, if_pos ⟨rfl, rfl⟩, hb, hd]
          simp [hstep]
      | cons c' cs' =>
        have hne : c' ≠ 92 := fun h => hadj.1 ⟨rfl, h⟩
        obtain ⟨X, h1, h2, h3⟩ := ih (T0 ++ List.replicate (r k) 92) (k + 1) (T0.length : Int) hadj' (fun h => hsuf (by simpa [endsB] using h))
        obtain ⟨X', hX'⟩ := h2 c' cs' rfl
        refine ⟨List.replicate (r k) 92 ++ X, ?_, fun a b h => ?_, ?_⟩
        · rw [List.foldl_cons, hstep, h1, List.append_assoc]
        · injection h with e1 e2
          exact ⟨List.replicate m 92 ++ X, by rw [hm, List.replicate_succ, e1]; rfl⟩
        · have hend : endsB (92 :: c' :: cs') = endsB (c' :: cs') := by simp [endsB]
          rw [hend, List.foldl_cons, hstep, ← h3]
          have hb : bsN (List.replicate (r k) 92 ++ (X ++ suf)) = r k := by
            rw [bsN_rep, bsN_none (by rw [hX']; simpa using hne)]; omega
          have hd : (List.replicate (r k) 92 ++ (X ++ suf)).drop (r k) = X ++ suf := by simp
          have hcons : List.replicate (r k) 92 ++ (X ++ suf) = 92 :: (List.replicate m 92 ++ (X ++ suf)) := by rw [hm, List.replicate_succ]; rfl
          rw [List.append_assoc]
          rw [hcons] at hb hd ⊢
          rw [spanFrom, if_pos ⟨rfl, rfl⟩, hb, hd]
          simp
    · have hstep : step r (T0, k, last) c = (T0 ++ [c], k, last) := by simp [step, hc]
      obtain ⟨X, h1, h2, h3⟩ := ih (T0 ++ [c]) k last hadj' (fun h => hsuf (by
        cases cs with
        | nil => simp [endsB] at h
        | cons a b => simpa [endsB] using h))
      refine ⟨c :: X, ?_, fun a b h => ?_, ?_⟩
      · rw [List.foldl_cons, hstep, h1, List.append_assoc]; rfl
      · injection h with e1 e2
        exact ⟨X, by rw [e1]⟩
      · have hend : endsB (c :: cs) = endsB cs := by
          cases cs with
          | nil => simp [endsB, hc]
          | cons a b => simp [endsB]
        rw [hend, List.foldl_cons, hstep, ← h3, List.cons_append, spanFrom, if_neg (fun h => hc h.1), if_pos (Or.inl rfl)]
        simp

/-- The whole spelling. -/
theorem law_all (r : Nat → Nat) (hr : ∀ k, 1 ≤ r k) (l suf : List UInt8) (hadj : noAdj l) (hsuf : endsB l = true → suf.head? ≠ some 92) :
    spanFrom false l ((build r l).1 ++ suf) 0 = if endsB l = true then ((build r l).2.2 + 1, ((build r l).1.length : Int), suf.isEmpty) else (((build r l).1.length : Int), ((build r l).1.length : Int), false) := by
  obtain ⟨X, h1, _, h3⟩ := law r hr suf l [] 0 (-1) hadj hsuf
  have e : (build r l).1 = X := by unfold build; rw [h1]; rfl
  rw [e]
  rw [e] at *
  have h4 := h3
  unfold build at *
  rw [h1] at h4
  simpa using h4

end Go.Proofs.Qxb6001664a.SpanRuns
