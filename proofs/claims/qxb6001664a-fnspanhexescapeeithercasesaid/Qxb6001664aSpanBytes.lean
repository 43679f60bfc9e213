/- FOR the two laws on span: slices of bytes of the call itself (append within the capacity), and the contract of zzCloneBytesG1. -/
import Derived.Test.Qxb6001664aSpanCalls
import Derived.Laws.CopyOwn
import Derived.Laws.Rows
import Derived.Lib.SliceRun
namespace Go.Proofs.Qxb6001664a.SpanBytes
open Go.ChangeShapes Go.WideShapes Go.ChangeAt Go.RowKit
open Go.Proofs.Qxb6001664a.SpanPlain
open Go.Proofs.Qxb6001664a.SpanCalls
set_option linter.unusedVariables false

theorem info5 : (Try.prog.info? 5).map (fun i => (i.zero, i.size, i.bytes)) = some (some (.int .u8 0), 1, 1) := by kernel_rfl
theorem size5 : (Try.prog.info? 5).map (·.size) = some 1 := by kernel_rfl

/-- Bytes as cells. -/
def bv (xs : List UInt8) : List Value := xs.map fun x => Value.int .u8 (x.toNat : Int)
theorem bv_len (xs : List UInt8) : (bv xs).length = xs.length := by simp [bv]
theorem bv_app (xs ys : List UInt8) : bv (xs ++ ys) = bv xs ++ bv ys := by simp [bv]

/-- The slice at the head of block g, of capacity cap, holds the bytes xs and is the call's own. -/
def OwnB (w : World) (g cap : Nat) (xs : List UInt8) : Prop := w.ownsRow g 5 1 (.slice (some ⟨g, 0, none⟩) xs.length cap) xs.length (bv xs)

theorem add0 (b j : Nat) : (⟨b, 0, none⟩ : Addr).add j = ⟨b, j, none⟩ := by unfold Addr.add; split <;> simp_all

theorem OwnB.lt {w : World} {g cap : Nat} {xs : List UInt8} (h : OwnB w g cap xs) : g < w.heap.size :=
  (World.ownsRow.lt h g rfl).2

theorem OwnB.le {w : World} {g cap : Nat} {xs : List UInt8} (h : OwnB w g cap xs) : xs.length ≤ cap := by
  obtain ⟨_, h2 | ⟨g', c', cur, hv, _, _, hc, _⟩⟩ := h
  · cases h2.1
  · injection hv with e1 e2 e3
    omega

theorem OwnB.cell {w : World} {g cap : Nat} {xs : List UInt8} (h : OwnB w g cap xs) (j : Nat) (hj : j < xs.length) : w.cell? ⟨g, j, none⟩ = some (.int .u8 (xs[j].toNat : Int)) := by
  have := World.ownsRow.cells h (g := g) rfl j (.int .u8 (xs[j].toNat : Int)) (by simp [bv, hj])
  rwa [add0] at this

theorem OwnB.text {w : World} {g cap : Nat} {xs : List UInt8} (h : OwnB w g cap xs) : Text w g 0 ⟨xs.toArray⟩ := by
  intro i hi
  have hi' : i < xs.length := by simpa [ByteArray.size] using hi
  have := h.cell i hi'
  rw [Nat.zero_add, this]
  rfl

theorem OwnB.alloc {w : World} {g cap : Nat} {xs : List UInt8} (h : OwnB w g cap xs) (o : Obj) : OwnB (w.alloc o) g cap xs := World.ownsRow.alloc h o

theorem OwnB.below {w w' : World} {g cap B : Nat} {xs : List UInt8} (h : OwnB w g cap xs) (hb : Below B w w') (hg : g < B) : OwnB w' g cap xs := by
  obtain ⟨h1, h2 | ⟨g', c', cur, hv, hg', hh, r⟩⟩ := h
  · cases h2.1
  · refine ⟨h1, Or.inr ⟨g', c', cur, hv, hg', ?_, r⟩⟩
    injection hv with e1 e2 e3
    injection e1 with e1
    injection e1 with e1
    rw [hb.block g' (by omega)]
    exact hh

theorem OwnB.drewN {w : World} {g cap : Nat} {xs : List UInt8} (h : OwnB w g cap xs) (q : Nat) : OwnB (w.drewN q) g cap xs :=
  h.below (below_drewN (Below.refl _ _) q) h.lt

/-- 't = append(t, x)' within the capacity: x has been laid in a block of its own. -/
theorem wpList_pushB {ops : Array Oper} {rest : List Oper} {o : Oper} {a : Act} {Q : Exit → Act → World → Prop} (W : World)
    (hg : o.guard = none) (s x : Operand) (hop : o.op = Op.call { callee := Callee.builtin Builtin.append, args := #[s, x], argTypes := #[42, 42] })
    (g n cap : Nat) (xs : List UInt8) (u : UInt8) (hs : a.eval s = .slice (some ⟨g, 0, none⟩) n cap) (hx : a.eval x = .slice (some ⟨W.heap.size, 0, none⟩) 1 1)
    (hn : xs.length = n) (hO : OwnB W g cap xs) (hfit : n + 1 ≤ cap)
    (hK : ∀ w', OwnB w' g cap (xs ++ [u]) → Below g W w' → wpList Try.prog ops Q rest (a.put o.dst (.slice (some ⟨g, 0, none⟩) (n + 1) cap)) w') :
    wpList Try.prog ops Q (o :: rest) a (W.alloc (.cells #[.int .u8 (u.toNat : Int)] 5)) := by
  subst hn
  obtain ⟨i0, hi, hz0, hz1, hz2⟩ := info_parts info5
  refine wpList_append_fits (P := Try.prog) _ hg s x 42 hop g 5 i0 1 Try.underlying42 hi hz1 g xs.length cap (bv xs) hs (hO.alloc _) ⟨W.heap.size, 0, none⟩ 1 1 (bv [u]) hx rfl ?_ ?_ hfit ?_
  · intro j v hj
    match j, hj with
    | 0, hj =>
      simp [bv] at hj
      subst hj
      simp [Addr.add]
  · intro v hv
    simp [bv] at hv
    subst hv
    rfl
  · intro w' hown hgrow
    refine hK w' ?_ ?_
    · unfold OwnB
      rw [bv_app]
      simpa using hown
    · have hlt := hO.lt
      exact ((Below.refl g W).alloc (by omega) _).grown hgrow (by simp; omega) (fun k hk => by injection hk with hk; omega)

theorem ownB_block {w : World} {g : Nat} {ys : List UInt8} {cur : List Value} (hl : cur.length = ys.length) (hm : ys.length ≤ maxLen) (h : w.heap[g]? = some (.cells (splice cur 0 (bv ys)).toArray 5 (0, 0))) : OwnB w g ys.length ys := by
  have e : splice cur 0 (bv ys) = bv ys := by
    unfold splice
    rw [bv_len, List.drop_eq_nil_of_le (by omega)]
    simp
  rw [e] at h
  exact ⟨by simp [bv_len], Or.inr ⟨g, ys.length, _, rfl, Nat.le_refl _, h, Nat.le_refl _, hm, by simp [bv_len], by simp [← bv_len]⟩⟩

theorem made_start {w wr : World} {n : Nat} {xs : List Value} (hown : w.ownsRow wr.heap.size 5 1 (.slice (some ⟨wr.heap.size, 0, none⟩) n n) n xs) : ∃ cur : List Value, w.heap[wr.heap.size]? = some (.cells cur.toArray 5 (0, 0)) ∧ cur.length = n := by
  obtain ⟨h1, h2 | ⟨g, cap, cur, hv, hg, hh, hc, _, hs, _⟩⟩ := hown
  · cases h2.1
  · injection hv with e1 e2 e3
    injection e1 with e1
    injection e1 with e1
    subst e1; subst e3
    exact ⟨cur.toList, by simpa using hh, by simp; omega⟩

set_option maxHeartbeats 400000 in
theorem clone_nil (w : World) :
    Calls Try.prog 28 #[.slice none 0 0] w fun e w' => e = .returned (.slice none 0 0) ∧ w = w' := by
  have hk := Lib.run_eql_slice_nil (P := Try.prog) w 42 5 none 0 0 0 0 Try.underlying42
  go_enter Try.func28, Try.ntmps28
  go_wp2
  go_ret
  exact ⟨rfl, rfl⟩

set_option maxHeartbeats 400000 in
theorem clone_some (x : Addr) (ys : List UInt8) (cap : Nat) (w : World) (hlen : ys.length ≤ 1099511627776) (hx : ∀ i (h : i < ys.length), w.cell? (x.add i) = some (.int .u8 (ys[i].toNat : Int))) :
    Calls Try.prog 28 #[.slice (some x) ys.length cap] w fun e w' => e = .returned (.slice (some ⟨w.heap.size, 0, none⟩) ys.length ys.length) ∧ OwnB w' w.heap.size ys.length ys ∧ Below w.heap.size w w' := by
  have hk := Lib.run_eql_slice_nil (P := Try.prog) w 42 5 (some x) ys.length cap 0 0 Try.underlying42
  obtain ⟨i0, hi, hz0, hz1, hz2⟩ := info_parts info5
  have HI : Hid (Try.prog.info? 5 = some i0) := hi
  have HX : Hid (∀ i (h : i < ys.length), w.cell? (x.add i) = some (.int .u8 (ys[i].toNat : Int))) := hx
  clear hi hx
  go_enter Try.func28, Try.ntmps28
  go_wp2_with (at_make; refine wpList_make_full _ rfl (.tmp 7) (.tmp 7) 42 rfl w.heap.size 5 i0 (.int .u8 0) 1 Try.underlying42 HI.out hz0 hz1 .i64 .i64 _ _ ys.length rfl rfl ?m1 ?m2 ?m3 ?m4 (Nat.le_refl _) ?_)
  case m1 => rfl
  case m2 => rfl
  case m3 => rw [hz2]; omega
  case m4 => unfold maxLen; omega
  intro w1 hown hgrow
  obtain ⟨cur, hcur, hl⟩ := made_start hown
  have hb1 : Below w.heap.size w w1 := (Below.refl _ _).grown hgrow (Nat.le_refl _) (by simp)
  have HC : Hid (w1.heap[w.heap.size]? = some (.cells cur.toArray 5 (0, 0))) := hcur
  clear hown hgrow hcur hk
  go_wp2_with (refine wpList_copy_splice rfl (.tmp 9) (.tmp 10) 42 42 rfl 5 Try.underlying42 size5 (some ⟨w.heap.size, 0, none⟩) (some x) ys.length ys.length ys.length cap rfl rfl w.heap.size 0 cur 5 HC.out (bv ys) ?k1 ?k2 ?k3 ?k4 w.heap.size w hb1 (Nat.le_refl _) ?_)
  case k1 => simp [bv_len]
  case k2 =>
    intro _ j v hj
    have hj' : j < ys.length := by
      have := (List.getElem?_eq_some_iff.1 hj).1
      simpa [bv_len] using this
    have hv : v = .int .u8 (ys[j].toNat : Int) := by
      simp [bv, List.getElem?_eq_getElem hj'] at hj
      exact hj.symm
    rw [hv]
    exact cell_later hb1 (HX.out j hj')
  case k3 => rw [bv_len]; omega
  case k4 =>
    intro u hu
    simp [bv] at hu
    obtain ⟨j, hj, rfl⟩ := hu
    rfl
  intro w2 hW2 hb2
  have HO : Hid (OwnB w2 w.heap.size ys.length ys) := ownB_block hl (by unfold maxLen; omega) hW2.out
  clear hW2 HC hb1 HX
  go_wp2
  go_ret
  exact ⟨rfl, HO.out, hb2⟩

end Go.Proofs.Qxb6001664a.SpanBytes
