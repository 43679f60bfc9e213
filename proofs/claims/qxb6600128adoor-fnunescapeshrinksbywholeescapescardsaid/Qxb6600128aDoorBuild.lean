import Derived.Test.Qxb6600128aDoorRows
import Derived.Test.Qxb6600128aDoorShelf
import Derived.WalkKit
import Derived.ProofKit
import Derived.OpenShut
import Derived.ShutString
import Derived.WalkSpells
import Derived.WalkLawsBesides
import Derived.Lib.Builder
namespace Go.Proofs.Qxb6600128aDoor
open Go.ChangeShapes Go.WideShapes Go.ChangeAt Go.RowKit
set_option linter.unusedVariables false

theorem info5 : (Tryd.prog.info? 5).map (fun i => (i.zero, i.size, i.bytes)) = some (some (.int .u8 0), 1, 1) := by kernel_rfl

/-- The shelf's copyCheck at this dump, laid by hand: the laying tool passes over it, for its structure names a type that no body of the closure names. -/
def ren240 : Go.Shelf.Ren := ⟨fun | 240 => 34 | 276 => 42 | n => n, fun | 0 => 0 | 4 => 4 | 5 => 5 | 9 => 9 | 20 => 20 | 37 => 26 | 70 => 50 | 72 => 52 | 164 => 71 | n => n, fun | n => n⟩
theorem lays240 : Go.Proofs.Lays.n240 Tryd.prog ren240 := {
  mixed := by kernel_rfl
  f240 := Tryd.func34.trans (congrArg some (by kernel_rfl))
  f276 := Tryd.func42.trans (congrArg some (by kernel_rfl))
  t0 := Tryd.underlying0
  a0 := Tryd.isAgg0
  z0 := Tryd.sizeOf0
  v0 := Tryd.zeroValue0
  t4 := Tryd.underlying4
  a4 := Tryd.isAgg4
  z4 := Tryd.sizeOf4
  v4 := Tryd.zeroValue4
  t9 := Tryd.underlying9
  a9 := Tryd.isAgg9
  z9 := Tryd.sizeOf9
  v9 := Tryd.zeroValue9
  t20 := Tryd.underlying20
  a20 := Tryd.isAgg20
  z20 := Tryd.sizeOf20
  v20 := Tryd.zeroValue20
  t70 := Tryd.underlying50
  a70 := Tryd.isAgg50
  z70 := Tryd.sizeOf50
  v70 := Tryd.zeroValue50
  t72 := Tryd.underlying52
  a72 := Tryd.isAgg52
  z72 := Tryd.sizeOf52
  v72 := Tryd.zeroValue52
  t164 := Tryd.underlying71
  a164 := Tryd.isAgg71
  z164 := Tryd.sizeOf71
  v164 := Tryd.zeroValue71 }
theorem size240 : Go.Proofs.Builder.X72 Tryd.prog ren240 := {
  sizeBuilder := by kernel_rfl
  liesBuilder := by kernel_rfl }

theorem copyCheck (B b : Nat) (bs : List Value) (w : World) (h : Lib.IsBuilder 52 5 B b bs w) :
    Calls Tryd.prog 34 #[.pointer (some ⟨b, 0, none⟩)] w fun e w' => e = .returned (.tuple #[]) ∧ (Lib.BuilderAt 52 5 B b (.pointer (some ⟨b, 0, none⟩)) bs w' ∧ Below B w w') :=
  Any.Builder_copyCheck lays240 size240 B b bs w h

set_option maxHeartbeats 1000000 in
set_option maxRecDepth 100000 in
theorem writeByte (B b : Nat) (bs : List Value) (c : Int) (w : World) (h : Lib.IsBuilder 52 5 B b bs w) (hlen : bs.length + 1 ≤ 140737488355328) (hBw : B ≤ w.heap.size) :
    Calls Tryd.prog 28 #[.pointer (some ⟨b, 0, none⟩), .int .u8 c] w fun e w' => e = .returned .nilIface ∧ (Lib.BuilderAt 52 5 B b (.pointer (some ⟨b, 0, none⟩)) (bs ++ [.int .u8 c]) w' ∧ Below B w w') := by
  have HH : Hid (Lib.IsBuilder 52 5 B b bs w) := h
  clear h
  obtain ⟨i0, hi, hz0, hz1, hz2⟩ := info_parts info5
  have HI : Hid (Tryd.prog.info? 5 = some i0) := hi
  clear hi
  go_enter Tryd.func28, Tryd.ntmps28
  go_wp2_with (go_at_call 34; refine (copyCheck B b bs _ HH.out).mono ?_)
  rintro e w1 ⟨rfl, h1, hb1⟩
  obtain ⟨hB, v, hbk, hown, hne⟩ := h1
  have c1 : w1.cell? ⟨b, 1, none⟩ = some v := by rw [Lib.cell_of_heap hbk]; rfl
  have HK : Hid (w1.heap[b]? = some (.cells #[.pointer (some ⟨b, 0, none⟩), v] 52 (0, 0))) := hbk
  have HW : Hid (w1.ownsRow B 5 1 v bs.length bs) := hown
  have HN : Hid (v.ownBlock ≠ some b) := hne
  clear hbk hown hne
  go_wp2_with (at_builtin; refine wpList_append_own _ rfl _ _ 26 rfl B 5 i0 (.int .u8 0) 1 1 Tryd.underlying26 HI.out hz0 hz1 hz2 rfl (by decide) _ _ _ rfl (HW.out.alloc _) ⟨w1.heap.size, 0, none⟩ 1 1 [.int .u8 c] rfl rfl ?c1 ?c2 ?c3 ?c4 ?c5 ?_)
  case c1 =>
    intro j u hj
    match j, hj with
    | 0, hj => simp at hj; subst hj; simp [Addr.add]
  case c2 => first | rfl | (intro u hu; simp at hu; subst hu; rfl)
  case c3 => unfold maxLen; omega
  case c4 => omega
  case c5 => have := hb1.size; simp; omega
  intro v' w2 hown' hgrow _
  have hlt : b < w1.heap.size := World.block_lt_of_cell? _ _ c1
  have hb2 : w2.heap[b]? = some (.cells #[.pointer (some ⟨b, 0, none⟩), v] 52 (0, 0)) := by
    rw [hgrow.block b (by simp; omega) (fun e => HN.out e.symm), Lib.alloc_old w1 _ b hlt]
    exact HK.out
  have d1 : w2.cell? ⟨b, 1, none⟩ = some v := by rw [Lib.cell_of_heap hb2]; rfl
  have f1 : w2.frozen? ⟨b, 1, none⟩ = false := Lib.frozen_of_heap hb2 1
  have hbel : Below B w w2 := ((hb1.alloc (by have := hb1.size; omega) _).grown hgrow (by have := hb1.size; simp; omega) (fun k hk => (HW.out.lt k hk).1))
  have hex : ∃ g cap, v' = .slice (some ⟨g, 0, none⟩) (bs.length + 1) cap := by
    rcases hown'.2 with ⟨_, h0⟩ | ⟨g, cap, cur, hv, _⟩
    · omega
    · exact ⟨g, cap, hv⟩
  have HP : Hid (Lib.BuilderAt 52 5 B b (.pointer (some ⟨b, 0, none⟩)) (bs ++ [.int .u8 c]) (w2.setCell ⟨b, 1, none⟩ v')) := Lib.BuilderAt.put hB hb2 (by simpa using hown') (by decide)
  obtain ⟨g, cap, hv⟩ := hex
  rw [hv] at HP ⊢
  have hbel2 := hbel.setCell (p := ⟨b, 1, none⟩) hB (.slice (some ⟨g, 0, none⟩) (bs.length + 1) cap)
  clear hown' hgrow hv hb2 HK HW HN hbel
  go_wp2
  go_ret
  exact ⟨rfl, HP.out, hbel2⟩
end Go.Proofs.Qxb6600128aDoor
