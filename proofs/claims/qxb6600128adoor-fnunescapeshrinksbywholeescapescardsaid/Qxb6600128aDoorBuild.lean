import Derived.Test.Qxb6600128aDoorRows
import Derived.Test.Qxb6600128aDoorShelf
import Derived.WalkKit
import Derived.ProofKit
import Derived.OpenShut
import Derived.ShutString
import Derived.WalkSpells
import Derived.WalkLawsBesides
import Derived.Lib.Builder
namespace Go.Proofs.Qxb6600128aDoor
open Go.ChangeShapes Go.WideShapes Go.ChangeAt Go.RowKit
set_option linter.unusedVariables false

theorem bSize : (Tryd.prog.info? 52).map (·.size) = some 2 := by kernel_rfl
theorem bLies : liesAt Tryd.prog Tryd.prog.depth 52 (2 / Tryd.prog.cellsOf 52) 0 52 1 = true := by kernel_rfl
theorem info5 : (Tryd.prog.info? 5).map (fun i => (i.zero, i.size, i.bytes)) = some (some (.int .u8 0), 1, 1) := by kernel_rfl

set_option maxHeartbeats 1000000 in
set_option maxRecDepth 100000 in
theorem copyCheck_used (b : Nat) (w : World) (h0 : w.cell? ⟨b, 0, none⟩ = some (.pointer (some ⟨b, 0, none⟩))) :
    Calls Tryd.prog 34 #[.pointer (some ⟨b, 0, none⟩)] w fun e w' => e = .returned (.tuple #[]) ∧ w = w' := by
  obtain ⟨j, hj, _⟩ := Option.map_eq_some_iff.1 bSize
  have hn := Lib.run_neq_ptr_same w ⟨b, 0, none⟩ Tryd.underlying50 hj
  clear hj
  go_enter Tryd.func34, Tryd.ntmps34
  go_wp2
  go_end0
  exact ⟨rfl, rfl⟩

theorem noEscape (b : Nat) (w : World) : (callFunc 42 #[.pointer (some ⟨b, 0, none⟩)]).run Tryd.prog w = .ok (.value (.pointer (some ⟨b, 0, none⟩))) w := by kernel_rfl

set_option maxHeartbeats 1000000 in
set_option maxRecDepth 100000 in
theorem copyCheck_fresh (b : Nat) (w : World) (h0 : w.cell? ⟨b, 0, none⟩ = some (.pointer none)) (hsh : w.shape? b = some (52, 2)) (hfz : w.frozen? ⟨b, 0, none⟩ = false) :
    Calls Tryd.prog 34 #[.pointer (some ⟨b, 0, none⟩)] w fun e w' => e = .returned (.tuple #[]) ∧ w' = w.setCell ⟨b, 0, none⟩ (.pointer (some ⟨b, 0, none⟩)) := by
  obtain ⟨j, hj, hjs⟩ := Option.map_eq_some_iff.1 bSize
  have h1 := Lib.run_to_unsafe (P := Tryd.prog) w ⟨b, 0, none⟩ Tryd.underlying50 Tryd.underlying71 hj (by rw [hjs]; decide) hsh (Nat.zero_lt_succ 1)
  have h2 := Lib.run_from_unsafe (P := Tryd.prog) w ⟨b, 0, none⟩ Tryd.underlying71 Tryd.underlying50 hj hsh bLies
  have h3 := noEscape b w
  clear hj hjs
  go_enter Tryd.func34, Tryd.ntmps34
  go_wp2
  go_end0
  exact ⟨rfl, rfl⟩

theorem copyCheck (B b : Nat) (bs : List Value) (w : World) (h : Lib.IsBuilder 52 5 B b bs w) :
    Calls Tryd.prog 34 #[.pointer (some ⟨b, 0, none⟩)] w fun e w' => e = .returned (.tuple #[]) ∧ (Lib.BuilderAt 52 5 B b (.pointer (some ⟨b, 0, none⟩)) bs w' ∧ Below B w w') := by
  rcases h with h | h
  · refine (copyCheck_fresh b w h.cell0 h.shape h.frozen0).mono ?_
    rintro e w' ⟨rfl, rfl⟩
    exact ⟨rfl, h.used _, (Below.refl B w).setCell (p := ⟨b, 0, none⟩) h.1 _⟩
  · refine (copyCheck_used b w h.cell0).mono ?_
    rintro e w' ⟨rfl, rfl⟩
    exact ⟨rfl, h, Below.refl B _⟩

set_option maxHeartbeats 1000000 in
set_option maxRecDepth 100000 in
theorem writeByte (B b : Nat) (bs : List Value) (c : Int) (w : World) (h : Lib.IsBuilder 52 5 B b bs w) (hlen : bs.length + 1 ≤ 140737488355328) (hBw : B ≤ w.heap.size) :
    Calls Tryd.prog 28 #[.pointer (some ⟨b, 0, none⟩), .int .u8 c] w fun e w' => e = .returned .nilIface ∧ (Lib.BuilderAt 52 5 B b (.pointer (some ⟨b, 0, none⟩)) (bs ++ [.int .u8 c]) w' ∧ Below B w w') := by
  have HH : Hid (Lib.IsBuilder 52 5 B b bs w) := h
  clear h
  obtain ⟨i0, hi, hz0, hz1, hz2⟩ := info_parts info5
  have HI : Hid (Tryd.prog.info? 5 = some i0) := hi
  clear hi
  go_enter Tryd.func28, Tryd.ntmps28
  go_wp2_with (go_at_call 34; refine (copyCheck B b bs _ HH.out).mono ?_)
  rintro e w1 ⟨rfl, h1, hb1⟩
  obtain ⟨hB, v, hbk, hown, hne⟩ := h1
  have c1 : w1.cell? ⟨b, 1, none⟩ = some v := by rw [Lib.cell_of_heap hbk]; rfl
  have HK : Hid (w1.heap[b]? = some (.cells #[.pointer (some ⟨b, 0, none⟩), v] 52 (0, 0))) := hbk
  have HW : Hid (w1.ownsRow B 5 1 v bs.length bs) := hown
  have HN : Hid (v.ownBlock ≠ some b) := hne
  clear hbk hown hne
  go_wp2_with (at_builtin; refine wpList_append_own _ rfl _ _ 26 rfl B 5 i0 (.int .u8 0) 1 1 Tryd.underlying26 HI.out hz0 hz1 hz2 rfl (by decide) _ _ _ rfl (HW.out.alloc _) ⟨w1.heap.size, 0, none⟩ 1 1 [.int .u8 c] rfl rfl ?c1 ?c2 ?c3 ?c4 ?c5 ?_)
  case c1 =>
    intro j u hj
    match j, hj with
    | 0, hj => simp at hj; subst hj; simp [Addr.add]
  case c2 => first | rfl | (intro u hu; simp at hu; subst hu; rfl)
  case c3 => unfold maxLen; omega
  case c4 => omega
  case c5 => have := hb1.size; simp; omega
  intro v' w2 hown' hgrow _
  have hlt : b < w1.heap.size := World.block_lt_of_cell? _ _ c1
  have hb2 : w2.heap[b]? = some (.cells #[.pointer (some ⟨b, 0, none⟩), v] 52 (0, 0)) := by
    rw [hgrow.block b (by simp; omega) (fun e => HN.out e.symm), Lib.alloc_old w1 _ b hlt]
    exact HK.out
  have d1 : w2.cell? ⟨b, 1, none⟩ = some v := by rw [Lib.cell_of_heap hb2]; rfl
  have f1 : w2.frozen? ⟨b, 1, none⟩ = false := Lib.frozen_of_heap hb2 1
  have hbel : Below B w w2 := ((hb1.alloc (by have := hb1.size; omega) _).grown hgrow (by have := hb1.size; simp; omega) (fun k hk => (HW.out.lt k hk).1))
  have hex : ∃ g cap, v' = .slice (some ⟨g, 0, none⟩) (bs.length + 1) cap := by
    rcases hown'.2 with ⟨_, h0⟩ | ⟨g, cap, cur, hv, _⟩
    · omega
    · exact ⟨g, cap, hv⟩
  have HP : Hid (Lib.BuilderAt 52 5 B b (.pointer (some ⟨b, 0, none⟩)) (bs ++ [.int .u8 c]) (w2.setCell ⟨b, 1, none⟩ v')) := Lib.BuilderAt.put hB hb2 (by simpa using hown') (by decide)
  obtain ⟨g, cap, hv⟩ := hex
  rw [hv] at HP ⊢
  have hbel2 := hbel.setCell (p := ⟨b, 1, none⟩) hB (.slice (some ⟨g, 0, none⟩) (bs.length + 1) cap)
  clear hown' hgrow hv hb2 HK HW HN hbel
  go_wp2
  go_ret
  exact ⟨rfl, HP.out, hbel2⟩
end Go.Proofs.Qxb6600128aDoor
