/- 'Rows.FnUnescapeInvertsEscapeCardSaid': the row (its two sentinels' cells out of the listed variables), then the tied card by the builder's one call. -/
import Derived.Test.Qxb6600128aDoorInverts
import Derived.LaidMore
import Derived.LaidLaws
import Derived.Stop.Joined
import Derived.Test.Qxb6600128aDoorTie
import Derived.Test.Qxb6600128aDoorCards
import Derived.SevenTiedAt
namespace Go.Proofs.Qxb6600128aDoor
open Go.ChangeShapes Go.WideShapes Go.ChangeAt Go.RowKit
open Go.ChangeMaps (open_string shut_string)
set_option linter.unusedVariables false

theorem ownI : ownKnob Tryd.prog.godebug = none := by kernel_rfl
theorem gSynI : Tryd.prog.globalNamed "strconv.ErrSyntax" = some 2 := by kernel_rfl
theorem gRanI : Tryd.prog.globalNamed "strconv.ErrRange" = some 3 := by kernel_rfl
theorem tSynI : (Tryd.prog.globals[2]?).map (·.type) = some 47 := by kernel_rfl
theorem tRanI : (Tryd.prog.globals[3]?).map (·.type) = some 47 := by kernel_rfl

/-- WHAT THE CONDITION GIVES THE WALKS: the two sentinels' cells. -/
theorem of_laidI {W : World} (h : laidMetH Tryd.prog Rows.fnUnescapeInvertsEscapeRow.laid W) : ∃ e2 e3, Sent e2 ∧ Sent e3 ∧ W.cell? ⟨2, 0, none⟩ = some e2 ∧ W.cell? ⟨3, 0, none⟩ = some e3 := by
  rw [MakeChecks.laidMetH_plain _ _ _ (by kernel_rfl)] at h
  obtain ⟨ps, ⟨g0, t0, cs0, f0, p0, q0, hg0, ht0, hv0, hd0, ⟨g1, t1, cs1, f1, p1, q1, hg1, ht1, hv1, hd1, ⟨g2, t2, cs2, f2, p2, q2, hg2, ht2, hv2, hd2, ⟨g3, t3, cs3, f3, p3, q3, hg3, ht3, hv3, hd3, ⟨g4, t4, cs4, f4, p4, q4, hg4, ht4, hv4, hd4, _, _⟩, _⟩, _⟩, _⟩, _⟩, _, _⟩ := h
  obtain rfl := Option.some.inj (gRanI.symm.trans hg3)
  obtain rfl := Option.some.inj (gSynI.symm.trans hg4)
  obtain rfl := Option.some.inj (tRanI.symm.trans ht3)
  obtain rfl := Option.some.inj (tSynI.symm.trans ht4)
  obtain ⟨_, u3, v3, e3, _, _⟩ := iface_of_trod Tryd.underlying47 hd3
  obtain ⟨_, u4, v4, e4, _, _⟩ := iface_of_trod Tryd.underlying47 hd4
  refine ⟨.iface u4 v4, .iface u3 v3, Or.inr ⟨_, _, rfl⟩, Or.inr ⟨_, _, rfl⟩, ?_, ?_⟩
  · have := World.var?_cell hg4 hv4 0
    rw [Array.eq_one_of_toList e4] at this
    simpa using this
  · have := World.var?_cell hg3 hv3 0
    rw [Array.eq_one_of_toList e3] at this
    simpa using this

theorem door_metI (os : Os) (args : Array Value) : laidMetH Tryd.prog Rows.fnUnescapeInvertsEscapeRow.laid ((World.doorLaid Tryd.prog 86 os).forCall (fun _ _ => 0) ⟨#[], args, []⟩).memory :=
  laidMetH_of_parts3 (fuel := 8) (laidMet_of_run' 8 (by kernel_rfl) (by kernel_rfl)) (by kernel_rfl) (by kernel_rfl)

set_option maxRecDepth 100000 in
theorem inverts_lifted (os : Os) (started : os.Started) (H : Type) (enc : TypeId × Value → H) :
    ReturnsInHanded {} Tryd.checked os 6 .any (fun w args => (Rows.fnUnescapeInvertsEscapeSpec.pre enc Tryd.prog Tryd.f6 [] false w args ∧ laidMetH Tryd.prog Rows.fnUnescapeInvertsEscapeRow.laid w) ∧ sizedMet enc Tryd.prog Tryd.f6 (OpenSpec.ofChange Rows.fnUnescapeInvertsEscapeSpec) false w args)
      (Rows.fnUnescapeInvertsEscapeSpec.post enc Tryd.prog Tryd.f6 false true false false) := by
  refine returnsInHanded_of_change_and (C := Tryd.checked) (X := fun w _ => laidMetH Tryd.prog Rows.fnUnescapeInvertsEscapeRow.laid w) (fun _ _ _ hh h => h.of_heap hh) ownI started (by kernel_rfl) Tryd.func6
    (ChangeSpec.witness_shaped (enc := enc) (C := Tryd.checked) (os := os) (X := fun w _ => laidMetH Tryd.prog Rows.fnUnescapeInvertsEscapeRow.laid w) false (World.doorLaid Tryd.prog 86 os) #[.string ByteArray.empty, .bool false] 8 rfl (World.shaped_of_RefB (by kernel_rfl) (by kernel_rfl)) (by kernel_rfl) (by kernel_rfl) (by kernel_rfl) (door_metI os _)) ?_
  intro W base args ds gs before hval0 hW _ _ hL _
  have hval : ∀ (j : Nat) t v, Tryd.f6.params[j]? = some t → args[j]? = some v → Value.okWide Tryd.prog W .any base t v := hval0
  have hW' := hW
  obtain ⟨p, q, hA0, hV, rfl, hfz, hnd⟩ := hW
  have hA : DataW.TrodAll enc Tryd.prog W 0 (fun _ => true) true Tryd.f6.params.toList args.toList ds p := hA0
  rw [Tryd.params6] at hA hval
  obtain ⟨v0, v1, d0, d1, p0, p1, rfl, rfl, rfl, h0, h1⟩ := trodAll_two hA
  obtain ⟨rfl, rfl⟩ := trodVars_none hV
  obtain ⟨a0, rfl, rfl, rfl, w0⟩ := open_string Tryd.underlying9 (hval 0 9 v0 rfl rfl) h0
  obtain ⟨a1, rfl, rfl, rfl⟩ := open_bool Tryd.underlying4 (hval 1 4 v1 rfl rfl) h1
  obtain ⟨e2, e3, s2, s3, c2, c3⟩ := of_laidI hL
  clear hA0 hval0
  refine (walk6 a0 a1 w0 W e2 e3 s2 s3 c2 c3).mono fun e W' ⟨he, bel⟩ => ?_
  subst he
  exact ⟨_, rfl, _, _, _, [], _, [], hW', trodAll_mk1 (shut_bool Tryd.underlying4 _), trodAll_mk2 (shut_string Tryd.underlying9 w0) (shut_bool Tryd.underlying4 _), rfl, bel.frame _, fun h => by cases h⟩

theorem inverts_row : Rows.FnUnescapeInvertsEscapeSaid :=
  OpenClaim.holds_of_wide 6 Tryd.f6 rfl rfl rfl rfl rfl rfl rfl ⟨rfl, rfl, rfl, rfl, rfl⟩ rfl rfl rfl rfl rfl (by kernel_rfl) Tryd.func6 (by kernel_rfl)
    (of_decide_eq_true (by kernel_rfl)) (by unfold Func.isWrapper; first | (rw [if_pos (by decide +kernel)]; kernel_rfl) | (rw [if_neg (by decide +kernel)]; exact ⟨rfl, rfl⟩))
    (fun os started H enc _ => inverts_lifted os started H enc)

/-- THE CARD. -/
theorem inverts_card : Rows.FnUnescapeInvertsEscapeCardSaid :=
  Claim7.holds_tied_plain_at .later [] [.data, .data, .data, .sentinel, .sentinel] true (true, "357450070ab344ccffa7ec85c11ed91ebe65ea5c9f81be67ab031a75665edec2") true
    inverts_row (fun _ h => by cases h) (by kernel_rfl) (fun _ h => by cases h) fnUnescapeInvertsEscape_row_tie rfl ⟨rfl, rfl⟩ (by kernel_rfl) rfl
    (fun f fn hf hfn => by
      obtain rfl : f = 6 := Option.some.inj ((show Tryd.prog.funcNamed Rows.fnUnescapeInvertsEscapeRow.func = some 6 by kernel_rfl).symm.trans hf) |>.symm
      obtain rfl : fn = Tryd.f6 := (Option.some.inj (Tryd.func6.symm.trans hfn)).symm
      exact ⟨by kernel_rfl, fun j t ht => by
        rw [Tryd.params6] at ht
        have h3 : t = 9 ∨ t = 4 := by
          rcases j with _ | _ | j
          · left; simpa using ht.symm
          · right; simpa using ht.symm
          · simp at ht
        rcases h3 with h3 | h3
        · subst h3
          exact (show Tryd.prog.wantsStandIn 9 = false by kernel_rfl)
        · subst h3
          exact (show Tryd.prog.wantsStandIn 4 = false by kernel_rfl)⟩)
    (by kernel_rfl)
#print axioms inverts_card
end Go.Proofs.Qxb6600128aDoor
