/- 'Rows.FnValidChannelOneByteSpecSaid': the walks of ValidChannel (empty, one byte), inSetWireB1 and the law; then the row's step (closed limb by limb, over 'Below'). -/
import Derived.Test.Qxb6600102aRows
import Derived.WalkKit
import Derived.ProofKit
import Derived.OpenShut
import Derived.ShutString
import Derived.WalkSpells
import Derived.WalkLawsBesides
import Derived.Laws.BytesArg
import Derived.Lib.ConvBytes
namespace Go.Proofs.Qxb6600102a.fnValidChannelOneByteSpec
open Go.ChangeShapes Go.WideShapes Go.ChangeAt Go.RowKit
open Go.ChangeMaps (open_string shut_string)
set_option linter.unusedVariables false

theorem own : ownKnob Try.prog.godebug = none := by kernel_rfl

/-- What ValidChannel says of one byte. -/
def vc (c : Int) : Bool := !(decide (c ≤ 32) || decide (126 < c) || (c == 34))

set_option maxHeartbeats 400000 in
theorem vc_empty (w : World) : Calls Try.prog 13 #[.string ⟨#[]⟩] w fun e w' => e = .returned (.bool false) ∧ w = w' := by
  go_enter Try.func13, Try.ntmps13
  go_wp2
  go_ret
  exact ⟨rfl, rfl⟩

theorem conv_bytes (s : ByteArray) (c : Int) (hs : s.size = 1) (hc : (s[0].toNat : Int) = c) (w : World) :
    ∃ w1 cap, (convert 9 23 (.string s)).run Try.prog w = .ok (.slice (some ⟨w.heap.size, 0, none⟩) 1 cap) w1 ∧ w1.cell? ⟨w.heap.size, 0, none⟩ = some (.int .u8 c) ∧ Below w.heap.size w w1 := by
  refine ⟨Lib.bytesWorld w 5 s, grownCap w s.size 0 5, ?_, ?_, ?_⟩
  · rw [Lib.run_convert_string_bytes w 9 23 5 s Try.underlying9 Try.underlying23 Try.underlying5, hs]
  · rw [Lib.bytesWorld_cell w 5 s 0 (by omega), ← hc]
    have : s.data.toList.getD 0 0 = s[0] := by
      rw [List.getD, List.getElem?_eq_getElem (by simp; omega)]
      simp
      rfl
    rw [this]
  · exact ⟨rfl, rfl, rfl, by rw [Lib.bytesWorld_size]; omega, fun k hk => Lib.bytesWorld_at_old w 5 s k hk⟩

theorem ret_bool {a b : Bool} (h : a = b) : Ending.returned (.bool a) = .returned (.bool b) := by rw [h]

set_option maxHeartbeats 400000 in
theorem vc_one (s : ByteArray) (c : Int) (hs : s.size = 1) (hc : (s[0].toNat : Int) = c) (w : World) : Calls Try.prog 13 #[.string s] w fun e w' => e = .returned (.bool (vc c)) ∧ Below w.heap.size w w' := by
  obtain ⟨w1, cap, hrun, hcell, hb⟩ := conv_bytes s c hs hc w
  have hne : s.toList.isEmpty = false := by
    rw [ByteArray.toList_eq, List.isEmpty_eq_false_iff]
    intro h
    have h2 : s.data.toList.length = s.size := by simp
    rw [h, List.length_nil] at h2
    omega
  clear hs hc
  go_enter Try.func13, Try.ntmps13
  go_wp2_with fail
  refine wp_loop_rounds 2 ?_
  rw [rounds_succ]
  by_cases h1 : c ≤ 32
  · go_wp2
    go_ret
    exact ⟨ret_bool (by simp [vc, h1]), hb⟩
  by_cases h2 : 126 < c
  · go_wp2
    go_ret
    exact ⟨ret_bool (by simp [vc, h2]), hb⟩
  cases h3 : (c == 34)
  · go_wp2
    rw [rounds_succ]
    go_wp2
    go_ret
    exact ⟨ret_bool (by simp [vc, h1, h2, h3]), hb⟩
  · go_wp2
    go_ret
    exact ⟨ret_bool (by simp [vc, h3]), hb⟩

/-- Is c among the bytes of the set? -/
def among (l : List UInt8) (c : Int) : Bool := l.any fun b => ((b.toNat : Int) == c)

theorem among_yes {l : List UInt8} {c : Int} (i : Nat) (h : i < l.length) (e : ((l[i].toNat : Int) == c) = true) : among l c = true := by
  unfold among
  rw [List.any_eq_true]
  exact ⟨l[i], List.getElem_mem h, e⟩
theorem among_no {l : List UInt8} {c : Int} (e : ∀ i (h : i < l.length), ((l[i].toNat : Int) == c) = false) : among l c = false := by
  unfold among
  rw [List.any_eq_false]
  intro x hx
  obtain ⟨i, hi, rfl⟩ := List.getElem_of_mem hx
  rw [e i hi]
  simp

set_option maxHeartbeats 400000 in
theorem inSet (s : ByteArray) (c : Int) (hs : s.size ≤ 1048576) (w : World) : Calls Try.prog 10 #[.string s, .int .u8 c] w fun e w' => e = .returned (.bool (among s.data.toList c)) ∧ w = w' := by
  go_enter Try.func10, Try.ntmps10
  go_wp2
  go_loop [5] (fun v => ∃ i : Nat, i ≤ s.size ∧ v = .int .i64 i ∧ Hid (∀ k (h : k < s.size), k < i → ((s[k].toNat : Int) == c) = false)) (fun v => s.size - (intOf v).toNat)
  case atStart => exact ⟨0, by omega, rfl, fun k h hk => by omega⟩
  case round =>
    obtain ⟨i, hi, rfl, HN⟩ := hrel
    by_cases hlt : i < s.size
    · cases he : ((s[i].toNat : Int) == c)
      · go_wp2
        go_round
        case rel =>
          refine ⟨i + 1, by omega, by go_num, fun k h hk => ?_⟩
          by_cases e : k = i
          · subst e; exact he
          · exact HN.out k h (by omega)
        case measure => simp [intOf]; omega
      · have HA : Hid (among s.data.toList c = true) := among_yes i (by simpa using hlt) he
        go_wp2
        go_ret
        exact ⟨ret_bool HA.out.symm, rfl⟩
    · have HA : Hid (among s.data.toList c = false) := among_no fun k hk => HN.out k (by simpa using hk) (by simp at hk; omega)
      clear HN
      go_wp2
      go_ret
      exact ⟨ret_bool HA.out.symm, rfl⟩

theorem str1 (a0 : Int) (h0 : 0 ≤ a0) (h1 : a0 ≤ 255) : ((strOfNums [a0])[0]'(by simp [strOfNums_size]) |>.toNat : Int) = a0 := by
  have : (strOfNums [a0])[0]'(by simp [strOfNums_size]) = UInt8.ofNat a0.toNat := rfl
  rw [this]
  simp
  omega

theorem conv_str (a0 : Int) (w : World) :
    (convert 23 9 (Value.slice (some { block := w.heap.size, off := 0 }) 1 1)).run Try.prog (w.alloc (Obj.cells #[Value.int IntKind.u8 a0] 5)) = .ok (.string (strOfNums [a0])) (w.alloc (Obj.cells #[Value.int IntKind.u8 a0] 5)) := by
  refine run_convert_bytes_arg _ 23 5 Try.underlying23 Try.underlying5 w.heap.size 0 1 1 [a0] rfl ?_ 9 Try.underlying9
  intro i hi
  match i, hi with
  | 0, _ => simp

theorem same_fin : ∀ c : Fin 256, among [33, 35, 36, 37, 38, 39, 40, 41, 42, 43, 44, 45, 46, 47, 48, 49, 50, 51, 52, 53, 54, 55, 56, 57, 58, 59, 60, 61, 62, 63, 64, 65, 66, 67, 68, 69, 70, 71, 72, 73, 74, 75, 76, 77, 78, 79, 80, 81, 82, 83, 84, 85, 86, 87, 88, 89, 90, 91, 92, 93, 94, 95, 96, 97, 98, 99, 100, 101, 102, 103, 104, 105, 106, 107, 108, 109, 110, 111, 112, 113, 114, 115, 116, 117, 118, 119, 120, 121, 122, 123, 124, 125, 126] (c.val : Int) = vc (c.val : Int) := by decide +kernel

theorem same (c : Int) (h0 : 0 ≤ c) (h1 : c ≤ 255) : among [33, 35, 36, 37, 38, 39, 40, 41, 42, 43, 44, 45, 46, 47, 48, 49, 50, 51, 52, 53, 54, 55, 56, 57, 58, 59, 60, 61, 62, 63, 64, 65, 66, 67, 68, 69, 70, 71, 72, 73, 74, 75, 76, 77, 78, 79, 80, 81, 82, 83, 84, 85, 86, 87, 88, 89, 90, 91, 92, 93, 94, 95, 96, 97, 98, 99, 100, 101, 102, 103, 104, 105, 106, 107, 108, 109, 110, 111, 112, 113, 114, 115, 116, 117, 118, 119, 120, 121, 122, 123, 124, 125, 126] c = vc c := by
  have h := same_fin ⟨c.toNat, by omega⟩
  have e : ((c.toNat : Nat) : Int) = c := by omega
  rw [e] at h
  exact h

theorem inChars (c : Int) (h0 : 0 ≤ c) (h1 : c ≤ 255) (w : World) : Calls Try.prog 10 #[.string ⟨#[33, 35, 36, 37, 38, 39, 40, 41, 42, 43, 44, 45, 46, 47, 48, 49, 50, 51, 52, 53, 54, 55, 56, 57, 58, 59, 60, 61, 62, 63, 64, 65, 66, 67, 68, 69, 70, 71, 72, 73, 74, 75, 76, 77, 78, 79, 80, 81, 82, 83, 84, 85, 86, 87, 88, 89, 90, 91, 92, 93, 94, 95, 96, 97, 98, 99, 100, 101, 102, 103, 104, 105, 106, 107, 108, 109, 110, 111, 112, 113, 114, 115, 116, 117, 118, 119, 120, 121, 122, 123, 124, 125, 126]⟩, .int .u8 c] w fun e w' => e = .returned (.bool (vc c)) ∧ w = w' := by
  refine (inSet ⟨#[33, 35, 36, 37, 38, 39, 40, 41, 42, 43, 44, 45, 46, 47, 48, 49, 50, 51, 52, 53, 54, 55, 56, 57, 58, 59, 60, 61, 62, 63, 64, 65, 66, 67, 68, 69, 70, 71, 72, 73, 74, 75, 76, 77, 78, 79, 80, 81, 82, 83, 84, 85, 86, 87, 88, 89, 90, 91, 92, 93, 94, 95, 96, 97, 98, 99, 100, 101, 102, 103, 104, 105, 106, 107, 108, 109, 110, 111, 112, 113, 114, 115, 116, 117, 118, 119, 120, 121, 122, 123, 124, 125, 126]⟩ c (by decide) w).mono ?_
  rintro e w' ⟨rfl, rfl⟩
  exact ⟨ret_bool (same c h0 h1), rfl⟩

set_option maxHeartbeats 400000 in
theorem walk (a0 : Int) (w0 : (Lit.int .u8 a0).wf = true) (w : World) :
    Calls Try.prog 7 #[.int .u8 a0] w fun e w' => e = .returned (.bool true) ∧ Below w.heap.size w w' := by
  obtain ⟨b0, b1⟩ := bounds_u8 w0
  have hk := conv_str a0 w
  go_enter Try.func7, Try.ntmps7
  go_wp2_with fail
  refine (vc_empty _).mono ?_
  rintro e w' ⟨rfl, rfl⟩
  go_wp2_with fail
  refine (vc_one (strOfNums [a0]) a0 (by simp [strOfNums_size]) (str1 a0 b0 b1) _).mono ?_
  rintro e w1 ⟨rfl, hb⟩
  clear hk
  have hb2 : Below w.heap.size w w1 := ((Below.refl _ _).alloc (Nat.le_refl _) _).trans (hb.mono (by simp))
  clear hb
  go_wp2_with fail
  refine (inChars a0 b0 b1 _).mono ?_
  rintro e w' ⟨rfl, rfl⟩
  go_wp2
  go_ret
  exact ⟨ret_bool (by simp), hb2⟩
/-! ### THE ROW's STEP: WRITTEN OUT: LEAVE IT -/
set_option maxRecDepth 100000 in
theorem lifted (os : Os) (started : os.Started) (H : Type) (enc : TypeId × Value → H) :
    ReturnsInHanded {} Try.checked os 7 .any (Rows.fnValidChannelOneByteSpecSpec.pre6 enc Try.prog Try.f7 Rows.fnValidChannelOneByteSpecRow.domain false) (Rows.fnValidChannelOneByteSpecSpec.post enc Try.prog Try.f7 false true false false) := by
  refine returnsInHanded_of_change (C := Try.checked) own started (by kernel_rfl) Try.func7
    (ChangeSpec.witness6 (enc := enc) (C := Try.checked) false ⟨#[], #[.int .u8 0], []⟩ 8 (by kernel_rfl) (by kernel_rfl) (by kernel_rfl) (by kernel_rfl)) ?_
  intro W base args ds gs before hval0 hW hcnd _
  have hval : ∀ (j : Nat) t v, Try.f7.params[j]? = some t → args[j]? = some v → Value.okWide Try.prog W .any base t v := hval0
  have hW' := hW
  obtain ⟨p, q, hA0, hV, rfl, hfz, hnd⟩ := hW
  have hA : DataW.TrodAll enc Try.prog W 0 (fun _ => true) true Try.f7.params.toList args.toList ds p := hA0
  rw [Try.params7] at hA hval
  obtain ⟨v0, vs0, d0, ds0, p0, q0, hargs, rfl, rfl, h0, r0⟩ := trodAll_cons hA
  obtain ⟨rfl, rfl, rfl⟩ := trodAll_nil r0
  obtain rfl : args = #[v0] := by cases args; simp_all
  obtain ⟨rfl, rfl⟩ := trodVars_none hV
  obtain ⟨a0, rfl, rfl, rfl, w0⟩ := open_int Try.underlying5 (hval 0 5 v0 rfl rfl) h0
  clear hA0 hval0
  simp only [List.append_nil] at hW'
  refine (walk a0 w0 W).mono fun e W' ⟨he, bel⟩ => ?_
  subst he
  exact ⟨_, rfl, _, _, _, [], _, [], hW', trodAll_mk1 (shut_bool Try.underlying4 _), (trodAll_cons_mk (shut_int Try.underlying5 w0) trodAll_mk0), rfl, bel.frame _, fun h => by cases h⟩

theorem over : Rows.fnValidChannelOneByteSpecRow.holds Try.pinned (OpenSpec.ofChange Rows.fnValidChannelOneByteSpecSpec) :=
  OpenClaim.holds_of_wide 7 Try.f7 rfl rfl rfl rfl rfl rfl rfl ⟨rfl, rfl, rfl, rfl, rfl⟩ rfl rfl rfl rfl rfl (by kernel_rfl) Try.func7 (by kernel_rfl)
    (of_decide_eq_true (by kernel_rfl)) (by unfold Func.isWrapper; first | (rw [if_pos (by decide +kernel)]; kernel_rfl) | (rw [if_neg (by decide +kernel)]; exact ⟨rfl, rfl⟩))
    (fun os started H enc _ => lifted os started H enc)

/-- ████ THE STATEMENT ████ -/
theorem proved : Rows.FnValidChannelOneByteSpecSaid :=
  over
#print axioms proved
end Go.Proofs.Qxb6600102a.fnValidChannelOneByteSpec
