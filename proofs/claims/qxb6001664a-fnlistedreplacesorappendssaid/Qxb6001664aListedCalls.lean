/- FOR 'FnListedReplacesOrAppends': the contracts of slices.Index, Clone, Clip (at []*pattern), listed, ZZListed, ZZNewPattern. -/
import Derived.Test.Qxb6001664aRows
import Derived.WalkKit
import Derived.ProofKit
import Derived.OpenShut
import Derived.ShutString
import Derived.WalkSpells
import Derived.WalkLawsBesides
import Derived.Deep.QuietTactic
import Derived.BigQuiet
import Derived.Deep.LoopGhost
import Derived.ArgAppend
import Derived.LaidEqlPtr
import Derived.Lib.Builder
import Derived.Lib.SliceRun
import Derived.Laws.CopyOwn
import Derived.Laws.Rows
namespace Go.Proofs.Qxb6001664a.fnListedReplacesOrAppends
open Go.ChangeShapes Go.WideShapes Go.ChangeAt Go.RowKit
set_option linter.unusedVariables false

abbrev ptr (b : Nat) : Value := .pointer (some ⟨b, 0, none⟩)

/-- The n cells at the head of block b hold the values f. -/
def Row (w : World) (b n : Nat) (f : Nat → Value) : Prop := ∀ j, j < n → w.cell? ⟨b, j, none⟩ = some (f j)

theorem Row.below {w w' : World} {b n m : Nat} {f : Nat → Value} (h : Row w b n f) (hb : Below m w w') (hm : b < m) : Row w' b n f :=
  fun j hj => (hb.cell (p := ⟨b, j, none⟩) hm).trans (h j hj)

set_option maxHeartbeats 400000 in
theorem index_no (b n cap : Nat) (f : Nat → Option Addr) (v : Option Addr) (w : World) (hn : n ≤ 64) (hr : Row w b n fun j => .pointer (f j)) (hne : ∀ j, j < n → (binOp .eql 38 (.pointer v) (.pointer (f j))).run Try.prog w = .ok (.bool false) w) :
    Calls Try.prog 42 #[.slice (some ⟨b, 0, none⟩) n cap, .pointer v] w fun e w' => e = .returned (.int .i64 (-1)) ∧ w = w' := by
  have HR : Hid (Row w b n fun j => .pointer (f j)) := hr
  have HN : Hid (∀ j, j < n → (binOp .eql 38 (.pointer v) (.pointer (f j))).run Try.prog w = .ok (.bool false) w) := hne
  clear hr hne
  go_enter Try.func42, Try.ntmps42
  go_wp2
  go_loop [8] (fun i => ∃ k : Nat, k ≤ n ∧ i = .int .i64 k) (fun i => n - (intOf i).toNat)
  case atStart => exact ⟨0, Nat.zero_le _, rfl⟩
  case round =>
    obtain ⟨k, hk, rfl⟩ := hrel
    by_cases hlt : k < n
    · have hc : w.cell? ⟨b, k, none⟩ = some (.pointer (f k)) := HR.out k hlt
      have he := HN.out k hlt
      go_wp2
      go_round
      case rel => exact ⟨k + 1, by omega, by go_num⟩
      case measure => simp [intOf]; omega
    · go_wp2
      go_ret
      exact ⟨rfl, rfl⟩

set_option maxHeartbeats 400000 in
theorem index_yes (b n cap m : Nat) (f : Nat → Option Addr) (v : Option Addr) (w : World) (hn : n ≤ 64) (hm : m < n) (hr : Row w b n fun j => .pointer (f j)) (hne : ∀ j, j < m → (binOp .eql 38 (.pointer v) (.pointer (f j))).run Try.prog w = .ok (.bool false) w) (heq : (binOp .eql 38 (.pointer v) (.pointer (f m))).run Try.prog w = .ok (.bool true) w) :
    Calls Try.prog 42 #[.slice (some ⟨b, 0, none⟩) n cap, .pointer v] w fun e w' => e = .returned (.int .i64 m) ∧ w = w' := by
  have HR : Hid (Row w b n fun j => .pointer (f j)) := hr
  have HN : Hid (∀ j, j < m → (binOp .eql 38 (.pointer v) (.pointer (f j))).run Try.prog w = .ok (.bool false) w) := hne
  have HE : Hid ((binOp .eql 38 (.pointer v) (.pointer (f m))).run Try.prog w = .ok (.bool true) w) := heq
  clear hr hne heq
  go_enter Try.func42, Try.ntmps42
  go_wp2
  go_loop [8] (fun i => ∃ k : Nat, k ≤ m ∧ i = .int .i64 k) (fun i => n - (intOf i).toNat)
  case atStart => exact ⟨0, Nat.zero_le _, rfl⟩
  case round =>
    obtain ⟨k, hk, rfl⟩ := hrel
    have hlt' : k < n := by omega
    by_cases hlt : k < m
    · have hc : w.cell? ⟨b, k, none⟩ = some (.pointer (f k)) := HR.out k (by omega)
      have he := HN.out k hlt
      go_wp2
      go_round
      case rel => exact ⟨k + 1, by omega, by go_num⟩
      case measure => simp [intOf]; omega
    · obtain rfl : k = m := by omega
      have hc : w.cell? ⟨b, k, none⟩ = some (.pointer (f k)) := HR.out k (by omega)
      have he := HE.out
      go_wp2
      go_ret
      exact ⟨rfl, rfl⟩

theorem info38 : (Try.prog.info? 38).map (fun i => (i.zero, i.size, i.bytes)) = some (some (.pointer none), 1, 8) := by kernel_rfl

/-- A list of the values f. -/
def vals (n : Nat) (f : Nat → Value) : List Value := (List.range n).map f
theorem vals_len (n : Nat) (f : Nat → Value) : (vals n f).length = n := by simp [vals]
theorem vals_at {n j : Nat} {f : Nat → Value} {u : Value} (h : (vals n f)[j]? = some u) : j < n ∧ u = f j := by
  have hl : j < n := by
    have := (List.getElem?_eq_some_iff.1 h).1
    simpa [vals] using this
  simp [vals, List.getElem?_range hl] at h
  exact ⟨hl, h.symm⟩
theorem vals_get {n j : Nat} {f : Nat → Value} (h : j < n) : (vals n f)[j]? = some (f j) := by
  simp [vals, List.getElem?_range h]

/-- Block g is a row of the call's own, not frozen, of n cells at least, the values f at its head. -/
structure Own (w : World) (g n : Nat) (f : Nat → Value) : Prop where
  blk : ∃ cur : Array Value, w.heap[g]? = some (.cells cur 38 (0, 0)) ∧ n ≤ cur.size
  row : Row w g n f

theorem Own.lt {w : World} {g n : Nat} {f : Nat → Value} (h : Own w g n f) : g < w.heap.size := by
  obtain ⟨cur, hh, _⟩ := h.blk
  rcases Nat.lt_or_ge g w.heap.size with hlt | hge
  · exact hlt
  · rw [Array.getElem?_eq_none hge] at hh; cases hh

theorem Own.free {w : World} {g n : Nat} {f : Nat → Value} (h : Own w g n f) (j : Nat) : w.frozen? ⟨g, j, none⟩ = false := by
  obtain ⟨cur, hh, _⟩ := h.blk
  simp [World.frozen?, hh]

theorem Own.below {w w' : World} {b n m : Nat} {f : Nat → Value} (h : Own w b n f) (hb : Below m w w') (hm : b < m) : Own w' b n f := by
  obtain ⟨cur, hh, hc⟩ := h.blk
  exact ⟨⟨cur, by rw [hb.block b hm]; exact hh, hc⟩, h.row.below hb hm⟩

theorem add0 (b j : Nat) : (⟨b, 0, none⟩ : Addr).add j = ⟨b, j, none⟩ := by unfold Addr.add; split <;> simp_all

theorem own_of {w : World} {base n : Nat} {v : Value} {f : Nat → Value} (h : w.ownsRow base 38 1 v n (vals n f)) (hn : 0 < n) :
    ∃ g c, v = .slice (some ⟨g, 0, none⟩) n c ∧ n ≤ c ∧ base ≤ g ∧ Own w g n f := by
  have h' := h
  obtain ⟨h1, h2 | ⟨g, cap, cur, rfl, hg, hh, hc, _, hs, _⟩⟩ := h
  · omega
  · refine ⟨g, cap, rfl, hc, hg, ⟨cur, hh, by omega⟩, fun j hj => ?_⟩
    have := h'.cells (g := g) rfl j (f j) (vals_get hj)
    rwa [add0] at this

/-- A store into such a row. -/
theorem Own.set {w : World} {g n : Nat} {f : Nat → Value} (h : Own w g n f) (k : Nat) (hk : k < n) (v : Value) : Own (w.setCell ⟨g, k, none⟩ v) g n (fun j => if j = k then v else f j) := by
  obtain ⟨cur, hh, hc⟩ := h.blk
  have hblk : (w.setCell ⟨g, k, none⟩ v).heap[g]? = some (.cells (cur.setIfInBounds k v) 38 (0, 0)) := heap_setCell_same w g k cur 38 v hh
  refine ⟨⟨_, hblk, by simpa using hc⟩, fun j hj => ?_⟩
  by_cases e : j = k
  · subst e
    have := h.row j hj
    simp
    go_simp
  · simp [e]
    have := h.row j hj
    go_simp

set_option maxHeartbeats 400000 in
theorem clone (b n cap : Nat) (f : Nat → Nat) (w : World) (hn : n ≤ 64) (hn0 : 0 < n) (hbs : b < w.heap.size) (hr : Row w b n fun j => ptr (f j)) :
    Calls Try.prog 43 #[.slice (some ⟨b, 0, none⟩) n cap] w fun e w' => ∃ g c, e = .returned (.slice (some ⟨g, 0, none⟩) n c) ∧ n ≤ c ∧ w.heap.size ≤ g ∧ Own w' g n (fun j => ptr (f j)) ∧ Below w.heap.size w w' := by
  have hk := Lib.run_eql_slice_nil (P := Try.prog) w 37 38 (some ⟨b, 0, none⟩) n cap 0 0 Try.underlying37
  have HR : Hid (Row w b n fun j => ptr (f j)) := hr
  clear hr
  obtain ⟨i0, hi, hz0, hz1, hz2⟩ := info_parts info38
  have HI : Hid (Try.prog.info? 38 = some i0) := hi
  clear hi
  go_enter Try.func43, Try.ntmps43
  go_wp2_with (at_builtin; refine wpList_append_grows _ rfl _ _ 37 rfl 38 i0 (.pointer none) 1 8 Try.underlying37 HI.out hz0 hz1 hz2 rfl (by decide) (some ⟨w.heap.size, 0, none⟩) 0 0 [] rfl (by simp) rfl (by simp) ⟨b, 0, none⟩ n cap (vals n fun j => ptr (f j)) rfl (by simp [vals_len]) ?c1 ?c2 (by omega) ?c3 ?c4 ?_)
  case c1 =>
    intro j u hj
    obtain ⟨hj1, rfl⟩ := vals_at hj
    have hb : Below w.heap.size w (w.alloc (.cells #[] 38)) := (Below.refl _ _).alloc (Nat.le_refl _) _
    have := hb.cell (p := ⟨b, j, none⟩) hbs
    rw [add0, this]
    exact HR.out j hj1
  case c2 =>
    intro u hu
    obtain ⟨j, hj, rfl⟩ := List.mem_map.1 hu
    rfl
  case c3 => unfold maxLen; omega
  case c4 => omega
  intro v' w1 hown hgrow
  obtain ⟨g, c, hv, hc, hg, hO⟩ := own_of hown hn0
  have hb : Below w.heap.size w w1 := ((Below.refl _ _).alloc (Nat.le_refl _) _).grown hgrow (by simp) (by simp)
  clear hown hgrow hk
  rw [hv]
  clear hv
  have HO : Hid (Own w1 g n fun j => ptr (f j)) := hO
  clear hO
  go_wp2
  go_ret
  exact ⟨g, c, rfl, hc, by omega, HO.out, hb⟩

set_option maxHeartbeats 400000 in
theorem clip (b n cap : Nat) (w : World) (hn : n ≤ 64) (hc : n ≤ cap) :
    Calls Try.prog 44 #[.slice (some ⟨b, 0, none⟩) n cap] w fun e w' => e = .returned (.slice (some ⟨b, 0, none⟩) n n) ∧ w = w' := by
  go_enter Try.func44, Try.ntmps44
  go_wp2_with fail
  go_ret
  exact ⟨rfl, rfl⟩
theorem vals_snoc (n : Nat) (f : Nat → Value) (v : Value) : vals n f ++ [v] = vals (n + 1) (fun j => if j = n then v else f j) := by
  unfold vals
  rw [List.range_succ, List.map_append]
  congr 1
  · apply List.map_congr_left
    intro j hj
    have := List.mem_range.1 hj
    rw [if_neg (by omega)]
  · simp

theorem vals_one (n : Nat) (f : Nat → Value) : ∀ u ∈ vals n (fun j => f j), ∃ j, u = f j := by
  intro u hu
  obtain ⟨j, hj, rfl⟩ := List.mem_map.1 hu
  exact ⟨j, rfl⟩

theorem info65 : (Try.prog.info? 65).map (fun i => decide (i.size ≠ 0)) = some true := by kernel_rfl
theorem info65' : ∃ i, Try.prog.info? 65 = some i ∧ i.size ≠ 0 := by
  have h := info65
  cases e : Try.prog.info? 65 with
  | none => rw [e] at h; cases h
  | some i => rw [e] at h; exact ⟨i, rfl, by simpa using h⟩

theorem eql_same (w : World) (a : Addr) : (binOp .eql 38 (.pointer (some a)) (.pointer (some a))).run Try.prog w = .ok (.bool true) w := by
  obtain ⟨i, hi, _⟩ := info65'
  exact run_eql_ptr_same w a Try.underlying38 hi
theorem neq_same (w : World) (a : Addr) : (binOp .neq 38 (.pointer (some a)) (.pointer (some a))).run Try.prog w = .ok (.bool false) w := by
  obtain ⟨i, hi, _⟩ := info65'
  exact Lib.run_neq_ptr_same w a Try.underlying38 hi
/-- Block b is a row of cells, not frozen. -/
def IsObj (w : World) (b : Nat) : Prop := ∃ c t, w.heap[b]? = some (.cells c t (0, 0))
theorem eql_other (w : World) (a b : Nat) (hne : a ≠ b) (ha : IsObj w a) (hb : IsObj w b) : (binOp .eql 38 (ptr a) (ptr b)).run Try.prog w = .ok (.bool false) w := by
  obtain ⟨i, hi, hs⟩ := info65'
  obtain ⟨c, t, ha⟩ := ha
  obtain ⟨c', t', hb⟩ := hb
  exact run_eql_ptr_other w Try.underlying38 hi hs (by intro h; injection h; contradiction) ha hb
theorem eql_nil (w : World) (b : Nat) : (binOp .eql 38 (.pointer none) (ptr b)).run Try.prog w = .ok (.bool false) w := by
  have h : ∀ d : Nat, (Op.equalIn (d + 1) 38 (.pointer none) (ptr b)).run Try.prog w = .ok false w := fun d => by
    simp [Op.equalIn, run_underlying Try.underlying38]
  simp only [binOp]
  simp [Op.equal, Op.maxDepth, h 9999]

set_option maxHeartbeats 400000 in
theorem listed_rep (b n cap m p : Nat) (f : Nat → Nat) (w : World) (hn : n ≤ 64) (hm : m < n) (hbs : b < w.heap.size) (hr : Row w b n fun j => ptr (f j)) (hne : ∀ j, j < m → f m ≠ f j) (ho : ∀ j, j < n → IsObj w (f j)) :
    Calls Try.prog 36 #[.slice (some ⟨b, 0, none⟩) n cap, ptr (f m), ptr p] w fun e w' => ∃ g c, e = .returned (.slice (some ⟨g, 0, none⟩) n c) ∧ n ≤ c ∧ w.heap.size ≤ g ∧ Own w' g n (fun j => if j = m then ptr p else ptr (f j)) ∧ Below w.heap.size w w' := by
  have hN := index_yes b n cap m (fun j => some ⟨f j, 0, none⟩) (some ⟨f m, 0, none⟩) w hn hm hr (fun j hj => eql_other w _ _ (hne j hj) (ho m hm) (ho j (by omega))) (eql_same w _)
  have HN : Hid (Calls Try.prog 42 #[.slice (some ⟨b, 0, none⟩) n cap, ptr (f m)] w fun e w' => e = .returned (.int .i64 m) ∧ w = w') := hN
  have hC := clone b n cap f w hn (by omega) hbs hr
  have HC : Hid (Calls Try.prog 43 #[.slice (some ⟨b, 0, none⟩) n cap] w fun e w' => ∃ g c, e = .returned (.slice (some ⟨g, 0, none⟩) n c) ∧ n ≤ c ∧ w.heap.size ≤ g ∧ Own w' g n (fun j => ptr (f j)) ∧ Below w.heap.size w w') := hC
  clear hN hC hr hne ho
  go_enter Try.func36, Try.ntmps36
  go_wp2_with (first | (go_at_call 42; refine HN.out.mono ?_; rintro e w' ⟨rfl, rfl⟩) | (go_at_call 43; refine HC.out.mono ?_))
  rintro e w1 ⟨g, c, rfl, hc, hg, hO, hb⟩
  have hcell : w1.cell? ⟨g, m, none⟩ = some (ptr (f m)) := hO.row m hm
  have hfree := hO.free m
  have HO : Hid (Own (w1.setCell ⟨g, m, none⟩ (ptr p)) g n (fun j => if j = m then ptr p else ptr (f j))) := hO.set m hm _
  have hb2 := hb.setCell (p := ⟨g, m, none⟩) hg (ptr p)
  clear hO hb HC HN
  go_wp2
  go_ret
  exact ⟨g, c, rfl, hc, hg, HO.out, hb2⟩

set_option maxHeartbeats 400000 in
theorem listed_app (b n cap p : Nat) (old : Option Addr) (f : Nat → Nat) (w : World) (hn : n ≤ 64) (hcap : n ≤ cap) (hbs : b < w.heap.size) (hr : Row w b n fun j => ptr (f j)) (hne : ∀ j, j < n → (binOp .eql 38 (.pointer old) (ptr (f j))).run Try.prog w = .ok (.bool false) w) :
    Calls Try.prog 36 #[.slice (some ⟨b, 0, none⟩) n cap, .pointer old, ptr p] w fun e w' => ∃ g c, e = .returned (.slice (some ⟨g, 0, none⟩) (n + 1) c) ∧ n + 1 ≤ c ∧ w.heap.size ≤ g ∧ Own w' g (n + 1) (fun j => if j = n then ptr p else ptr (f j)) ∧ Below w.heap.size w w' := by
  have hN := index_no b n cap (fun j => some ⟨f j, 0, none⟩) old w hn hr hne
  have HN : Hid (Calls Try.prog 42 #[.slice (some ⟨b, 0, none⟩) n cap, .pointer old] w fun e w' => e = .returned (.int .i64 (-1)) ∧ w = w') := hN
  have HR : Hid (Row w b n fun j => ptr (f j)) := hr
  obtain ⟨i0, hi, hz0, hz1, hz2⟩ := info_parts info38
  have HI : Hid (Try.prog.info? 38 = some i0) := hi
  clear hN hr hne hi
  cases ho : old.isNone
  all_goals
    go_enter Try.func36, Try.ntmps36
    go_wp2_with (first | (go_at_call 42; refine HN.out.mono ?_; rintro e w' ⟨rfl, rfl⟩) | (go_at_call 44; refine (clip b n cap _ hn hcap).mono ?_; rintro e w' ⟨rfl, rfl⟩) | (at_builtin; refine wpList_append_grows _ rfl _ _ 37 rfl 38 i0 (.pointer none) 1 8 Try.underlying37 HI.out hz0 hz1 hz2 rfl (by decide) (some ⟨b, 0, none⟩) n n (vals n fun j => ptr (f j)) rfl (by simp) (by simp [vals_len]) ?c0 ⟨w.heap.size, 0, none⟩ 1 1 [ptr p] rfl rfl ?c1 ?c2 (by omega) ?c3 ?c4 ?_))
    case c0 =>
      intro b1 hb1 j u hj
      cases hb1
      obtain ⟨hj1, rfl⟩ := vals_at hj
      have hb : Below w.heap.size w (w.alloc (.cells #[ptr p] 38)) := (Below.refl _ _).alloc (Nat.le_refl _) _
      rw [add0, hb.cell (p := ⟨b, j, none⟩) hbs]
      exact HR.out j hj1
    case c1 =>
      intro j u hj
      match j, hj with
      | 0, hj => simp at hj; subst hj; simp [Addr.add]
    case c2 => first | rfl | (intro u hu; simp at hu; subst hu; rfl)
    case c3 => unfold maxLen; omega
    case c4 => omega
    intro v' w1 hown hgrow
    rw [vals_snoc] at hown
    obtain ⟨g, c, hv, hc, hg, hO⟩ := own_of hown (by omega)
    have hb : Below w.heap.size w w1 := ((Below.refl _ _).alloc (Nat.le_refl _) _).grown hgrow (by simp) (by simp)
    clear hown hgrow
    rw [hv]
    clear hv
    have HO : Hid (Own w1 g (n + 1) fun j => if j = n then ptr p else ptr (f j)) := hO
    clear hO HR HN
    go_wp2
    go_ret
    exact ⟨g, c, rfl, hc, by omega, HO.out, hb⟩

set_option maxHeartbeats 400000 in
theorem zzlisted_rep (b n cap m p : Nat) (f : Nat → Nat) (w : World) (hn : n ≤ 64) (hm : m < n) (hbs : b < w.heap.size) (hr : Row w b n fun j => ptr (f j)) (hne : ∀ j, j < m → f m ≠ f j) (ho : ∀ j, j < n → IsObj w (f j)) :
    Calls Try.prog 25 #[.slice (some ⟨b, 0, none⟩) n cap, ptr (f m), ptr p] w fun e w' => ∃ g c, e = .returned (.slice (some ⟨g, 0, none⟩) n c) ∧ n ≤ c ∧ w.heap.size ≤ g ∧ Own w' g n (fun j => if j = m then ptr p else ptr (f j)) ∧ Below w.heap.size w w' := by
  have h := listed_rep b n cap m p f w hn hm hbs hr hne ho
  have H : Hid (Calls Try.prog 36 #[.slice (some ⟨b, 0, none⟩) n cap, ptr (f m), ptr p] w fun e w' => ∃ g c, e = .returned (.slice (some ⟨g, 0, none⟩) n c) ∧ n ≤ c ∧ w.heap.size ≤ g ∧ Own w' g n (fun j => if j = m then ptr p else ptr (f j)) ∧ Below w.heap.size w w') := h
  clear h hr hne ho
  go_enter Try.func25, Try.ntmps25
  go_wp2_with (go_at_call 36; refine H.out.mono ?_)
  rintro e w1 ⟨g, c, rfl, hc, hg, hO, hb⟩
  have HO : Hid (Own w1 g n fun j => if j = m then ptr p else ptr (f j)) := hO
  clear hO H
  go_wp2
  go_ret
  exact ⟨g, c, rfl, hc, hg, HO.out, hb⟩

set_option maxHeartbeats 400000 in
theorem zzlisted_app (b n cap p : Nat) (old : Option Addr) (f : Nat → Nat) (w : World) (hn : n ≤ 64) (hcap : n ≤ cap) (hbs : b < w.heap.size) (hr : Row w b n fun j => ptr (f j)) (hne : ∀ j, j < n → (binOp .eql 38 (.pointer old) (ptr (f j))).run Try.prog w = .ok (.bool false) w) :
    Calls Try.prog 25 #[.slice (some ⟨b, 0, none⟩) n cap, .pointer old, ptr p] w fun e w' => ∃ g c, e = .returned (.slice (some ⟨g, 0, none⟩) (n + 1) c) ∧ n + 1 ≤ c ∧ w.heap.size ≤ g ∧ Own w' g (n + 1) (fun j => if j = n then ptr p else ptr (f j)) ∧ Below w.heap.size w w' := by
  have h := listed_app b n cap p old f w hn hcap hbs hr hne
  have H : Hid (Calls Try.prog 36 #[.slice (some ⟨b, 0, none⟩) n cap, .pointer old, ptr p] w fun e w' => ∃ g c, e = .returned (.slice (some ⟨g, 0, none⟩) (n + 1) c) ∧ n + 1 ≤ c ∧ w.heap.size ≤ g ∧ Own w' g (n + 1) (fun j => if j = n then ptr p else ptr (f j)) ∧ Below w.heap.size w w') := h
  clear h hr hne
  go_enter Try.func25, Try.ntmps25
  go_wp2_with (go_at_call 36; refine H.out.mono ?_)
  rintro e w1 ⟨g, c, rfl, hc, hg, hO, hb⟩
  have HO : Hid (Own w1 g (n + 1) fun j => if j = n then ptr p else ptr (f j)) := hO
  clear hO H
  go_wp2
  go_ret
  exact ⟨g, c, rfl, hc, hg, HO.out, hb⟩

set_option maxHeartbeats 400000 in
/-- ZZNewPattern: a new block. -/
theorem newPattern (s : ByteArray) (w : World) :
    Calls Try.prog 24 #[.string s] w fun e w' => e = .returned (ptr w.heap.size) ∧ w'.heap.size = w.heap.size + 1 ∧ IsObj w' w.heap.size ∧ Below w.heap.size w w' := by
  go_enter Try.func24, Try.ntmps24
  go_wp2
  go_ret
  refine ⟨rfl, by simp, ⟨_, 65, heap_alloc_new w _⟩, (Below.refl _ _).alloc (Nat.le_refl _) _⟩
end Go.Proofs.Qxb6001664a.fnListedReplacesOrAppends
