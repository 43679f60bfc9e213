import Derived.Test.Qxb6600128aDoorParse
namespace Go.Proofs.Qxb6600128aDoor
open Go.ChangeShapes Go.WideShapes Go.ChangeAt Go.RowKit
set_option linter.unusedVariables false

theorem pu_code (l : List UInt8) : ∀ n, (pu n l).2 = 0 ∨ (pu n l).2 = 1 ∨ (pu n l).2 = 2 := by
  induction l with
  | nil => intro n; left; rfl
  | cons c cs ih =>
    intro n
    rw [pu]
    split
    · split
      · right; left; rfl
      · exact ih _
    · right; right; rfl

theorem pu_le (l : List UInt8) : ∀ n, n ≤ 255 → (pu n l).1 ≤ 255 := by
  induction l with
  | nil => intro n h; exact h
  | cons c cs ih =>
    intro n h
    rw [pu]
    split
    · split
      · simp
      · exact ih _ (by omega)
    · simp

/-- An error, or none. -/
def ErrIs (code : Nat) (v : Value) : Prop := (code = 0 ∧ v = .nilIface) ∨ (code ≠ 0 ∧ ∃ t x, v = .iface t x)
/-- What a sentinel's variable holds. -/
def Sent (v : Value) : Prop := v = .nilIface ∨ ∃ te pe, v = .iface te pe

set_option maxHeartbeats 1000000 in
set_option maxRecDepth 100000 in
theorem parse (s : ByteArray) (h0 : 0 < s.size) (h3 : s.size ≤ 3) (w : World) (e2 e3 : Value) (hs2 : Sent e2) (hs3 : Sent e3) (hc2 : w.cell? ⟨2, 0, none⟩ = some e2) (hc3 : w.cell? ⟨3, 0, none⟩ = some e3) :
    Calls Tryd.prog 27 #[.string s, .int .i64 8, .int .i64 8] w fun e w' => ∃ v, e = .returned (.tuple #[.int .u64 ((pu 0 (L s)).1 : Nat), v]) ∧ ErrIs (pu 0 (L s)).2 v ∧ Below w.heap.size w w' := by
  have HS2 : Hid (Sent e2) := hs2
  have HS3 : Hid (Sent e3) := hs3
  clear hs2 hs3
  go_enter Tryd.func27, Tryd.ntmps27
  go_wp2_with (go_at_call 32; refine (parseIn s h0 h3 _).mono ?_)
  rintro e w1 ⟨rfl, hb⟩
  have k2 := cell_later hb hc2
  have k3 := cell_later hb hc3
  clear hc2 hc3
  rcases pu_code (L s) 0 with hc | hc | hc
  · rw [hc, show errOf 0 = .nilIface from rfl]
    have HE : Hid ((pu 0 (L s)).2 = 0) := hc
    clear hc
    generalize hn : (pu 0 (L s)).1 = n at *
    have HN : Hid ((pu 0 (L s)).1 = n) := hn
    clear hn
    go_wp2
    go_ret2
    exact ⟨_, by rw [HN.out]; rfl, Or.inl ⟨HE.out, rfl⟩, hb⟩
  · rw [hc, show errOf 1 = .iface 66 (.int .i64 1) from rfl]
    have HE : Hid ((pu 0 (L s)).2 = 1) := hc
    clear hc
    generalize hn : (pu 0 (L s)).1 = n at *
    have HN : Hid ((pu 0 (L s)).1 = n) := hn
    clear hn
    go_wp2_with (go_at_call 33; refine (Tryd.strconv_toError_range _ s 8 8 e3 _ (by omega) k3 HS3.out).mono ?_)
    rintro e w2 ⟨N, rfl, _, _, hb2⟩
    go_wp2
    go_ret2
    exact ⟨_, by rw [HN.out]; rfl, Or.inr ⟨by rw [HE.out]; decide, _, _, rfl⟩, hb.trans (hb2.mono hb.size)⟩
  · rw [hc, show errOf 2 = .iface 66 (.int .i64 2) from rfl]
    have HE : Hid ((pu 0 (L s)).2 = 2) := hc
    clear hc
    generalize hn : (pu 0 (L s)).1 = n at *
    have HN : Hid ((pu 0 (L s)).1 = n) := hn
    clear hn
    go_wp2_with (go_at_call 33; refine (Tryd.strconv_toError_syntax _ s 8 8 e2 _ (by omega) k2 HS2.out).mono ?_)
    rintro e w2 ⟨N, rfl, _, _, hb2⟩
    go_wp2
    go_ret2
    exact ⟨_, by rw [HN.out]; rfl, Or.inr ⟨by rw [HE.out]; decide, _, _, rfl⟩, hb.trans (hb2.mono hb.size)⟩

/-- What unescape makes of a text. -/
def unesc : List UInt8 → List UInt8
  | c :: a :: b :: d :: rest => if c = 92 ∧ (pu 0 [a, b, d]).2 = 0 then UInt8.ofNat (pu 0 [a, b, d]).1 :: unesc rest else c :: unesc (a :: b :: d :: rest)
  | c :: rest => c :: unesc rest
  | [] => []

theorem unesc_esc {c a b d : UInt8} {rest : List UInt8} (hc : c = 92) (hp : (pu 0 [a, b, d]).2 = 0) : unesc (c :: a :: b :: d :: rest) = UInt8.ofNat (pu 0 [a, b, d]).1 :: unesc rest := by
  rw [unesc, if_pos ⟨hc, hp⟩]
theorem unesc_not {c a b d : UInt8} {rest : List UInt8} (hp : ¬ (c = 92 ∧ (pu 0 [a, b, d]).2 = 0)) : unesc (c :: a :: b :: d :: rest) = c :: unesc (a :: b :: d :: rest) := by
  rw [unesc, if_neg hp]
theorem unesc_ne {c : UInt8} {rest : List UInt8} (hc : c ≠ 92) : unesc (c :: rest) = c :: unesc rest := by
  match rest with
  | [] => rfl
  | [_] => rfl
  | [_, _] => rfl
  | a :: b :: d :: r => exact unesc_not (fun h => hc h.1)
theorem unesc_short {c : UInt8} {rest : List UInt8} (h : rest.length < 3) : unesc (c :: rest) = c :: unesc rest := by
  match rest, h with
  | [], _ => rfl
  | [_], _ => rfl
  | [_, _], _ => rfl
  | a :: b :: d :: r, h => exact absurd h (by simp)

theorem byteCells_snoc (l : List UInt8) (x : UInt8) : Lib.byteCells (l ++ [x]) = Lib.byteCells l ++ [.int .u8 (x.toNat : Int)] := by simp [Lib.byteCells]

/-- The three bytes behind a backslash. -/
theorem three {s : ByteArray} {i : Nat} (h : i + 4 ≤ s.size) : L (s.extract (i + 1) (i + 4)) = [s[i + 1], s[i + 2], s[i + 3]] := by
  have e : L (s.extract (i + 1) (i + 4)) = ((L s).drop (i + 1)).take 3 := by
    rw [L, Lib.extract_data]
    congr 1
    omega
  rw [e, drop_L (by omega), drop_L (by omega), drop_L (by omega)]
  rfl

theorem drop4 {s : ByteArray} {i : Nat} (h : i + 4 ≤ s.size) : (L s).drop i = s[i] :: s[i + 1] :: s[i + 2] :: s[i + 3] :: (L s).drop (i + 4) := by
  rw [drop_L (by omega), drop_L (by omega), drop_L (by omega), drop_L (by omega)]

theorem beq92_t {a : UInt8} (h : a = 92) : ((a.toNat : Int) == 92) = true := by rw [h]; rfl
theorem beq92_f {a : UInt8} (h : ¬ a = 92) : ((a.toNat : Int) == 92) = false := by
  rw [beq_eq_false_iff_ne]
  intro e
  exact h (UInt8.toNat_inj.1 (by exact_mod_cast e))

theorem isB_below {T e : TypeId} {B b : Nat} {bs : List Value} {w w' : World} (h : Lib.IsBuilder T e B b bs w) (hb : Below w.heap.size w w') : Lib.IsBuilder T e B b bs w' := by
  have key : ∀ p, Lib.BuilderAt T e B b p bs w → Lib.BuilderAt T e B b p bs w' := by
    intro p hp
    have hlt := hp.lt
    obtain ⟨hB, v, hbk, hown, hne⟩ := hp
    refine ⟨hB, v, by rw [hb.block b hlt]; exact hbk, ?_, hne⟩
    obtain ⟨h1, h2 | ⟨g, cap, cur, hv, hg, hh, r⟩⟩ := hown
    · exact ⟨h1, Or.inl h2⟩
    · refine ⟨h1, Or.inr ⟨g, cap, cur, hv, hg, ?_, r⟩⟩
      have hgl : g < w.heap.size := by
        rcases Nat.lt_or_ge g w.heap.size with hlt | hge
        · exact hlt
        · rw [Array.getElem?_eq_none hge] at hh; cases hh
      rw [hb.block g hgl]
      exact hh
  rcases h with h | h
  · exact Or.inl (key _ h)
  · exact Or.inr (key _ h)

theorem isB_start (w : World) : Lib.IsBuilder 52 5 w.heap.size w.heap.size (Lib.byteCells []) (w.alloc (Obj.cells #[Value.pointer none, Value.slice none 0 0] 52)) := by
  refine Or.inl ⟨Nat.le_refl _, .slice none 0 0, heap_alloc_new w _, World.ownsRow_nil _ _ _ _, by simp [Value.ownBlock]⟩

theorem ext_size {s : ByteArray} {i : Nat} (h : i + 4 ≤ s.size) : (s.extract (i + 1) (i + 4)).size = 3 := by
  rw [← L_len, three h]; rfl

set_option maxHeartbeats 2000000 in
set_option maxRecDepth 100000 in
theorem unescape (s : ByteArray) (hs : s.size ≤ 4194304) (w : World) (e2 e3 : Value) (hs2 : Sent e2) (hs3 : Sent e3) (hc2 : w.cell? ⟨2, 0, none⟩ = some e2) (hc3 : w.cell? ⟨3, 0, none⟩ = some e3) :
    Calls Tryd.prog 24 #[.string s] w fun e w' => e = .returned (.string ⟨(unesc (L s)).toArray⟩) ∧ Below w.heap.size w w' := by
  have HS2 : Hid (Sent e2) := hs2
  have HS3 : Hid (Sent e3) := hs3
  have H2 : Hid (w.cell? ⟨2, 0, none⟩ = some e2) := hc2
  have H3 : Hid (w.cell? ⟨3, 0, none⟩ = some e3) := hc3
  clear hs2 hs3 hc2 hc3
  go_enter Tryd.func24, Tryd.ntmps24
  go_wp2_with fail
  go_loopw [4] (fun vi wr => ∃ (i : Nat) (acc : List UInt8), i ≤ s.size ∧ acc.length ≤ i ∧ vi = .int .i64 i ∧ Hid (acc ++ unesc ((L s).drop i) = unesc (L s)) ∧ Lib.IsBuilder 52 5 w.heap.size w.heap.size (Lib.byteCells acc) wr ∧ w.heap.size < wr.heap.size ∧ Below w.heap.size w wr) (fun vi _ => s.size - (intOf vi).toNat)
  case atStart => exact ⟨0, [], by omega, by simp, rfl, by simp [Hid], isB_start w, by simp, (Below.refl _ _).alloc (Nat.le_refl _) _⟩
  case round =>
    obtain ⟨i, acc, hi, hal, rfl, HU, hI, hws, hb⟩ := hrel
    have HI : Hid (Lib.IsBuilder 52 5 w.heap.size w.heap.size (Lib.byteCells acc) wr) := hI
    have hbl : (Lib.byteCells acc).length + 1 ≤ 140737488355328 := by rw [Lib.byteCells_length]; omega
    clear hI
    by_cases hlt : i < s.size
    · by_cases c1 : s[i] = 92
      · by_cases h4 : i + 4 ≤ s.size
        · have v1 := beq92_t c1
          have hsz := ext_size h4
          have HSZ : Hid ((s.extract (i + 1) (i + 4)).size = 3) := hsz
          clear hsz
          have HC2 : Hid (wr.cell? ⟨2, 0, none⟩ = some e2) := (hb.cell (p := ⟨2, 0, none⟩) (World.block_lt_of_cell? _ _ H2.out)).trans H2.out
          have HC3 : Hid (wr.cell? ⟨3, 0, none⟩ = some e3) := (hb.cell (p := ⟨3, 0, none⟩) (World.block_lt_of_cell? _ _ H3.out)).trans H3.out
          have HC1 : Hid (s[i] = 92) := c1
          clear c1
          go_wp2_with (go_at_call 27; refine (parse (s.extract (i + 1) (i + 4)) (by rw [HSZ.out]; decide) (by rw [HSZ.out]; exact Nat.le_refl _) _ e2 e3 HS2.out HS3.out HC2.out HC3.out).mono ?_)
          rw [three h4]
          have hdr := drop4 h4
          have hN : (pu 0 [s[i + 1], s[i + 2], s[i + 3]]).1 ≤ 255 := pu_le _ 0 (by omega)
          rintro e w2 ⟨v, rfl, hv, hb2⟩
          have HI2 : Hid (Lib.IsBuilder 52 5 w.heap.size w.heap.size (Lib.byteCells acc) w2) := isB_below HI.out hb2
          have hz2 : w.heap.size ≤ w2.heap.size := by have := hb2.size; omega
          have hb5 : Below w.heap.size w w2 := hb.trans (hb2.mono (by omega))
          rcases hv with ⟨hcode, rfl⟩ | ⟨hcode, t, x, rfl⟩
          · have HE : Hid ((acc ++ [UInt8.ofNat (pu 0 [s[i + 1], s[i + 2], s[i + 3]]).1]) ++ unesc ((L s).drop (i + 4)) = unesc (L s)) := by
              have := HU.out
              rw [hdr, unesc_esc HC1.out hcode] at this
              show _ = _
              rw [← this]; simp
            clear hdr hcode HU HC1 hb2 HI HC2 HC3 HSZ
            generalize hNN : (pu 0 [s[i + 1], s[i + 2], s[i + 3]]).1 = N at *
            clear hNN
            have hN2 : (N : Int) ≤ 255 := by omega
            go_wp2_with (go_at_call 28; refine (writeByte w.heap.size w.heap.size (Lib.byteCells acc) (N : Int) _ HI2.out hbl hz2).mono ?_)
            rintro e w3 ⟨rfl, hB3, hb3⟩
            have HB3 : Hid (Lib.IsBuilder 52 5 w.heap.size w.heap.size (Lib.byteCells (acc ++ [UInt8.ofNat N])) w3) := by
              rw [byteCells_snoc, show ((UInt8.ofNat N).toNat : Int) = (N : Int) from by simp; omega]
              exact Or.inr hB3
            have hz3 : w.heap.size < w3.heap.size := hB3.lt
            have hb4 : Below w.heap.size w w3 := hb5.trans hb3
            clear hB3 hb3
            go_wp2
            go_roundw
            case rel => exact ⟨i + 4, acc ++ [UInt8.ofNat N], by omega, by simp; omega, by go_num, HE, HB3.out, hz3, hb4⟩
            case measure => simp [intOf]; omega
          · have HE : Hid ((acc ++ [s[i]]) ++ unesc ((L s).drop (i + 1)) = unesc (L s)) := by
              have := HU.out
              rw [hdr, unesc_not (fun h => hcode h.2)] at this
              show _ = _
              rw [← this, drop_L (show i + 1 < s.size by omega), drop_L (show i + 1 + 1 < s.size by omega), drop_L (show i + 1 + 1 + 1 < s.size by omega)]; simp
            clear hdr hcode HU HC1 hb2 HI HC2 HC3 HSZ
            generalize hNN : (pu 0 [s[i + 1], s[i + 2], s[i + 3]]).1 = N at *
            clear hNN
            go_wp2_with (go_at_call 28; refine (writeByte w.heap.size w.heap.size (Lib.byteCells acc) (s[i].toNat : Int) _ HI2.out hbl hz2).mono ?_)
            rintro e w3 ⟨rfl, hB3, hb3⟩
            have HB3 : Hid (Lib.IsBuilder 52 5 w.heap.size w.heap.size (Lib.byteCells (acc ++ [s[i]])) w3) := by rw [byteCells_snoc]; exact Or.inr hB3
            have hz3 : w.heap.size < w3.heap.size := hB3.lt
            have hb4 : Below w.heap.size w w3 := hb5.trans hb3
            clear hB3 hb3
            go_wp2
            go_roundw
            case rel => exact ⟨i + 1, acc ++ [s[i]], by omega, by simp; omega, by go_num, HE, HB3.out, hz3, hb4⟩
            case measure => simp [intOf]; omega
        · have v1 := beq92_t c1
          have HE : Hid ((acc ++ [s[i]]) ++ unesc ((L s).drop (i + 1)) = unesc (L s)) := by
            have := HU.out
            rw [drop_L hlt, unesc_short (by rw [List.length_drop, L_len]; omega)] at this
            show _ = _
            rw [← this]; simp
          have hle : w.heap.size ≤ wr.heap.size := by omega
          clear HU c1
          go_wp2_with (go_at_call 28; refine (writeByte w.heap.size w.heap.size (Lib.byteCells acc) (s[i].toNat : Int) _ HI.out hbl hle).mono ?_)
          rintro e w3 ⟨rfl, hB3, hb3⟩
          have HB3 : Hid (Lib.IsBuilder 52 5 w.heap.size w.heap.size (Lib.byteCells (acc ++ [s[i]])) w3) := by rw [byteCells_snoc]; exact Or.inr hB3
          have hz3 : w.heap.size < w3.heap.size := hB3.lt
          have hb4 : Below w.heap.size w w3 := hb.trans hb3
          clear hB3 hb3
          go_wp2
          go_roundw
          case rel => exact ⟨i + 1, acc ++ [s[i]], by omega, by simp; omega, by go_num, HE, HB3.out, hz3, hb4⟩
          case measure => simp [intOf]; omega
      · have v1 := beq92_f c1
        have HE : Hid ((acc ++ [s[i]]) ++ unesc ((L s).drop (i + 1)) = unesc (L s)) := by
          have := HU.out
          rw [drop_L hlt, unesc_ne c1] at this
          show _ = _
          rw [← this]; simp
        have hle : w.heap.size ≤ wr.heap.size := by omega
        clear HU c1
        go_wp2_with (go_at_call 28; refine (writeByte w.heap.size w.heap.size (Lib.byteCells acc) (s[i].toNat : Int) _ HI.out hbl hle).mono ?_)
        rintro e w3 ⟨rfl, hB3, hb3⟩
        have HB3 : Hid (Lib.IsBuilder 52 5 w.heap.size w.heap.size (Lib.byteCells (acc ++ [s[i]])) w3) := by rw [byteCells_snoc]; exact Or.inr hB3
        have hz3 : w.heap.size < w3.heap.size := hB3.lt
        have hb4 : Below w.heap.size w w3 := hb.trans hb3
        clear hB3 hb3
        go_wp2
        go_roundw
        case rel => exact ⟨i + 1, acc ++ [s[i]], by omega, by simp; omega, by go_num, HE, HB3.out, hz3, hb4⟩
        case measure => simp [intOf]; omega
    · have HE : Hid (acc = unesc (L s)) := by
        have := HU.out
        rw [List.drop_eq_nil_of_le (by rw [L_len]; omega)] at this
        show _ = _
        rw [← this]; simp [unesc]
      have hle : w.heap.size ≤ wr.heap.size := by omega
      clear HU
      go_wp2_with (go_at_call 29; refine (Tryd.Builder_String_any w.heap.size w.heap.size acc _ HI.out hle).mono ?_)
      rintro e w3 ⟨rfl, hb3⟩
      go_wp2
      go_ret
      exact ⟨by rw [← HE.out]; rfl, hb.trans hb3⟩

end Go.Proofs.Qxb6600128aDoor
