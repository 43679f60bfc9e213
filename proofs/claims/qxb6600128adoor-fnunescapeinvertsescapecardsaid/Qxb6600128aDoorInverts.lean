import Derived.Test.Qxb6600128aDoorShrinks
import Derived.Lib.SlBytesRow
namespace Go.Proofs.Qxb6600128aDoor
open Go.ChangeShapes Go.WideShapes Go.ChangeAt Go.RowKit
set_option linter.unusedVariables false

/-- Which bytes are written as an escape. -/
def need (all : Bool) (n : Nat) : Bool :=
  decide (n = 92) || if all then !(decide (33 ≤ n) && decide (n ≤ 126)) else decide (n = 32) || decide (n = 9) || decide (n = 10)
/-- A byte as the escaper writes it. -/
def esc1 (all : Bool) (c : UInt8) : List UInt8 :=
  if need all c.toNat = true then [92, UInt8.ofNat (48 + c.toNat / 64), UInt8.ofNat (48 + c.toNat / 8 % 8), UInt8.ofNat (48 + c.toNat % 8)] else [c]
def esc (all : Bool) : List UInt8 → List UInt8
  | [] => []
  | c :: cs => esc1 all c ++ esc all cs

theorem pu_oct : ∀ n : Fin 256, pu 0 [UInt8.ofNat (48 + n.val / 64), UInt8.ofNat (48 + n.val / 8 % 8), UInt8.ofNat (48 + n.val % 8)] = (n.val, 0) := by decide +kernel

theorem unesc_one (all : Bool) (c : UInt8) (rest : List UInt8) : unesc (esc1 all c ++ rest) = c :: unesc rest := by
  unfold esc1
  split
  · have h := pu_oct ⟨c.toNat, UInt8.toNat_lt c⟩
    simp only at h
    show unesc (92 :: _ :: _ :: _ :: rest) = _
    rw [unesc_esc rfl (by rw [h]), h]
    simp
  · rename_i hn
    refine unesc_ne fun e => hn ?_
    subst e
    rfl

theorem unesc_esc_all (all : Bool) (l : List UInt8) : unesc (esc all l) = l := by
  induction l with
  | nil => rfl
  | cons c cs ih => rw [esc, unesc_one, ih]

theorem esc1_len (all : Bool) (c : UInt8) : (esc1 all c).length ≤ 4 := by
  unfold esc1; split <;> simp
theorem esc_len (all : Bool) (l : List UInt8) : (esc all l).length ≤ 4 * l.length := by
  induction l with
  | nil => simp [esc]
  | cons c cs ih =>
    have := esc1_len all c
    rw [esc, List.length_append, List.length_cons]; omega
theorem esc_snoc (all : Bool) (l : List UInt8) (c : UInt8) : esc all (l ++ [c]) = esc all l ++ esc1 all c := by
  induction l with
  | nil => simp [esc]
  | cons a l ih => rw [List.cons_append, esc, ih, esc, List.append_assoc]

theorem beq_t {n : Nat} {k : Nat} (h : n = k) : ((n : Int) == (k : Int)) = true := by subst h; simp
theorem beq_f {n : Nat} {k : Nat} (h : ¬ n = k) : ((n : Int) == (k : Int)) = false := by
  rw [beq_eq_false_iff_ne]; omega

set_option maxHeartbeats 400000 in
theorem graphic (n : Nat) (hn : n < 256) (w : World) :
    Calls Tryd.prog 21 #[.int .u8 n] w fun e w' => e = .returned (.bool (decide (33 ≤ n) && decide (n ≤ 126))) ∧ w = w' := by
  by_cases h1 : 33 ≤ n
  · by_cases h2 : n ≤ 126
    · have d2 : decide ((n : Int) ≤ 126) = true := decide_eq_true (by omega)
      go_enter Tryd.func21, Tryd.ntmps21
      go_wp2
      go_ret
      exact ⟨by simp [h1, h2], rfl⟩
    · have d2 : decide ((n : Int) ≤ 126) = false := decide_eq_false (by omega)
      go_enter Tryd.func21, Tryd.ntmps21
      go_wp2
      go_ret
      exact ⟨by simp [h1, h2], rfl⟩
  · go_enter Tryd.func21, Tryd.ntmps21
    go_wp2
    go_ret
    exact ⟨by simp, rfl⟩

set_option maxHeartbeats 400000 in
theorem needs (n : Nat) (hn : n < 256) (all : Bool) (w : World) :
    Calls Tryd.prog 22 #[.int .u8 n, .bool all] w fun e w' => e = .returned (.bool (need all n)) ∧ w = w' := by
  by_cases h1 : n = 92
  · have v1 : ((n : Int) == 92) = true := beq_t h1
    have HE : Hid (need all n = true) := by rw [h1]; rfl
    clear h1
    go_enter Tryd.func22, Tryd.ntmps22
    go_wp2
    go_ret
    exact ⟨by rw [HE.out]; rfl, rfl⟩
  · have v1 : ((n : Int) == 92) = false := beq_f h1
    cases all with
    | true =>
      have HE : Hid (need true n = (!decide (33 ≤ n) || !decide (n ≤ 126))) := by simp [Hid, need, h1]
      clear h1
      go_enter Tryd.func22, Tryd.ntmps22
      go_wp2_with (go_at_call 21; refine (graphic n hn _).mono ?_; rintro e w' ⟨rfl, rfl⟩)
      go_ret
      exact ⟨by rw [HE.out]; rfl, rfl⟩
    | false =>
      by_cases h2 : n = 32
      · have v2 : ((n : Int) == 32) = true := beq_t h2
        have HE : Hid (need false n = true) := by simp [Hid, need, h2]
        clear h1 h2
        go_enter Tryd.func22, Tryd.ntmps22
        go_wp2
        go_ret
        exact ⟨by rw [HE.out]; rfl, rfl⟩
      · have v2 : ((n : Int) == 32) = false := beq_f h2
        by_cases h3 : n = 9
        · have v3 : ((n : Int) == 9) = true := beq_t h3
          have HE : Hid (need false n = true) := by simp [Hid, need, h3]
          clear h1 h2 h3
          go_enter Tryd.func22, Tryd.ntmps22
          go_wp2
          go_ret
          exact ⟨by rw [HE.out]; rfl, rfl⟩
        · have v3 : ((n : Int) == 9) = false := beq_f h3
          have HE : Hid (need false n = ((n : Int) == 10)) := by
            by_cases h4 : n = 10
            · rw [show ((n : Int) == 10) = true from beq_t h4]; simp [Hid, need, h4]
            · rw [show ((n : Int) == 10) = false from beq_f h4]; simp [Hid, need, h1, h2, h3, h4]
          clear h1 h2 h3
          go_enter Tryd.func22, Tryd.ntmps22
          go_wp2
          go_ret
          exact ⟨by rw [HE.out]; rfl, rfl⟩

/-- The value owns a row of bytes laid at or behind B (or is nil, and the row empty). -/
def Row (B : Nat) (v : Value) (xs : List UInt8) (w : World) : Prop := w.ownsRow B 5 1 v xs.length (Lib.byteCells xs)

/-- 'b = append(b, x)': x has been laid in a block of its own. -/
theorem wpList_push {ops : Array Oper} {rest : List Oper} {o : Oper} {a : Act} {Q : Exit → Act → World → Prop} (W : World)
    (hg : o.guard = none) (s x : Operand) (hop : o.op = Op.call { callee := Callee.builtin Builtin.append, args := #[s, x], argTypes := #[26, 26] })
    (B : Nat) (v : Value) (xs : List UInt8) (u : UInt8) (k : Int) (hu : (u.toNat : Int) = k) (hs : a.eval s = v) (hx : a.eval x = .slice (some ⟨W.heap.size, 0, none⟩) 1 1)
    (hO : Row B v xs W) (hB : B ≤ W.heap.size) (hlen : xs.length + 1 ≤ 140737488355328)
    (hK : ∀ v' w' ys, Hid (ys = xs ++ [u]) → ys.length = xs.length + 1 → Row B v' ys w' → Below B W w' → wpList Tryd.prog ops Q rest (a.put o.dst v') w') :
    wpList Tryd.prog ops Q (o :: rest) a (W.alloc (.cells #[.int .u8 k] 5)) := by
  subst hu
  obtain ⟨i0, hi, hz0, hz1, hz2⟩ := info_parts info5
  refine wpList_append_own (P := Tryd.prog) _ hg s x 26 hop B 5 i0 (.int .u8 0) 1 1 Tryd.underlying26 hi hz0 hz1 hz2 rfl (by decide) v xs.length (Lib.byteCells xs) hs (World.ownsRow.alloc hO _) ⟨W.heap.size, 0, none⟩ 1 1 [.int .u8 (u.toNat : Int)] hx rfl ?_ ?_ ?_ ?_ ?_ ?_
  · intro j v hj
    match j, hj with
    | 0, hj => simp at hj; subst hj; simp [Addr.add]
  · first | rfl | (intro u hu; simp at hu; subst hu; rfl)
  · unfold maxLen; omega
  · omega
  · simp; omega
  · intro v' w' hown hgrow _
    refine hK v' w' (xs ++ [u]) rfl (by simp) ?_ ?_
    · unfold Row
      rw [byteCells_snoc]
      simpa using hown
    · exact ((Below.refl B W).alloc (by omega) _).grown hgrow (by simp; omega) (fun k hk => (World.ownsRow.lt hO k hk).1)

theorem bits7 (n : Nat) (hn : n < 256) : bits .and .u8 (n : Int) 7 = (n : Int) % 8 := by
  have h := u8_and_nat n 7 hn (by omega)
  rw [show ((7 : Nat) : Int) = 7 from rfl] at h
  rw [h, show n &&& 7 = n % 8 from Nat.and_two_pow_sub_one_eq_mod n 3]
  omega

theorem ofNat_toNat {n : Nat} {k : Int} (h : n < 256) (e : (n : Int) = k) : ((UInt8.ofNat n).toNat : Int) = k := by simp; omega

set_option maxHeartbeats 2000000 in
set_option maxRecDepth 100000 in
theorem escaped (s : ByteArray) (hs : s.size ≤ 1048576) (all : Bool) (w : World) :
    Calls Tryd.prog 12 #[.slice none 0 0, .string s, .bool all] w fun e w' => ∃ v, e = .returned v ∧ Row w.heap.size v (esc all (L s)) w' ∧ Below w.heap.size w w' := by
  go_enter Tryd.func12, Tryd.ntmps12
  go_wp2_with fail
  go_loopw [0, 7] (fun vb vi wr => ∃ (i : Nat) (acc : List UInt8), i ≤ s.size ∧ acc.length ≤ 4 * i ∧ vi = .int .i64 i ∧ Hid (esc all ((L s).take i) = acc) ∧ Row w.heap.size vb acc wr ∧ Below w.heap.size w wr) (fun _ vi _ => s.size - (intOf vi).toNat)
  case atStart => exact ⟨0, [], by omega, by simp, rfl, by simp [Hid, esc], World.ownsRow_nil _ _ _ _, Below.refl _ _⟩
  case round =>
    obtain ⟨i, acc, hi, hal, rfl, HA, HO, hb⟩ := hrel
    have hz := hb.size
    by_cases hlt : i < s.size
    · have hlen1 : acc.length + 4 ≤ 140737488355328 := by omega
      have hs1 := esc_snoc all ((L s).take i) s[i]
      rw [← take_L hlt, HA.out] at hs1
      have hc : s[i].toNat < 256 := UInt8.toNat_lt _
      by_cases hn : need all s[i].toNat = true
      · have HE : Hid (esc all ((L s).take (i + 1)) = acc ++ [92] ++ [UInt8.ofNat (48 + s[i].toNat / 64)] ++ [UInt8.ofNat (48 + s[i].toNat / 8 % 8)] ++ [UInt8.ofNat (48 + s[i].toNat % 8)]) := by
          show _ = _
          rw [hs1, esc1, if_pos hn]; simp
        clear hs1 HA
        have b3 := bits7 (s[i].toNat / 8) (by omega)
        have b0 := bits7 s[i].toNat hc
        rw [show ((s[i].toNat / 8 : Nat) : Int) = (s[i].toNat : Int) / 8 from by omega] at b3
        go_wp2_with (go_at_call 22; refine (needs s[i].toNat hc all _).mono ?_)
        rw [hn]
        clear hn
        rintro e w' ⟨rfl, rfl⟩
        have q0 : 0 ≤ (s[i].toNat : Int) / 64 := by omega
        have q1 : (s[i].toNat : Int) / 64 < 8 := by omega
        have q2 : 0 ≤ (s[i].toNat : Int) / 8 % 8 := by omega
        have q3 : (s[i].toNat : Int) / 8 % 8 < 8 := by omega
        have q4 : 0 ≤ (s[i].toNat : Int) % 8 := by omega
        have q5 : (s[i].toNat : Int) % 8 < 8 := by omega
        have k1 := ofNat_toNat (n := 48 + s[i].toNat / 64) (k := 48 + (s[i].toNat : Int) / 64) (by omega) (by omega)
        have k2 := ofNat_toNat (n := 48 + s[i].toNat / 8 % 8) (k := 48 + (s[i].toNat : Int) / 8 % 8) (by omega) (by omega)
        have k3 := ofNat_toNat (n := 48 + s[i].toNat % 8) (k := 48 + (s[i].toNat : Int) % 8) (by omega) (by omega)
        have K1 : Hid _ := k1
        have K2 : Hid _ := k2
        have K3 : Hid _ := k3
        clear k1 k2 k3
        generalize UInt8.ofNat (48 + s[i].toNat / 64) = d1 at HE K1
        generalize UInt8.ofNat (48 + s[i].toNat / 8 % 8) = d2 at HE K2
        generalize UInt8.ofNat (48 + s[i].toNat % 8) = d3 at HE K3
        go_wp2_with (at_builtin; refine wpList_push _ rfl (.tmp 21) (.tmp 22) rfl w.heap.size u0 acc 92 92 rfl rfl rfl HO hz (by omega) ?_)
        intro x1 w1 y1 E1 l1 H1 g1
        have hb1 := hb.trans g1
        have hz1 := hb1.size
        clear g1 HO hb
        go_wp2_with (at_builtin; refine wpList_push _ rfl (.tmp 24) (.tmp 28) rfl w.heap.size x1 y1 _ _ K1.out rfl rfl H1 hz1 (by omega) ?_)
        intro x2 w2 y2 E2 l2 H2 g2
        have hb2 := hb1.trans g2
        have hz2 := hb2.size
        clear g2 H1 hb1
        go_wp2_with (at_builtin; refine wpList_push _ rfl (.tmp 30) (.tmp 35) rfl w.heap.size x2 y2 _ _ K2.out rfl rfl H2 hz2 (by omega) ?_)
        intro x3 w3 y3 E3 l3 H3 g3
        have hb3 := hb2.trans g3
        have hz3 := hb3.size
        clear g3 H2 hb2
        go_wp2_with (at_builtin; refine wpList_push _ rfl (.tmp 37) (.tmp 41) rfl w.heap.size x3 y3 _ _ K3.out rfl rfl H3 hz3 (by omega) ?_)
        intro x4 w4 y4 E4 l4 H4 g4
        have hb4 := hb3.trans g4
        clear g4 H3 hb3
        have HF : Hid (esc all ((L s).take (i + 1)) = y4) := by
          show _ = _
          rw [HE.out, E4.out, E3.out, E2.out, E1.out]
        clear E1 E2 E3 E4 HE K1 K2 K3 b0 b3
        go_wp2
        go_roundw
        case rel => exact ⟨i + 1, y4, by omega, by omega, by go_num, HF, H4, hb4⟩
        case measure => simp [intOf]; omega
      · have HE : Hid (esc all ((L s).take (i + 1)) = acc ++ [s[i]]) := by
          show _ = _
          rw [hs1, esc1, if_neg hn]
        have hn' : need all s[i].toNat = false := by simpa using hn
        clear hs1 HA hn
        go_wp2_with (go_at_call 22; refine (needs s[i].toNat hc all _).mono ?_)
        rw [hn']
        clear hn'
        rintro e w' ⟨rfl, rfl⟩
        go_wp2_with (at_builtin; refine wpList_push _ rfl (.tmp 43) (.tmp 45) rfl w.heap.size u0 acc s[i] _ rfl rfl rfl HO hz (by omega) ?_)
        intro x1 w1 y1 E1 l1 H1 g1
        have hb1 := hb.trans g1
        clear g1 HO hb
        have HF : Hid (esc all ((L s).take (i + 1)) = y1) := by
          show _ = _
          rw [HE.out, E1.out]
        clear E1 HE
        go_wp2
        go_roundw
        case rel => exact ⟨i + 1, y1, by omega, by omega, by go_num, HF, H1, hb1⟩
        case measure => simp [intOf]; omega
    · have HE : Hid (esc all (L s) = acc) := by
        have := HA.out
        rw [List.take_of_length_le (by rw [L_len]; omega)] at this
        exact this
      clear HA
      go_wp2
      go_ret
      exact ⟨_, rfl, by rw [HE.out]; exact HO, hb⟩

theorem row_convert {B : Nat} {v : Value} {xs : List UInt8} {w : World} (h : Row B v xs w) : (convert 26 9 v).run Tryd.prog w = .ok (.string ⟨xs.toArray⟩) w := by
  have h0 : w.ownsRow B 5 1 v xs.length (Lib.byteCells xs) := h
  obtain ⟨_, ⟨hv, hn⟩ | ⟨g, cap, cur, hv, _⟩⟩ := h
  · have e : xs = [] := List.eq_nil_of_length_eq_zero hn
    subst hv; subst e
    exact run_convert_bytes_nil (P := Tryd.prog) w 26 5 Tryd.underlying26 Tryd.underlying5 0 0 9 Tryd.underlying9
  · subst hv
    have hc : Lib.Bytes w g 0 ⟨xs.toArray⟩ := by
      intro i hi
      have hi' : i < xs.length := by rw [mk_size] at hi; exact hi
      rw [Nat.zero_add, h0.cellAt i (by omega)]
      simp [Lib.byteCells, hi']
      rfl
    have := Lib.run_convert_whole (P := Tryd.prog) w 26 5 9 Tryd.underlying26 Tryd.underlying5 Tryd.underlying9 g 0 ⟨xs.toArray⟩ hc cap
    rw [mk_size] at this
    exact this

set_option maxHeartbeats 400000 in
theorem zzbytes17 (s : ByteArray) (all : Bool) (w : World) (h2 : s.size ≤ maxLen) :
    Calls Tryd.prog 17 #[.string s, .bool all] w fun e w' => e = .returned (.bool (decide (s.size ≤ 1048576))) ∧ w = w' := by
  unfold maxLen at h2
  by_cases h : s.size ≤ 1048576
  · go_enter Tryd.func17, Tryd.ntmps17
    go_wp2
    go_ret
    exact ⟨by simp [h], rfl⟩
  · go_enter Tryd.func17, Tryd.ntmps17
    go_wp2
    go_ret
    exact ⟨by simp [h], rfl⟩

theorem back (s : ByteArray) : ByteArray.mk (L s).toArray = s := by
  apply ByteArray.ext
  simp [L]

set_option maxHeartbeats 1000000 in
theorem walk6 (s : ByteArray) (all : Bool) (w0 : s.size ≤ maxLen) (w : World) (e2 e3 : Value) (hs2 : Sent e2) (hs3 : Sent e3) (hc2 : w.cell? ⟨2, 0, none⟩ = some e2) (hc3 : w.cell? ⟨3, 0, none⟩ = some e3) :
    Calls Tryd.prog 6 #[.string s, .bool all] w fun e w' => e = .returned (.bool true) ∧ Below w.heap.size w w' := by
  have HZ : Hid (∀ w, Calls Tryd.prog 17 #[.string s, .bool all] w fun e w' => e = .returned (.bool (decide (s.size ≤ 1048576))) ∧ w = w') := fun w => zzbytes17 s all w w0
  unfold maxLen at w0
  by_cases hs : s.size ≤ 1048576
  case neg =>
    clear hs2 hs3 hc2 hc3
    go_enter Tryd.func6, Tryd.ntmps6
    go_wp2_with (go_at_call 17; refine (HZ.out _).mono ?_; rintro e w' ⟨rfl, rfl⟩)
    go_ret
    exact ⟨rfl, Below.refl _ _⟩
  have H : Hid (Calls Tryd.prog 12 #[.slice none 0 0, .string s, .bool all] w fun e w' => ∃ v, e = .returned v ∧ Row w.heap.size v (esc all (L s)) w' ∧ Below w.heap.size w w') := escaped s hs all w
  have HS2 : Hid (Sent e2) := hs2
  have HS3 : Hid (Sent e3) := hs3
  have H2 : Hid (w.cell? ⟨2, 0, none⟩ = some e2) := hc2
  have H3 : Hid (w.cell? ⟨3, 0, none⟩ = some e3) := hc3
  clear hs2 hs3 hc2 hc3
  have hel : (esc all (L s)).length ≤ 4194304 := by
    have := esc_len all (L s)
    rw [L_len] at this
    omega
  have HU : Hid (unesc (esc all (L s)) = L s) := unesc_esc_all all (L s)
  generalize esc all (L s) = xs at *
  go_enter Tryd.func6, Tryd.ntmps6
  go_wp2_with fail
  refine (HZ.out _).mono ?_
  rintro e w' ⟨rfl, rfl⟩
  go_wp2_with fail
  refine H.out.mono ?_
  rintro e w1 ⟨v, rfl, hr, hb⟩
  have hk := row_convert hr
  have HU2 : Hid (unesc (L ⟨xs.toArray⟩) = L s) := by
    have : L ⟨xs.toArray⟩ = xs := by simp [L]
    show _ = _
    rw [this]; exact HU.out
  have hsz : (ByteArray.mk xs.toArray).size ≤ 4194304 := by rw [mk_size]; exact hel
  clear hr HU hel
  generalize ByteArray.mk xs.toArray = out at *
  have HZU : Hid (Calls Tryd.prog 18 #[.string out] w1 fun e w' => e = .returned (.string s) ∧ Below w1.heap.size w1 w') := by
    have := zzunescape out hsz w1 e2 e3 HS2.out HS3.out (cell_later hb H2.out) (cell_later hb H3.out)
    rw [HU2.out, back] at this
    exact this
  clear HS2 HS3 H2 H3 HU2 H HZ
  go_wp2_with fail
  refine HZU.out.mono ?_
  rintro e w2 ⟨rfl, hb2⟩
  go_wp2
  go_ret
  exact ⟨rfl, hb.trans (hb2.mono hb.size)⟩
end Go.Proofs.Qxb6600128aDoor
