/- A component and an address of the package, made of plain data. Conditions: the protocols are those of the table, nothing is too long. -/
import Derived.Test.YtkhonkejebdcgaaGreatDoorJWords
import Derived.Lib.Varint
import Derived.IntWalk
import Derived.Test.YtkhonkejebdcgaaGreatDoorSxB
/- A component of the package, made of a component of plain data: its bytes, its protocol, where its value begins. Conditions: the protocol of the code is known, and the value is not too long. -/
namespace Go.Proofs.YtkhonkejebdcgaaGreatDoor
open Go Go.SX
set_option maxHeartbeats 8000000
set_option maxRecDepth 100000

theorem elB : Elem Tryz.prog 30 5 1 1 := Elem.of (z := .int .u8 0) (by kernel_rfl) (by kernel_rfl) rfl
theorem uU8 : Tryz.prog.underlying 5 = some (.int .u8) := by kernel_rfl
theorem uBytes : Tryz.prog.underlying 30 = some (.slice 5) := by kernel_rfl
theorem uString : Tryz.prog.underlying 9 = some .string := by kernel_rfl
/-- The varint of a number. -/
def UvTo : Prop := ∀ (n : Nat) (w : World), n < 9223372036854775808 → Calls Tryz.prog 63 #[.int .u64 n] w fun e w1 =>
  ∃ v, e = .returned v ∧ Ext [] w w1 ∧ ∃ b c, v = .slice (some ⟨b, 0, none⟩) (Lib.uvarint n).length c ∧ w1.heap[b]? = some (.cells ⟨ucells (Lib.uvarint n)⟩ 5 (0, 0)) ∧ w.heap.size ≤ b
/-- What stands ahead of the value. -/
def headOf (vc : List UInt8) (size : Int) (n : Nat) : List UInt8 := if size < 0 then vc ++ Lib.uvarint n else vc
def bytesOf (vc : List UInt8) (size : Int) (val : List UInt8) : ByteArray := ⟨⟨headOf vc size val.length ++ val⟩⟩
/-- A slice holds these bytes. -/
structure BytesIn (w : World) (a : Option Addr) (l : List UInt8) : Prop where
  at_ : ∀ (j : Nat) (u : UInt8), l[j]? = some u → ∃ ad, a = some ad ∧ w.cell? (ad.add j) = some (.int .u8 (u.toNat : Int))
  none : a = none → l = []
theorem BytesIn.later {w w' : World} {a : Option Addr} {l : List UInt8} (h : BytesIn w a l) (hx : Ext [] w w') : BytesIn w' a l :=
  ⟨fun j u hj => let ⟨ad, h1, h2⟩ := h.at_ j u hj; ⟨ad, h1, hx.cell h2 (by simp)⟩, h.none⟩
theorem BytesIn.cells {w : World} {a : Option Addr} {l : List UInt8} (h : BytesIn w a l) (j : Nat) (u : Value) (hj : (ucells l)[j]? = some u) : ∃ ad, a = some ad ∧ w.cell? (ad.add j) = some u := by
  unfold ucells at hj
  rw [List.getElem?_map] at hj
  cases hl : l[j]? with
  | none => rw [hl] at hj; cases hj
  | some x =>
    rw [hl] at hj
    simp only [Option.map_some, Option.some.injEq] at hj
    subst hj
    exact h.at_ j x hl
abbrev CompPost (w : World) (r : Row) (val : List UInt8) (e : Ending) (w1 : World) : Prop :=
  ∃ v, e = .returned v ∧ Ext [] w w1 ∧ ∃ pb vb, v = .agg #[.string (bytesOf r.vc r.size val), .pointer (some ⟨pb, 0, none⟩), .int .i64 (Int.ofNat (headOf r.vc r.size val.length).length)] ∧ RowAt w1 pb vb r ∧ w.heap.size ≤ pb ∧ w.heap.size ≤ vb
theorem headOf_F {vc : List UInt8} {size : Int} {n : Nat} (h : decide (size < 0) = false) : headOf vc size n = vc := by unfold headOf; rw [if_neg (by simpa using h)]
theorem headOf_V {vc : List UInt8} {size : Int} {n : Nat} (h : decide (size < 0) = true) : headOf vc size n = vc ++ Lib.uvarint n := by unfold headOf; rw [if_pos (by simpa using h)]
theorem componentNF (hu : UvTo) (code : Int) (name : ByteArray) (c size : Int) (path : Bool) (vc : List UInt8) (hc : Coded code ⟨name, c, size, path, none, vc⟩) (hpos : (c == 0) = false) (hs : decide (size < 0) = false) (hvc : vc.length ≤ 10) (va : Option Addr) (cv : Nat)
    (val : List UInt8) (hbig : val.length ≤ 1099511627776) (w : World) (hval : BytesIn w va val) :
    Calls Tryz.prog 38 #[.agg #[.int .i64 code, .slice va val.length cv]] w (CompPost w ⟨name, c, size, path, none, vc⟩ val) := by
  refine calls_of0 (args := [.agg #[.int .i64 code, .slice va val.length cv]]) Tryz.func38 rfl rfl rfl ?_
  refine To.runF 17 [0] (fun _ _ => by kernel_rfl) fun f1 g1 l1 => ?_
  refine To.callN 72 #[.int .i64 code] (by kernel_rfl) (fun _ => by kernel_rfl) (fun w hw => hc w) (fun w2 v2 w1 hw hx hv hnew hwi => ?_)
  obtain ⟨vb, rfl, hvb, hle⟩ := hv
  refine To.withAt vb (.cells ⟨ucells vc⟩ 5 (0, 0)) false hvb (hnew vb hle) (fun h => by cases h) ?_
  refine To.runF 13 [2, 2, 2, 2, 2, 2, 2, 2, 2, 2, 2, 2, 4, 4, 4, 4, 4, 4, 4] (fun _ _ => by kernel_rfl) fun f2 g2 l2 => ?_
  refine To.testF (c == 0) (by kernel_rfl) hpos ?_
  refine To.runF 6 [4] (fun _ _ => by kernel_rfl) fun f3 g3 l3 => ?_
  refine To.appendE (ty := 30) elB 5 (f3 0) 0 0 [] [] (some ⟨vb, 0, none⟩) vc.length vc.length (ucells vc) vc.length (ucells vc) (by kernel_rfl) (by kernel_rfl) (by omega) rfl rfl rfl (Nat.le_refl _) (Nat.zero_le _) (by rw [ucells_length, Nat.mul_one])
    (fun w hw j u hj => ⟨_, rfl, hw.cellAt0 (j := 3) (b := vb) (l := ucells vc) (e := 5) (f := (0, 0)) (q := false) (by kernel_rfl) hj⟩) (fun h => by cases h) (ucells_one _) (by simp only [maxLen]; omega) (by omega) (held_nil (by kernel_rfl)) ?_
  intro w3 w4 g4 c4 r4 hw3 hg4 ho4 hl4 hn4 hm4
  refine To.runF 9 [4] (fun _ _ => by kernel_rfl) fun f4 g5 l4 => ?_
  refine To.testF (decide (size < 0)) (by kernel_rfl) hs ?_
  refine To.runF 15 [1, 0, 0, 0, 1, 0, 2, 3, 4, 0, 7] (fun _ _ => by kernel_rfl) fun f5 g6 l5 => ?_
  refine To.appendE (ty := 30) elB 6 g4 vc.length c4 (ucells vc) r4 va val.length cv (ucells val) (vc.length + val.length) (ucells (vc ++ val)) (by kernel_rfl) (by kernel_rfl) rfl (ucells_append _ _) (by rw [ucells_length, Nat.mul_one]) hl4 hn4 hm4 (by rw [ucells_length, Nat.mul_one])
    (fun w hw => (hval.later hw.ext).cells) (fun h => by rw [hval.none h]; rfl) (ucells_one _) (by simp only [maxLen]; omega) (by omega) (held_in [0] 6 (by kernel_rfl) (o := .cells ⟨ucells vc ++ r4⟩ 5 (0, 0)) (q := true) (by kernel_rfl) (by decide)) ?_
  intro w5 w6 g5 c5 r5 hw5 hg5 ho5 hl5 hn5 hm5
  refine To.textOf (some ⟨g5, 0, none⟩) (vc.length + val.length) c5 (vc ++ val) (by rw [List.length_append]) uBytes uString uU8 (by kernel_rfl)
    (fun w hw j u hj => ⟨_, rfl, hw.cellAt0 (j := 7) (b := g5) (l := ucells (vc ++ val) ++ r5) (e := 5) (f := (0, 0)) (q := true) (by kernel_rfl) (ucells_get_app hj)⟩) (fun h => by cases h) ?_
  refine To.runF 17 [] (fun _ _ => by kernel_rfl) fun f6 g7 l6 => ?_
  refine To.callN 72 #[.int .i64 code] (by kernel_rfl) (fun _ => by kernel_rfl) (fun w hw => hc w) (fun w7 v7 w8 hw7 hx7 hv7 hnew7 hwi7 => ?_)
  obtain ⟨vd, rfl, hvd, hle7⟩ := hv7
  refine To.withAt vd (.cells ⟨ucells vc⟩ 5 (0, 0)) true hvd (hnew7 vd hle7) (fun _ => .inl (Nat.le_trans hwi7 hle7)) ?_
  refine To.runF 10 [10, 10, 10, 10, 10, 10, 10] (fun _ _ => by kernel_rfl) fun f7 g8 l7 => ?_
  refine To.testF (c == 0) (by kernel_rfl) hpos ?_
  refine To.runF 13 [8, 8, 8, 8, 8, 8, 1, 1, 1] (fun _ _ => by kernel_rfl) fun f8 g9 l8 => ?_
  exact To.ret [1, 1, 1] (.agg ⟨[.string ⟨⟨vc ++ val⟩⟩, .pointer (some ⟨f7 0, 0, none⟩), .int .i64 (Int.ofNat vc.length)]⟩) (by kernel_rfl) (by kernel_rfl) fun w hw =>
    ⟨_, rfl, hw.ext, f7 0, vd, by simp only [bytesOf, headOf_F hs], ⟨hw.blk (j := 10) (b := f7 0) (o := .cells ⟨rowCells ⟨name, c, size, path, none, vc⟩ vd⟩ 94 (0, 0)) (q := true) (by kernel_rfl),
      hw.blk (j := 9) (b := vd) (o := .cells ⟨ucells vc⟩ 5 (0, 0)) (q := true) (by kernel_rfl)⟩, hw.new (j := 10) (b := f7 0) (o := .cells ⟨rowCells ⟨name, c, size, path, none, vc⟩ vd⟩ 94 (0, 0)) (by kernel_rfl), hw.new (j := 9) (b := vd) (o := .cells ⟨ucells vc⟩ 5 (0, 0)) (by kernel_rfl)⟩
theorem componentNV (hu : UvTo) (code : Int) (name : ByteArray) (c size : Int) (path : Bool) (vc : List UInt8) (hc : Coded code ⟨name, c, size, path, none, vc⟩) (hpos : (c == 0) = false) (hs : decide (size < 0) = true) (hvc : vc.length ≤ 10) (va : Option Addr) (cv : Nat)
    (val : List UInt8) (hbig : val.length ≤ 1099511627776) (w : World) (hval : BytesIn w va val) :
    Calls Tryz.prog 38 #[.agg #[.int .i64 code, .slice va val.length cv]] w (CompPost w ⟨name, c, size, path, none, vc⟩ val) := by
  refine calls_of0 (args := [.agg #[.int .i64 code, .slice va val.length cv]]) Tryz.func38 rfl rfl rfl ?_
  refine To.runF 17 [0] (fun _ _ => by kernel_rfl) fun f1 g1 l1 => ?_
  refine To.callN 72 #[.int .i64 code] (by kernel_rfl) (fun _ => by kernel_rfl) (fun w hw => hc w) (fun w2 v2 w1 hw hx hv hnew hwi => ?_)
  obtain ⟨vb, rfl, hvb, hle⟩ := hv
  refine To.withAt vb (.cells ⟨ucells vc⟩ 5 (0, 0)) false hvb (hnew vb hle) (fun h => by cases h) ?_
  refine To.runF 13 [2, 2, 2, 2, 2, 2, 2, 2, 2, 2, 2, 2, 4, 4, 4, 4, 4, 4, 4] (fun _ _ => by kernel_rfl) fun f2 g2 l2 => ?_
  refine To.testF (c == 0) (by kernel_rfl) hpos ?_
  refine To.runF 6 [4] (fun _ _ => by kernel_rfl) fun f3 g3 l3 => ?_
  refine To.appendE (ty := 30) elB 5 (f3 0) 0 0 [] [] (some ⟨vb, 0, none⟩) vc.length vc.length (ucells vc) vc.length (ucells vc) (by kernel_rfl) (by kernel_rfl) (by omega) rfl rfl rfl (Nat.le_refl _) (Nat.zero_le _) (by rw [ucells_length, Nat.mul_one])
    (fun w hw j u hj => ⟨_, rfl, hw.cellAt0 (j := 3) (b := vb) (l := ucells vc) (e := 5) (f := (0, 0)) (q := false) (by kernel_rfl) hj⟩) (fun h => by cases h) (ucells_one _) (by simp only [maxLen]; omega) (by omega) (held_nil (by kernel_rfl)) ?_
  intro w3 w4 g4 c4 r4 hw3 hg4 ho4 hl4 hn4 hm4
  refine To.runF 9 [4] (fun _ _ => by kernel_rfl) fun f4 g5 l4 => ?_
  refine To.testT (decide (size < 0)) (by kernel_rfl) hs ?_
  refine To.runF 6 [0] (fun _ _ => by kernel_rfl) fun f5 g6 l5 => ?_
  have hwrap : IntKind.u64.wrap (Int.ofNat val.length) = Int.ofNat val.length := IntWalk.u64_in _ ⟨Int.natCast_nonneg _, by simp only [Int.ofNat_eq_natCast]; omega⟩
  have hul : (Lib.uvarint val.length).length ≤ 10 := Lib.uvarint_length64 (by omega)
  refine To.callN 63 #[.int .u64 (IntKind.u64.wrap (Int.ofNat val.length))] (by kernel_rfl) (fun _ => by kernel_rfl) (fun w hw => by rw [hwrap]; exact hu val.length w (by omega)) (fun w9 v9 w10 hw9 hx9 hv9 hnew9 hwi9 => ?_)
  obtain ⟨ub, uc, rfl, hub, hle9⟩ := hv9
  refine To.withAt ub (.cells ⟨ucells (Lib.uvarint val.length)⟩ 5 (0, 0)) false hub (hnew9 ub hle9) (fun h => by cases h) ?_
  refine To.appendE (ty := 30) elB 6 g4 vc.length c4 (ucells vc) r4 (some ⟨ub, 0, none⟩) (Lib.uvarint val.length).length uc (ucells (Lib.uvarint val.length)) (vc.length + (Lib.uvarint val.length).length) (ucells (vc ++ Lib.uvarint val.length)) (by kernel_rfl) (by kernel_rfl) rfl (ucells_append _ _) (by rw [ucells_length, Nat.mul_one]) hl4 hn4 hm4 (by rw [ucells_length, Nat.mul_one])
    (fun w hw j u hj => ⟨_, rfl, hw.cellAt0 (j := 7) (b := ub) (l := ucells (Lib.uvarint val.length)) (e := 5) (f := (0, 0)) (q := false) (by kernel_rfl) hj⟩) (fun h => by cases h) (ucells_one _) (by simp only [maxLen]; omega) (by omega) (held_nil (by kernel_rfl)) ?_
  intro w11 w12 g11 c11 r11 hw11 hg11 ho11 hl11 hn11 hm11
  refine To.runF 16 [1, 0, 0, 0, 1, 0, 2, 3, 4, 0, 7] (fun _ _ => by kernel_rfl) fun f6 g7 l6 => ?_
  refine To.appendE (ty := 30) elB 8 g11 (vc.length + (Lib.uvarint val.length).length) c11 (ucells (vc ++ Lib.uvarint val.length)) r11 va val.length cv (ucells val) (vc.length + (Lib.uvarint val.length).length + val.length) (ucells (vc ++ Lib.uvarint val.length ++ val)) (by kernel_rfl) (by kernel_rfl) rfl (ucells_append _ _) (by rw [ucells_length, List.length_append, Nat.mul_one]) hl11 hn11 hm11 (by rw [ucells_length, Nat.mul_one])
    (fun w hw => (hval.later hw.ext).cells) (fun h => by rw [hval.none h]; rfl) (ucells_one _) (by simp only [maxLen]; omega) (by omega) (held_in [0] 8 (by kernel_rfl) (o := .cells ⟨ucells (vc ++ Lib.uvarint val.length) ++ r11⟩ 5 (0, 0)) (q := true) (by kernel_rfl) (by decide)) ?_
  intro w5 w6 g5 c5 r5 hw5 hg5 ho5 hl5 hn5 hm5
  refine To.textOf (some ⟨g5, 0, none⟩) (vc.length + (Lib.uvarint val.length).length + val.length) c5 (vc ++ Lib.uvarint val.length ++ val) (by rw [List.length_append, List.length_append]) uBytes uString uU8 (by kernel_rfl)
    (fun w hw j u hj => ⟨_, rfl, hw.cellAt0 (j := 9) (b := g5) (l := ucells (vc ++ Lib.uvarint val.length ++ val) ++ r5) (e := 5) (f := (0, 0)) (q := true) (by kernel_rfl) (ucells_get_app hj)⟩) (fun h => by cases h) ?_
  refine To.runF 17 [] (fun _ _ => by kernel_rfl) fun f7 g8 l7 => ?_
  refine To.callN 72 #[.int .i64 code] (by kernel_rfl) (fun _ => by kernel_rfl) (fun w hw => hc w) (fun w7 v7 w8 hw7 hx7 hv7 hnew7 hwi7 => ?_)
  obtain ⟨vd, rfl, hvd, hle7⟩ := hv7
  refine To.withAt vd (.cells ⟨ucells vc⟩ 5 (0, 0)) true hvd (hnew7 vd hle7) (fun _ => .inl (Nat.le_trans hwi7 hle7)) ?_
  refine To.runF 10 [12, 12, 12, 12, 12, 12, 12] (fun _ _ => by kernel_rfl) fun f8 g9 l8 => ?_
  refine To.testF (c == 0) (by kernel_rfl) hpos ?_
  refine To.runF 13 [10, 10, 10, 10, 10, 10, 1, 1, 1] (fun _ _ => by kernel_rfl) fun f9 g10 l9 => ?_
  exact To.ret [1, 1, 1] (.agg ⟨[.string ⟨⟨vc ++ Lib.uvarint val.length ++ val⟩⟩, .pointer (some ⟨f8 0, 0, none⟩), .int .i64 (Int.ofNat (vc.length + (Lib.uvarint val.length).length))]⟩) (by kernel_rfl) (by kernel_rfl) fun w hw =>
    ⟨_, rfl, hw.ext, f8 0, vd, by simp only [bytesOf, headOf_V hs, List.length_append], ⟨hw.blk (j := 12) (b := f8 0) (o := .cells ⟨rowCells ⟨name, c, size, path, none, vc⟩ vd⟩ 94 (0, 0)) (q := true) (by kernel_rfl),
      hw.blk (j := 11) (b := vd) (o := .cells ⟨ucells vc⟩ 5 (0, 0)) (q := true) (by kernel_rfl)⟩, hw.new (j := 12) (b := f8 0) (o := .cells ⟨rowCells ⟨name, c, size, path, none, vc⟩ vd⟩ 94 (0, 0)) (by kernel_rfl), hw.new (j := 11) (b := vd) (o := .cells ⟨ucells vc⟩ 5 (0, 0)) (by kernel_rfl)⟩
theorem componentSF (hu : UvTo) (code : Int) (name : ByteArray) (c size : Int) (path : Bool) (t : TypeId) (x : Value) (vc : List UInt8) (hc : Coded code ⟨name, c, size, path, some (t, x), vc⟩) (hpos : (c == 0) = false) (hs : decide (size < 0) = false) (hvc : vc.length ≤ 10) (va : Option Addr) (cv : Nat)
    (val : List UInt8) (hbig : val.length ≤ 1099511627776) (w : World) (hval : BytesIn w va val) :
    Calls Tryz.prog 38 #[.agg #[.int .i64 code, .slice va val.length cv]] w (CompPost w ⟨name, c, size, path, some (t, x), vc⟩ val) := by
  refine calls_of0 (args := [.agg #[.int .i64 code, .slice va val.length cv]]) Tryz.func38 rfl rfl rfl ?_
  refine To.runF 17 [0] (fun _ _ => by kernel_rfl) fun f1 g1 l1 => ?_
  refine To.callN 72 #[.int .i64 code] (by kernel_rfl) (fun _ => by kernel_rfl) (fun w hw => hc w) (fun w2 v2 w1 hw hx hv hnew hwi => ?_)
  obtain ⟨vb, rfl, hvb, hle⟩ := hv
  refine To.withAt vb (.cells ⟨ucells vc⟩ 5 (0, 0)) false hvb (hnew vb hle) (fun h => by cases h) ?_
  refine To.runF 13 [2, 2, 2, 2, 2, 2, 2, 2, 2, 2, 2, 2, 4, 4, 4, 4, 4, 4, 4] (fun _ _ => by kernel_rfl) fun f2 g2 l2 => ?_
  refine To.testF (c == 0) (by kernel_rfl) hpos ?_
  refine To.runF 6 [4] (fun _ _ => by kernel_rfl) fun f3 g3 l3 => ?_
  refine To.appendE (ty := 30) elB 5 (f3 0) 0 0 [] [] (some ⟨vb, 0, none⟩) vc.length vc.length (ucells vc) vc.length (ucells vc) (by kernel_rfl) (by kernel_rfl) (by omega) rfl rfl rfl (Nat.le_refl _) (Nat.zero_le _) (by rw [ucells_length, Nat.mul_one])
    (fun w hw j u hj => ⟨_, rfl, hw.cellAt0 (j := 3) (b := vb) (l := ucells vc) (e := 5) (f := (0, 0)) (q := false) (by kernel_rfl) hj⟩) (fun h => by cases h) (ucells_one _) (by simp only [maxLen]; omega) (by omega) (held_nil (by kernel_rfl)) ?_
  intro w3 w4 g4 c4 r4 hw3 hg4 ho4 hl4 hn4 hm4
  refine To.runF 9 [4] (fun _ _ => by kernel_rfl) fun f4 g5 l4 => ?_
  refine To.testF (decide (size < 0)) (by kernel_rfl) hs ?_
  refine To.runF 15 [1, 0, 0, 0, 1, 0, 2, 3, 4, 0, 7] (fun _ _ => by kernel_rfl) fun f5 g6 l5 => ?_
  refine To.appendE (ty := 30) elB 6 g4 vc.length c4 (ucells vc) r4 va val.length cv (ucells val) (vc.length + val.length) (ucells (vc ++ val)) (by kernel_rfl) (by kernel_rfl) rfl (ucells_append _ _) (by rw [ucells_length, Nat.mul_one]) hl4 hn4 hm4 (by rw [ucells_length, Nat.mul_one])
    (fun w hw => (hval.later hw.ext).cells) (fun h => by rw [hval.none h]; rfl) (ucells_one _) (by simp only [maxLen]; omega) (by omega) (held_in [0] 6 (by kernel_rfl) (o := .cells ⟨ucells vc ++ r4⟩ 5 (0, 0)) (q := true) (by kernel_rfl) (by decide)) ?_
  intro w5 w6 g5 c5 r5 hw5 hg5 ho5 hl5 hn5 hm5
  refine To.textOf (some ⟨g5, 0, none⟩) (vc.length + val.length) c5 (vc ++ val) (by rw [List.length_append]) uBytes uString uU8 (by kernel_rfl)
    (fun w hw j u hj => ⟨_, rfl, hw.cellAt0 (j := 7) (b := g5) (l := ucells (vc ++ val) ++ r5) (e := 5) (f := (0, 0)) (q := true) (by kernel_rfl) (ucells_get_app hj)⟩) (fun h => by cases h) ?_
  refine To.runF 17 [] (fun _ _ => by kernel_rfl) fun f6 g7 l6 => ?_
  refine To.callN 72 #[.int .i64 code] (by kernel_rfl) (fun _ => by kernel_rfl) (fun w hw => hc w) (fun w7 v7 w8 hw7 hx7 hv7 hnew7 hwi7 => ?_)
  obtain ⟨vd, rfl, hvd, hle7⟩ := hv7
  refine To.withAt vd (.cells ⟨ucells vc⟩ 5 (0, 0)) true hvd (hnew7 vd hle7) (fun _ => .inl (Nat.le_trans hwi7 hle7)) ?_
  refine To.runF 10 [10, 10, 10, 10, 10, 10, 10] (fun _ _ => by kernel_rfl) fun f7 g8 l7 => ?_
  refine To.testF (c == 0) (by kernel_rfl) hpos ?_
  refine To.runF 13 [8, 8, 8, 8, 8, 8, 1, 1, 1] (fun _ _ => by kernel_rfl) fun f8 g9 l8 => ?_
  exact To.ret [1, 1, 1] (.agg ⟨[.string ⟨⟨vc ++ val⟩⟩, .pointer (some ⟨f7 0, 0, none⟩), .int .i64 (Int.ofNat vc.length)]⟩) (by kernel_rfl) (by kernel_rfl) fun w hw =>
    ⟨_, rfl, hw.ext, f7 0, vd, by simp only [bytesOf, headOf_F hs], ⟨hw.blk (j := 10) (b := f7 0) (o := .cells ⟨rowCells ⟨name, c, size, path, some (t, x), vc⟩ vd⟩ 94 (0, 0)) (q := true) (by kernel_rfl),
      hw.blk (j := 9) (b := vd) (o := .cells ⟨ucells vc⟩ 5 (0, 0)) (q := true) (by kernel_rfl)⟩, hw.new (j := 10) (b := f7 0) (o := .cells ⟨rowCells ⟨name, c, size, path, some (t, x), vc⟩ vd⟩ 94 (0, 0)) (by kernel_rfl), hw.new (j := 9) (b := vd) (o := .cells ⟨ucells vc⟩ 5 (0, 0)) (by kernel_rfl)⟩
theorem componentSV (hu : UvTo) (code : Int) (name : ByteArray) (c size : Int) (path : Bool) (t : TypeId) (x : Value) (vc : List UInt8) (hc : Coded code ⟨name, c, size, path, some (t, x), vc⟩) (hpos : (c == 0) = false) (hs : decide (size < 0) = true) (hvc : vc.length ≤ 10) (va : Option Addr) (cv : Nat)
    (val : List UInt8) (hbig : val.length ≤ 1099511627776) (w : World) (hval : BytesIn w va val) :
    Calls Tryz.prog 38 #[.agg #[.int .i64 code, .slice va val.length cv]] w (CompPost w ⟨name, c, size, path, some (t, x), vc⟩ val) := by
  refine calls_of0 (args := [.agg #[.int .i64 code, .slice va val.length cv]]) Tryz.func38 rfl rfl rfl ?_
  refine To.runF 17 [0] (fun _ _ => by kernel_rfl) fun f1 g1 l1 => ?_
  refine To.callN 72 #[.int .i64 code] (by kernel_rfl) (fun _ => by kernel_rfl) (fun w hw => hc w) (fun w2 v2 w1 hw hx hv hnew hwi => ?_)
  obtain ⟨vb, rfl, hvb, hle⟩ := hv
  refine To.withAt vb (.cells ⟨ucells vc⟩ 5 (0, 0)) false hvb (hnew vb hle) (fun h => by cases h) ?_
  refine To.runF 13 [2, 2, 2, 2, 2, 2, 2, 2, 2, 2, 2, 2, 4, 4, 4, 4, 4, 4, 4] (fun _ _ => by kernel_rfl) fun f2 g2 l2 => ?_
  refine To.testF (c == 0) (by kernel_rfl) hpos ?_
  refine To.runF 6 [4] (fun _ _ => by kernel_rfl) fun f3 g3 l3 => ?_
  refine To.appendE (ty := 30) elB 5 (f3 0) 0 0 [] [] (some ⟨vb, 0, none⟩) vc.length vc.length (ucells vc) vc.length (ucells vc) (by kernel_rfl) (by kernel_rfl) (by omega) rfl rfl rfl (Nat.le_refl _) (Nat.zero_le _) (by rw [ucells_length, Nat.mul_one])
    (fun w hw j u hj => ⟨_, rfl, hw.cellAt0 (j := 3) (b := vb) (l := ucells vc) (e := 5) (f := (0, 0)) (q := false) (by kernel_rfl) hj⟩) (fun h => by cases h) (ucells_one _) (by simp only [maxLen]; omega) (by omega) (held_nil (by kernel_rfl)) ?_
  intro w3 w4 g4 c4 r4 hw3 hg4 ho4 hl4 hn4 hm4
  refine To.runF 9 [4] (fun _ _ => by kernel_rfl) fun f4 g5 l4 => ?_
  refine To.testT (decide (size < 0)) (by kernel_rfl) hs ?_
  refine To.runF 6 [0] (fun _ _ => by kernel_rfl) fun f5 g6 l5 => ?_
  have hwrap : IntKind.u64.wrap (Int.ofNat val.length) = Int.ofNat val.length := IntWalk.u64_in _ ⟨Int.natCast_nonneg _, by simp only [Int.ofNat_eq_natCast]; omega⟩
  have hul : (Lib.uvarint val.length).length ≤ 10 := Lib.uvarint_length64 (by omega)
  refine To.callN 63 #[.int .u64 (IntKind.u64.wrap (Int.ofNat val.length))] (by kernel_rfl) (fun _ => by kernel_rfl) (fun w hw => by rw [hwrap]; exact hu val.length w (by omega)) (fun w9 v9 w10 hw9 hx9 hv9 hnew9 hwi9 => ?_)
  obtain ⟨ub, uc, rfl, hub, hle9⟩ := hv9
  refine To.withAt ub (.cells ⟨ucells (Lib.uvarint val.length)⟩ 5 (0, 0)) false hub (hnew9 ub hle9) (fun h => by cases h) ?_
  refine To.appendE (ty := 30) elB 6 g4 vc.length c4 (ucells vc) r4 (some ⟨ub, 0, none⟩) (Lib.uvarint val.length).length uc (ucells (Lib.uvarint val.length)) (vc.length + (Lib.uvarint val.length).length) (ucells (vc ++ Lib.uvarint val.length)) (by kernel_rfl) (by kernel_rfl) rfl (ucells_append _ _) (by rw [ucells_length, Nat.mul_one]) hl4 hn4 hm4 (by rw [ucells_length, Nat.mul_one])
    (fun w hw j u hj => ⟨_, rfl, hw.cellAt0 (j := 7) (b := ub) (l := ucells (Lib.uvarint val.length)) (e := 5) (f := (0, 0)) (q := false) (by kernel_rfl) hj⟩) (fun h => by cases h) (ucells_one _) (by simp only [maxLen]; omega) (by omega) (held_nil (by kernel_rfl)) ?_
  intro w11 w12 g11 c11 r11 hw11 hg11 ho11 hl11 hn11 hm11
  refine To.runF 16 [1, 0, 0, 0, 1, 0, 2, 3, 4, 0, 7] (fun _ _ => by kernel_rfl) fun f6 g7 l6 => ?_
  refine To.appendE (ty := 30) elB 8 g11 (vc.length + (Lib.uvarint val.length).length) c11 (ucells (vc ++ Lib.uvarint val.length)) r11 va val.length cv (ucells val) (vc.length + (Lib.uvarint val.length).length + val.length) (ucells (vc ++ Lib.uvarint val.length ++ val)) (by kernel_rfl) (by kernel_rfl) rfl (ucells_append _ _) (by rw [ucells_length, List.length_append, Nat.mul_one]) hl11 hn11 hm11 (by rw [ucells_length, Nat.mul_one])
    (fun w hw => (hval.later hw.ext).cells) (fun h => by rw [hval.none h]; rfl) (ucells_one _) (by simp only [maxLen]; omega) (by omega) (held_in [0] 8 (by kernel_rfl) (o := .cells ⟨ucells (vc ++ Lib.uvarint val.length) ++ r11⟩ 5 (0, 0)) (q := true) (by kernel_rfl) (by decide)) ?_
  intro w5 w6 g5 c5 r5 hw5 hg5 ho5 hl5 hn5 hm5
  refine To.textOf (some ⟨g5, 0, none⟩) (vc.length + (Lib.uvarint val.length).length + val.length) c5 (vc ++ Lib.uvarint val.length ++ val) (by rw [List.length_append, List.length_append]) uBytes uString uU8 (by kernel_rfl)
    (fun w hw j u hj => ⟨_, rfl, hw.cellAt0 (j := 9) (b := g5) (l := ucells (vc ++ Lib.uvarint val.length ++ val) ++ r5) (e := 5) (f := (0, 0)) (q := true) (by kernel_rfl) (ucells_get_app hj)⟩) (fun h => by cases h) ?_
  refine To.runF 17 [] (fun _ _ => by kernel_rfl) fun f7 g8 l7 => ?_
  refine To.callN 72 #[.int .i64 code] (by kernel_rfl) (fun _ => by kernel_rfl) (fun w hw => hc w) (fun w7 v7 w8 hw7 hx7 hv7 hnew7 hwi7 => ?_)
  obtain ⟨vd, rfl, hvd, hle7⟩ := hv7
  refine To.withAt vd (.cells ⟨ucells vc⟩ 5 (0, 0)) true hvd (hnew7 vd hle7) (fun _ => .inl (Nat.le_trans hwi7 hle7)) ?_
  refine To.runF 10 [12, 12, 12, 12, 12, 12, 12] (fun _ _ => by kernel_rfl) fun f8 g9 l8 => ?_
  refine To.testF (c == 0) (by kernel_rfl) hpos ?_
  refine To.runF 13 [10, 10, 10, 10, 10, 10, 1, 1, 1] (fun _ _ => by kernel_rfl) fun f9 g10 l9 => ?_
  exact To.ret [1, 1, 1] (.agg ⟨[.string ⟨⟨vc ++ Lib.uvarint val.length ++ val⟩⟩, .pointer (some ⟨f8 0, 0, none⟩), .int .i64 (Int.ofNat (vc.length + (Lib.uvarint val.length).length))]⟩) (by kernel_rfl) (by kernel_rfl) fun w hw =>
    ⟨_, rfl, hw.ext, f8 0, vd, by simp only [bytesOf, headOf_V hs, List.length_append], ⟨hw.blk (j := 12) (b := f8 0) (o := .cells ⟨rowCells ⟨name, c, size, path, some (t, x), vc⟩ vd⟩ 94 (0, 0)) (q := true) (by kernel_rfl),
      hw.blk (j := 11) (b := vd) (o := .cells ⟨ucells vc⟩ 5 (0, 0)) (q := true) (by kernel_rfl)⟩, hw.new (j := 12) (b := f8 0) (o := .cells ⟨rowCells ⟨name, c, size, path, some (t, x), vc⟩ vd⟩ 94 (0, 0)) (by kernel_rfl), hw.new (j := 11) (b := vd) (o := .cells ⟨ucells vc⟩ 5 (0, 0)) (by kernel_rfl)⟩
theorem component (hu : UvTo) (code : Int) (r : Row) (hc : Coded code r) (hpos : (r.code == 0) = false) (hvc : r.vc.length ≤ 10) (va : Option Addr) (cv : Nat) (val : List UInt8) (hbig : val.length ≤ 1099511627776) (w : World)
    (hval : BytesIn w va val) : Calls Tryz.prog 38 #[.agg #[.int .i64 code, .slice va val.length cv]] w (CompPost w r val) := by
  obtain ⟨name, c, size, path, tr, vc⟩ := r
  cases hs : decide (size < 0) with
  | false =>
    cases tr with
    | none => exact componentNF hu code name c size path vc hc hpos hs hvc va cv val hbig w hval
    | some p => exact componentSF hu code name c size path p.1 p.2 vc hc hpos hs hvc va cv val hbig w hval
  | true =>
    cases tr with
    | none => exact componentNV hu code name c size path vc hc hpos hs hvc va cv val hbig w hval
    | some p => exact componentSV hu code name c size path p.1 p.2 vc hc hpos hs hvc va cv val hbig w hval
end Go.Proofs.YtkhonkejebdcgaaGreatDoor
/- An address of the package, made of components of plain data. Conditions: the protocols are those of the table, nothing is too long. -/
namespace Go.Proofs.YtkhonkejebdcgaaGreatDoor
open Go Go.SX
set_option maxHeartbeats 8000000
set_option maxRecDepth 100000

/-- A slice holds these components: codes and values. -/
structure CompsIn (w : World) (a : Option Addr) (l : List (Int × List UInt8)) : Prop where
  at_ : ∀ (j : Nat) (c : Int) (val : List UInt8), l[j]? = some (c, val) → ∃ ad va cv, a = some ad ∧ ad.spot = none ∧ w.cell? (ad.add (j * 2)) = some (.int .i64 c) ∧ w.cell? (ad.add (j * 2 + 1)) = some (.slice va val.length cv) ∧ BytesIn w va val
theorem CompsIn.later {w w' : World} {a : Option Addr} {l : List (Int × List UInt8)} (h : CompsIn w a l) (hx : Ext [] w w') : CompsIn w' a l :=
  ⟨fun j c val hj => let ⟨ad, va, cv, h1, h2, h3, h4, h5⟩ := h.at_ j c val hj; ⟨ad, va, cv, h1, h2, hx.cell h3 (by simp), hx.cell h4 (by simp), h5.later hx⟩⟩
def plain (l : List (Row × List UInt8)) : List (Int × List UInt8) := l.map fun p => (p.1.code, p.2)
/-- A row that is fit for a component. -/
structure Fine (p : Row × List UInt8) : Prop where
  coded : Coded p.1.code p.1
  pos : (p.1.code == 0) = false
  vc : p.1.vc.length ≤ 10
  val : p.2.length ≤ 1099511627776
/-- The cells of components of the package, their protocols in these blocks. -/
def mcells : List (Row × List UInt8) → List Nat → List Value
  | (r, val) :: l, pb :: pbs => .string (bytesOf r.vc r.size val) :: .pointer (some ⟨pb, 0, none⟩) :: .int .i64 (Int.ofNat (headOf r.vc r.size val.length).length) :: mcells l pbs
  | _, _ => []
theorem mcells_snoc {l : List (Row × List UInt8)} {pbs : List Nat} (h : pbs.length = l.length) (p : Row × List UInt8) (pb : Nat) :
    mcells (l ++ [p]) (pbs ++ [pb]) = mcells l pbs ++ [.string (bytesOf p.1.vc p.1.size p.2), .pointer (some ⟨pb, 0, none⟩), .int .i64 (Int.ofNat (headOf p.1.vc p.1.size p.2.length).length)] := by
  induction l generalizing pbs with
  | nil => cases pbs with
    | nil => rfl
    | cons _ _ => cases h
  | cons q l ih => cases pbs with
    | nil => cases h
    | cons b pbs =>
      have := ih (pbs := pbs) (by simpa using h)
      obtain ⟨r, val⟩ := q
      simp only [List.cons_append, mcells, this]
theorem mcells_length {l : List (Row × List UInt8)} {pbs : List Nat} (h : pbs.length = l.length) : (mcells l pbs).length = l.length * 3 := by
  induction l generalizing pbs with
  | nil => cases pbs with
    | nil => rfl
    | cons _ _ => cases h
  | cons q l ih => cases pbs with
    | nil => cases h
    | cons b pbs =>
      have := ih (pbs := pbs) (by simpa using h)
      obtain ⟨r, val⟩ := q
      simp only [mcells, List.length_cons, this]; omega
/-- Each component's protocol lies in its block, which is new since w0. -/
def RowsAt (w0 w : World) (l : List (Row × List UInt8)) (pbs : List Nat) : Prop := ∀ (j : Nat) (p : Row × List UInt8) (pb : Nat), l[j]? = some p → pbs[j]? = some pb → ∃ vb, RowAt w pb vb p.1 ∧ w0.heap.size ≤ pb ∧ w0.heap.size ≤ vb
/-- A slice of components of the package. -/
def MaOut (w0 w : World) (v : Value) (l : List (Row × List UInt8)) : Prop :=
  (l = [] ∧ v = .slice none 0 0) ∨ ∃ g c rest pbs, v = .slice (some ⟨g, 0, none⟩) l.length c ∧ w.heap[g]? = some (.cells ⟨mcells l pbs ++ rest⟩ 90 (0, 0)) ∧ pbs.length = l.length ∧ l.length ≤ c ∧
    RowsAt w0 w l pbs ∧ w0.heap.size ≤ g
abbrev AddrPost (w : World) (l : List (Row × List UInt8)) (e : Ending) (w1 : World) : Prop := ∃ v, e = .returned v ∧ Ext [] w w1 ∧ MaOut w w1 v l
theorem elC : Elem Tryz.prog 31 75 2 32 := Elem.of (z := .agg #[.int .i64 0, .slice none 0 0]) (by kernel_rfl) (by kernel_rfl) rfl
theorem elM : Elem Tryz.prog 53 90 3 32 := Elem.of (z := .agg #[.string ⟨#[]⟩, .pointer none, .int .i64 0]) (by kernel_rfl) (by kernel_rfl) rfl

abbrev AddrIx := Nat × Option (Nat × Nat × List Value × List Nat)
def addrSt (l : List (Row × List UInt8)) (a : Option Addr) (cap : Nat) : AddrIx → List (Nat × Value) × List (Option Blk)
  | (k, none) => ([(3, .slice none 0 0), (6, .slice a l.length cap), (7, .int .i64 (Int.ofNat l.length)), (8, .int .i64 (Int.ofNat k))], [])
  | (k, some (g, c, rest, pbs)) => ([(3, .slice (some ⟨g, 0, none⟩) k c), (6, .slice a l.length cap), (7, .int .i64 (Int.ofNat l.length)), (8, .int .i64 (Int.ofNat k))], [some ⟨g, .cells ⟨mcells (l.take k) pbs ++ rest⟩ 90 (0, 0), true⟩])
def AddrInv (w : World) (l : List (Row × List UInt8)) : AddrIx → World → Prop
  | (k, none), _ => k = 0
  | (k, some (g, c, rest, pbs)), w1 => k ≤ l.length ∧ pbs.length = k ∧ (mcells (l.take k) pbs ++ rest).length = c * 3 ∧ k ≤ c ∧ c ≤ maxLen ∧ RowsAt w w1 (l.take k) pbs ∧ w.heap.size ≤ g ∧
      w1.heap[g]? = some (.cells ⟨mcells (l.take k) pbs ++ rest⟩ 90 (0, 0))

theorem address (hu : UvTo) (l : List (Row × List UInt8)) (a : Option Addr) (cap : Nat) (w : World) (hin : CompsIn w a (plain l)) (hf : ∀ p ∈ l, Fine p) (hlen : l.length ≤ 1099511627776) :
    Calls Tryz.prog 19 #[.slice a l.length cap] w (AddrPost w l) := by
  refine calls_of0 (args := [.slice a l.length cap]) Tryz.func19 rfl rfl rfl ?_
  refine To.runF 16 [] (fun _ _ => by kernel_rfl) fun f1 g1 l1 => ?_
  refine To.loop (fun i => l.length - i.1) (addrSt l a cap) (AddrInv w l) (0, none) [] (by kernel_rfl) (by kernel_rfl) (by kernel_rfl) rfl (fun _ _ => rfl) ?_
  rintro ⟨k, _ | ⟨g, c, rest, pbs⟩⟩ w1 hinv hx1 back
  · have hk : k = 0 := hinv
    subst hk
    refine To.runF 5 [] (fun _ _ => by kernel_rfl) fun f2 g2 l2 => ?_
    by_cases hlt : 0 < l.length
    · obtain ⟨p, hp⟩ : ∃ p, l[0]? = some p := ⟨l[0], by simp [hlt]⟩
      obtain ⟨ad, va, cv, ha, hsp, hc0, hc1, hb⟩ := hin.at_ 0 p.1.code p.2 (by simp [plain, hp])
      have hfp := hf p (List.mem_of_getElem? hp)
      refine To.testT (decide (Int.ofNat 0 < Int.ofNat l.length)) (by kernel_rfl) (decide_eq_true (Int.ofNat_lt.2 hlt)) ?_
      refine To.runF 5 [] (fun _ _ => by kernel_rfl) fun f3 g3 l3 => ?_
      refine To.indexAt elC a ad l.length cap 0 (by kernel_rfl) ha hlt ?_
      refine To.loadAgg (t := 75) (by kernel_rfl) 2 (by kernel_rfl) (ad.add (0 * 2)) [.int .i64 p.1.code, .slice va p.2.length cv] rfl (by kernel_rfl) (fun w2 hw2 j v hj => by
        rw [add_add hsp]
        rcases j with _ | _ | j
        · cases hj; exact hw2.ext.cell hc0 (by simp)
        · cases hj; exact hw2.ext.cell hc1 (by simp)
        · cases hj) ?_
      refine To.runF 6 [0, 0, 0, 0] (fun _ _ => by kernel_rfl) fun f4 g4 l4 => ?_
      refine To.callN 38 #[.agg #[.int .i64 p.1.code, .slice va p.2.length cv]] (by kernel_rfl) (fun _ => by kernel_rfl) (fun w2 hw2 => component hu p.1.code p.1 hfp.coded hfp.pos hfp.vc va cv p.2 hfp.val w2 (hb.later hw2.ext)) (fun w2 v2 w3 hw2 hx2 hv2 hnew2 hwi2 => ?_)
      obtain ⟨pb, vb, rfl, hrow, hle1, hle2⟩ := hv2
      refine To.runF 1 [] (fun _ _ => by kernel_rfl) fun f5 g5 l5 => ?_
      have q1 : f4 0 < w2.heap.size := hw2.lt (j := 0) (b := ⟨f4 0, .cells ⟨[.int .i64 p.1.code, .slice va p.2.length cv]⟩ 75 (0, 0), true⟩) (by kernel_rfl)
      refine To.append0 (ty := 53) elM ⟨f5 0, 0, none⟩ 1 1 [.string (bytesOf p.1.vc p.1.size p.2), .pointer (some ⟨pb, 0, none⟩), .int .i64 (Int.ofNat (headOf p.1.vc p.1.size p.2.length).length)] (by kernel_rfl) rfl
        (fun w hw j u hj => hw.cellAt0 (j := 1) (b := f5 0) (l := [.string (bytesOf p.1.vc p.1.size p.2), .pointer (some ⟨pb, 0, none⟩), .int .i64 (Int.ofNat (headOf p.1.vc p.1.size p.2.length).length)]) (e := 90) (f := (0, 0)) (q := true) (by kernel_rfl) hj) (by decide) (by decide) (by decide) ?_
      intro g' c' r' hl' hc' hm' hg'
      refine To.runF 7 [] (fun _ _ => by kernel_rfl) fun f6 g6 l6 => ?_
      refine To.slotE 8 (.int .i64 (IntKind.i64.wrap (Int.ofNat 0 + 1))) (.int .i64 (Int.ofNat (0 + 1))) (by kernel_rfl) (by rw [wrap_succ 0 (by decide)]) ?_
      have ht : l.take (0 + 1) = [p] := by cases l with | nil => cases hp | cons x l => cases hp; rfl
      have hm1 : mcells (l.take (0 + 1)) [pb] = [.string (bytesOf p.1.vc p.1.size p.2), .pointer (some ⟨pb, 0, none⟩), .int .i64 (Int.ofNat (headOf p.1.vc p.1.size p.2.length).length)] := by rw [ht]; rfl
      refine back _ _ (0 + 1, some (g', c', r', [pb])) [2] (by simp only; omega) ⟨by kernel_rfl, by kernel_rfl, by kernel_rfl, by kernel_rfl, ?_, rfl⟩ (fun w4 hw4 => ⟨hlt, rfl, ?_, hc', hm', ?_, ?_, ?_⟩)
      · simp only [addrSt, hm1]; kernel_rfl
      · rw [hm1]; exact hl'
      · intro j q pb' hj hpb
        rw [ht] at hj
        rcases j with _ | j
        · cases hj
          cases hpb
          have q2 : w2.heap.size ≤ w3.heap.size := hx2.size
          have q3 : w.heap.size ≤ w2.heap.size := hwi2
          have q4 := hrow.lt
          have q5 : w3.heap.size ≤ f5 0 := l5 0
          have q6 : w3.heap.size ≤ g' := hg'
          exact ⟨vb, hrow.fr hw4.fr (l := [some (f4 0), some (f5 0), some g']) (by kernel_rfl) ⟨⟨by omega, by omega⟩, ⟨by omega, by omega⟩, ⟨by omega, by omega⟩, trivial⟩, by omega, by omega⟩
        · cases hj
      · have q2 : w2.heap.size ≤ w3.heap.size := hx2.size
        have q3 : w.heap.size ≤ w2.heap.size := hwi2
        have q6 : w3.heap.size ≤ g' := hg'
        omega
      · rw [hm1]
        exact hw4.blk (j := 2) (b := g') (o := .cells ⟨[.string (bytesOf p.1.vc p.1.size p.2), .pointer (some ⟨pb, 0, none⟩), .int .i64 (Int.ofNat (headOf p.1.vc p.1.size p.2.length).length)] ++ r'⟩ 90 (0, 0)) (q := true) (by kernel_rfl)
    · have hl0 : l = [] := List.eq_nil_of_length_eq_zero (by omega)
      refine To.testF (decide (Int.ofNat 0 < Int.ofNat l.length)) (by kernel_rfl) (by rw [hl0]; rfl) ?_
      refine To.runF 6 [] (fun _ _ => by kernel_rfl) fun f3 g3 l3 => ?_
      exact To.ret [] (.slice none 0 0) (by kernel_rfl) (by kernel_rfl) fun w4 hw4 => ⟨_, rfl, hw4.ext, .inl ⟨hl0, rfl⟩⟩
  · obtain ⟨hk, hpl, hrl, hkc, hcm, hra, hgw, hgb⟩ := hinv
    refine To.runF 5 [] (fun _ _ => by kernel_rfl) fun f2 g2 l2 => ?_
    by_cases hlt : k < l.length
    · obtain ⟨p, hp⟩ : ∃ p, l[k]? = some p := ⟨l[k], by simp [hlt]⟩
      obtain ⟨ad, va, cv, ha, hsp, hc0, hc1, hb⟩ := hin.at_ k p.1.code p.2 (by simp [plain, hp])
      have hfp := hf p (List.mem_of_getElem? hp)
      refine To.testT (decide (Int.ofNat k < Int.ofNat l.length)) (by kernel_rfl) (decide_eq_true (Int.ofNat_lt.2 hlt)) ?_
      refine To.runF 5 [] (fun _ _ => by kernel_rfl) fun f3 g3 l3 => ?_
      refine To.indexAt elC a ad l.length cap k (by kernel_rfl) ha hlt ?_
      refine To.loadAgg (t := 75) (by kernel_rfl) 2 (by kernel_rfl) (ad.add (k * 2)) [.int .i64 p.1.code, .slice va p.2.length cv] rfl (by kernel_rfl) (fun w2 hw2 j v hj => by
        rw [add_add hsp]
        rcases j with _ | _ | j
        · cases hj; exact hw2.ext.cell hc0 (by simp)
        · cases hj; exact hw2.ext.cell hc1 (by simp)
        · cases hj) ?_
      refine To.runF 6 [1, 1, 1, 1] (fun _ _ => by kernel_rfl) fun f4 g4 l4 => ?_
      refine To.callN 38 #[.agg #[.int .i64 p.1.code, .slice va p.2.length cv]] (by kernel_rfl) (fun _ => by kernel_rfl) (fun w2 hw2 => component hu p.1.code p.1 hfp.coded hfp.pos hfp.vc va cv p.2 hfp.val w2 (hb.later hw2.ext)) (fun w2 v2 w3 hw2 hx2 hv2 hnew2 hwi2 => ?_)
      obtain ⟨pb, vb, rfl, hrow, hle1, hle2⟩ := hv2
      refine To.runF 1 [] (fun _ _ => by kernel_rfl) fun f5 g5 l5 => ?_
      have q0 : g < w2.heap.size := hw2.lt (j := 0) (b := ⟨g, .cells ⟨mcells (l.take k) pbs ++ rest⟩ 90 (0, 0), true⟩) (by kernel_rfl)
      have q1 : f4 0 < w2.heap.size := hw2.lt (j := 1) (b := ⟨f4 0, .cells ⟨[.int .i64 p.1.code, .slice va p.2.length cv]⟩ 75 (0, 0), true⟩) (by kernel_rfl)
      have hml : pbs.length = (l.take k).length := by rw [hpl, List.length_take]; omega
      have htk : l.take (k + 1) = l.take k ++ [p] := by rw [List.take_add_one, hp]; rfl
      refine To.appendE (ty := 53) elM 0 g k c (mcells (l.take k) pbs) rest (some ⟨f5 0, 0, none⟩) 1 1 [.string (bytesOf p.1.vc p.1.size p.2), .pointer (some ⟨pb, 0, none⟩), .int .i64 (Int.ofNat (headOf p.1.vc p.1.size p.2.length).length)] (k + 1) (mcells (l.take (k + 1)) (pbs ++ [pb]))
        (by kernel_rfl) (by kernel_rfl) rfl (by rw [htk, mcells_snoc hml]) (by rw [mcells_length hml, ← hml, hpl]) hrl hkc hcm rfl
        (fun w hw j u hj => ⟨_, rfl, hw.cellAt0 (j := 2) (b := f5 0) (l := [.string (bytesOf p.1.vc p.1.size p.2), .pointer (some ⟨pb, 0, none⟩), .int .i64 (Int.ofNat (headOf p.1.vc p.1.size p.2.length).length)]) (e := 90) (f := (0, 0)) (q := true) (by kernel_rfl) hj⟩) (fun h => by cases h)
        (by intro u hu; simp only [List.mem_cons, List.not_mem_nil, or_false] at hu; rcases hu with rfl | rfl | rfl <;> rfl) (by simp only [maxLen]; omega) (by omega) (held_nil (by kernel_rfl)) ?_
      intro w5 w6 g' c' r' hw5 hg5 ho5 hl5 hc5 hm5
      refine To.runF 7 [] (fun _ _ => by kernel_rfl) fun f6 g6 l6 => ?_
      refine To.slotE 8 (.int .i64 (IntKind.i64.wrap (Int.ofNat k + 1))) (.int .i64 (Int.ofNat (k + 1))) (by kernel_rfl) (by rw [wrap_succ k (by omega)]) ?_
      have q2 : w2.heap.size ≤ w3.heap.size := hx2.size
      have q3 : w.heap.size ≤ w2.heap.size := hwi2
      have q5 : w3.heap.size ≤ f5 0 := l5 0
      have q6 : w3.heap.size ≤ w5.heap.size := hw5.fr.size
      have q7 : w1.heap.size ≤ f4 0 := l4 0
      have q8 : w1.heap.size ≤ w2.heap.size := hw2.fr.size
      refine back _ _ (k + 1, some (g', c', r', pbs ++ [pb])) [3] (by simp only; omega) ⟨by kernel_rfl, by kernel_rfl, by kernel_rfl, by kernel_rfl, by kernel_rfl, rfl⟩ (fun w7 hw7 => ⟨hlt, by simp [hpl], hl5, hc5, hm5, ?_, ?_, ?_⟩)
      · intro j q pb' hj hpb
        by_cases hjk : j < k
        · rw [htk, List.getElem?_append_left (by rw [List.length_take]; omega)] at hj
          rw [List.getElem?_append_left (by omega)] at hpb
          obtain ⟨vb', hr0, hr1, hr2⟩ := hra j q pb' hj hpb
          have q9 := hr0.lt
          obtain ⟨qa, qb⟩ := hr0.ne hgb (by decide) (by decide)
          have hr3 : RowAt w2 pb' vb' q.1 := hr0.fr hw2.fr (l := [some g, some (f4 0)]) (by kernel_rfl) ⟨⟨qa, qb⟩, ⟨by omega, by omega⟩, trivial⟩
          have hr4 : RowAt w5 pb' vb' q.1 := (hr3.later hx2).fr hw5.fr (l := [some g, some (f4 0), some (f5 0)]) (by kernel_rfl) ⟨⟨qa, qb⟩, ⟨by omega, by omega⟩, ⟨by omega, by omega⟩, trivial⟩
          have hr5 : RowAt w6 pb' vb' q.1 := hr4.grown hg5 (by simpa using Ne.symm qa) (by simpa using Ne.symm qb)
          refine ⟨vb', hr5.fr hw7.fr (l := [none, some (f4 0), some (f5 0), some g']) (by kernel_rfl) ⟨⟨by omega, by omega⟩, ⟨by omega, by omega⟩, ?_, trivial⟩, hr1, hr2⟩
          rcases ho5 with rfl | rfl
          · exact ⟨qa, qb⟩
          · exact ⟨by omega, by omega⟩
        · have hjk' : j = k := by
            have := (List.getElem?_eq_some_iff.1 hpb).1
            simp only [List.length_append, List.length_cons, List.length_nil] at this
            omega
          subst hjk'
          rw [htk, List.getElem?_append_right (by rw [List.length_take]; omega)] at hj
          rw [List.getElem?_append_right (by omega)] at hpb
          have e1 : j - (l.take j).length = 0 := by rw [List.length_take]; omega
          have e2 : j - pbs.length = 0 := by omega
          rw [e1] at hj
          rw [e2] at hpb
          cases hj
          cases hpb
          have q9 := hrow.lt
          have hr4 : RowAt w5 pb vb p.1 := hrow.fr hw5.fr (l := [some g, some (f4 0), some (f5 0)]) (by kernel_rfl) ⟨⟨by omega, by omega⟩, ⟨by omega, by omega⟩, ⟨by omega, by omega⟩, trivial⟩
          have hr5 : RowAt w6 pb vb p.1 := hr4.grown hg5 (by simp only [ne_eq, Option.some.injEq]; omega) (by simp only [ne_eq, Option.some.injEq]; omega)
          refine ⟨vb, hr5.fr hw7.fr (l := [none, some (f4 0), some (f5 0), some g']) (by kernel_rfl) ⟨⟨by omega, by omega⟩, ⟨by omega, by omega⟩, ?_, trivial⟩, by omega, by omega⟩
          rcases ho5 with rfl | rfl
          · exact ⟨by omega, by omega⟩
          · exact ⟨by omega, by omega⟩
      · rcases ho5 with rfl | rfl
        · exact hgw
        · omega
      · exact hw7.blk (j := 3) (b := g') (o := .cells ⟨mcells (l.take (k + 1)) (pbs ++ [pb]) ++ r'⟩ 90 (0, 0)) (q := true) (by kernel_rfl)
    · have hk1 : k = l.length := by omega
      subst hk1
      refine To.testF (decide (Int.ofNat l.length < Int.ofNat l.length)) (by kernel_rfl) (by simp) ?_
      refine To.runF 6 [] (fun _ _ => by kernel_rfl) fun f3 g3 l3 => ?_
      refine To.ret [] (.slice (some ⟨g, 0, none⟩) l.length c) (by kernel_rfl) (by kernel_rfl) fun w4 hw4 => ⟨_, rfl, hw4.ext, .inr ⟨g, c, rest, pbs, rfl, ?_, hpl, hkc, ?_, hgw⟩⟩
      · have := hw4.blk (j := 0) (b := g) (o := .cells ⟨mcells (l.take l.length) pbs ++ rest⟩ 90 (0, 0)) (q := true) (by kernel_rfl)
        rw [List.take_length] at this
        exact this
      · intro j q pb' hj hpb
        obtain ⟨vb', hr0, hr1, hr2⟩ := hra j q pb' (by rw [List.take_length]; exact hj) hpb
        obtain ⟨qa, qb⟩ := hr0.ne hgb (by decide) (by decide)
        exact ⟨vb', hr0.fr hw4.fr (l := [some g]) (by kernel_rfl) ⟨⟨qa, qb⟩, trivial⟩, hr1, hr2⟩
end Go.Proofs.YtkhonkejebdcgaaGreatDoor
