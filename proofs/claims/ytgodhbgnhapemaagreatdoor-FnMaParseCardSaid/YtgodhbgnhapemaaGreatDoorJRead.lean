/- Varints are read, a component is validated; plain facts on texts and pieces. Conditions: as each says. -/
import Derived.Test.YtgodhbgnhapemaaGreatDoorJRow
import Derived.Test.YtgodhbgnhapemaaGreatDoorJUv
set_option linter.unusedVariables false
set_option linter.unusedSimpArgs false
/- A varint at the beginning of bytes is read. Conditions: below 2^31. -/
namespace Go.Proofs.YtgodhbgnhapemaaGreatDoor
open Go Go.SX Go.IpText
set_option maxHeartbeats 8000000
set_option maxRecDepth 100000
theorem orU (x k s : Nat) (hx : x < 2 ^ s) (hk : k < 128) (hs : s ≤ 28) : IntKind.u64.wrap (((BitVec.ofInt IntKind.u64.bits (Int.ofNat x) ||| BitVec.ofInt IntKind.u64.bits (IntKind.u64.wrap ((k : Int) * 2 ^ min (Int.toNat (Int.ofNat s)) IntKind.u64.bits))).toNat : Nat) : Int) = Int.ofNat (x + k * 2 ^ s) := by
  have hp : 2 ^ s ≤ 2 ^ 28 := Nat.pow_le_pow_right (by decide) hs
  have h28 : (2 : Nat) ^ 28 = 268435456 := by decide
  have hk2 : k * 2 ^ s ≤ 127 * 2 ^ s := Nat.mul_le_mul_right _ (by omega)
  have hmin : min (Int.toNat (Int.ofNat s)) IntKind.u64.bits = s := by
    show min s 64 = s
    omega
  have hcast : ((k : Int) * 2 ^ s) = ((k * 2 ^ s : Nat) : Int) := by push_cast; rfl
  rw [hmin, hcast, IntWalk.u64_in ((k * 2 ^ s : Nat) : Int) ⟨by omega, by omega⟩]
  have e : (BitVec.ofInt 64 (Int.ofNat x) ||| BitVec.ofInt 64 ((k * 2 ^ s : Nat) : Int)).toNat = x + k * 2 ^ s := by
    rw [BitVec.toNat_or]
    have e1 : (BitVec.ofInt 64 ((k * 2 ^ s : Nat) : Int)).toNat = k * 2 ^ s := by
      rw [BitVec.ofInt_natCast, BitVec.toNat_ofNat]; omega
    have e2 : (BitVec.ofInt 64 (Int.ofNat x)).toNat = x := by
      rw [Int.ofNat_eq_natCast, BitVec.ofInt_natCast, BitVec.toNat_ofNat]; omega
    rw [e1, e2, Nat.or_comm]
    have := Nat.two_pow_add_eq_or_of_lt (i := s) (b := x) hx k
    rw [Nat.mul_comm (2 ^ s) k] at this
    rw [← this, Nat.add_comm]
  show IntKind.u64.wrap (((BitVec.ofInt 64 (Int.ofNat x) ||| BitVec.ofInt 64 ((k * 2 ^ s : Nat) : Int)).toNat : Nat) : Int) = _
  rw [e, IntWalk.u64_in _ ⟨by omega, by omega⟩]; rfl
theorem fromUv (n : Nat) (rest l : List UInt8) (hl : l = Lib.uvarint n ++ rest) (a : Option Addr) (ca : Nat) (w : World) (hn : n < 2147483648) (hin : BytesIn w a l) (hll : l.length ≤ 1000000000000) :
    Calls Tryz.prog 121 #[.slice a l.length ca] w (fun e w1 => ∃ v, e = .returned v ∧ Ext [] w w1 ∧ v = .tuple #[.int .u64 (Int.ofNat n), .int .i64 (Int.ofNat (Lib.uvarint n).length), .nilIface]) := by
  refine calls_of0 (args := [.slice a l.length ca]) Tryz.func121 rfl rfl rfl ?_
  refine To.runF 22 [] (fun _ _ => by kernel_rfl) fun f1 g1 l1 => ?_
  refine To.loop (ι := Nat × Nat × Nat) (fun i => l.length - i.1) (fun i => ([(9, .slice a l.length ca), (5, .int .u64 (Int.ofNat i.2.2)), (6, .int .u64 (Int.ofNat (7 * i.1))), (10, .int .i64 (Int.ofNat l.length)), (11, .int .i64 (Int.ofNat i.1))], [])) (fun i _ => l.drop i.1 = Lib.uvarint i.2.1 ++ rest ∧ n = i.2.2 + i.2.1 * 2 ^ (7 * i.1) ∧ i.2.2 < 2 ^ (7 * i.1) ∧ (i.1 = 0 ∨ 1 ≤ i.2.1) ∧ i.1 + (Lib.uvarint i.2.1).length = (Lib.uvarint n).length) (0, n, 0) [] (by kernel_rfl) (by kernel_rfl) (by kernel_rfl) rfl (fun _ _ => ⟨hl, by simp, by simp, .inl rfl, by simp⟩) ?_
  rintro ⟨i, m, x⟩ w1 ⟨hdr, hnx, hx, him, hlen⟩ hx1 back
  have hdr : l.drop i = Lib.uvarint m ++ rest := hdr
  have hnx : n = x + m * 2 ^ (7 * i) := hnx
  have hx : x < 2 ^ (7 * i) := hx
  have him : i = 0 ∨ 1 ≤ m := him
  have hlen : i + (Lib.uvarint m).length = (Lib.uvarint n).length := hlen
  have hi4 : i ≤ 4 := by
    rcases him with h | h
    · omega
    · by_cases h5 : i ≤ 4
      · exact h5
      · have : 2 ^ 35 ≤ 2 ^ (7 * i) := Nat.pow_le_pow_right (by decide) (by omega)
        have h2 : 1 * 2 ^ (7 * i) ≤ m * 2 ^ (7 * i) := Nat.mul_le_mul_right _ h
        have h3 : (2 : Nat) ^ 35 = 34359738368 := by decide
        omega
  have hil : i < l.length := by
    have h := congrArg List.length hdr
    rw [List.length_drop, List.length_append] at h
    have : 0 < (Lib.uvarint m).length := by rw [Lib.uvarint]; split <;> simp
    omega
  obtain ⟨b, hb⟩ : ∃ b, b = l[i] := ⟨_, rfl⟩
  obtain ⟨ad, ha, hc⟩ := hin.one i hil
  refine To.runF 5 [] (fun _ _ => by kernel_rfl) fun f2 g2 l2 => ?_
  refine To.testT (decide (Int.ofNat i < Int.ofNat l.length)) (by kernel_rfl) (decide_eq_true (Int.ofNat_lt.2 hil)) ?_
  refine To.runF 6 [] (fun _ _ => by kernel_rfl) fun f3 g3 l3 => ?_
  refine To.indexAt elB a ad l.length ca i (by kernel_rfl) ha hil ?_
  refine To.loadOne uU8 rfl (ad.add (i * 1)) (.int .u8 ((l[i]).toNat : Int)) (by kernel_rfl) (fun w2 hw2 => hw2.ext.cell hc (by simp)) ?_
  refine To.runF 9 [] (fun _ _ => by kernel_rfl) fun f4 g4 l4 => ?_
  refine To.slotF 18 (Int.ofNat i == 8) (by kernel_rfl) (beq_eq_false_iff_ne.2 (by simp only [Int.ofNat_eq_natCast]; omega)) ?_
  refine To.runF 8 [] (fun _ _ => by kernel_rfl) fun f5 g5 l5 => ?_
  refine To.testF (decide (Int.ofNat i ≥ 9)) (by kernel_rfl) (decide_eq_false (by simp only [Int.ofNat_eq_natCast]; omega)) ?_
  refine To.runF 7 [] (fun _ _ => by kernel_rfl) fun f6 g6 l6 => ?_
  by_cases hm : m < 128
  · rw [Lib.uvarint_small hm] at hdr hlen
    have hbm : l[i] = m.toUInt8 := by
      rw [List.drop_eq_getElem_cons hil] at hdr
      exact (List.cons.inj hdr).1
    have hbn : (l[i]).toNat = m := by rw [hbm]; simp; omega
    refine To.testT (decide (((l[i]).toNat : Int) < 128)) (by kernel_rfl) (decide_eq_true (by omega)) ?_
    refine To.runF 6 [] (fun _ _ => by kernel_rfl) fun f7 g7 l7 => ?_
    refine To.meet 2 (ι := Unit) (fun _ => ([(5, .int .u64 (Int.ofNat x)), (6, .int .u64 (Int.ofNat (7 * i))), (7, .int .i64 (Int.ofNat i)), (8, .int .u8 ((l[i]).toNat : Int))], [])) (fun _ _ => True) (fun join => ?_) (fun _ w4 _ hx4 => ?_)
    · by_cases h0 : m = 0
      · have hi0 : i = 0 := by omega
        subst hi0
        refine To.slotT 31 (((l[0]).toNat : Int) == 0) (by kernel_rfl) (beq_iff_eq.2 (by omega)) ?_
        refine To.runF 6 [] (fun _ _ => by kernel_rfl) fun f8 g8 l8 => ?_
        exact join _ _ () [] ⟨by kernel_rfl, by kernel_rfl, by kernel_rfl, by kernel_rfl, by kernel_rfl, rfl⟩ (fun _ _ => trivial)
      · refine To.slotF 31 (((l[i]).toNat : Int) == 0) (by kernel_rfl) (beq_eq_false_iff_ne.2 (by omega)) ?_
        refine To.runF 6 [] (fun _ _ => by kernel_rfl) fun f8 g8 l8 => ?_
        exact join _ _ () [] ⟨by kernel_rfl, by kernel_rfl, by kernel_rfl, by kernel_rfl, by kernel_rfl, rfl⟩ (fun _ _ => trivial)
    refine To.runF 14 [] (fun _ _ => by kernel_rfl) fun f8 g8 l8 => ?_
    have hor : IntKind.u64.wrap ((BitVec.ofInt IntKind.u64.bits (Int.ofNat x) ||| BitVec.ofInt IntKind.u64.bits (IntKind.u64.wrap (IntKind.u64.wrap ((l[i]).toNat : Int) * 2 ^ min (Int.toNat (Int.ofNat (7 * i))) IntKind.u64.bits))).toNat : Nat) = Int.ofNat n := by
      rw [hbn, IntWalk.u64_in (m : Int) ⟨by omega, by omega⟩, hnx]
      exact orU x m (7 * i) hx hm (by omega)
    refine To.slotE 2 (.int .u64 (IntKind.u64.wrap ((BitVec.ofInt IntKind.u64.bits (Int.ofNat x) ||| BitVec.ofInt IntKind.u64.bits (IntKind.u64.wrap (IntKind.u64.wrap ((l[i]).toNat : Int) * 2 ^ min (Int.toNat (Int.ofNat (7 * i))) IntKind.u64.bits))).toNat : Nat))) (.int .u64 (Int.ofNat n)) (by kernel_rfl) (by rw [hor]) ?_
    refine To.slotE 3 (.int .i64 (IntKind.i64.wrap (Int.ofNat i + 1))) (.int .i64 (Int.ofNat (Lib.uvarint n).length)) (by kernel_rfl) (by rw [wrap_succ i (by omega), ← hlen]; rfl) ?_
    exact To.ret [] (.tuple #[.int .u64 (Int.ofNat n), .int .i64 (Int.ofNat (Lib.uvarint n).length), .nilIface]) (by kernel_rfl) (by kernel_rfl) fun w8 hw8 => ⟨_, rfl, hw8.ext, rfl⟩
  · have hbm : l[i] = (m % 128 + 128).toUInt8 := by
      rw [Lib.uvarint, dif_neg hm, List.drop_eq_getElem_cons hil] at hdr
      exact (List.cons.inj hdr).1
    have hbn : (l[i]).toNat = m % 128 + 128 := by rw [hbm]; simp; omega
    refine To.testF (decide (((l[i]).toNat : Int) < 128)) (by kernel_rfl) (decide_eq_false (by omega)) ?_
    refine To.runF 22 [] (fun _ _ => by kernel_rfl) fun f7 g7 l7 => ?_
    have hor : IntKind.u64.wrap ((BitVec.ofInt IntKind.u64.bits (Int.ofNat x) ||| BitVec.ofInt IntKind.u64.bits (IntKind.u64.wrap (IntKind.u64.wrap (IntKind.u8.wrap ((BitVec.ofInt IntKind.u8.bits ((l[i]).toNat : Int) &&& BitVec.ofInt IntKind.u8.bits 127).toNat : Nat)) * 2 ^ min (Int.toNat (Int.ofNat (7 * i))) IntKind.u64.bits))).toNat : Nat) = Int.ofNat (x + m % 128 * 2 ^ (7 * i)) := by
      have hand : ((BitVec.ofInt IntKind.u8.bits ((l[i]).toNat : Int) &&& BitVec.ofInt IntKind.u8.bits 127).toNat : Nat) = m % 128 := by
        rw [hbn, BitVec.toNat_and]
        have e1 : (BitVec.ofInt IntKind.u8.bits ((m % 128 + 128 : Nat) : Int)).toNat = m % 128 + 128 := by
          show (BitVec.ofInt 8 ((m % 128 + 128 : Nat) : Int)).toNat = _
          rw [BitVec.ofInt_natCast, BitVec.toNat_ofNat]; omega
        have e2 : (BitVec.ofInt IntKind.u8.bits 127).toNat = 2 ^ 7 - 1 := by decide
        rw [e1, e2, Nat.and_two_pow_sub_one_eq_mod]
        omega
      rw [hand, IntWalk.u8_in ((m % 128 : Nat) : Int) ⟨by omega, by omega⟩, IntWalk.u64_in ((m % 128 : Nat) : Int) ⟨by omega, by omega⟩]
      exact orU x (m % 128) (7 * i) hx (by omega) (by omega)
    refine To.slotE 5 (.int .u64 (IntKind.u64.wrap ((BitVec.ofInt IntKind.u64.bits (Int.ofNat x) ||| BitVec.ofInt IntKind.u64.bits (IntKind.u64.wrap (IntKind.u64.wrap (IntKind.u8.wrap ((BitVec.ofInt IntKind.u8.bits ((l[i]).toNat : Int) &&& BitVec.ofInt IntKind.u8.bits 127).toNat : Nat)) * 2 ^ min (Int.toNat (Int.ofNat (7 * i))) IntKind.u64.bits))).toNat : Nat))) (.int .u64 (Int.ofNat (x + m % 128 * 2 ^ (7 * i)))) (by kernel_rfl) (by rw [hor]) ?_
    have hs7 : IntKind.u64.wrap (Int.ofNat (7 * i) + 7) = Int.ofNat (7 * (i + 1)) := by
      rw [IntWalk.u64_in _ ⟨by simp only [Int.ofNat_eq_natCast]; omega, by simp only [Int.ofNat_eq_natCast]; omega⟩]; simp only [Int.ofNat_eq_natCast]; omega
    refine To.slotE 6 (.int .u64 (IntKind.u64.wrap (Int.ofNat (7 * i) + 7))) (.int .u64 (Int.ofNat (7 * (i + 1)))) (by kernel_rfl) (by rw [hs7]) ?_
    refine To.slotE 11 (.int .i64 (IntKind.i64.wrap (Int.ofNat i + 1))) (.int .i64 (Int.ofNat (i + 1))) (by kernel_rfl) (by rw [wrap_succ i (by omega)]) ?_
    have hp7 : 2 ^ (7 * (i + 1)) = 2 ^ (7 * i) * 128 := by rw [Nat.mul_succ, Nat.pow_add]
    have huvm : Lib.uvarint m = (m % 128 + 128).toUInt8 :: Lib.uvarint (m / 128) := by rw [Lib.uvarint, dif_neg hm]
    exact back _ _ (i + 1, m / 128, x + m % 128 * 2 ^ (7 * i)) [] (by show l.length - (i + 1) < l.length - i; omega) ⟨by kernel_rfl, by kernel_rfl, by kernel_rfl, by kernel_rfl, by kernel_rfl, rfl⟩ (fun w7 hw7 => ⟨by
      show l.drop (i + 1) = Lib.uvarint (m / 128) ++ rest
      rw [huvm, List.drop_eq_getElem_cons hil] at hdr
      exact (List.cons.inj hdr).2, by
      show n = x + m % 128 * 2 ^ (7 * i) + m / 128 * 2 ^ (7 * (i + 1))
      rw [hp7, hnx, Nat.add_assoc]
      congr 1
      rw [show m / 128 * (2 ^ (7 * i) * 128) = (m / 128 * 128) * 2 ^ (7 * i) by rw [Nat.mul_comm (2 ^ (7 * i)) 128, ← Nat.mul_assoc], ← Nat.add_mul]
      congr 1
      omega, by
      show x + m % 128 * 2 ^ (7 * i) < 2 ^ (7 * (i + 1))
      have h1 : m % 128 * 2 ^ (7 * i) ≤ 127 * 2 ^ (7 * i) := Nat.mul_le_mul_right _ (by omega)
      rw [hp7]
      omega, .inr (by show 1 ≤ m / 128; omega), by
      show i + 1 + (Lib.uvarint (m / 128)).length = (Lib.uvarint n).length
      rw [← hlen, huvm, List.length_cons]
      omega⟩)
end Go.Proofs.YtgodhbgnhapemaaGreatDoor
/- A component's value, as its transcoder tells it. Conditions: as each says. -/
namespace Go.Proofs.YtgodhbgnhapemaaGreatDoor
open Go Go.SX Go.IpText
set_option maxHeartbeats 8000000
set_option maxRecDepth 100000
theorem valueErr (r : Row) (c : Int) (val cs : List UInt8) (si : Nat) (hr : RowFor c val r) (pb vb g : Nat) (w : World) (ht : Tab w) (hrow : RowAt w pb vb r) (hsi : si ≤ cs.length) (hdv : cs.drop si = val)
    (hc : w.heap[g]? = some (.cells ⟨[.string ⟨⟨cs⟩⟩, .pointer (some ⟨pb, 0, none⟩), .int .i64 (Int.ofNat si)]⟩ 59 (0, 0))) :
    Calls Tryz.prog 124 #[.pointer (some ⟨g, 0, none⟩)] w (fun e w1 => ∃ v, e = .returned v ∧ Ext [] w w1 ∧ ∃ t, v = .tuple #[.string t, .nilIface]) := by
  refine calls_of0 (args := [.pointer (some ⟨g, 0, none⟩)]) Tryz.func124 rfl rfl rfl ?_
  obtain ⟨hg1, hg2⟩ := hrow.ne hc (by decide) (by decide)
  refine To.withAt g (.cells ⟨[.string ⟨⟨cs⟩⟩, .pointer (some ⟨pb, 0, none⟩), .int .i64 (Int.ofNat si)]⟩ 59 (0, 0)) false hc (nums_all (Q := fun n => n ≠ g) (l := []) (by kernel_rfl) trivial) (fun e => by cases e) ?_
  refine To.withAt pb (.cells ⟨rowCells r vb⟩ 79 (0, 0)) false hrow.row (nums_all (Q := fun n => n ≠ pb) (l := [some g]) (by kernel_rfl) ⟨hg1, trivial⟩) (fun e => by cases e) ?_
  obtain ⟨nm, cd, sz, ph, tr, vc⟩ := r
  by_cases h0 : szOf c = 0
  · have htr : tr = none := hr.tr0 h0
    subst htr
    refine To.runF 42 [0, 0, 1] (fun _ _ => by kernel_rfl) fun f1 g1 l1 => ?_
    exact To.ret [] (.tuple #[.string ⟨#[]⟩, .nilIface]) (by kernel_rfl) (by kernel_rfl) fun w4 hw4 => ⟨_, rfl, hw4.ext, _, rfl⟩
  · obtain ⟨x, htr, hT⟩ := hr.tr1 h0
    have htr : tr = some (126, x) := htr
    subst htr
    refine To.runF 57 [0, 0, 1, 2, 0, 1, 0, 0, 1, 2, 3, 0, 4, 5, 6, 1, 7, 8, 9, 10, 0, 11, 12, 13, 14, 0, 17, 18] (fun _ _ => by kernel_rfl) fun f1 g1 l1 => ?_
    refine To.sliceStrFrom (t := 9) uStr ⟨⟨cs⟩⟩ si hsi (by kernel_rfl) ?_
    refine To.slotE 39 (.string ((ByteArray.mk ⟨cs⟩).extract si (ByteArray.mk ⟨cs⟩).size)) (.string ⟨⟨val⟩⟩) (by kernel_rfl) (by rw [exB, show (ByteArray.mk ⟨cs⟩).size = cs.length from rfl, List.take_length, hdv]) ?_
    refine To.bytesOf (src := 9) (dst := 28) (e := 5) ⟨⟨val⟩⟩ uString uBytes uU8 (by kernel_rfl) ?_
    intro gy cy ry hcy hry hgy
    refine To.callN 355 #[x, .slice (some ⟨gy, 0, none⟩) val.length cy] (by kernel_rfl) (fun _ => by kernel_rfl) (fun w6 hw6 => hT.bts w6 (some ⟨gy, 0, none⟩) cy (ht.later hw6.ext) (bytesOfZ (hw6.blk (j := 2) (b := gy) (o := .cells ⟨ucells val ++ ry⟩ 5 (cy, cy + 1)) (q := true) (by kernel_rfl))) hcy) (fun w6 v6 w7 hw6 hx6 hv6 hnew6 hwi6 => ?_)
    obtain ⟨t, rfl⟩ := hv6
    refine To.runF 20 [21, 22] (fun _ _ => by kernel_rfl) fun f2 g2 l2 => ?_
    exact To.ret [] (.tuple #[.string t, .nilIface]) (by kernel_rfl) (by kernel_rfl) fun w4 hw4 => ⟨_, rfl, hw4.ext, _, rfl⟩
end Go.Proofs.YtgodhbgnhapemaaGreatDoor
/- A code's varint is read. Conditions: below 2^31. -/
namespace Go.Proofs.YtgodhbgnhapemaaGreatDoor
open Go Go.SX Go.IpText
set_option maxHeartbeats 8000000
set_option maxRecDepth 100000
theorem readCode (n : Nat) (rest l : List UInt8) (hl : l = Lib.uvarint n ++ rest) (a : Option Addr) (ca : Nat) (w : World) (hn : n < 2147483648) (hin : BytesIn w a l) (hll : l.length ≤ 1000000000000) :
    Calls Tryz.prog 98 #[.slice a l.length ca] w (fun e w1 => ∃ v, e = .returned v ∧ Ext [] w w1 ∧ v = .tuple #[.int .i64 (Int.ofNat n), .int .i64 (Int.ofNat (Lib.uvarint n).length), .nilIface]) := by
  refine calls_of0 (args := [.slice a l.length ca]) Tryz.func98 rfl rfl rfl ?_
  refine To.runF 9 [] (fun _ _ => by kernel_rfl) fun f1 g1 l1 => ?_
  refine To.callN 121 #[.slice a l.length ca] (by kernel_rfl) (fun _ => by kernel_rfl) (fun w2 hw2 => fromUv n rest l hl a ca w2 hn (hin.later hw2.ext) hll) (fun w2 v2 w3 hw2 hx2 hv2 hnew2 hwi2 => ?_)
  subst hv2
  refine To.runF 22 [] (fun _ _ => by kernel_rfl) fun f2 g2 l2 => ?_
  refine To.testF (decide (Int.ofNat n > 2147483647)) (by kernel_rfl) (decide_eq_false (by simp only [Int.ofNat_eq_natCast]; omega)) ?_
  refine To.runF 11 [] (fun _ _ => by kernel_rfl) fun f3 g3 l3 => ?_
  have hwn : IntKind.i64.wrap (Int.ofNat n) = Int.ofNat n := IntWalk.i64_in _ ⟨by simp only [Int.ofNat_eq_natCast]; omega, by simp only [Int.ofNat_eq_natCast]; omega⟩
  refine To.slotE 2 (.int .i64 (IntKind.i64.wrap (Int.ofNat n))) (.int .i64 (Int.ofNat n)) (by kernel_rfl) (by rw [hwn]) ?_
  exact To.ret [] (.tuple #[.int .i64 (Int.ofNat n), .int .i64 (Int.ofNat (Lib.uvarint n).length), .nilIface]) (by kernel_rfl) (by kernel_rfl) fun w4 hw4 => ⟨_, rfl, hw4.ext, rfl⟩
/-- A component whose parts fit: its row, its value, where the value begins. -/
def compOf (r : Row) (val : List UInt8) : List UInt8 := r.vc ++ ((if r.size < 0 then Lib.uvarint val.length else []) ++ val)
theorem validate (r : Row) (c : Int) (val : List UInt8) (hr : RowFor c val r) (pb vb g : Nat) (w : World) (ht : Tab w) (hrow : RowAt w pb vb r) (hval : val.length ≤ 2147483647) (hfix : ¬ r.size < 0 → Int.tdiv r.size 8 = Int.ofNat val.length)
    (hc : w.heap[g]? = some (.cells ⟨[.string ⟨⟨compOf r val⟩⟩, .pointer (some ⟨pb, 0, none⟩), .int .i64 (Int.ofNat ((compOf r val).length - val.length))]⟩ 59 (0, 0))) :
    Calls Tryz.prog 101 #[.pointer (some ⟨g, 0, none⟩)] w (fun e w1 => ∃ v, e = .returned v ∧ Ext [] w w1 ∧ v = .nilIface) := by
  refine calls_of0 (args := [.pointer (some ⟨g, 0, none⟩)]) Tryz.func101 rfl rfl rfl ?_
  obtain ⟨cs, hcs⟩ : ∃ cs, cs = compOf r val := ⟨_, rfl⟩
  obtain ⟨si, hsi⟩ : ∃ si, si = (compOf r val).length - val.length := ⟨_, rfl⟩
  rw [← hsi, ← hcs] at hc
  obtain ⟨hg1, hg2⟩ := hrow.ne hc (by decide) (by decide)
  have hpv : pb ≠ vb := fun e => by
    have h := hrow.vc
    rw [← e, hrow.row] at h
    simp only [Option.some.injEq, Obj.cells.injEq] at h
    exact absurd h.2.1 (by decide)
  obtain ⟨md, hmd⟩ : ∃ md, md = (if r.size < 0 then Lib.uvarint val.length else []) := ⟨_, rfl⟩
  have hcs2 : cs = r.vc ++ (md ++ val) := by rw [hcs, hmd]; rfl
  have hcl : cs.length = r.vc.length + md.length + val.length := by rw [hcs2, List.length_append, List.length_append]; omega
  have hsi2 : si = r.vc.length + md.length := by rw [hsi, ← hcs, hcl]; omega
  have hvl : 0 < r.vc.length := by rw [hr.vc, Lib.uvarint]; split <;> simp
  have hvl9 : r.vc.length ≤ 10 := by rw [hr.vc]; exact Lib.uvarint_length64 (by have := hr.small; omega)
  have hml : md.length ≤ 10 := by rw [hmd]; split; exact Lib.uvarint_length64 (by omega); exact Nat.zero_le _
  refine To.withAt g (.cells ⟨[.string ⟨⟨cs⟩⟩, .pointer (some ⟨pb, 0, none⟩), .int .i64 (Int.ofNat si)]⟩ 59 (0, 0)) false hc (nums_all (Q := fun n => n ≠ g) (l := []) (by kernel_rfl) trivial) (fun e => by cases e) ?_
  refine To.withAt pb (.cells ⟨rowCells r vb⟩ 79 (0, 0)) false hrow.row (nums_all (Q := fun n => n ≠ pb) (l := [some g]) (by kernel_rfl) ⟨hg1, trivial⟩) (fun e => by cases e) ?_
  refine To.withAt vb (.cells ⟨ucells r.vc⟩ 5 (0, 0)) false hrow.vc (nums_all (Q := fun n => n ≠ vb) (l := [some g, some pb]) (by kernel_rfl) ⟨hg2, hpv, trivial⟩) (fun e => by cases e) ?_
  refine To.runF 37 [0, 1, 0, 0, 0, 1, 2, 3, 0, 0] (fun _ _ => by kernel_rfl) fun f1 g1 l1 => ?_
  have hsz : (ByteArray.mk ⟨cs⟩).size = cs.length := rfl
  refine To.testF (decide (Int.ofNat si > ((ByteArray.mk ⟨cs⟩).size : Int))) (by kernel_rfl) (decide_eq_false (by rw [hsz]; simp only [Int.ofNat_eq_natCast]; omega)) ?_
  refine To.runF 14 [0, 1] (fun _ _ => by kernel_rfl) fun f2 g2 l2 => ?_
  refine To.testF ((r.vc.length : Int) == 0) (by kernel_rfl) (beq_eq_false_iff_ne.2 (by omega)) ?_
  refine To.runF 19 [2, 0, 1, 0, 0, 1, 2, 3, 0, 4, 0, 1] (fun _ _ => by kernel_rfl) fun f3 g3 l3 => ?_
  refine To.testF (decide (((ByteArray.mk ⟨cs⟩).size : Int) < (r.vc.length : Int))) (by kernel_rfl) (decide_eq_false (by rw [hsz]; omega)) ?_
  refine To.runF 23 [2, 0, 1, 0, 0, 1, 2, 3, 0, 4, 5, 6, 7, 0, 8, 9, 10, 1, 11, 14, 15, 16, 17, 0, 18, 19, 20, 1] (fun _ _ => by kernel_rfl) fun f4 g4 l4 => ?_
  refine To.sliceStrTo (t := 9) uStr ⟨⟨cs⟩⟩ r.vc.length (by rw [hsz]; omega) (by kernel_rfl) ?_
  refine To.slotE 66 (.string ((ByteArray.mk ⟨cs⟩).extract 0 r.vc.length)) (.string ⟨⟨r.vc⟩⟩) (by kernel_rfl) (by rw [exB, List.drop_zero, hcs2, List.take_left]) ?_
  refine To.bytesOf (src := 9) (dst := 28) (e := 5) ⟨⟨r.vc⟩⟩ uString uBytes uU8 (by kernel_rfl) ?_
  intro gx cx rx hcx hrx hgx
  refine To.runF 8 [] (fun _ _ => by kernel_rfl) fun f5 g5 l5 => ?_
  refine To.textOf (src := 28) (dst := 9) (e := 5) (some ⟨gx, 0, none⟩) r.vc.length cx r.vc rfl uBytes uString uU8 (by kernel_rfl) (fun w8 hw8 j u hj => (bytesOfZ (hw8.blk (j := 3) (b := gx) (o := .cells ⟨ucells r.vc ++ rx⟩ 5 (cx, cx + 1)) (q := true) (by kernel_rfl))).at_ j u hj) (fun e => by cases e) ?_
  refine To.runF 1 [] (fun _ _ => by kernel_rfl) fun f6 g6 l6 => ?_
  refine To.textOf (src := 28) (dst := 9) (e := 5) (some ⟨vb, 0, none⟩) r.vc.length r.vc.length r.vc rfl uBytes uString uU8 (by kernel_rfl) (fun w8 hw8 j u hj => (bytesOfZ (rest := []) (by rw [List.append_nil]; exact hw8.blk (j := 2) (b := vb) (o := .cells ⟨ucells r.vc⟩ 5 (0, 0)) (q := false) (by kernel_rfl))).at_ j u hj) (fun e => by cases e) ?_
  refine To.runF 6 [] (fun _ _ => by kernel_rfl) fun f7 g7 l7 => ?_
  refine To.testF (!((ByteArray.mk ⟨r.vc⟩).toList == (ByteArray.mk ⟨r.vc⟩).toList)) (by kernel_rfl) (by simp) ?_
  refine To.runF 13 [0, 1] (fun _ _ => by kernel_rfl) fun f8 g8 l8 => ?_
  have hsl1 : ∀ k, (ByteArray.mk ⟨cs⟩).extract k (ByteArray.mk ⟨cs⟩).size = ⟨⟨cs.drop k⟩⟩ := fun k => by rw [exB, hsz, List.take_length]
  have hdv : cs.drop si = val := by rw [hcs2, hsi2, ← List.append_assoc]; exact List.drop_left' (by rw [List.length_append])
  have hd1 : cs.drop r.vc.length = md ++ val := by rw [hcs2]; exact List.drop_left ..
  refine To.meet 1 (ι := Unit) (fun _ => ([(0, .pointer (some ⟨g, 0, none⟩)), (2, .nilIface)], [some ⟨g, .cells ⟨[.string ⟨⟨cs⟩⟩, .pointer (some ⟨pb, 0, none⟩), .int .i64 (Int.ofNat si)]⟩ 59 (0, 0), false⟩, some ⟨pb, .cells ⟨rowCells r vb⟩ 79 (0, 0), false⟩, some ⟨vb, .cells ⟨ucells r.vc⟩ 5 (0, 0), false⟩])) (fun _ _ => True) (fun join => ?_) (fun _ w4 _ hx4 => ?_)
  · by_cases hneg : r.size < 0
    · rw [if_pos hneg] at hmd
      refine To.testT (decide (r.size < 0)) (by kernel_rfl) (decide_eq_true hneg) ?_
      refine To.runF 14 [2, 0, 1, 0, 0, 1, 2, 3, 0, 0, 1] (fun _ _ => by kernel_rfl) fun f9 g9 l9 => ?_
      refine To.sliceStrFrom (t := 9) uStr ⟨⟨cs⟩⟩ r.vc.length (by rw [hsz]; omega) (by kernel_rfl) ?_
      refine To.slotE 99 (.string ((ByteArray.mk ⟨cs⟩).extract r.vc.length (ByteArray.mk ⟨cs⟩).size)) (.string ⟨⟨md ++ val⟩⟩) (by kernel_rfl) (by rw [hsl1, hd1]) ?_
      refine To.bytesOf (src := 9) (dst := 28) (e := 5) ⟨⟨md ++ val⟩⟩ uString uBytes uU8 (by kernel_rfl) ?_
      intro gy cy ry hcy hry hgy
      refine To.callN 98 #[.slice (some ⟨gy, 0, none⟩) (md ++ val).length cy] (by kernel_rfl) (fun _ => by kernel_rfl) (fun w6 hw6 => readCode val.length val (md ++ val) (by rw [hmd]) (some ⟨gy, 0, none⟩) cy w6 (by omega) (bytesOfZ (hw6.blk (j := 4) (b := gy) (o := .cells ⟨ucells (md ++ val) ++ ry⟩ 5 (cy, cy + 1)) (q := true) (by kernel_rfl))) (by rw [List.length_append]; omega)) (fun w6 v6 w7 hw6 hx6 hv6 hnew6 hwi6 => ?_)
      subst hv6
      refine To.runF 28 [16, 17, 18, 1, 0, 0, 0, 1, 2, 3, 4, 0, 0] (fun _ _ => by kernel_rfl) fun f10 g10 l10 => ?_
      refine To.sliceStrFrom (t := 9) uStr ⟨⟨cs⟩⟩ si (by rw [hsz]; omega) (by kernel_rfl) ?_
      refine To.slotE 117 (.string ((ByteArray.mk ⟨cs⟩).extract si (ByteArray.mk ⟨cs⟩).size)) (.string ⟨⟨val⟩⟩) (by kernel_rfl) (by rw [hsl1, hdv]) ?_
      refine To.runF 3 [] (fun _ _ => by kernel_rfl) fun f11 g11 l11 => ?_
      refine To.testF (Int.ofNat val.length != ((ByteArray.mk ⟨val⟩).size : Int)) (by kernel_rfl) (by show (Int.ofNat val.length != Int.ofNat val.length) = false; simp) ?_
      refine To.runF 22 [2, 0, 1, 0, 0, 1, 2, 3, 0, 4, 5, 6, 1, 7, 8, 9, 10, 11, 0] (fun _ _ => by kernel_rfl) fun f12 g12 l12 => ?_
      have hsum : IntKind.i64.wrap (IntKind.i64.wrap ((r.vc.length : Int) + Int.ofNat (Lib.uvarint val.length).length) + Int.ofNat val.length) = Int.ofNat cs.length := by
        rw [← hmd, IntWalk.i64_in ((r.vc.length : Int) + Int.ofNat md.length) ⟨by simp only [Int.ofNat_eq_natCast]; omega, by simp only [Int.ofNat_eq_natCast]; omega⟩, IntWalk.i64_in _ ⟨by simp only [Int.ofNat_eq_natCast]; omega, by simp only [Int.ofNat_eq_natCast]; omega⟩]
        simp only [Int.ofNat_eq_natCast]; omega
      refine To.testF (IntKind.i64.wrap (IntKind.i64.wrap ((r.vc.length : Int) + Int.ofNat (Lib.uvarint val.length).length) + Int.ofNat val.length) != ((ByteArray.mk ⟨cs⟩).size : Int)) (by kernel_rfl) (by rw [hsum]; show (Int.ofNat cs.length != Int.ofNat cs.length) = false; simp) ?_
      refine To.runF 1 [] (fun _ _ => by kernel_rfl) fun f13 g13 l13 => ?_
      exact join _ _ () [0, 1, 2] ⟨by kernel_rfl, by kernel_rfl, by kernel_rfl, by kernel_rfl, by kernel_rfl, rfl⟩ (fun _ _ => trivial)
    · rw [if_neg hneg] at hmd
      refine To.testF (decide (r.size < 0)) (by kernel_rfl) (decide_eq_false hneg) ?_
      refine To.runF 24 [0, 1, 1, 0, 0, 0, 1, 2, 3, 4, 0, 0] (fun _ _ => by kernel_rfl) fun f9 g9 l9 => ?_
      have hw8 : IntKind.i64.wrap (Int.tdiv r.size 8) = Int.ofNat val.length := by
        rw [hfix hneg, IntWalk.i64_in _ ⟨by simp only [Int.ofNat_eq_natCast]; omega, by simp only [Int.ofNat_eq_natCast]; omega⟩]
      refine To.slotE 148 (.int .i64 (IntKind.i64.wrap (Int.tdiv r.size 8))) (.int .i64 (Int.ofNat val.length)) (by kernel_rfl) (by rw [hw8]) ?_
      refine To.sliceStrFrom (t := 9) uStr ⟨⟨cs⟩⟩ si (by rw [hsz]; omega) (by kernel_rfl) ?_
      refine To.slotE 157 (.string ((ByteArray.mk ⟨cs⟩).extract si (ByteArray.mk ⟨cs⟩).size)) (.string ⟨⟨val⟩⟩) (by kernel_rfl) (by rw [hsl1, hdv]) ?_
      refine To.runF 3 [] (fun _ _ => by kernel_rfl) fun f10 g10 l10 => ?_
      refine To.testF (Int.ofNat val.length != ((ByteArray.mk ⟨val⟩).size : Int)) (by kernel_rfl) (by show (Int.ofNat val.length != Int.ofNat val.length) = false; simp) ?_
      refine To.runF 20 [2, 0, 1, 0, 0, 1, 2, 3, 0, 4, 5, 6, 1, 7, 8, 9, 0] (fun _ _ => by kernel_rfl) fun f11 g11 l11 => ?_
      have hsum : IntKind.i64.wrap ((r.vc.length : Int) + IntKind.i64.wrap (Int.tdiv r.size 8)) = Int.ofNat cs.length := by
        rw [hw8, IntWalk.i64_in _ ⟨by simp only [Int.ofNat_eq_natCast]; omega, by simp only [Int.ofNat_eq_natCast]; omega⟩]
        have : md.length = 0 := by rw [hmd]; rfl
        simp only [Int.ofNat_eq_natCast]; omega
      refine To.testF (IntKind.i64.wrap ((r.vc.length : Int) + IntKind.i64.wrap (Int.tdiv r.size 8)) != ((ByteArray.mk ⟨cs⟩).size : Int)) (by kernel_rfl) (by rw [hsum]; show (Int.ofNat cs.length != Int.ofNat cs.length) = false; simp) ?_
      refine To.runF 1 [] (fun _ _ => by kernel_rfl) fun f12 g12 l12 => ?_
      exact join _ _ () [0, 1, 2] ⟨by kernel_rfl, by kernel_rfl, by kernel_rfl, by kernel_rfl, by kernel_rfl, rfl⟩ (fun _ _ => trivial)
  refine To.runF 3 [] (fun _ _ => by kernel_rfl) fun f9 g9 l9 => ?_
  refine To.callN 124 #[.pointer (some ⟨g, 0, none⟩)] (by kernel_rfl) (fun _ => by kernel_rfl) (fun w6 hw6 => valueErr r c val cs si hr pb vb g w6 (ht.later hw6.ext) (hrow.later hw6.ext) (by omega) hdv (hw6.ext.at hc (by simp))) (fun w6 v6 w7 hw6 hx6 hv6 hnew6 hwi6 => ?_)
  obtain ⟨t, rfl⟩ := hv6
  obtain ⟨nm, cd, sz, ph, tr, vc⟩ := r
  by_cases h0 : szOf c = 0
  · have htr : tr = none := hr.tr0 h0
    subst htr
    refine To.runF 32 [0, 1] (fun _ _ => by kernel_rfl) fun f10 g10 l10 => ?_
    exact To.ret [] .nilIface (by kernel_rfl) (by kernel_rfl) fun w4 hw4 => ⟨_, rfl, hw4.ext, rfl⟩
  · obtain ⟨x, htr, hT⟩ := hr.tr1 h0
    have htr : tr = some (126, x) := htr
    subst htr
    refine To.runF 46 [0, 1, 2, 0, 1, 0, 0, 1, 2, 3, 0, 4, 5, 6, 1, 7, 8, 9, 10, 0, 11, 12, 13, 14, 0, 17, 18] (fun _ _ => by kernel_rfl) fun f10 g10 l10 => ?_
    refine To.sliceStrFrom (t := 9) uStr ⟨⟨cs⟩⟩ si (by rw [hsz]; omega) (by kernel_rfl) ?_
    refine To.slotE 209 (.string ((ByteArray.mk ⟨cs⟩).extract si (ByteArray.mk ⟨cs⟩).size)) (.string ⟨⟨val⟩⟩) (by kernel_rfl) (by rw [hsl1, hdv]) ?_
    refine To.bytesOf (src := 9) (dst := 28) (e := 5) ⟨⟨val⟩⟩ uString uBytes uU8 (by kernel_rfl) ?_
    intro gz cz rz hcz hrz hgz
    refine To.callN 357 #[x, .slice (some ⟨gz, 0, none⟩) val.length cz] (by kernel_rfl) (fun _ => by kernel_rfl) (fun w8 hw8 => hT.ok w8 (some ⟨gz, 0, none⟩) cz (ht.later hw8.ext) (bytesOfZ (hw8.blk (j := 3) (b := gz) (o := .cells ⟨ucells val ++ rz⟩ 5 (cz, cz + 1)) (q := true) (by kernel_rfl))) hcz) (fun w8 v8 w9 hw8 hx8 hv8 hnew8 hwi8 => ?_)
    subst hv8
    refine To.runF 13 [] (fun _ _ => by kernel_rfl) fun f11 g11 l11 => ?_
    exact To.ret [] .nilIface (by kernel_rfl) (by kernel_rfl) fun w4 hw4 => ⟨_, rfl, hw4.ext, rfl⟩
end Go.Proofs.YtgodhbgnhapemaaGreatDoor
/- Plain: the text of a simple address begins with a slash and doesn't end with one; its pieces one component at a time; the bytes of a component. Conditions: as each says. -/
namespace Go.Proofs.YtgodhbgnhapemaaGreatDoor
open Go Go.SX Go.IpText
set_option maxHeartbeats 8000000
set_option maxRecDepth 100000
theorem hexOf_ne (n : Nat) : hexOf n ≠ [] := by
  rw [hexOf_eq]
  split <;> simp
theorem sixGo_ne (g : Nat → Nat) (fr tu : Nat) : ∀ n i s, s ≠ [] → sixGo g fr tu n i s ≠ []
  | 0, i, s, h => h
  | n + 1, i, s, h => by
    rw [sixGo]
    split
    · split
      · split
        · simp
        · exact sixGo_ne g fr tu n _ _ (by simp)
      · exact sixGo_ne g fr tu n _ _ (by split <;> simp [h])
    · exact h
theorem sixOf_ne (b : List UInt8) (h : b.length = 16) : sixOf b ≠ [] := by
  unfold sixOf
  split
  · simp
  · unfold ipText
    rw [if_neg (by omega)]
    unfold sixText
    rw [sixGo, if_pos (by decide)]
    split
    · split
      · simp
      · exact sixGo_ne _ _ _ _ _ _ (by simp)
    · exact sixGo_ne _ _ _ _ _ _ (by simp [hexOf_ne])
theorem fourText_ne (b : List UInt8) : fourText b ≠ [] := by unfold fourText; simp
/-- The text of a value is not empty, and doesn't end in a slash. -/
theorem valText_ne {c : Int} {val : List UInt8} (h : SimpleP c val) (h0 : szOf c ≠ 0) : valText c val ≠ [] := by
  unfold valText
  rw [if_neg h0]
  split
  · exact fourText_ne _
  · split
    · rename_i e41
      have hm := h.simple
      subst e41
      have hl := (hm.fixed (by decide)).1
      exact sixOf_ne _ (by rw [hl]; decide)
    · split
      · exact decDigits_ne _
      · rcases h.simple.free (by omega) with h4 | ⟨_, h1, _⟩
        · obtain ⟨t, ht, _⟩ := h.path h4
          rw [ht]; simp
        · intro e; rw [e] at h1; simp at h1
theorem last_append {a b : List UInt8} (hb : b ≠ []) (h : b.getLast? ≠ some 47) : (a ++ b).getLast? ≠ some 47 := by
  rw [List.getLast?_append]
  cases hg : b.getLast? with
  | none => exact absurd (List.getLast?_eq_none_iff.1 hg) hb
  | some x => rw [hg] at h; simpa using h
theorem last_of_no {b : List UInt8} (h : ∀ c ∈ b, c ≠ 47) : b.getLast? ≠ some 47 := fun e => h 47 (List.mem_of_getLast? e) rfl
theorem nameOf_ne {c : Int} (h : (c, szOf c) ∈ specSizes) : nameOf c ≠ [] := by
  have : ∀ p ∈ specSizes, nameOf p.1 ≠ [] := by decide
  exact this _ h
theorem compText_last {p : Int × List UInt8} (h : SimpleP p.1 p.2) : (compText p).getLast? ≠ some 47 := by
  have hm : (p.1, szOf p.1) ∈ specSizes := h.simple.mem
  have e : ∀ x : List UInt8, (47 : UInt8) :: x = [47] ++ x := fun _ => rfl
  unfold compText
  by_cases h0 : szOf p.1 = 0
  · have hv : valText p.1 p.2 = [] := by unfold valText; rw [if_pos h0]
    rw [if_neg (fun h => h.1 h0), hv, List.append_nil, List.append_nil, e]
    exact last_append (nameOf_ne hm) (last_of_no (nameOf_no hm))
  · have hb : (valText p.1 p.2).getLast? ≠ some 47 := by
      by_cases h4 : p.1 = 400
      · obtain ⟨t, ht, ht1, ht2⟩ := h.path h4
        have hs : szOf p.1 < 0 := by rw [h4]; decide
        have hv : valText p.1 p.2 = p.2 := by
          unfold valText
          rw [if_neg h0, if_neg (by rw [h4]; decide), if_neg (by rw [h4]; decide), if_neg (by omega)]
        rw [hv, ht, e]
        exact last_append ht1 ht2
      · exact last_of_no (valText_no h h4)
    rw [e, ← List.append_assoc, ← List.append_assoc]
    exact last_append (valText_ne h h0) hb
theorem textOf_cons (p : Int × List UInt8) (l : Comps) : textOf (p :: l) = compText p ++ textOf l := by simp [textOf]
theorem compText_ne (p : Int × List UInt8) : compText p ≠ [] := by unfold compText; simp
theorem textOf_last : ∀ {l : Comps}, SimpleA l → l ≠ [] → textOf l ≠ [] ∧ (textOf l).getLast? ≠ some 47
  | [], _, h => absurd rfl h
  | [p], h, _ => by
    have : textOf [p] = compText p := by simp [textOf]
    rw [this]
    exact ⟨compText_ne p, compText_last (h.all p (List.mem_cons_self ..))⟩
  | p :: q :: l, h, _ => by
    obtain ⟨h1, h2⟩ := textOf_last h.tail (by simp)
    rw [textOf_cons]
    exact ⟨by simp [h1], last_append h1 h2⟩
/-- The text's pieces: nothing ahead of the first slash, then the components' own. -/
theorem cut_all {l : Comps} (h : SimpleA l) (hn : l ≠ []) : cutS (textOf l) = [] :: allPieces l := by
  have ht := cut_text h
  cases l with
  | nil => exact absurd rfl hn
  | cons p l =>
    have e : ∃ x, textOf (p :: l) = 47 :: x := ⟨_, by rw [textOf_cons]; rfl⟩
    obtain ⟨x, e⟩ := e
    rw [e, cutS_slash] at ht ⊢
    rw [← ht]; rfl
theorem allPieces_cons (p : Int × List UInt8) (l : Comps) : allPieces (p :: l) = piecesOf p ++ allPieces l := by simp [allPieces]
theorem pieces0 {p : Int × List UInt8} {l : Comps} (h0 : szOf p.1 = 0) : allPieces (p :: l) = nameOf p.1 :: allPieces l := by
  rw [allPieces_cons]; unfold piecesOf; rw [if_pos h0]; rfl
theorem pieces1 {p : Int × List UInt8} {l : Comps} (h0 : szOf p.1 ≠ 0) (h4 : p.1 ≠ 400) : allPieces (p :: l) = nameOf p.1 :: valText p.1 p.2 :: allPieces l := by
  rw [allPieces_cons]; unfold piecesOf; rw [if_neg h0, if_neg h4]; rfl
theorem pieces4 {p : Int × List UInt8} {l : Comps} (h4 : p.1 = 400) (hl : l = []) : allPieces (p :: l) = nameOf p.1 :: cutS (p.2.drop 1) := by
  rw [allPieces_cons]; unfold piecesOf; rw [if_neg (by rw [h4]; decide), if_pos h4, hl]; simp [allPieces]
theorem bytesA_cons (p : Int × List UInt8) (l : Comps) : bytesA (p :: l) = compBytes p ++ bytesA l := by simp [bytesA]
theorem compOf_is {r : Row} {c : Int} {val : List UInt8} (h : RowFor c val r) : compOf r val = compBytes (c, val) := by
  unfold compOf compBytes
  rw [h.vc, h.size]
theorem compOf_bytes (r : Row) (val : List UInt8) : (⟨⟨compOf r val⟩⟩ : ByteArray) = bytesOf r.vc r.size val := by
  unfold compOf bytesOf headOf
  by_cases h : r.size < 0
  · rw [if_pos h, if_pos h, ← List.append_assoc]
  · rw [if_neg h, if_neg h, List.nil_append]
theorem compOf_head (r : Row) (val : List UInt8) : (compOf r val).length - val.length = (headOf r.vc r.size val.length).length := by
  unfold compOf headOf
  by_cases h : r.size < 0
  · rw [if_pos h, if_pos h]; simp only [List.length_append]; omega
  · rw [if_neg h, if_neg h]; simp only [List.nil_append, List.length_append]; omega
theorem compText_len {p : Int × List UInt8} (h : SimpleP p.1 p.2) (hv : p.2.length ≤ 2147483647) : (compText p).length ≤ 3000000000 := by
  have h1 := nameOf_len h.simple.mem
  have h2 := valText_len h hv
  unfold compText
  simp only [List.length_cons, List.length_append]
  split <;> simp only [List.length_cons, List.length_nil] <;> omega
theorem textOf_len : ∀ (l : Comps), (∀ p ∈ l, SimpleP p.1 p.2) → (∀ p ∈ l, p.2.length ≤ 2147483647) → (textOf l).length ≤ 3000000000 * l.length
  | [], _, _ => by simp [textOf]
  | p :: l, h, hv => by
    have h1 := compText_len (h p (List.mem_cons_self ..)) (hv p (List.mem_cons_self ..))
    have h2 := textOf_len l (fun q hq => h q (List.mem_cons_of_mem _ hq)) (fun q hq => hv q (List.mem_cons_of_mem _ hq))
    rw [textOf_cons, List.length_append, List.length_cons]
    omega
theorem bytesA_le {l : Comps} (h : ∀ p ∈ l, SimpleP p.1 p.2) (hv : ∀ p ∈ l, p.2.length ≤ 2147483647) : (bytesA l).length ≤ 2147483700 * l.length :=
  bytesA_len l hv fun p hp => Lib.uvarint_length64 (by have := (code_nat (h p hp).simple.mem).2; omega)
theorem bytesA_append (k l : Comps) : bytesA (k ++ l) = bytesA k ++ bytesA l := by simp [bytesA]
/-- A path, put together again. -/
theorem path_join {val : List UInt8} (h : ∃ t, val = 47 :: t ∧ t ≠ [] ∧ t.getLast? ≠ some 47) : [47] ++ Lib.join (cutS (val.drop 1)) [47] = val := by
  obtain ⟨t, rfl, _, _⟩ := h
  rw [join_cut]; rfl
end Go.Proofs.YtgodhbgnhapemaaGreatDoor
