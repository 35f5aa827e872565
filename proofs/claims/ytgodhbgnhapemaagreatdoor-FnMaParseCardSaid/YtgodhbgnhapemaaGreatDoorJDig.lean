/- Numbers and addresses as the reference writes them, and the package's numbers. Conditions: as each says. -/
import Derived.Test.YtgodhbgnhapemaaGreatDoorJSix
import Derived.Test.YtgodhbgnhapemaaGreatDoorSxC
set_option linter.unusedVariables false
set_option linter.unusedSimpArgs false
/- The reference's decimal digits of a number. Conditions: 64 bits. -/
namespace Go.Proofs.YtgodhbgnhapemaaGreatDoor
open Go Go.SX Go.IpText
set_option maxHeartbeats 8000000
set_option maxRecDepth 100000
theorem div10 (n : Nat) (h : n < 18446744073709551616) : IntKind.u64.wrap (Int.tdiv (Int.ofNat n) 10) = Int.ofNat (n / 10) := by
  show IntKind.u64.wrap (Int.ofNat (n / 10)) = _
  exact IntWalk.u64_in _ ⟨Int.natCast_nonneg _, by simp only [Int.ofNat_eq_natCast]; omega⟩
theorem digitB (n : Nat) : ByteArray.push ByteArray.empty (UInt8.ofNat (Int.toNat (IntKind.u8.wrap (IntKind.u64.wrap (48 + Int.tmod (Int.ofNat n) 10))))) = ⟨⟨[UInt8.ofNat (48 + n % 10)]⟩⟩ := by
  have h : IntKind.u8.wrap (IntKind.u64.wrap (48 + Int.tmod (Int.ofNat n) 10)) = Int.ofNat (48 + n % 10) := by
    show IntKind.u8.wrap (IntKind.u64.wrap (48 + Int.ofNat (n % 10))) = _
    rw [IntWalk.u64_in _ ⟨by simp only [Int.ofNat_eq_natCast]; omega, by simp only [Int.ofNat_eq_natCast]; omega⟩, IntWalk.u8_in _ ⟨by simp only [Int.ofNat_eq_natCast]; omega, by simp only [Int.ofNat_eq_natCast]; omega⟩]
    simp only [Int.ofNat_eq_natCast]; omega
  rw [h]; rfl
theorem decTail_len {n : Nat} {s : List UInt8} {m : Nat} (h : Lib.decDigits n = decTail m ++ s) (hn : n < 18446744073709551616) : s.length ≤ 20 := by
  have h1 := congrArg List.length h
  rw [List.length_append, Lib.decDigits_length] at h1
  have h2 : Lib.nDigits n ≤ 20 := by
    by_cases h0 : 1 ≤ n
    · have := Lib.numDigits_eq n h0 hn; split at this <;> omega
    · rw [Lib.nDigits_small (by omega)]; omega
  omega
theorem or64 (n : Nat) (x : UInt8) (h : n * 256 + x.toNat < 18446744073709551616) : IntKind.u64.wrap (((BitVec.ofInt IntKind.u64.bits (IntKind.u64.wrap (Int.ofNat n * 2 ^ min (Int.toNat 8) IntKind.u64.bits)) ||| BitVec.ofInt IntKind.u64.bits (IntKind.u64.wrap (x.toNat : Int))).toNat : Nat) : Int) = Int.ofNat (n * 256 + x.toNat) := by
  have hx := x.toNat_lt
  rw [show (Int.ofNat n * 2 ^ min (Int.toNat 8) IntKind.u64.bits : Int) = ((n * 256 : Nat) : Int) by rw [show (2 : Int) ^ min (Int.toNat 8) IntKind.u64.bits = 256 from rfl]; simp only [Int.ofNat_eq_natCast]; omega]
  rw [IntWalk.u64_in ((n * 256 : Nat) : Int) ⟨by omega, by omega⟩, IntWalk.u64_in (x.toNat : Int) ⟨by omega, by omega⟩]
  have e : (BitVec.ofInt 64 ((n * 256 : Nat) : Int) ||| BitVec.ofInt 64 (x.toNat : Int)).toNat = n * 256 + x.toNat := by
    rw [BitVec.toNat_or]
    have e1 : (BitVec.ofInt 64 ((n * 256 : Nat) : Int)).toNat = n * 256 := by
      rw [BitVec.ofInt_natCast, BitVec.toNat_ofNat]; omega
    have e2 : (BitVec.ofInt 64 (x.toNat : Int)).toNat = x.toNat := by
      rw [BitVec.ofInt_natCast, BitVec.toNat_ofNat]; omega
    rw [e1, e2]
    have := Nat.two_pow_add_eq_or_of_lt (i := 8) (b := x.toNat) (by omega) n
    rw [Nat.mul_comm n 256]
    exact this.symm
  show IntKind.u64.wrap (((BitVec.ofInt 64 ((n * 256 : Nat) : Int) ||| BitVec.ofInt 64 (x.toNat : Int)).toNat : Nat) : Int) = _
  rw [e, IntWalk.u64_in _ ⟨by omega, by omega⟩]; rfl
theorem maDigits (n : Nat) (w : World) (hn : n < 18446744073709551616) :
    Calls Tryz.prog 30 #[.int .u64 (Int.ofNat n)] w (fun e w1 => ∃ v, e = .returned v ∧ Ext [] w w1 ∧ v = .string ⟨⟨Lib.decDigits n⟩⟩) := by
  refine calls_of0 (args := [.int .u64 (Int.ofNat n)]) Tryz.func30 rfl rfl rfl ?_
  refine To.runF 22 [0] (fun _ _ => by kernel_rfl) fun f1 g1 l1 => ?_
  refine To.slotE 0 (.int .u64 (IntKind.u64.wrap (Int.tdiv (Int.ofNat n) 10))) (.int .u64 (Int.ofNat (n / 10))) (by kernel_rfl) (by rw [div10 n hn]) ?_
  refine To.slotE 3 (.string (ByteArray.push ByteArray.empty (UInt8.ofNat (Int.toNat (IntKind.u8.wrap (IntKind.u64.wrap (48 + Int.tmod (Int.ofNat n) 10))))))) (.string ⟨⟨[UInt8.ofNat (48 + n % 10)]⟩⟩) (by kernel_rfl) (by rw [digitB]) ?_
  refine To.loop (fun k : Nat × List UInt8 => k.1) (fun k => ([(0, .int .u64 (Int.ofNat k.1)), (3, .string ⟨⟨k.2⟩⟩)], [])) (fun k _ => k.1 < 18446744073709551616 ∧ Lib.decDigits n = decTail k.1 ++ k.2) (n / 10, [UInt8.ofNat (48 + n % 10)]) [] (by kernel_rfl) (by kernel_rfl) (by kernel_rfl) rfl (fun _ _ => ⟨by simp only; omega, decDigits_last n⟩) ?_
  rintro ⟨m, s⟩ w1 ⟨hm, hd⟩ hx1 back
  have hm : m < 18446744073709551616 := hm
  have hd : Lib.decDigits n = decTail m ++ s := hd
  refine To.runF 6 [] (fun _ _ => by kernel_rfl) fun f2 g2 l2 => ?_
  by_cases h0 : 0 < m
  · refine To.testT (decide (Int.ofNat m > 0)) (by kernel_rfl) (decide_eq_true (by simp only [Int.ofNat_eq_natCast]; omega)) ?_
    refine To.runF 11 [0] (fun _ _ => by kernel_rfl) fun f3 g3 l3 => ?_
    have hsl := decTail_len hd hn
    refine To.addText (t := 9) [UInt8.ofNat (48 + m % 10)] s (ByteArray.push ByteArray.empty (UInt8.ofNat (Int.toNat (IntKind.u8.wrap (IntKind.u64.wrap (48 + Int.tmod (Int.ofNat m) 10)))))) ⟨⟨s⟩⟩ (digitB m) rfl (by kernel_rfl) (by simp only [List.length_singleton]; omega) ?_
    refine To.runF 8 [] (fun _ _ => by kernel_rfl) fun f4 g4 l4 => ?_
    refine To.slotE 0 (.int .u64 (IntKind.u64.wrap (Int.tdiv (Int.ofNat m) 10))) (.int .u64 (Int.ofNat (m / 10))) (by kernel_rfl) (by rw [div10 m hm]) ?_
    exact back _ _ (m / 10, [UInt8.ofNat (48 + m % 10)] ++ s) [] (by simp only; omega) ⟨by kernel_rfl, by kernel_rfl, by kernel_rfl, by kernel_rfl, by kernel_rfl, rfl⟩ (fun w7 hw7 => ⟨by simp only; omega, by
      simp only
      rw [hd, decTail_last (by omega), List.append_assoc]⟩)
  · refine To.testF (decide (Int.ofNat m > 0)) (by kernel_rfl) (decide_eq_false (by simp only [Int.ofNat_eq_natCast]; omega)) ?_
    refine To.runF 6 [] (fun _ _ => by kernel_rfl) fun f3 g3 l3 => ?_
    exact To.ret [] (.string ⟨⟨s⟩⟩) (by kernel_rfl) (by kernel_rfl) fun w4 hw4 => ⟨_, rfl, hw4.ext, by rw [hd, show m = 0 by omega]; rfl⟩
theorem maNumber (l : List UInt8) (a : Option Addr) (ca : Nat) (w : World) (hin : BytesIn w a l) (hl : l.length ≤ 8) :
    Calls Tryz.prog 31 #[.slice a l.length ca] w (fun e w1 => ∃ v, e = .returned v ∧ Ext [] w w1 ∧ v = .int .u64 (Int.ofNat (numOf l))) := by
  refine calls_of0 (args := [.slice a l.length ca]) Tryz.func31 rfl rfl rfl ?_
  refine To.runF 16 [] (fun _ _ => by kernel_rfl) fun f1 g1 l1 => ?_
  refine To.loop (fun k : Nat => l.length - k) (fun k => ([(3, .int .u64 (Int.ofNat (numOf (l.take k)))), (6, .slice a l.length ca), (7, .int .i64 (Int.ofNat l.length)), (8, .int .i64 (Int.ofNat k))], [])) (fun k _ => k ≤ l.length) 0 [] (by kernel_rfl) (by kernel_rfl) (by kernel_rfl) rfl (fun _ _ => Nat.zero_le _) ?_
  rintro k w1 hk hx1 back
  have hk : k ≤ l.length := hk
  refine To.runF 5 [] (fun _ _ => by kernel_rfl) fun f2 g2 l2 => ?_
  by_cases hlt : k < l.length
  · obtain ⟨ad, ha, hck⟩ := hin.one k hlt
    refine To.testT (decide (Int.ofNat k < Int.ofNat l.length)) (by kernel_rfl) (decide_eq_true (Int.ofNat_lt.2 hlt)) ?_
    refine To.runF 5 [] (fun _ _ => by kernel_rfl) fun f3 g3 l3 => ?_
    refine To.indexAt elB a ad l.length ca k (by kernel_rfl) ha hlt ?_
    refine To.loadOne uU8 rfl (ad.add (k * 1)) (.int .u8 ((l[k]).toNat : Int)) (by kernel_rfl) (fun w2 hw2 => hw2.ext.cell hck (by simp)) ?_
    refine To.runF 15 [] (fun _ _ => by kernel_rfl) fun f4 g4 l4 => ?_
    have htk : l.take (k + 1) = l.take k ++ [l[k]] := by rw [List.take_add_one, List.getElem?_eq_getElem hlt]; rfl
    have hnum : numOf (l.take (k + 1)) = numOf (l.take k) * 256 + (l[k]).toNat := by rw [htk, numOf_snoc]
    have hlt8 : numOf (l.take (k + 1)) < 18446744073709551616 := numOf_le (by rw [List.length_take]; omega)
    refine To.slotE 3 (.int .u64 (IntKind.u64.wrap (((BitVec.ofInt IntKind.u64.bits (IntKind.u64.wrap (Int.ofNat (numOf (l.take k)) * 2 ^ min (Int.toNat 8) IntKind.u64.bits)) ||| BitVec.ofInt IntKind.u64.bits (IntKind.u64.wrap ((l[k]).toNat : Int))).toNat : Nat) : Int))) (.int .u64 (Int.ofNat (numOf (l.take (k + 1))))) (by kernel_rfl) (by rw [or64 _ _ (by rw [← hnum]; exact hlt8), hnum]) ?_
    refine To.slotE 8 (.int .i64 (IntKind.i64.wrap (Int.ofNat k + 1))) (.int .i64 (Int.ofNat (k + 1))) (by kernel_rfl) (by rw [wrap_succ k (by omega)]) ?_
    exact back _ _ (k + 1) [] (by omega) ⟨by kernel_rfl, by kernel_rfl, by kernel_rfl, by kernel_rfl, by kernel_rfl, rfl⟩ (fun w7 hw7 => hlt)
  · have hk1 : k = l.length := by omega
    subst hk1
    refine To.testF (decide (Int.ofNat l.length < Int.ofNat l.length)) (by kernel_rfl) (by simp) ?_
    refine To.runF 6 [] (fun _ _ => by kernel_rfl) fun f3 g3 l3 => ?_
    exact To.ret [] (.int .u64 (Int.ofNat (numOf (l.take l.length)))) (by kernel_rfl) (by kernel_rfl) fun w4 hw4 => ⟨_, rfl, hw4.ext, by rw [List.take_length]⟩
theorem div16 (n : Nat) (h : n ≤ 65535) : IntKind.i64.wrap (Int.tdiv (Int.ofNat n) 16) = Int.ofNat (n / 16) := by
  show IntKind.i64.wrap (Int.ofNat (n / 16)) = _
  exact IntWalk.i64_in _ ⟨by simp only [Int.ofNat_eq_natCast]; omega, by simp only [Int.ofNat_eq_natCast]; omega⟩
theorem maHex (n : Nat) (w : World) (hn : n ≤ 65535) :
    Calls Tryz.prog 43 #[.int .i64 (Int.ofNat n)] w (fun e w1 => ∃ v, e = .returned v ∧ Ext [] w w1 ∧ v = .string ⟨⟨hexOf n⟩⟩) := by
  refine calls_of0 (args := [.int .i64 (Int.ofNat n)]) Tryz.func43 rfl rfl rfl ?_
  refine To.runF 14 [] (fun _ _ => by kernel_rfl) fun f1 g1 l1 => ?_
  refine To.loop (fun k : Nat × List UInt8 × Bool => if k.2.2 then 65536 + k.1 else k.1) (fun k => ([(0, .int .i64 (Int.ofNat k.1)), (3, .string ⟨⟨k.2.1⟩⟩), (4, .bool k.2.2)], [])) (fun k _ => k.1 ≤ 65535 ∧ (k.2.2 = true → k.1 = n ∧ k.2.1 = []) ∧ (k.2.2 = false → hexOf n = hexTail k.1 ++ k.2.1)) (n, [], true) [] (by kernel_rfl) (by kernel_rfl) (by kernel_rfl) rfl (fun _ _ => ⟨hn, fun _ => ⟨rfl, rfl⟩, fun h => by cases h⟩) ?_
  rintro ⟨m, s, fi⟩ w1 ⟨hm, ht, hf⟩ hx1 back
  have hm : m ≤ 65535 := hm
  have ht : fi = true → m = n ∧ s = [] := ht
  have hf : fi = false → hexOf n = hexTail m ++ s := hf
  have hsl : s.length ≤ 4 := by
    cases fi with
    | true => rw [(ht rfl).2]; decide
    | false =>
      have h1 := congrArg List.length (hf rfl)
      rw [List.length_append] at h1
      have h2 := hexOf4 hn
      omega
  refine To.runF 5 [] (fun _ _ => by kernel_rfl) fun f2 g2 l2 => ?_
  cases fi with
  | true =>
    obtain ⟨e1, e2⟩ := ht rfl
    subst e2
    refine To.slotT 6 true (by kernel_rfl) rfl ?_
    refine To.runF 15 [] (fun _ _ => by kernel_rfl) fun f3 g3 l3 => ?_
    have h16 : m % 16 < 16 := Nat.mod_lt _ (by decide)
    have e16 : Int.tmod (Int.ofNat m) 16 = Int.ofNat (m % 16) := rfl
    refine To.slotE 11 (.int .i64 (Int.tmod (Int.ofNat m) 16)) (.int .i64 (Int.ofNat (m % 16))) (by kernel_rfl) rfl ?_
    refine To.slotE 14 (.int .i64 (IntKind.i64.wrap (Int.tmod (Int.ofNat m) 16 + 1))) (.int .i64 (Int.ofNat (m % 16 + 1))) (by kernel_rfl) (by rw [e16, wrap_succ _ (by omega)]) ?_
    refine To.sliceStr uStr hexDigits (m % 16) (m % 16 + 1) (by omega) (by show m % 16 + 1 ≤ 16; omega) (by kernel_rfl) ?_
    refine To.runF 1 [] (fun _ _ => by kernel_rfl) fun f4 g4 l4 => ?_
    refine To.addText (t := 9) [Go.IpText.hexDigit (m % 16)] ([] : List UInt8) (hexDigits.extract (m % 16) (m % 16 + 1)) ⟨⟨([] : List UInt8)⟩⟩ (hexDigits_at _ h16) rfl (by kernel_rfl) (by simp only [List.length_singleton, List.length_nil]; omega) ?_
    refine To.runF 11 [] (fun _ _ => by kernel_rfl) fun f5 g5 l5 => ?_
    refine To.slotE 0 (.int .i64 (IntKind.i64.wrap (Int.tdiv (Int.ofNat m) 16))) (.int .i64 (Int.ofNat (m / 16))) (by kernel_rfl) (by rw [div16 m hm]) ?_
    exact back _ _ (m / 16, [Go.IpText.hexDigit (m % 16)] ++ ([] : List UInt8), false) [] (by simp only [if_true, Bool.false_eq_true, if_false]; omega) ⟨by kernel_rfl, by kernel_rfl, by kernel_rfl, by kernel_rfl, by kernel_rfl, rfl⟩ (fun w7 hw7 => ⟨by simp only; omega, (fun h => by cases h), fun _ => by
      simp only
      rw [← e1, hexOf_last m, List.append_nil]⟩)
  | false =>
    refine To.slotF 6 false (by kernel_rfl) rfl ?_
    refine To.runF 4 [] (fun _ _ => by kernel_rfl) fun f3 g3 l3 => ?_
    by_cases h0 : 0 < m
    · refine To.testT (decide (Int.ofNat m > 0)) (by kernel_rfl) (decide_eq_true (by simp only [Int.ofNat_eq_natCast]; omega)) ?_
      refine To.runF 10 [] (fun _ _ => by kernel_rfl) fun f4 g4 l4 => ?_
      have h16 : m % 16 < 16 := Nat.mod_lt _ (by decide)
      have e16 : Int.tmod (Int.ofNat m) 16 = Int.ofNat (m % 16) := rfl
      refine To.slotE 11 (.int .i64 (Int.tmod (Int.ofNat m) 16)) (.int .i64 (Int.ofNat (m % 16))) (by kernel_rfl) rfl ?_
      refine To.slotE 14 (.int .i64 (IntKind.i64.wrap (Int.tmod (Int.ofNat m) 16 + 1))) (.int .i64 (Int.ofNat (m % 16 + 1))) (by kernel_rfl) (by rw [e16, wrap_succ _ (by omega)]) ?_
      refine To.sliceStr uStr hexDigits (m % 16) (m % 16 + 1) (by omega) (by show m % 16 + 1 ≤ 16; omega) (by kernel_rfl) ?_
      refine To.runF 1 [] (fun _ _ => by kernel_rfl) fun f5 g5 l5 => ?_
      refine To.addText (t := 9) [Go.IpText.hexDigit (m % 16)] s (hexDigits.extract (m % 16) (m % 16 + 1)) ⟨⟨s⟩⟩ (hexDigits_at _ h16) rfl (by kernel_rfl) (by simp only [List.length_singleton, List.length_nil]; omega) ?_
      refine To.runF 11 [] (fun _ _ => by kernel_rfl) fun f6 g6 l6 => ?_
      refine To.slotE 0 (.int .i64 (IntKind.i64.wrap (Int.tdiv (Int.ofNat m) 16))) (.int .i64 (Int.ofNat (m / 16))) (by kernel_rfl) (by rw [div16 m hm]) ?_
      exact back _ _ (m / 16, [Go.IpText.hexDigit (m % 16)] ++ s, false) [] (by simp only [Bool.false_eq_true, if_false]; omega) ⟨by kernel_rfl, by kernel_rfl, by kernel_rfl, by kernel_rfl, by kernel_rfl, rfl⟩ (fun w7 hw7 => ⟨by simp only; omega, (fun h => by cases h), fun _ => by
        simp only
        rw [hf rfl, hexTail_last (by omega), List.append_assoc]⟩)
    · refine To.testF (decide (Int.ofNat m > 0)) (by kernel_rfl) (decide_eq_false (by simp only [Int.ofNat_eq_natCast]; omega)) ?_
      refine To.runF 6 [] (fun _ _ => by kernel_rfl) fun f4 g4 l4 => ?_
      exact To.ret [] (.string ⟨⟨s⟩⟩) (by kernel_rfl) (by kernel_rfl) fun w4 hw4 => ⟨_, rfl, hw4.ext, by rw [hf rfl, show m = 0 by omega]; rfl⟩
end Go.Proofs.YtgodhbgnhapemaaGreatDoor
/- The reference's text of four bytes, and of sixteen. Conditions: as each says. -/
namespace Go.Proofs.YtgodhbgnhapemaaGreatDoor
open Go Go.SX Go.IpText
set_option maxHeartbeats 8000000
set_option maxRecDepth 100000
theorem heldNo {r : SX.Fin} {g : Nat} (h : r.heldC = []) : ∀ i x, nth r.heldC i = some x → x.b ≠ g := fun i x hx => by rw [h] at hx; cases i <;> cases hx
theorem digitsT (x : UInt8) (t : List UInt8) (h : t = Lib.itoa (Int.ofNat x.toNat)) (w : World) :
    Calls Tryz.prog 30 #[.int .u64 (Int.ofNat x.toNat)] w (fun e w1 => ∃ v, e = .returned v ∧ Ext [] w w1 ∧ v = .string ⟨⟨t⟩⟩) := by
  subst h
  have hx := x.toNat_lt
  rw [show Lib.itoa (Int.ofNat x.toNat) = Lib.decDigits x.toNat from Lib.itoa_nonneg _]
  exact maDigits x.toNat w (by omega)
theorem maFour (b : List UInt8) (a : Option Addr) (ca : Nat) (w : World) (hin : BytesIn w a b) (h4 : b.length = 4) :
    Calls Tryz.prog 28 #[.slice a b.length ca] w (fun e w1 => ∃ v, e = .returned v ∧ Ext [] w w1 ∧ v = .string ⟨⟨fourText b⟩⟩) := by
  refine calls_of0 (args := [.slice a b.length ca]) Tryz.func28 rfl rfl rfl ?_
  obtain ⟨x0, x1, x2, x3, rfl⟩ : ∃ x0 x1 x2 x3, b = [x0, x1, x2, x3] := by
    rcases b with _ | ⟨x0, _ | ⟨x1, _ | ⟨x2, _ | ⟨x3, _ | ⟨_, _⟩⟩⟩⟩⟩ <;> simp at h4
    exact ⟨x0, x1, x2, x3, rfl⟩
  obtain ⟨t0, ht0⟩ : ∃ t : List UInt8, t = Lib.itoa (Int.ofNat x0.toNat) := ⟨_, rfl⟩
  have l0 : t0.length ≤ 21 := by rw [ht0]; exact itoa_len _
  have w0 : IntKind.u64.wrap (x0.toNat : Int) = Int.ofNat x0.toNat := IntWalk.u64_in _ ⟨by omega, by have := x0.toNat_lt; omega⟩
  obtain ⟨t1, ht1⟩ : ∃ t : List UInt8, t = Lib.itoa (Int.ofNat x1.toNat) := ⟨_, rfl⟩
  have l1 : t1.length ≤ 21 := by rw [ht1]; exact itoa_len _
  have w1 : IntKind.u64.wrap (x1.toNat : Int) = Int.ofNat x1.toNat := IntWalk.u64_in _ ⟨by omega, by have := x1.toNat_lt; omega⟩
  obtain ⟨t2, ht2⟩ : ∃ t : List UInt8, t = Lib.itoa (Int.ofNat x2.toNat) := ⟨_, rfl⟩
  have l2 : t2.length ≤ 21 := by rw [ht2]; exact itoa_len _
  have w2 : IntKind.u64.wrap (x2.toNat : Int) = Int.ofNat x2.toNat := IntWalk.u64_in _ ⟨by omega, by have := x2.toNat_lt; omega⟩
  obtain ⟨t3, ht3⟩ : ∃ t : List UInt8, t = Lib.itoa (Int.ofNat x3.toNat) := ⟨_, rfl⟩
  have l3 : t3.length ≤ 21 := by rw [ht3]; exact itoa_len _
  have w3 : IntKind.u64.wrap (x3.toNat : Int) = Int.ofNat x3.toNat := IntWalk.u64_in _ ⟨by omega, by have := x3.toNat_lt; omega⟩
  obtain ⟨ad, ha, hc0⟩ := hin.at_ 0 x0 rfl
  subst ha
  obtain ⟨_, ha1, hc1⟩ := hin.at_ 1 x1 rfl
  cases ha1
  obtain ⟨_, ha2, hc2⟩ := hin.at_ 2 x2 rfl
  cases ha2
  obtain ⟨_, ha3, hc3⟩ := hin.at_ 3 x3 rfl
  cases ha3
  refine To.runF 30 [] (fun _ _ => by kernel_rfl) fun f1 g1 l4 => ?_
  refine To.loadOne uU8 rfl (ad.add (0 * 1)) (.int .u8 (x0.toNat : Int)) (by kernel_rfl) (fun w2 hw2 => hw2.ext.cell hc0 (by simp)) ?_
  refine To.runF 15 [] (fun _ _ => by kernel_rfl) fun f2 g2 l5 => ?_
  refine To.slotE 19 (.int .u64 (IntKind.u64.wrap (x0.toNat : Int))) (.int .u64 (Int.ofNat x0.toNat)) (by kernel_rfl) (by rw [w0]) ?_
  refine To.callN 30 #[.int .u64 (Int.ofNat x0.toNat)] (by kernel_rfl) (fun _ => by kernel_rfl) (fun w4 hw4 => digitsT x0 t0 ht0 w4) (fun w4 v4 w5 hw4 hx4 hv4 hnew4 hwi4 => ?_)
  subst hv4
  refine To.addText (t := 9) (([] : List UInt8)) t0 ⟨⟨([] : List UInt8)⟩⟩ ⟨⟨t0⟩⟩ rfl rfl (by kernel_rfl) (by simp only [List.length_append, List.length_singleton, List.length_nil]; omega) ?_
  refine To.runF 21 [] (fun _ _ => by kernel_rfl) fun f3 g3 l6 => ?_
  refine To.loadOne uU8 rfl (ad.add (1 * 1)) (.int .u8 (x1.toNat : Int)) (by kernel_rfl) (fun w2 hw2 => hw2.ext.cell hc1 (by simp)) ?_
  refine To.runF 12 [] (fun _ _ => by kernel_rfl) fun f4 g4 l7 => ?_
  refine To.addText (t := 9) (([] : List UInt8) ++ t0) ([46] : List UInt8) ⟨⟨([] : List UInt8) ++ t0⟩⟩ ⟨⟨([46] : List UInt8)⟩⟩ rfl rfl (by kernel_rfl) (by simp only [List.length_append, List.length_singleton, List.length_nil]; omega) ?_
  refine To.runF 6 [] (fun _ _ => by kernel_rfl) fun f5 g5 l8 => ?_
  refine To.slotE 19 (.int .u64 (IntKind.u64.wrap (x1.toNat : Int))) (.int .u64 (Int.ofNat x1.toNat)) (by kernel_rfl) (by rw [w1]) ?_
  refine To.callN 30 #[.int .u64 (Int.ofNat x1.toNat)] (by kernel_rfl) (fun _ => by kernel_rfl) (fun w4 hw4 => digitsT x1 t1 ht1 w4) (fun w4 v4 w5 hw4 hx4 hv4 hnew4 hwi4 => ?_)
  subst hv4
  refine To.addText (t := 9) (([] : List UInt8) ++ t0 ++ ([46] : List UInt8)) t1 ⟨⟨([] : List UInt8) ++ t0 ++ ([46] : List UInt8)⟩⟩ ⟨⟨t1⟩⟩ rfl rfl (by kernel_rfl) (by simp only [List.length_append, List.length_singleton, List.length_nil]; omega) ?_
  refine To.runF 21 [] (fun _ _ => by kernel_rfl) fun f6 g6 l9 => ?_
  refine To.loadOne uU8 rfl (ad.add (2 * 1)) (.int .u8 (x2.toNat : Int)) (by kernel_rfl) (fun w2 hw2 => hw2.ext.cell hc2 (by simp)) ?_
  refine To.runF 12 [] (fun _ _ => by kernel_rfl) fun f7 g7 l10 => ?_
  refine To.addText (t := 9) (([] : List UInt8) ++ t0 ++ ([46] : List UInt8) ++ t1) ([46] : List UInt8) ⟨⟨([] : List UInt8) ++ t0 ++ ([46] : List UInt8) ++ t1⟩⟩ ⟨⟨([46] : List UInt8)⟩⟩ rfl rfl (by kernel_rfl) (by simp only [List.length_append, List.length_singleton, List.length_nil]; omega) ?_
  refine To.runF 6 [] (fun _ _ => by kernel_rfl) fun f8 g8 l11 => ?_
  refine To.slotE 19 (.int .u64 (IntKind.u64.wrap (x2.toNat : Int))) (.int .u64 (Int.ofNat x2.toNat)) (by kernel_rfl) (by rw [w2]) ?_
  refine To.callN 30 #[.int .u64 (Int.ofNat x2.toNat)] (by kernel_rfl) (fun _ => by kernel_rfl) (fun w4 hw4 => digitsT x2 t2 ht2 w4) (fun w4 v4 w5 hw4 hx4 hv4 hnew4 hwi4 => ?_)
  subst hv4
  refine To.addText (t := 9) (([] : List UInt8) ++ t0 ++ ([46] : List UInt8) ++ t1 ++ ([46] : List UInt8)) t2 ⟨⟨([] : List UInt8) ++ t0 ++ ([46] : List UInt8) ++ t1 ++ ([46] : List UInt8)⟩⟩ ⟨⟨t2⟩⟩ rfl rfl (by kernel_rfl) (by simp only [List.length_append, List.length_singleton, List.length_nil]; omega) ?_
  refine To.runF 21 [] (fun _ _ => by kernel_rfl) fun f9 g9 l12 => ?_
  refine To.loadOne uU8 rfl (ad.add (3 * 1)) (.int .u8 (x3.toNat : Int)) (by kernel_rfl) (fun w2 hw2 => hw2.ext.cell hc3 (by simp)) ?_
  refine To.runF 12 [] (fun _ _ => by kernel_rfl) fun f10 g10 l13 => ?_
  refine To.addText (t := 9) (([] : List UInt8) ++ t0 ++ ([46] : List UInt8) ++ t1 ++ ([46] : List UInt8) ++ t2) ([46] : List UInt8) ⟨⟨([] : List UInt8) ++ t0 ++ ([46] : List UInt8) ++ t1 ++ ([46] : List UInt8) ++ t2⟩⟩ ⟨⟨([46] : List UInt8)⟩⟩ rfl rfl (by kernel_rfl) (by simp only [List.length_append, List.length_singleton, List.length_nil]; omega) ?_
  refine To.runF 6 [] (fun _ _ => by kernel_rfl) fun f11 g11 l14 => ?_
  refine To.slotE 19 (.int .u64 (IntKind.u64.wrap (x3.toNat : Int))) (.int .u64 (Int.ofNat x3.toNat)) (by kernel_rfl) (by rw [w3]) ?_
  refine To.callN 30 #[.int .u64 (Int.ofNat x3.toNat)] (by kernel_rfl) (fun _ => by kernel_rfl) (fun w4 hw4 => digitsT x3 t3 ht3 w4) (fun w4 v4 w5 hw4 hx4 hv4 hnew4 hwi4 => ?_)
  subst hv4
  refine To.addText (t := 9) (([] : List UInt8) ++ t0 ++ ([46] : List UInt8) ++ t1 ++ ([46] : List UInt8) ++ t2 ++ ([46] : List UInt8)) t3 ⟨⟨([] : List UInt8) ++ t0 ++ ([46] : List UInt8) ++ t1 ++ ([46] : List UInt8) ++ t2 ++ ([46] : List UInt8)⟩⟩ ⟨⟨t3⟩⟩ rfl rfl (by kernel_rfl) (by simp only [List.length_append, List.length_singleton, List.length_nil]; omega) ?_
  refine To.runF 20 [] (fun _ _ => by kernel_rfl) fun f12 g12 l15 => ?_
  exact To.ret [] (.string ⟨⟨([] : List UInt8) ++ t0 ++ ([46] : List UInt8) ++ t1 ++ ([46] : List UInt8) ++ t2 ++ ([46] : List UInt8) ++ t3⟩⟩) (by kernel_rfl) (by kernel_rfl) fun w9 hw9 => ⟨_, rfl, hw9.ext, by rw [ht0, ht1, ht2, ht3]; simp [fourText]⟩
/-- The groups, as far as they are laid. -/
def gCells (b : List UInt8) (k : Nat) : List Value := (List.range 8).map fun i => if i < k then .int .i64 (Int.ofNat (groupOf b i)) else .int .i64 0
theorem uInt : Tryz.prog.underlying 3 = some (.int .i64) := by kernel_rfl
theorem elG : ArrOf Tryz.prog 88 3 8 1 := ArrOf.of (by kernel_rfl) (by kernel_rfl)
theorem gCells_len (b : List UInt8) (k : Nat) : (gCells b k).length = 8 := by simp [gCells]
theorem gCells_set (b : List UInt8) (k : Nat) (hk : k < 8) : gCells b (k + 1) = (gCells b k).set k (.int .i64 (Int.ofNat (groupOf b k))) := by
  apply List.ext_getElem?
  intro j
  rw [List.getElem?_set]
  unfold gCells
  simp only [List.getElem?_map, List.length_map, List.length_range]
  by_cases hj : j < 8
  · rw [List.getElem?_range hj]
    by_cases hkj : k = j
    · subst hkj; simp [hk]
    · rw [if_neg hkj]
      simp only [Option.map_some, Option.some.injEq]
      by_cases h1 : j < k
      · rw [if_pos h1, if_pos (by omega)]
      · rw [if_neg h1, if_neg (by omega)]
  · rw [List.getElem?_eq_none (by simp; omega)]
    rw [if_neg (by omega)]; rfl
theorem gCells_at (b : List UInt8) (j : Nat) (hj : j < 8) : (gCells b 8)[j]? = some (.int .i64 (Int.ofNat (groupOf b j))) := by
  unfold gCells; simp [hj]
/-- The bits of both. -/
def orI (x y : Int) : Int := IntKind.i64.wrap (((BitVec.ofInt IntKind.i64.bits x ||| BitVec.ofInt IntKind.i64.bits y).toNat : Nat) : Int)
theorem orI_nat (a b : Nat) (ha : a < 65536) (hb : b < 65536) : orI (Int.ofNat a) (Int.ofNat b) = Int.ofNat (a ||| b) := by
  have e : (BitVec.ofInt 64 (Int.ofNat a) ||| BitVec.ofInt 64 (Int.ofNat b)).toNat = a ||| b := by
    rw [BitVec.toNat_or]
    have e1 : (BitVec.ofInt 64 (Int.ofNat a)).toNat = a := by
      simp only [Int.ofNat_eq_natCast, BitVec.ofInt_natCast, BitVec.toNat_ofNat]; omega
    have e2 : (BitVec.ofInt 64 (Int.ofNat b)).toNat = b := by
      simp only [Int.ofNat_eq_natCast, BitVec.ofInt_natCast, BitVec.toNat_ofNat]; omega
    rw [e1, e2]
  have h := Nat.or_lt_two_pow (x := a) (y := b) (n := 16) ha hb
  show IntKind.i64.wrap (((BitVec.ofInt 64 (Int.ofNat a) ||| BitVec.ofInt 64 (Int.ofNat b)).toNat : Nat) : Int) = _
  rw [e, IntWalk.i64_in _ ⟨by omega, by omega⟩]; rfl
theorem or_zero (a b : Nat) : a ||| b = 0 ↔ a = 0 ∧ b = 0 := Nat.or_eq_zero_iff
theorem or5 (a b c d e : Nat) (ha : a < 65536) (hb : b < 65536) (hc : c < 65536) (hd : d < 65536) (he : e < 65536) :
    (orI (orI (orI (orI (Int.ofNat a) (Int.ofNat b)) (Int.ofNat c)) (Int.ofNat d)) (Int.ofNat e) == 0) = decide (a = 0 ∧ b = 0 ∧ c = 0 ∧ d = 0 ∧ e = 0) := by
  have h1 := Nat.or_lt_two_pow (x := a) (y := b) (n := 16) ha hb
  have h2 := Nat.or_lt_two_pow (x := a ||| b) (y := c) (n := 16) h1 hc
  have h3 := Nat.or_lt_two_pow (x := a ||| b ||| c) (y := d) (n := 16) h2 hd
  rw [orI_nat a b ha hb, orI_nat _ c h1 hc, orI_nat _ d h2 hd, orI_nat _ e h3 he]
  rw [Bool.eq_iff_iff, beq_iff_eq, decide_eq_true_iff]
  constructor
  · intro h
    have h' : a ||| b ||| c ||| d ||| e = 0 := Int.ofNat.inj h
    simp only [or_zero] at h'
    exact ⟨h'.1.1.1.1, h'.1.1.1.2, h'.1.1.2, h'.1.2, h'.2⟩
  · rintro ⟨rfl, rfl, rfl, rfl, rfl⟩; rfl
/-- Where the run begins, as the reference holds it: -1 for none. -/
def atI (n : Nat) : Int := if n = 255 then -1 else Int.ofNat n
theorem mapped_iff {b : List UInt8} (h : b.length = 16) : mapped b = true ↔ groupOf b 0 = 0 ∧ groupOf b 1 = 0 ∧ groupOf b 2 = 0 ∧ groupOf b 3 = 0 ∧ groupOf b 4 = 0 ∧ groupOf b 5 = 65535 := by
  obtain ⟨x0, x1, x2, x3, x4, x5, x6, x7, x8, x9, x10, x11, x12, x13, x14, x15, rfl⟩ : ∃ x0 x1 x2 x3 x4 x5 x6 x7 x8 x9 x10 x11 x12 x13 x14 x15, b = [x0, x1, x2, x3, x4, x5, x6, x7, x8, x9, x10, x11, x12, x13, x14, x15] := by
    rcases b with _ | ⟨x0, _ | ⟨x1, _ | ⟨x2, _ | ⟨x3, _ | ⟨x4, _ | ⟨x5, _ | ⟨x6, _ | ⟨x7, _ | ⟨x8, _ | ⟨x9, _ | ⟨x10, _ | ⟨x11, _ | ⟨x12, _ | ⟨x13, _ | ⟨x14, _ | ⟨x15, _ | ⟨_, _⟩⟩⟩⟩⟩⟩⟩⟩⟩⟩⟩⟩⟩⟩⟩⟩⟩ <;> simp at h
    exact ⟨x0, x1, x2, x3, x4, x5, x6, x7, x8, x9, x10, x11, x12, x13, x14, x15, rfl⟩
  have e0 : ∀ x : UInt8, x = 0 ↔ x.toNat = 0 := fun x => ⟨fun h => by rw [h]; rfl, fun h => UInt8.toNat_inj.1 h⟩
  have e1 : ∀ x : UInt8, x = 255 ↔ x.toNat = 255 := fun x => ⟨fun h => by rw [h]; rfl, fun h => UInt8.toNat_inj.1 h⟩
  have b10 := x10.toNat_lt
  have b11 := x11.toNat_lt
  simp [mapped, groupOf, e0, e1]
  omega
theorem fourText_len (b : List UInt8) : (fourText b).length ≤ 100 := by
  unfold fourText
  simp only [List.length_append, List.length_singleton]
  have h0 := itoa_len (b.getD 0 0)
  have h1 := itoa_len (b.getD 1 0)
  have h2 := itoa_len (b.getD 2 0)
  have h3 := itoa_len (b.getD 3 0)
  simp only [Int.ofNat_eq_natCast] at h0 h1 h2 h3
  omega
theorem maSix (b : List UInt8) (a : Option Addr) (ca : Nat) (w : World) (hin : BytesIn w a b) (h16 : b.length = 16) (hca : b.length ≤ ca) :
    Calls Tryz.prog 29 #[.slice a b.length ca] w (fun e w1 => ∃ v, e = .returned v ∧ Ext [] w w1 ∧ v = .string ⟨⟨sixOf b⟩⟩) := by
  refine calls_of0 (args := [.slice a b.length ca]) Tryz.func29 rfl rfl rfl ?_
  refine To.runF 16 [0, 0, 0, 0, 0, 0, 0, 0] (fun _ _ => by kernel_rfl) fun f1 g1 l1 => ?_
  refine To.loop (fun k : Nat => 8 - k) (fun k => ([(0, .slice a b.length ca), (3, .pointer (some ⟨f1 0, 0, none⟩)), (12, .int .i64 (Int.ofNat k))], [some ⟨f1 0, .cells ⟨gCells b k⟩ 88 (0, 0), true⟩])) (fun k _ => k ≤ 8) 0 [0] (by kernel_rfl) (by kernel_rfl) (by kernel_rfl) rfl (fun _ _ => Nat.zero_le _) ?_
  intro k w1 hk hx1 back
  have hk : k ≤ 8 := hk
  refine To.runF 5 [] (fun _ _ => by kernel_rfl) fun f2 g2 l2 => ?_
  by_cases hlt : k < 8
  · refine To.testT (decide (Int.ofNat k < 8)) (by kernel_rfl) (decide_eq_true (by simp only [Int.ofNat_eq_natCast]; omega)) ?_
    refine To.runF 17 [0, 0, 0, 1, 2, 3, 8, 9, 10, 11] (fun _ _ => by kernel_rfl) fun f3 g3 l3 => ?_
    obtain ⟨ad, ha, hc0⟩ := hin.one (2 * k) (by omega)
    obtain ⟨_, ha', hc1⟩ := hin.one (2 * k + 1) (by omega)
    rw [ha] at ha'; cases ha'
    have h2 : IntKind.i64.wrap (2 * Int.ofNat k) = Int.ofNat (2 * k) := by simp only [Int.ofNat_eq_natCast]; rw [IntWalk.i64_in _ ⟨by omega, by omega⟩]; omega
    refine To.slotE 18 (.int .i64 (IntKind.i64.wrap (2 * Int.ofNat k))) (.int .i64 (Int.ofNat (2 * k))) (by kernel_rfl) (by rw [h2]) ?_
    refine To.slotE 26 (.int .i64 (IntKind.i64.wrap (IntKind.i64.wrap (2 * Int.ofNat k) + 1))) (.int .i64 (Int.ofNat (2 * k + 1))) (by kernel_rfl) (by rw [h2, wrap_succ _ (by omega)]) ?_
    refine To.indexAtE 4 elB a ad b.length ca (2 * k) (by kernel_rfl) ha (by omega) ?_
    refine To.indexAtE 12 elB a ad b.length ca (2 * k + 1) (by kernel_rfl) ha (by omega) ?_
    refine To.pick 1 (by kernel_rfl) ⟨⟨trivial, ?_⟩, ?_⟩
    · refine To.loadOne uU8 rfl (ad.add (2 * k * 1)) (.int .u8 ((b[2 * k]).toNat : Int)) (by kernel_rfl) (fun w2 hw2 => hw2.ext.cell hc0 (by simp)) ?_
      refine To.runF 2 [6, 7] (fun _ _ => by kernel_rfl) fun f4 g4 l4 => ?_
      refine To.pick 0 (by kernel_rfl) ⟨trivial, ?_⟩
      refine To.loadOne uU8 rfl (ad.add ((2 * k + 1) * 1)) (.int .u8 ((b[2 * k + 1]).toNat : Int)) (by kernel_rfl) (fun w2 hw2 => hw2.ext.cell hc1 (by simp)) ?_
      refine To.runF 2 [] (fun _ _ => by kernel_rfl) fun f5 g5 l5 => ?_
      refine To.slotE 30 (.int .i64 (IntKind.i64.wrap (((BitVec.ofInt IntKind.i64.bits (IntKind.i64.wrap (IntKind.i64.wrap ((b[2 * k]).toNat : Int) * 256)) ||| BitVec.ofInt IntKind.i64.bits (IntKind.i64.wrap ((b[2 * k + 1]).toNat : Int))).toNat : Nat) : Int))) (.int .i64 (Int.ofNat (groupOf b k))) (by kernel_rfl) (by rw [or16, groupOf_at (by omega)]) ?_
      refine To.indexArr elG ⟨f1 0, 0, none⟩ k (by kernel_rfl) hlt ?_
      refine To.storeOne 0 (t := 3) (e := 88) (by kernel_rfl) (f1 0) k (gCells b k) (gCells b (k + 1)) (.int .i64 (Int.ofNat (groupOf b k))) (by kernel_rfl) (by kernel_rfl) (by rw [gCells_len]; exact hlt) (gCells_set b k hlt) rfl rfl (heldNo (by kernel_rfl)) ?_
      refine To.runF 6 [] (fun _ _ => by kernel_rfl) fun f6 g6 l6 => ?_
      refine To.slotE 12 (.int .i64 (IntKind.i64.wrap (Int.ofNat k + 1))) (.int .i64 (Int.ofNat (k + 1))) (by kernel_rfl) (by rw [wrap_succ k (by omega)]) ?_
      exact back _ _ (k + 1) [0] (by omega) ⟨by kernel_rfl, by kernel_rfl, by kernel_rfl, by kernel_rfl, by kernel_rfl, rfl⟩ (fun w7 hw7 => hlt)
    · refine To.loadOne uU8 rfl (ad.add ((2 * k + 1) * 1)) (.int .u8 ((b[2 * k + 1]).toNat : Int)) (by kernel_rfl) (fun w2 hw2 => hw2.ext.cell hc1 (by simp)) ?_
      refine To.runF 1 [14] (fun _ _ => by kernel_rfl) fun f4 g4 l4 => ?_
      refine To.pick 0 (by kernel_rfl) ⟨trivial, ?_⟩
      refine To.loadOne uU8 rfl (ad.add (2 * k * 1)) (.int .u8 ((b[2 * k]).toNat : Int)) (by kernel_rfl) (fun w2 hw2 => hw2.ext.cell hc0 (by simp)) ?_
      refine To.runF 3 [] (fun _ _ => by kernel_rfl) fun f5 g5 l5 => ?_
      refine To.slotE 30 (.int .i64 (IntKind.i64.wrap (((BitVec.ofInt IntKind.i64.bits (IntKind.i64.wrap (IntKind.i64.wrap ((b[2 * k]).toNat : Int) * 256)) ||| BitVec.ofInt IntKind.i64.bits (IntKind.i64.wrap ((b[2 * k + 1]).toNat : Int))).toNat : Nat) : Int))) (.int .i64 (Int.ofNat (groupOf b k))) (by kernel_rfl) (by rw [or16, groupOf_at (by omega)]) ?_
      refine To.indexArr elG ⟨f1 0, 0, none⟩ k (by kernel_rfl) hlt ?_
      refine To.storeOne 0 (t := 3) (e := 88) (by kernel_rfl) (f1 0) k (gCells b k) (gCells b (k + 1)) (.int .i64 (Int.ofNat (groupOf b k))) (by kernel_rfl) (by kernel_rfl) (by rw [gCells_len]; exact hlt) (gCells_set b k hlt) rfl rfl (heldNo (by kernel_rfl)) ?_
      refine To.runF 6 [] (fun _ _ => by kernel_rfl) fun f6 g6 l6 => ?_
      refine To.slotE 12 (.int .i64 (IntKind.i64.wrap (Int.ofNat k + 1))) (.int .i64 (Int.ofNat (k + 1))) (by kernel_rfl) (by rw [wrap_succ k (by omega)]) ?_
      exact back _ _ (k + 1) [0] (by omega) ⟨by kernel_rfl, by kernel_rfl, by kernel_rfl, by kernel_rfl, by kernel_rfl, rfl⟩ (fun w7 hw7 => hlt)
  · have hk8 : k = 8 := by omega
    subst hk8
    refine To.testF (decide (Int.ofNat 8 < 8)) (by kernel_rfl) (by decide) ?_
    refine To.runF 20 [0, 0, 0, 0, 0] (fun _ _ => by kernel_rfl) fun f3 g3 l3 => ?_
    have hor : (orI (orI (orI (orI (Int.ofNat (groupOf b 0)) (Int.ofNat (groupOf b 1))) (Int.ofNat (groupOf b 2))) (Int.ofNat (groupOf b 3))) (Int.ofNat (groupOf b 4)) == 0) = decide (groupOf b 0 = 0 ∧ groupOf b 1 = 0 ∧ groupOf b 2 = 0 ∧ groupOf b 3 = 0 ∧ groupOf b 4 = 0) := or5 _ _ _ _ _ (by have := groupOf_le b 0; omega) (by have := groupOf_le b 1; omega) (by have := groupOf_le b 2; omega) (by have := groupOf_le b 3; omega) (by have := groupOf_le b 4; omega)
    refine To.meet 2 (ι := Unit) (fun _ => ([(0, .slice a b.length ca), (3, .pointer (some ⟨f1 0, 0, none⟩))], [some ⟨f1 0, .cells ⟨gCells b 8⟩ 88 (0, 0), true⟩])) (fun _ _ => mapped b = false) (fun join => ?_) (fun _ w8 hm8 hx8 => ?_)
    · by_cases hz : groupOf b 0 = 0 ∧ groupOf b 1 = 0 ∧ groupOf b 2 = 0 ∧ groupOf b 3 = 0 ∧ groupOf b 4 = 0
      · refine To.slotT 48 (orI (orI (orI (orI (Int.ofNat (groupOf b 0)) (Int.ofNat (groupOf b 1))) (Int.ofNat (groupOf b 2))) (Int.ofNat (groupOf b 3))) (Int.ofNat (groupOf b 4)) == 0) (by kernel_rfl) (by rw [hor]; exact decide_eq_true hz) ?_
        refine To.runF 5 [0] (fun _ _ => by kernel_rfl) fun f4 g4 l4 => ?_
        by_cases h5 : groupOf b 5 = 65535
        · have hm : mapped b = true := (mapped_iff h16).2 ⟨hz.1, hz.2.1, hz.2.2.1, hz.2.2.2.1, hz.2.2.2.2, h5⟩
          refine To.testT (Int.ofNat (groupOf b 5) == 65535) (by kernel_rfl) (by rw [h5]; rfl) ?_
          refine To.runF 3 [] (fun _ _ => by kernel_rfl) fun f5 g5 l5 => ?_
          refine To.sliceFrom elB a b.length 12 ca (by omega) hca (by kernel_rfl) ?_
          refine To.slotE 54 (.slice (onA a 12 1 ca) (b.length - 12) (ca - 12)) (.slice (onA a 12 1 ca) (b.drop 12).length (ca - 12)) (by kernel_rfl) (by rw [List.length_drop]) ?_
          refine To.callN 28 #[.slice (onA a 12 1 ca) (b.drop 12).length (ca - 12)] (by kernel_rfl) (fun _ => by kernel_rfl) (fun w2 hw2 => maFour (b.drop 12) (onA a 12 1 ca) (ca - 12) w2 ((hin.later hw2.ext).from 12 ca hca) (by rw [List.length_drop, h16])) (fun w2 v2 w3 hw2 hx2 hv2 hnew2 hwi2 => ?_)
          subst hv2
          refine To.addText (t := 9) ([58, 58, 102, 102, 102, 102, 58] : List UInt8) (fourText (b.drop 12)) ⟨⟨([58, 58, 102, 102, 102, 102, 58] : List UInt8)⟩⟩ ⟨⟨fourText (b.drop 12)⟩⟩ rfl rfl (by kernel_rfl) (by have := fourText_len (b.drop 12); simp only [List.length_cons, List.length_nil]; omega) ?_
          refine To.runF 2 [] (fun _ _ => by kernel_rfl) fun f6 g6 l6 => ?_
          exact To.ret [] (.string ⟨⟨([58, 58, 102, 102, 102, 102, 58] : List UInt8) ++ fourText (b.drop 12)⟩⟩) (by kernel_rfl) (by kernel_rfl) fun w9 hw9 => ⟨_, rfl, hw9.ext, by unfold sixOf; rw [if_pos hm]⟩
        · have hm : mapped b = false := by
            cases h : mapped b with
            | false => rfl
            | true => exact absurd ((mapped_iff h16).1 h).2.2.2.2.2 h5
          refine To.testF (Int.ofNat (groupOf b 5) == 65535) (by kernel_rfl) (beq_eq_false_iff_ne.2 fun e => h5 (Int.ofNat.inj e)) ?_
          refine To.runF 1 [] (fun _ _ => by kernel_rfl) fun f5 g5 l5 => ?_
          exact join _ _ () [0] ⟨by kernel_rfl, by kernel_rfl, by kernel_rfl, by kernel_rfl, by kernel_rfl, rfl⟩ (fun _ _ => hm)
      · have hm : mapped b = false := by
          cases h : mapped b with
          | false => rfl
          | true => exact absurd ((mapped_iff h16).1 h) fun ⟨a0, a1, a2, a3, a4, _⟩ => hz ⟨a0, a1, a2, a3, a4⟩
        refine To.slotF 48 (orI (orI (orI (orI (Int.ofNat (groupOf b 0)) (Int.ofNat (groupOf b 1))) (Int.ofNat (groupOf b 2))) (Int.ofNat (groupOf b 3))) (Int.ofNat (groupOf b 4)) == 0) (by kernel_rfl) (by rw [hor]; exact decide_eq_false hz) ?_
        refine To.runF 7 [] (fun _ _ => by kernel_rfl) fun f4 g4 l4 => ?_
        exact join _ _ () [0] ⟨by kernel_rfl, by kernel_rfl, by kernel_rfl, by kernel_rfl, by kernel_rfl, rfl⟩ (fun _ _ => hm)
    refine To.runF 11 [] (fun _ _ => by kernel_rfl) fun f4 g4 l4 => ?_
    refine To.loop (fun k : Nat × Nat × Nat => 8 - k.1) (fun k => ([(3, .pointer (some ⟨f1 0, 0, none⟩)), (5, .int .i64 (atI k.2.1)), (6, .int .i64 (Int.ofNat k.2.2)), (57, .int .i64 (Int.ofNat k.1))], [some ⟨f1 0, .cells ⟨gCells b 8⟩ 88 (0, 0), true⟩])) (fun k _ => k.1 ≤ 8 ∧ (k.2.1 = 255 ∨ k.2.1 < 8) ∧ k.2.2 ≤ 8 ∧ runS (groupOf b) (8 - k.1) k.1 k.2.1 k.2.2 = runS (groupOf b) 8 0 255 1) (0, 255, 1) [0] (by kernel_rfl) (by kernel_rfl) (by kernel_rfl) rfl (fun _ _ => ⟨Nat.zero_le _, .inl rfl, by decide, rfl⟩) ?_
    rintro ⟨i, at_, most⟩ w9 ⟨hi8, hat, hmo, hrun⟩ hx9 back
    have hi8 : i ≤ 8 := hi8
    have hat : at_ = 255 ∨ at_ < 8 := hat
    have hmo : most ≤ 8 := hmo
    have hrun : runS (groupOf b) (8 - i) i at_ most = runS (groupOf b) 8 0 255 1 := hrun
    refine To.runF 5 [] (fun _ _ => by kernel_rfl) fun f5 g5 l5 => ?_
    by_cases hlt : i < 8
    · refine To.testT (decide (Int.ofNat i < 8)) (by kernel_rfl) (decide_eq_true (by simp only [Int.ofNat_eq_natCast]; omega)) ?_
      refine To.runF 14 [] (fun _ _ => by kernel_rfl) fun f6 g6 l6 => ?_
      refine To.loop (fun n : Nat => 8 - n) (fun n => ([(3, .pointer (some ⟨f1 0, 0, none⟩)), (5, .int .i64 (atI at_)), (6, .int .i64 (Int.ofNat most)), (7, .int .i64 (Int.ofNat i)), (8, .int .i64 (Int.ofNat n)), (57, .int .i64 (Int.ofNat i))], [some ⟨f1 0, .cells ⟨gCells b 8⟩ 88 (0, 0), true⟩])) (fun n _ => i + n ≤ 8 ∧ zerosFrom (groupOf b) (8 - n) (i + n) = zerosFrom (groupOf b) 8 i) 0 [0] (by kernel_rfl) (by kernel_rfl) (by kernel_rfl) rfl (fun _ _ => ⟨by omega, rfl⟩) ?_
      rintro n w10 ⟨hn8, hzn⟩ hx10 back2
      have hwn : IntKind.i64.wrap (Int.ofNat i + Int.ofNat n) = Int.ofNat (i + n) := by rw [IntWalk.i64_in _ ⟨by simp only [Int.ofNat_eq_natCast]; omega, by simp only [Int.ofNat_eq_natCast]; omega⟩]; rfl
      refine To.runF 8 [] (fun _ _ => by kernel_rfl) fun f7 g7 l7 => ?_
      refine To.meet 5 (ι := Unit) (fun _ => ([(3, .pointer (some ⟨f1 0, 0, none⟩)), (5, .int .i64 (atI at_)), (6, .int .i64 (Int.ofNat most)), (7, .int .i64 (Int.ofNat i)), (8, .int .i64 (Int.ofNat n)), (57, .int .i64 (Int.ofNat i))], [some ⟨f1 0, .cells ⟨gCells b 8⟩ 88 (0, 0), true⟩])) (fun _ _ => zerosFrom (groupOf b) 8 i = i + n) (fun join => ?_) (fun _ w12 hzi hx12 => ?_)
      · by_cases hin8 : i + n < 8
        · refine To.slotT 64 (decide (IntKind.i64.wrap (Int.ofNat i + Int.ofNat n) < 8)) (by kernel_rfl) (by rw [hwn]; exact decide_eq_true (by simp only [Int.ofNat_eq_natCast]; omega)) ?_
          refine To.runF 3 [] (fun _ _ => by kernel_rfl) fun f8 g8 l8 => ?_
          refine To.slotE 67 (.int .i64 (IntKind.i64.wrap (Int.ofNat i + Int.ofNat n))) (.int .i64 (Int.ofNat (i + n))) (by kernel_rfl) (by rw [hwn]) ?_
          refine To.indexArr elG ⟨f1 0, 0, none⟩ (i + n) (by kernel_rfl) hin8 ?_
          refine To.loadOne uInt rfl ((⟨f1 0, 0, none⟩ : Addr).add ((i + n) * 1)) (.int .i64 (Int.ofNat (groupOf b (i + n)))) (by kernel_rfl) (fun w11 hw11 => by
            rw [Nat.mul_one]
            exact hw11.cellAt0 (j := 0) (b := f1 0) (l := gCells b 8) (e := 88) (f := (0, 0)) (q := true) (by kernel_rfl) (gCells_at b (i + n) hin8)) ?_
          refine To.runF 3 [] (fun _ _ => by kernel_rfl) fun f9 g9 l9 => ?_
          by_cases hg : groupOf b (i + n) = 0
          · refine To.testT (Int.ofNat (groupOf b (i + n)) == 0) (by kernel_rfl) (by rw [hg]; rfl) ?_
            refine To.runF 8 [] (fun _ _ => by kernel_rfl) fun f10 g10 l10 => ?_
            refine To.slotE 8 (.int .i64 (IntKind.i64.wrap (Int.ofNat n + 1))) (.int .i64 (Int.ofNat (n + 1))) (by kernel_rfl) (by rw [wrap_succ n (by omega)]) ?_
            exact back2 _ _ (n + 1) [0] (by omega) ⟨by kernel_rfl, by kernel_rfl, by kernel_rfl, by kernel_rfl, by kernel_rfl, rfl⟩ (fun w7 hw7 => ⟨by omega, by
              rw [← hzn, show 8 - n = (8 - (n + 1)) + 1 by omega, zerosFrom, if_pos ⟨hin8, hg⟩]; rfl⟩)
          · refine To.testF (Int.ofNat (groupOf b (i + n)) == 0) (by kernel_rfl) (beq_eq_false_iff_ne.2 fun e => hg (Int.ofNat.inj e)) ?_
            refine To.runF 1 [] (fun _ _ => by kernel_rfl) fun f10 g10 l10 => ?_
            exact join _ _ () [0] ⟨by kernel_rfl, by kernel_rfl, by kernel_rfl, by kernel_rfl, by kernel_rfl, rfl⟩ (fun _ _ => by
              rw [← hzn, show 8 - n = (8 - (n + 1)) + 1 by omega, zerosFrom, if_neg (fun h => hg h.2)])
        · refine To.slotF 64 (decide (IntKind.i64.wrap (Int.ofNat i + Int.ofNat n) < 8)) (by kernel_rfl) (by rw [hwn]; exact decide_eq_false (by simp only [Int.ofNat_eq_natCast]; omega)) ?_
          refine To.runF 10 [] (fun _ _ => by kernel_rfl) fun f8 g8 l8 => ?_
          exact join _ _ () [0] ⟨by kernel_rfl, by kernel_rfl, by kernel_rfl, by kernel_rfl, by kernel_rfl, rfl⟩ (fun _ _ => by
            rw [← hzn]
            have : ∀ f, zerosFrom (groupOf b) f (i + n) = i + n := fun f => by cases f with
              | zero => rfl
              | succ f => rw [zerosFrom, if_neg (by omega)]
            exact this _)
      refine To.runF 6 [] (fun _ _ => by kernel_rfl) fun f8 g8 l8 => ?_
      have hst : runS (groupOf b) (8 - i) i at_ most = if most < n then runS (groupOf b) (8 - (i + 1)) (i + 1) i n else runS (groupOf b) (8 - (i + 1)) (i + 1) at_ most := by
        rw [show 8 - i = (8 - (i + 1)) + 1 by omega, runS, hzi, Nat.add_sub_cancel_left]
      by_cases hmn : most < n
      · refine To.testT (decide (Int.ofNat n > Int.ofNat most)) (by kernel_rfl) (decide_eq_true (by simp only [Int.ofNat_eq_natCast]; omega)) ?_
        refine To.runF 11 [] (fun _ _ => by kernel_rfl) fun f9 g9 l9 => ?_
        refine To.slotE 57 (.int .i64 (IntKind.i64.wrap (Int.ofNat i + 1))) (.int .i64 (Int.ofNat (i + 1))) (by kernel_rfl) (by rw [wrap_succ i (by omega)]) ?_
        refine To.slotE 5 (.int .i64 (Int.ofNat i)) (.int .i64 (atI i)) (by kernel_rfl) (by unfold atI; rw [if_neg (by omega)]) ?_
        exact back _ _ (i + 1, i, n) [0] (by simp only; omega) ⟨by kernel_rfl, by kernel_rfl, by kernel_rfl, by kernel_rfl, by kernel_rfl, rfl⟩ (fun w7 hw7 => ⟨by simp only; omega, .inr hlt, by simp only; omega, by
          simp only
          rw [← hrun, hst, if_pos hmn]⟩)
      · refine To.testF (decide (Int.ofNat n > Int.ofNat most)) (by kernel_rfl) (decide_eq_false (by simp only [Int.ofNat_eq_natCast]; omega)) ?_
        refine To.runF 6 [] (fun _ _ => by kernel_rfl) fun f9 g9 l9 => ?_
        refine To.slotE 57 (.int .i64 (IntKind.i64.wrap (Int.ofNat i + 1))) (.int .i64 (Int.ofNat (i + 1))) (by kernel_rfl) (by rw [wrap_succ i (by omega)]) ?_
        exact back _ _ (i + 1, at_, most) [0] (by simp only; omega) ⟨by kernel_rfl, by kernel_rfl, by kernel_rfl, by kernel_rfl, by kernel_rfl, rfl⟩ (fun w7 hw7 => ⟨by simp only; omega, hat, hmo, by
          simp only
          rw [← hrun, hst, if_neg hmn]⟩)
    · refine To.testF (decide (Int.ofNat i < 8)) (by kernel_rfl) (decide_eq_false (by simp only [Int.ofNat_eq_natCast]; omega)) ?_
      refine To.runF 11 [] (fun _ _ => by kernel_rfl) fun f6 g6 l6 => ?_
      have hi : i = 8 := by omega
      subst hi
      have hr : runS (groupOf b) 8 0 255 1 = (at_, most) := by rw [← hrun]; rfl
      have hT : sixS (groupOf b) at_ most 9 0 [] = ipText b := by
        unfold ipText
        rw [if_neg (by omega), six_eq, hr]
      have hsame := run_same (groupOf b) 8 0 255 255 255 1 (by omega) (.inl ⟨rfl, rfl, rfl, rfl⟩)
      rw [hr] at hsame
      have hb : (at_ = 255 ∧ most = 1) ∨ (at_ + most ≤ 8 ∧ 2 ≤ most) := by
        rcases hsame with ⟨_, _, h3, h4⟩ | ⟨h1, h2, h3, h4, h5⟩
        · exact .inl ⟨h3, h4⟩
        · simp only at h3 h4
          exact .inr ⟨by omega, h5⟩
      refine To.loop (fun k : Nat × List UInt8 => 8 - k.1) (fun k => ([(3, .pointer (some ⟨f1 0, 0, none⟩)), (5, .int .i64 (atI at_)), (6, .int .i64 (Int.ofNat most)), (9, .string ⟨⟨k.2⟩⟩), (10, .int .i64 (Int.ofNat k.1))], [some ⟨f1 0, .cells ⟨gCells b 8⟩ 88 (0, 0), true⟩])) (fun k _ => k.1 ≤ 8 ∧ k.2.length ≤ 5 * k.1 ∧ ∃ m, 8 - k.1 < m ∧ sixS (groupOf b) at_ most m k.1 k.2 = ipText b) (0, []) [0] (by kernel_rfl) (by kernel_rfl) (by kernel_rfl) rfl (fun _ _ => ⟨Nat.zero_le _, Nat.le_refl _, 9, by decide, hT⟩) ?_
      rintro ⟨i, s⟩ w10 ⟨hi8, hsl, m, hm, hs⟩ hx10 back2
      have hi8 : i ≤ 8 := hi8
      have hsl : s.length ≤ 5 * i := hsl
      have hm : 8 - i < m := hm
      have hs : sixS (groupOf b) at_ most m i s = ipText b := hs
      refine To.runF 6 [] (fun _ _ => by kernel_rfl) fun f7 g7 l7 => ?_
      obtain ⟨m, rfl⟩ : ∃ m', m = m' + 1 := ⟨m - 1, by omega⟩
      by_cases hlt : i < 8
      · refine To.testT (decide (Int.ofNat i < 8)) (by kernel_rfl) (decide_eq_true (by simp only [Int.ofNat_eq_natCast]; omega)) ?_
        rw [sixS, if_pos hlt] at hs
        refine To.runF 10 [] (fun _ _ => by kernel_rfl) fun f8 g8 l8 => ?_
        by_cases hia : i = at_
        · rw [if_pos hia] at hs
          have h8 : at_ + most ≤ 8 ∧ 2 ≤ most := by rcases hb with h | h <;> omega
          refine To.testT (Int.ofNat i == atI at_) (by kernel_rfl) (by unfold atI; rw [if_neg (by omega), hia]; exact beq_self_eq_true _) ?_
          refine To.runF 3 [] (fun _ _ => by kernel_rfl) fun f9 g9 l9 => ?_
          refine To.addText (t := 9) s ([58, 58] : List UInt8) ⟨⟨s⟩⟩ ⟨⟨([58, 58] : List UInt8)⟩⟩ rfl rfl (by kernel_rfl) (by simp only [List.length_cons, List.length_nil]; omega) ?_
          refine To.runF 16 [] (fun _ _ => by kernel_rfl) fun f10 g10 l10 => ?_
          have hw1 : IntKind.i64.wrap (Int.ofNat most - 1) = Int.ofNat (most - 1) := by rw [IntWalk.i64_in _ ⟨by simp only [Int.ofNat_eq_natCast]; omega, by simp only [Int.ofNat_eq_natCast]; omega⟩]; simp only [Int.ofNat_eq_natCast]; omega
          have hw2 : IntKind.i64.wrap (Int.ofNat i + Int.ofNat (most - 1)) = Int.ofNat (i + (most - 1)) := by rw [IntWalk.i64_in _ ⟨by simp only [Int.ofNat_eq_natCast]; omega, by simp only [Int.ofNat_eq_natCast]; omega⟩]; rfl
          refine To.slotE 10 (.int .i64 (IntKind.i64.wrap (IntKind.i64.wrap (Int.ofNat i + IntKind.i64.wrap (Int.ofNat most - 1)) + 1))) (.int .i64 (Int.ofNat (at_ + most))) (by kernel_rfl) (by rw [hw1, hw2, wrap_succ _ (by omega), show i + (most - 1) + 1 = at_ + most by omega]) ?_
          exact back2 _ _ (at_ + most, s ++ [58, 58]) [0] (by simp only; omega) ⟨by kernel_rfl, by kernel_rfl, by kernel_rfl, by kernel_rfl, by kernel_rfl, rfl⟩ (fun w7 hw7 => ⟨h8.1, by simp only [List.length_append, List.length_cons, List.length_nil]; omega, m, by simp only; omega, hs⟩)
        · rw [if_neg hia] at hs
          refine To.testF (Int.ofNat i == atI at_) (by kernel_rfl) (beq_eq_false_iff_ne.2 fun e => by
            unfold atI at e
            split at e
            · exact absurd e (by simp only [Int.ofNat_eq_natCast]; omega)
            · exact hia (Int.ofNat.inj e)) ?_
          refine To.runF 7 [] (fun _ _ => by kernel_rfl) fun f9 g9 l9 => ?_
          have haI : (atI at_ < 0) = (at_ = 255) := by
            unfold atI
            by_cases h : at_ = 255
            · rw [if_pos h, eq_true h]; exact eq_true (by decide)
            · rw [if_neg h, eq_false h]; exact eq_false (by simp only [Int.ofNat_eq_natCast]; omega)
          obtain ⟨s', hs'⟩ : ∃ s', s' = if 0 < i ∧ i ≠ at_ + most then s ++ [58] else s := ⟨_, rfl⟩
          rw [← hs'] at hs
          have hs'l : s'.length ≤ 5 * i + 1 := by
            rw [hs']
            split
            · simp only [List.length_append, List.length_cons, List.length_nil]; omega
            · omega
          refine To.meet 2 (ι := Unit) (fun _ => ([(3, .pointer (some ⟨f1 0, 0, none⟩)), (5, .int .i64 (atI at_)), (6, .int .i64 (Int.ofNat most)), (9, .string ⟨⟨s'⟩⟩), (10, .int .i64 (Int.ofNat i))], [some ⟨f1 0, .cells ⟨gCells b 8⟩ 88 (0, 0), true⟩])) (fun _ _ => True) (fun join => ?_) (fun _ w12 _ hx12 => ?_)
          · by_cases h0 : 0 < i
            · refine To.slotT 95 (decide (Int.ofNat i > 0)) (by kernel_rfl) (decide_eq_true (by simp only [Int.ofNat_eq_natCast]; omega)) ?_
              refine To.runF 3 [] (fun _ _ => by kernel_rfl) fun f10 g10 l10 => ?_
              by_cases ha : at_ = 255
              · refine To.slotT 98 (decide (atI at_ < 0)) (by kernel_rfl) (decide_eq_true (by rw [haI]; exact ha)) ?_
                refine To.runF 11 [] (fun _ _ => by kernel_rfl) fun f11 g11 l11 => ?_
                refine To.addText (t := 9) s ([58] : List UInt8) ⟨⟨s⟩⟩ ⟨⟨([58] : List UInt8)⟩⟩ rfl rfl (by kernel_rfl) (by simp only [List.length_cons, List.length_nil]; omega) ?_
                refine To.runF 2 [] (fun _ _ => by kernel_rfl) fun f12 g12 l12 => ?_
                refine To.slotE 9 (.string ⟨⟨s ++ ([58] : List UInt8)⟩⟩) (.string ⟨⟨s'⟩⟩) (by kernel_rfl) (by rw [hs', if_pos ⟨h0, by omega⟩]) ?_
                exact join _ _ () [0] ⟨by kernel_rfl, by kernel_rfl, by kernel_rfl, by kernel_rfl, by kernel_rfl, rfl⟩ (fun _ _ => trivial)
              · refine To.slotF 98 (decide (atI at_ < 0)) (by kernel_rfl) (decide_eq_false (by rw [haI]; exact ha)) ?_
                have haN : atI at_ = Int.ofNat at_ := by unfold atI; rw [if_neg ha]
                have hwm : IntKind.i64.wrap (atI at_ + Int.ofNat most) = Int.ofNat (at_ + most) := by rw [haN, IntWalk.i64_in _ ⟨by simp only [Int.ofNat_eq_natCast]; omega, by simp only [Int.ofNat_eq_natCast]; omega⟩]; rfl
                refine To.runF 8 [] (fun _ _ => by kernel_rfl) fun f11 g11 l11 => ?_
                by_cases hne : i = at_ + most
                · refine To.testF (Int.ofNat i != IntKind.i64.wrap (atI at_ + Int.ofNat most)) (by kernel_rfl) (by rw [hwm, ← hne]; exact bne_self_eq_false _) ?_
                  refine To.runF 1 [] (fun _ _ => by kernel_rfl) fun f12 g12 l12 => ?_
                  refine To.slotE 9 (.string ⟨⟨s⟩⟩) (.string ⟨⟨s'⟩⟩) (by kernel_rfl) (by rw [hs', if_neg (fun h => h.2 hne)]) ?_
                  exact join _ _ () [0] ⟨by kernel_rfl, by kernel_rfl, by kernel_rfl, by kernel_rfl, by kernel_rfl, rfl⟩ (fun _ _ => trivial)
                · refine To.testT (Int.ofNat i != IntKind.i64.wrap (atI at_ + Int.ofNat most)) (by kernel_rfl) (by rw [hwm]; exact bne_iff_ne.2 fun e => hne (Int.ofNat.inj e)) ?_
                  refine To.runF 2 [] (fun _ _ => by kernel_rfl) fun f12 g12 l12 => ?_
                  refine To.addText (t := 9) s ([58] : List UInt8) ⟨⟨s⟩⟩ ⟨⟨([58] : List UInt8)⟩⟩ rfl rfl (by kernel_rfl) (by simp only [List.length_cons, List.length_nil]; omega) ?_
                  refine To.runF 2 [] (fun _ _ => by kernel_rfl) fun f13 g13 l13 => ?_
                  refine To.slotE 9 (.string ⟨⟨s ++ ([58] : List UInt8)⟩⟩) (.string ⟨⟨s'⟩⟩) (by kernel_rfl) (by rw [hs', if_pos ⟨h0, hne⟩]) ?_
                  exact join _ _ () [0] ⟨by kernel_rfl, by kernel_rfl, by kernel_rfl, by kernel_rfl, by kernel_rfl, rfl⟩ (fun _ _ => trivial)
            · refine To.slotF 95 (decide (Int.ofNat i > 0)) (by kernel_rfl) (decide_eq_false (by simp only [Int.ofNat_eq_natCast]; omega)) ?_
              refine To.runF 13 [] (fun _ _ => by kernel_rfl) fun f10 g10 l10 => ?_
              refine To.slotE 9 (.string ⟨⟨s⟩⟩) (.string ⟨⟨s'⟩⟩) (by kernel_rfl) (by rw [hs', if_neg (fun h => h0 h.1)]) ?_
              exact join _ _ () [0] ⟨by kernel_rfl, by kernel_rfl, by kernel_rfl, by kernel_rfl, by kernel_rfl, rfl⟩ (fun _ _ => trivial)
          refine To.runF 3 [] (fun _ _ => by kernel_rfl) fun f10 g10 l10 => ?_
          refine To.indexArr elG ⟨f1 0, 0, none⟩ i (by kernel_rfl) hlt ?_
          refine To.loadOne uInt rfl ((⟨f1 0, 0, none⟩ : Addr).add (i * 1)) (.int .i64 (Int.ofNat (groupOf b i))) (by kernel_rfl) (fun w11 hw11 => by
            rw [Nat.mul_one]
            exact hw11.cellAt0 (j := 0) (b := f1 0) (l := gCells b 8) (e := 88) (f := (0, 0)) (q := true) (by kernel_rfl) (gCells_at b i hlt)) ?_
          refine To.callN 43 #[.int .i64 (Int.ofNat (groupOf b i))] (by kernel_rfl) (fun _ => by kernel_rfl) (fun w2 hw2 => maHex (groupOf b i) w2 (groupOf_le b i)) (fun w2 v2 w3 hw2 hx2 hv2 hnew2 hwi2 => ?_)
          subst hv2
          have hh4 := hexOf4 (groupOf_le b i)
          refine To.addText (t := 9) s' (hexOf (groupOf b i)) ⟨⟨s'⟩⟩ ⟨⟨hexOf (groupOf b i)⟩⟩ rfl rfl (by kernel_rfl) (by omega) ?_
          refine To.runF 8 [] (fun _ _ => by kernel_rfl) fun f11 g11 l11 => ?_
          refine To.slotE 10 (.int .i64 (IntKind.i64.wrap (Int.ofNat i + 1))) (.int .i64 (Int.ofNat (i + 1))) (by kernel_rfl) (by rw [wrap_succ i (by omega)]) ?_
          exact back2 _ _ (i + 1, s' ++ hexOf (groupOf b i)) [0] (by simp only; omega) ⟨by kernel_rfl, by kernel_rfl, by kernel_rfl, by kernel_rfl, by kernel_rfl, rfl⟩ (fun w7 hw7 => ⟨by simp only; omega, by simp only [List.length_append]; omega, m, by simp only; omega, hs⟩)
      · refine To.testF (decide (Int.ofNat i < 8)) (by kernel_rfl) (decide_eq_false (by simp only [Int.ofNat_eq_natCast]; omega)) ?_
        refine To.runF 6 [] (fun _ _ => by kernel_rfl) fun f8 g8 l8 => ?_
        exact To.ret [] (.string ⟨⟨s⟩⟩) (by kernel_rfl) (by kernel_rfl) fun w11 hw11 => ⟨_, rfl, hw11.ext, by
          rw [sixS, if_neg hlt] at hs
          unfold sixOf
          rw [if_neg (by rw [hm8]; decide), hs]⟩
end Go.Proofs.YtgodhbgnhapemaaGreatDoor
/- The library's decimal numeral of an unsigned number, at base 10. Conditions: at most 16 bits; the library's table of powers lies as it is laid. -/
namespace Go.Proofs.YtgodhbgnhapemaaGreatDoor
open Go Go.SX Go.IpText
set_option maxHeartbeats 8000000
set_option maxRecDepth 100000
theorem smallT (n : Nat) (w : World) (hn : n < 100) :
    Calls Tryz.prog 271 #[.int .i64 (Int.ofNat n)] w (fun e w1 => ∃ v, e = .returned v ∧ Ext [] w w1 ∧ v = .string ⟨⟨Lib.decDigits n⟩⟩) :=
  (Any.internal_strconv_small { Tryz.lays171 with } n hn w).mono fun e w1 ⟨h1, h2⟩ => ⟨_, h1, by rw [h2]; exact Ext.refl _ _, rfl⟩
theorem numDigitsT (n : Nat) (w : World) (ht : Tab w) (h1 : 1 ≤ n) (hn : n < 18446744073709551616) :
    Calls Tryz.prog 272 #[.int .u64 (Int.ofNat n)] w (fun e w1 => ∃ v, e = .returned v ∧ Ext [] w w1 ∧ v = .int .i64 (Int.ofNat (Lib.nDigits n))) :=
  (Any.internal_strconv_numDigits { Tryz.lays171 with } n h1 hn w ht).mono fun e w1 ⟨h1, h2⟩ => ⟨_, h1, by rw [h2]; exact Ext.refl _ _, rfl⟩
theorem toB (u : UInt8) : UInt8.ofNat (Int.toNat (u.toNat : Int)) = u := by rw [Int.toNat_natCast]; exact UInt8.ofNat_toNat
theorem firstD (x : Nat) (h : x < 10) : IntKind.u8.wrap (IntKind.u32.wrap (48 + IntKind.u32.wrap (Int.ofNat x))) = Int.ofNat (48 + x) := by
  rw [IntWalk.u32_in (Int.ofNat x) ⟨by simp only [Int.ofNat_eq_natCast]; omega, by simp only [Int.ofNat_eq_natCast]; omega⟩, IntWalk.u32_in _ ⟨by simp only [Int.ofNat_eq_natCast]; omega, by simp only [Int.ofNat_eq_natCast]; omega⟩, IntWalk.u8_in _ ⟨by simp only [Int.ofNat_eq_natCast]; omega, by simp only [Int.ofNat_eq_natCast]; omega⟩]
  simp only [Int.ofNat_eq_natCast]; omega
theorem decBig {n : Nat} (h : 10 ≤ n) : Lib.decDigits n = Lib.decDigits (n / 10) ++ [UInt8.ofNat (48 + n % 10)] := by
  rw [decDigits_last]; unfold decTail; rw [if_neg (by omega)]
theorem dec3 {n : Nat} (h : ¬ n < 100) (h3 : n < 1000) : Lib.decDigits n = [UInt8.ofNat (48 + n / 100), UInt8.ofNat (48 + n % 100 / 10), UInt8.ofNat (48 + n % 100 % 10)] := by
  rw [decBig (by omega), Lib.decDigits_two (by omega) (by omega), show n / 10 / 10 = n / 100 by omega, show n / 10 % 10 = n % 100 / 10 by omega, show n % 10 = n % 100 % 10 by omega]; rfl
theorem dec4 {n : Nat} (h : ¬ n < 1000) (h4 : n < 10000) : Lib.decDigits n = [UInt8.ofNat (48 + n / 100 / 10), UInt8.ofNat (48 + n / 100 % 10), UInt8.ofNat (48 + n % 100 / 10), UInt8.ofNat (48 + n % 100 % 10)] := by
  rw [decBig (by omega), dec3 (by omega) (by omega), show n / 10 / 100 = n / 100 / 10 by omega, show n / 10 % 100 / 10 = n / 100 % 10 by omega, show n / 10 % 100 % 10 = n % 100 / 10 by omega, show n % 10 = n % 100 % 10 by omega]; rfl
theorem dec5 {n : Nat} (h : ¬ n < 10000) (h5 : n < 100000) : Lib.decDigits n = [UInt8.ofNat (48 + n / 10000), UInt8.ofNat (48 + n % 10000 / 100 / 10), UInt8.ofNat (48 + n % 10000 / 100 % 10), UInt8.ofNat (48 + n % 10000 % 100 / 10), UInt8.ofNat (48 + n % 10000 % 100 % 10)] := by
  rw [decBig (by omega), dec4 (by omega) (by omega), show n / 10 / 100 / 10 = n / 10000 by omega, show n / 10 / 100 % 10 = n % 10000 / 100 / 10 by omega, show n / 10 % 100 / 10 = n % 10000 / 100 % 10 by omega, show n / 10 % 100 % 10 = n % 10000 % 100 / 10 by omega, show n % 10 = n % 10000 % 100 % 10 by omega]; rfl
theorem mul2 (x : Nat) (h : x < 100) : IntKind.u32.wrap (Int.ofNat x * 2) = Int.ofNat (x * 2) := by
  rw [IntWalk.u32_in _ ⟨by simp only [Int.ofNat_eq_natCast]; omega, by simp only [Int.ofNat_eq_natCast]; omega⟩]; rfl
theorem suc32 (x : Nat) (h : x < 1000) : IntKind.u32.wrap (Int.ofNat x + 1) = Int.ofNat (x + 1) := by
  rw [IntWalk.u32_in _ ⟨by simp only [Int.ofNat_eq_natCast]; omega, by simp only [Int.ofNat_eq_natCast]; omega⟩]; rfl
theorem formatUint (n : Nat) (w : World) (ht : Tab w) (hn : n < 65536) :
    Calls Tryz.prog 208 #[.int .u64 (Int.ofNat n), .int .i64 10] w (fun e w1 => ∃ v, e = .returned v ∧ Ext [] w w1 ∧ v = .string ⟨⟨Lib.decDigits n⟩⟩) := by
  refine calls_of0 (args := [.int .u64 (Int.ofNat n), .int .i64 10]) Tryz.func208 rfl rfl rfl ?_
  refine To.runF 17 [] (fun _ _ => by kernel_rfl) fun f1 g1 l1 => ?_
  by_cases h100 : n < 100
  · refine To.testT (decide (Int.ofNat n < 100)) (by kernel_rfl) (decide_eq_true (by simp only [Int.ofNat_eq_natCast]; omega)) ?_
    refine To.runF 4 [] (fun _ _ => by kernel_rfl) fun f2 g2 l2 => ?_
    have hwn : IntKind.i64.wrap (Int.ofNat n) = Int.ofNat n := IntWalk.i64_in _ ⟨by simp only [Int.ofNat_eq_natCast]; omega, by simp only [Int.ofNat_eq_natCast]; omega⟩
    refine To.slotE 14 (.int .i64 (IntKind.i64.wrap (Int.ofNat n))) (.int .i64 (Int.ofNat n)) (by kernel_rfl) (by rw [hwn]) ?_
    refine To.callN 271 #[.int .i64 (Int.ofNat n)] (by kernel_rfl) (fun _ => by kernel_rfl) (fun w2 hw2 => smallT n w2 h100) (fun w2 v2 w3 hw2 hx2 hv2 hnew2 hwi2 => ?_)
    subst hv2
    refine To.runF 2 [] (fun _ _ => by kernel_rfl) fun f3 g3 l3 => ?_
    exact To.ret [] (.string ⟨⟨Lib.decDigits n⟩⟩) (by kernel_rfl) (by kernel_rfl) fun w4 hw4 => ⟨_, rfl, hw4.ext, rfl⟩
  · refine To.testF (decide (Int.ofNat n < 100)) (by kernel_rfl) (decide_eq_false (by simp only [Int.ofNat_eq_natCast]; omega)) ?_
    refine To.runF 8 [] (fun _ _ => by kernel_rfl) fun f2 g2 l2 => ?_
    refine To.callN 272 #[.int .u64 (Int.ofNat n)] (by kernel_rfl) (fun _ => by kernel_rfl) (fun w2 hw2 => numDigitsT n w2 (ht.later hw2.ext) (by omega) (by omega)) (fun w2 v2 w3 hw2 hx2 hv2 hnew2 hwi2 => ?_)
    subst hv2
    by_cases h3 : n < 1000
    · have hnd : Lib.nDigits n = 3 := Lib.nDigits_unique 2 n (by omega) (by omega)
      rw [hnd]
      refine To.runF 70 [0, 0, 0, 1, 2, 3, 4, 5, 6, 7, 9] (fun _ _ => by kernel_rfl) fun f3 g3 l3 => ?_
      have e1 : IntKind.u32.wrap (Int.ofNat n) = Int.ofNat n := IntWalk.u32_in _ ⟨by simp only [Int.ofNat_eq_natCast]; omega, by simp only [Int.ofNat_eq_natCast]; omega⟩
      have e2 : IntKind.u32.wrap (Int.tmod (IntKind.u32.wrap (Int.ofNat n)) 100 * 2) = Int.ofNat (n % 100 * 2) := by
        rw [e1]; show IntKind.u32.wrap (Int.ofNat (n % 100) * 2) = _
        rw [IntWalk.u32_in _ ⟨by simp only [Int.ofNat_eq_natCast]; omega, by simp only [Int.ofNat_eq_natCast]; omega⟩]; rfl
      have e3 : IntKind.u32.wrap (IntKind.u32.wrap (Int.tmod (IntKind.u32.wrap (Int.ofNat n)) 100 * 2) + 1) = Int.ofNat (n % 100 * 2 + 1) := by
        rw [e2, IntWalk.u32_in _ ⟨by simp only [Int.ofNat_eq_natCast]; omega, by simp only [Int.ofNat_eq_natCast]; omega⟩]; rfl
      refine To.slotE 152 (.int .u32 (IntKind.u32.wrap (IntKind.u32.wrap (Int.tmod (IntKind.u32.wrap (Int.ofNat n)) 100 * 2) + 1))) (.int .u32 (Int.ofNat (n % 100 * 2 + 1))) (by kernel_rfl) (by rw [e3]) ?_
      refine To.slotE 154 (.int .u32 (IntKind.u32.wrap (Int.tmod (IntKind.u32.wrap (Int.ofNat n)) 100 * 2))) (.int .u32 (Int.ofNat (n % 100 * 2))) (by kernel_rfl) (by rw [e2]) ?_
      refine To.lawES 8 (Instr.index 9 (.string Lib.smalls) (.int .u32 (Int.ofNat (n % 100 * 2 + 1)))) (.int .u8 ((Lib.sm (n % 100 * 2 + 1)).toNat : Int)) (by kernel_rfl) (fun w _ => Lib.idx_smalls _ uStr _ _ (n % 100 * 2 + 1) rfl (by omega) w) ?_
      refine To.lawES 10 (Instr.index 9 (.string Lib.smalls) (.int .u32 (Int.ofNat (n % 100 * 2)))) (.int .u8 ((Lib.sm (n % 100 * 2)).toNat : Int)) (by kernel_rfl) (fun w _ => Lib.idx_smalls _ uStr _ _ (n % 100 * 2) rfl (by omega) w) ?_
      refine To.runF 33 [0, 0, 0, 0, 0, 0] (fun _ _ => by kernel_rfl) fun f4 g4 l4 => ?_
      exact To.ret [] (.string (ByteArray.push (ByteArray.push (ByteArray.push ByteArray.empty (UInt8.ofNat (Int.toNat (IntKind.u8.wrap (IntKind.u32.wrap (48 + IntKind.u32.wrap (Int.tdiv (IntKind.u32.wrap (Int.ofNat n)) 100))))))) (UInt8.ofNat (Int.toNat ((Lib.sm (n % 100 * 2)).toNat : Int)))) (UInt8.ofNat (Int.toNat ((Lib.sm (n % 100 * 2 + 1)).toNat : Int))))) (by kernel_rfl) (by kernel_rfl) fun w4 hw4 => ⟨_, rfl, hw4.ext, by
        have e4 : IntKind.u8.wrap (IntKind.u32.wrap (48 + IntKind.u32.wrap (Int.tdiv (IntKind.u32.wrap (Int.ofNat n)) 100))) = Int.ofNat (48 + n / 100) := by
          rw [e1]; exact firstD (n / 100) (by omega)
        rw [e4, toB, toB, Lib.sm_lo _ (Nat.mod_lt _ (by decide)), Lib.sm_hi _ (Nat.mod_lt _ (by decide)), dec3 h100 h3]; rfl⟩
    · by_cases h4 : n < 10000
      · have hnd : Lib.nDigits n = 4 := Lib.nDigits_unique 3 n (by omega) (by omega)
        rw [hnd]
        refine To.runF 72 [0, 0, 0, 1, 2, 3, 4, 5, 6, 7, 9] (fun _ _ => by kernel_rfl) fun f3 g3 l3 => ?_
        have e1 : IntKind.u32.wrap (Int.ofNat n) = Int.ofNat n := IntWalk.u32_in _ ⟨by simp only [Int.ofNat_eq_natCast]; omega, by simp only [Int.ofNat_eq_natCast]; omega⟩
        have eL : IntKind.u32.wrap (Int.tmod (Int.tmod (IntKind.u32.wrap (Int.ofNat n)) 10000) 100 * 2) = Int.ofNat (n % 10000 % 100 * 2) := by rw [e1]; exact mul2 (n % 10000 % 100) (by omega)
        have eL1 : IntKind.u32.wrap (IntKind.u32.wrap (Int.tmod (Int.tmod (IntKind.u32.wrap (Int.ofNat n)) 10000) 100 * 2) + 1) = Int.ofNat (n % 10000 % 100 * 2 + 1) := by rw [eL]; exact suc32 _ (by omega)
        have eH : IntKind.u32.wrap (IntKind.u32.wrap (Int.tdiv (Int.tmod (IntKind.u32.wrap (Int.ofNat n)) 10000) 100) * 2) = Int.ofNat (n % 10000 / 100 * 2) := by
          rw [e1]
          show IntKind.u32.wrap (IntKind.u32.wrap (Int.ofNat (n % 10000 / 100)) * 2) = _
          rw [IntWalk.u32_in (Int.ofNat (n % 10000 / 100)) ⟨by simp only [Int.ofNat_eq_natCast]; omega, by simp only [Int.ofNat_eq_natCast]; omega⟩]
          exact mul2 (n % 10000 / 100) (by omega)
        have eH1 : IntKind.u32.wrap (IntKind.u32.wrap (IntKind.u32.wrap (Int.tdiv (Int.tmod (IntKind.u32.wrap (Int.ofNat n)) 10000) 100) * 2) + 1) = Int.ofNat (n % 10000 / 100 * 2 + 1) := by rw [eH]; exact suc32 _ (by omega)
        refine To.slotE 117 (.int .u32 (IntKind.u32.wrap (IntKind.u32.wrap (Int.tmod (Int.tmod (IntKind.u32.wrap (Int.ofNat n)) 10000) 100 * 2) + 1))) (.int .u32 (Int.ofNat (n % 10000 % 100 * 2 + 1))) (by kernel_rfl) (by rw [eL1]) ?_
        refine To.slotE 119 (.int .u32 (IntKind.u32.wrap (Int.tmod (Int.tmod (IntKind.u32.wrap (Int.ofNat n)) 10000) 100 * 2))) (.int .u32 (Int.ofNat (n % 10000 % 100 * 2))) (by kernel_rfl) (by rw [eL]) ?_
        refine To.lawES 8 (Instr.index 9 (.string Lib.smalls) (.int .u32 (Int.ofNat (n % 10000 % 100 * 2 + 1)))) (.int .u8 ((Lib.sm (n % 10000 % 100 * 2 + 1)).toNat : Int)) (by kernel_rfl) (fun w _ => Lib.idx_smalls _ uStr _ _ (n % 10000 % 100 * 2 + 1) rfl (by omega) w) ?_
        refine To.lawES 10 (Instr.index 9 (.string Lib.smalls) (.int .u32 (Int.ofNat (n % 10000 % 100 * 2)))) (.int .u8 ((Lib.sm (n % 10000 % 100 * 2)).toNat : Int)) (by kernel_rfl) (fun w _ => Lib.idx_smalls _ uStr _ _ (n % 10000 % 100 * 2) rfl (by omega) w) ?_
        refine To.runF 16 [0, 0, 0, 0, 0, 1, 2, 3, 4, 5, 6, 7, 9] (fun _ _ => by kernel_rfl) fun f4 g4 l4 => ?_
        refine To.slotE 130 (.int .u32 (IntKind.u32.wrap (IntKind.u32.wrap (IntKind.u32.wrap (Int.tdiv (Int.tmod (IntKind.u32.wrap (Int.ofNat n)) 10000) 100) * 2) + 1))) (.int .u32 (Int.ofNat (n % 10000 / 100 * 2 + 1))) (by kernel_rfl) (by rw [eH1]) ?_
        refine To.slotE 132 (.int .u32 (IntKind.u32.wrap (IntKind.u32.wrap (Int.tdiv (Int.tmod (IntKind.u32.wrap (Int.ofNat n)) 10000) 100) * 2))) (.int .u32 (Int.ofNat (n % 10000 / 100 * 2))) (by kernel_rfl) (by rw [eH]) ?_
        refine To.lawES 8 (Instr.index 9 (.string Lib.smalls) (.int .u32 (Int.ofNat (n % 10000 / 100 * 2 + 1)))) (.int .u8 ((Lib.sm (n % 10000 / 100 * 2 + 1)).toNat : Int)) (by kernel_rfl) (fun w _ => Lib.idx_smalls _ uStr _ _ (n % 10000 / 100 * 2 + 1) rfl (by omega) w) ?_
        refine To.lawES 10 (Instr.index 9 (.string Lib.smalls) (.int .u32 (Int.ofNat (n % 10000 / 100 * 2)))) (.int .u8 ((Lib.sm (n % 10000 / 100 * 2)).toNat : Int)) (by kernel_rfl) (fun w _ => Lib.idx_smalls _ uStr _ _ (n % 10000 / 100 * 2) rfl (by omega) w) ?_
        refine To.runF 34 [0, 0, 0, 0, 0, 0] (fun _ _ => by kernel_rfl) fun f5 g5 l5 => ?_
        exact To.ret [] (.string (ByteArray.push (ByteArray.push (ByteArray.push (ByteArray.push ByteArray.empty (UInt8.ofNat (Int.toNat ((Lib.sm (n % 10000 / 100 * 2)).toNat : Int)))) (UInt8.ofNat (Int.toNat ((Lib.sm (n % 10000 / 100 * 2 + 1)).toNat : Int)))) (UInt8.ofNat (Int.toNat ((Lib.sm (n % 10000 % 100 * 2)).toNat : Int)))) (UInt8.ofNat (Int.toNat ((Lib.sm (n % 10000 % 100 * 2 + 1)).toNat : Int))))) (by kernel_rfl) (by kernel_rfl) fun w4 hw4 => ⟨_, rfl, hw4.ext, by
          rw [toB, toB, toB, toB, Lib.sm_lo (n % 10000 % 100) (by omega), Lib.sm_hi (n % 10000 % 100) (by omega), Lib.sm_lo (n % 10000 / 100) (by omega), Lib.sm_hi (n % 10000 / 100) (by omega), dec4 h3 h4, Nat.mod_eq_of_lt h4]; rfl⟩
      · have hnd : Lib.nDigits n = 5 := Lib.nDigits_unique 4 n (by omega) (by omega)
        rw [hnd]
        refine To.runF 72 [0, 0, 0, 1, 2, 3, 4, 5, 6, 7, 9] (fun _ _ => by kernel_rfl) fun f3 g3 l3 => ?_
        have e1 : IntKind.u32.wrap (Int.ofNat n) = Int.ofNat n := IntWalk.u32_in _ ⟨by simp only [Int.ofNat_eq_natCast]; omega, by simp only [Int.ofNat_eq_natCast]; omega⟩
        have eL : IntKind.u32.wrap (Int.tmod (Int.tmod (IntKind.u32.wrap (Int.ofNat n)) 10000) 100 * 2) = Int.ofNat (n % 10000 % 100 * 2) := by rw [e1]; exact mul2 (n % 10000 % 100) (by omega)
        have eL1 : IntKind.u32.wrap (IntKind.u32.wrap (Int.tmod (Int.tmod (IntKind.u32.wrap (Int.ofNat n)) 10000) 100 * 2) + 1) = Int.ofNat (n % 10000 % 100 * 2 + 1) := by rw [eL]; exact suc32 _ (by omega)
        have eH : IntKind.u32.wrap (IntKind.u32.wrap (Int.tdiv (Int.tmod (IntKind.u32.wrap (Int.ofNat n)) 10000) 100) * 2) = Int.ofNat (n % 10000 / 100 * 2) := by
          rw [e1]
          show IntKind.u32.wrap (IntKind.u32.wrap (Int.ofNat (n % 10000 / 100)) * 2) = _
          rw [IntWalk.u32_in (Int.ofNat (n % 10000 / 100)) ⟨by simp only [Int.ofNat_eq_natCast]; omega, by simp only [Int.ofNat_eq_natCast]; omega⟩]
          exact mul2 (n % 10000 / 100) (by omega)
        have eH1 : IntKind.u32.wrap (IntKind.u32.wrap (IntKind.u32.wrap (Int.tdiv (Int.tmod (IntKind.u32.wrap (Int.ofNat n)) 10000) 100) * 2) + 1) = Int.ofNat (n % 10000 / 100 * 2 + 1) := by rw [eH]; exact suc32 _ (by omega)
        refine To.slotE 117 (.int .u32 (IntKind.u32.wrap (IntKind.u32.wrap (Int.tmod (Int.tmod (IntKind.u32.wrap (Int.ofNat n)) 10000) 100 * 2) + 1))) (.int .u32 (Int.ofNat (n % 10000 % 100 * 2 + 1))) (by kernel_rfl) (by rw [eL1]) ?_
        refine To.slotE 119 (.int .u32 (IntKind.u32.wrap (Int.tmod (Int.tmod (IntKind.u32.wrap (Int.ofNat n)) 10000) 100 * 2))) (.int .u32 (Int.ofNat (n % 10000 % 100 * 2))) (by kernel_rfl) (by rw [eL]) ?_
        refine To.lawES 8 (Instr.index 9 (.string Lib.smalls) (.int .u32 (Int.ofNat (n % 10000 % 100 * 2 + 1)))) (.int .u8 ((Lib.sm (n % 10000 % 100 * 2 + 1)).toNat : Int)) (by kernel_rfl) (fun w _ => Lib.idx_smalls _ uStr _ _ (n % 10000 % 100 * 2 + 1) rfl (by omega) w) ?_
        refine To.lawES 10 (Instr.index 9 (.string Lib.smalls) (.int .u32 (Int.ofNat (n % 10000 % 100 * 2)))) (.int .u8 ((Lib.sm (n % 10000 % 100 * 2)).toNat : Int)) (by kernel_rfl) (fun w _ => Lib.idx_smalls _ uStr _ _ (n % 10000 % 100 * 2) rfl (by omega) w) ?_
        refine To.runF 16 [0, 0, 0, 0, 0, 1, 2, 3, 4, 5, 6, 7, 9] (fun _ _ => by kernel_rfl) fun f4 g4 l4 => ?_
        refine To.slotE 130 (.int .u32 (IntKind.u32.wrap (IntKind.u32.wrap (IntKind.u32.wrap (Int.tdiv (Int.tmod (IntKind.u32.wrap (Int.ofNat n)) 10000) 100) * 2) + 1))) (.int .u32 (Int.ofNat (n % 10000 / 100 * 2 + 1))) (by kernel_rfl) (by rw [eH1]) ?_
        refine To.slotE 132 (.int .u32 (IntKind.u32.wrap (IntKind.u32.wrap (Int.tdiv (Int.tmod (IntKind.u32.wrap (Int.ofNat n)) 10000) 100) * 2))) (.int .u32 (Int.ofNat (n % 10000 / 100 * 2))) (by kernel_rfl) (by rw [eH]) ?_
        refine To.lawES 8 (Instr.index 9 (.string Lib.smalls) (.int .u32 (Int.ofNat (n % 10000 / 100 * 2 + 1)))) (.int .u8 ((Lib.sm (n % 10000 / 100 * 2 + 1)).toNat : Int)) (by kernel_rfl) (fun w _ => Lib.idx_smalls _ uStr _ _ (n % 10000 / 100 * 2 + 1) rfl (by omega) w) ?_
        refine To.lawES 10 (Instr.index 9 (.string Lib.smalls) (.int .u32 (Int.ofNat (n % 10000 / 100 * 2)))) (.int .u8 ((Lib.sm (n % 10000 / 100 * 2)).toNat : Int)) (by kernel_rfl) (fun w _ => Lib.idx_smalls _ uStr _ _ (n % 10000 / 100 * 2) rfl (by omega) w) ?_
        refine To.runF 41 [0, 0, 0, 0, 0, 0, 0, 0] (fun _ _ => by kernel_rfl) fun f5 g5 l5 => ?_
        exact To.ret [] (.string (ByteArray.push (ByteArray.push (ByteArray.push (ByteArray.push (ByteArray.push ByteArray.empty (UInt8.ofNat (Int.toNat (IntKind.u8.wrap (IntKind.u32.wrap (48 + IntKind.u32.wrap (Int.tdiv (IntKind.u32.wrap (Int.ofNat n)) 10000))))))) (UInt8.ofNat (Int.toNat ((Lib.sm (n % 10000 / 100 * 2)).toNat : Int)))) (UInt8.ofNat (Int.toNat ((Lib.sm (n % 10000 / 100 * 2 + 1)).toNat : Int)))) (UInt8.ofNat (Int.toNat ((Lib.sm (n % 10000 % 100 * 2)).toNat : Int)))) (UInt8.ofNat (Int.toNat ((Lib.sm (n % 10000 % 100 * 2 + 1)).toNat : Int))))) (by kernel_rfl) (by kernel_rfl) fun w4 hw4 => ⟨_, rfl, hw4.ext, by
          have e4 : IntKind.u8.wrap (IntKind.u32.wrap (48 + IntKind.u32.wrap (Int.tdiv (IntKind.u32.wrap (Int.ofNat n)) 10000))) = Int.ofNat (48 + n / 10000) := by
            rw [e1]; exact firstD (n / 10000) (by omega)
          rw [e4, toB, toB, toB, toB, Lib.sm_lo (n % 10000 % 100) (by omega), Lib.sm_hi (n % 10000 % 100) (by omega), Lib.sm_lo (n % 10000 / 100) (by omega), Lib.sm_hi (n % 10000 / 100) (by omega), dec5 h4 (by omega)]; rfl⟩
theorem formatUintS (n : Nat) (w : World) (ht : Tab w) (hn : n < 65536) :
    Calls Tryz.prog 174 #[.int .u64 (Int.ofNat n), .int .i64 10] w (fun e w1 => ∃ v, e = .returned v ∧ Ext [] w w1 ∧ v = .string ⟨⟨Lib.decDigits n⟩⟩) := by
  refine calls_of0 (args := [.int .u64 (Int.ofNat n), .int .i64 10]) Tryz.func174 rfl rfl rfl ?_
  refine To.runF 8 [] (fun _ _ => by kernel_rfl) fun f1 g1 l1 => ?_
  refine To.callN 208 #[.int .u64 (Int.ofNat n), .int .i64 10] (by kernel_rfl) (fun _ => by kernel_rfl) (fun w2 hw2 => formatUint n w2 (ht.later hw2.ext) hn) (fun w2 v2 w3 hw2 hx2 hv2 hnew2 hwi2 => ?_)
  subst hv2
  refine To.runF 2 [] (fun _ _ => by kernel_rfl) fun f2 g2 l2 => ?_
  exact To.ret [] (.string ⟨⟨Lib.decDigits n⟩⟩) (by kernel_rfl) (by kernel_rfl) fun w4 hw4 => ⟨_, rfl, hw4.ext, rfl⟩
end Go.Proofs.YtgodhbgnhapemaaGreatDoor
/- What the transcoder of a port writes Conditions: as each says. -/
namespace Go.Proofs.YtgodhbgnhapemaaGreatDoor
open Go Go.SX
set_option maxHeartbeats 8000000
set_option maxRecDepth 100000
theorem or16u (x y : UInt8) : IntKind.u64.wrap (IntKind.u16.wrap (((BitVec.ofInt IntKind.u16.bits (IntKind.u16.wrap (y.toNat : Int)) ||| BitVec.ofInt IntKind.u16.bits (IntKind.u16.wrap (IntKind.u16.wrap (x.toNat : Int) * 2 ^ min (Int.toNat 8) IntKind.u16.bits))).toNat : Nat) : Int)) = Int.ofNat (x.toNat * 256 + y.toNat) := by
  have hx := x.toNat_lt
  have hy := y.toNat_lt
  rw [show (IntKind.u16.wrap (x.toNat : Int) * 2 ^ min (Int.toNat 8) IntKind.u16.bits : Int) = ((x.toNat * 256 : Nat) : Int) by rw [show (2 : Int) ^ min (Int.toNat 8) IntKind.u16.bits = 256 from rfl, IntWalk.u16_in (x.toNat : Int) ⟨by omega, by omega⟩]; omega]
  rw [IntWalk.u16_in ((x.toNat * 256 : Nat) : Int) ⟨by omega, by omega⟩, IntWalk.u16_in (y.toNat : Int) ⟨by omega, by omega⟩]
  have e : (BitVec.ofInt 16 (y.toNat : Int) ||| BitVec.ofInt 16 ((x.toNat * 256 : Nat) : Int)).toNat = x.toNat * 256 + y.toNat := by
    rw [BitVec.toNat_or]
    have e1 : (BitVec.ofInt 16 ((x.toNat * 256 : Nat) : Int)).toNat = x.toNat * 256 := by
      rw [BitVec.ofInt_natCast, BitVec.toNat_ofNat]; omega
    have e2 : (BitVec.ofInt 16 (y.toNat : Int)).toNat = y.toNat := by
      rw [BitVec.ofInt_natCast, BitVec.toNat_ofNat]; omega
    rw [e1, e2, Nat.or_comm]
    have := Nat.two_pow_add_eq_or_of_lt (i := 8) (b := y.toNat) (by omega) x.toNat
    rw [Nat.mul_comm x.toNat 256]
    exact this.symm
  show IntKind.u64.wrap (IntKind.u16.wrap (((BitVec.ofInt 16 (y.toNat : Int) ||| BitVec.ofInt 16 ((x.toNat * 256 : Nat) : Int)).toNat : Nat) : Int)) = _
  rw [e, IntWalk.u16_in _ ⟨by omega, by omega⟩, IntWalk.u64_in _ ⟨by omega, by omega⟩]; rfl
theorem portBtS (x y : UInt8) (a : Option Addr) (ca : Nat) (w : World) (ht : Tab w) (hin : BytesIn w a [x, y]) :
    Calls Tryz.prog 129 #[.slice a 2 ca] w (fun e w1 => ∃ v, e = .returned v ∧ Ext [] w w1 ∧ v = .tuple #[.string ⟨⟨Lib.decDigits (x.toNat * 256 + y.toNat)⟩⟩, .nilIface]) := by
  refine calls_of0 (args := [.slice a 2 ca]) Tryz.func129 rfl rfl rfl ?_
  obtain ⟨ad, ha, hc0⟩ := hin.at_ 0 x rfl
  obtain ⟨ad1, ha1, hc1⟩ := hin.at_ 1 y rfl
  obtain rfl : ad1 = ad := Option.some.inj (ha1.symm.trans ha)
  subst ha
  refine To.runF 19 [] (fun _ _ => by kernel_rfl) fun f1 g1 l1 => ?_
  refine To.loadOne uU8 rfl (ad1.add (1 * 1)) (.int .u8 (y.toNat : Int)) (by kernel_rfl) (fun w8 hw8 => hw8.ext.cell hc1 (by simp)) ?_
  refine To.runF 7 [0, 0, 0, 1, 4, 5] (fun _ _ => by kernel_rfl) fun f2 g2 l2 => ?_
  refine To.pick 1 (by kernel_rfl) ⟨⟨trivial, ?_⟩, ?_⟩
  · refine To.loadOne uU8 rfl (ad1.add (1 * 1)) (.int .u8 (y.toNat : Int)) (by kernel_rfl) (fun w8 hw8 => hw8.ext.cell hc1 (by simp)) ?_
    refine To.runF 1 [3] (fun _ _ => by kernel_rfl) fun f3 g3 l3 => ?_
    refine To.pick 0 (by kernel_rfl) ⟨trivial, ?_⟩
    refine To.loadOne uU8 rfl (ad1.add (0 * 1)) (.int .u8 (x.toNat : Int)) (by kernel_rfl) (fun w8 hw8 => hw8.ext.cell hc0 (by simp)) ?_
    refine To.runF 12 [] (fun _ _ => by kernel_rfl) fun f4 g4 l4 => ?_
    refine To.slotE 9 (.int .u64 (IntKind.u64.wrap (IntKind.u16.wrap (((BitVec.ofInt IntKind.u16.bits (IntKind.u16.wrap (y.toNat : Int)) ||| BitVec.ofInt IntKind.u16.bits (IntKind.u16.wrap (IntKind.u16.wrap (x.toNat : Int) * 2 ^ min (Int.toNat 8) IntKind.u16.bits))).toNat : Nat) : Int)))) (.int .u64 (Int.ofNat (x.toNat * 256 + y.toNat))) (by kernel_rfl) (by rw [or16u]) ?_
    refine To.callN 174 #[.int .u64 (Int.ofNat (x.toNat * 256 + y.toNat)), .int .i64 10] (by kernel_rfl) (fun _ => by kernel_rfl) (fun w2 hw2 => formatUintS (x.toNat * 256 + y.toNat) w2 (ht.later hw2.ext) (by have := x.toNat_lt; have := y.toNat_lt; omega)) (fun w2 v2 w3 hw2 hx2 hv2 hnew2 hwi2 => ?_)
    subst hv2
    refine To.runF 3 [] (fun _ _ => by kernel_rfl) fun f5 g5 l5 => ?_
    exact To.ret [] (.tuple #[.string ⟨⟨Lib.decDigits (x.toNat * 256 + y.toNat)⟩⟩, .nilIface]) (by kernel_rfl) (by kernel_rfl) fun w6 hw6 => ⟨_, rfl, hw6.ext, rfl⟩
  · refine To.loadOne uU8 rfl (ad1.add (0 * 1)) (.int .u8 (x.toNat : Int)) (by kernel_rfl) (fun w8 hw8 => hw8.ext.cell hc0 (by simp)) ?_
    refine To.runF 2 [7, 8] (fun _ _ => by kernel_rfl) fun f3 g3 l3 => ?_
    refine To.pick 0 (by kernel_rfl) ⟨trivial, ?_⟩
    refine To.loadOne uU8 rfl (ad1.add (1 * 1)) (.int .u8 (y.toNat : Int)) (by kernel_rfl) (fun w8 hw8 => hw8.ext.cell hc1 (by simp)) ?_
    refine To.runF 11 [] (fun _ _ => by kernel_rfl) fun f4 g4 l4 => ?_
    refine To.slotE 9 (.int .u64 (IntKind.u64.wrap (IntKind.u16.wrap (((BitVec.ofInt IntKind.u16.bits (IntKind.u16.wrap (y.toNat : Int)) ||| BitVec.ofInt IntKind.u16.bits (IntKind.u16.wrap (IntKind.u16.wrap (x.toNat : Int) * 2 ^ min (Int.toNat 8) IntKind.u16.bits))).toNat : Nat) : Int)))) (.int .u64 (Int.ofNat (x.toNat * 256 + y.toNat))) (by kernel_rfl) (by rw [or16u]) ?_
    refine To.callN 174 #[.int .u64 (Int.ofNat (x.toNat * 256 + y.toNat)), .int .i64 10] (by kernel_rfl) (fun _ => by kernel_rfl) (fun w2 hw2 => formatUintS (x.toNat * 256 + y.toNat) w2 (ht.later hw2.ext) (by have := x.toNat_lt; have := y.toNat_lt; omega)) (fun w2 v2 w3 hw2 hx2 hv2 hnew2 hwi2 => ?_)
    subst hv2
    refine To.runF 3 [] (fun _ _ => by kernel_rfl) fun f5 g5 l5 => ?_
    exact To.ret [] (.tuple #[.string ⟨⟨Lib.decDigits (x.toNat * 256 + y.toNat)⟩⟩, .nilIface]) (by kernel_rfl) (by kernel_rfl) fun w6 hw6 => ⟨_, rfl, hw6.ext, rfl⟩
theorem portBtS2 (val : List UInt8) (a : Option Addr) (ca : Nat) (w : World) (ht : Tab w) (hin : BytesIn w a val) (hl : val.length = 2) :
    Calls Tryz.prog 129 #[.slice a val.length ca] w (fun e w1 => ∃ v, e = .returned v ∧ Ext [] w w1 ∧ v = .tuple #[.string ⟨⟨Lib.decDigits (numOf val)⟩⟩, .nilIface]) := by
  obtain ⟨x, y, rfl⟩ : ∃ x y, val = [x, y] := by
    rcases val with _ | ⟨x, _ | ⟨y, _ | ⟨_, _⟩⟩⟩ <;> simp at hl
    exact ⟨x, y, rfl⟩
  rw [show numOf [x, y] = x.toNat * 256 + y.toNat by simp [numOf]]
  exact portBtS x y a ca w ht hin
end Go.Proofs.YtgodhbgnhapemaaGreatDoor
