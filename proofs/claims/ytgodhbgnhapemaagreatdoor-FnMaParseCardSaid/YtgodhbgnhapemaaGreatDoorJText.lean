/- The text of an IP address, as the package writes it. Conditions: as each says. -/
import Derived.Test.YtgodhbgnhapemaaGreatDoorJMem
import Derived.KernelRfl
import Derived.Test.YtgodhbgnhapemaaGreatDoorShelf
import Derived.Lib.ItoaLen
set_option linter.unusedVariables false
set_option linter.unusedSimpArgs false
/- net's isZeros and To4, of an address that maps none. Conditions: as each says. -/
namespace Go.Proofs.YtgodhbgnhapemaaGreatDoor
open Go Go.SX
set_option maxHeartbeats 8000000
set_option maxRecDepth 100000
theorem elIP : Elem Tryz.prog 127 5 1 1 := Elem.of (z := .int .u8 0) (by kernel_rfl) (by kernel_rfl) rfl
theorem isZeros (l : List UInt8) (a : Option Addr) (cap : Nat) (w : World) (hin : BytesIn w a l) (hlen : l.length ≤ 1152921504606846976) :
    Calls Tryz.prog 203 #[.slice a l.length cap] w (fun e w1 => ∃ v, e = .returned v ∧ Ext [] w w1 ∧ v = .bool (l.all (· == 0))) := by
  refine calls_of0 (args := [.slice a l.length cap]) Tryz.func203 rfl rfl rfl ?_
  refine To.runF 10 [] (fun _ _ => by kernel_rfl) fun f1 g1 l1 => ?_
  refine To.loop (fun k : Nat => l.length - k) (fun k => ([(0, .slice a l.length cap), (3, .int .i64 (Int.ofNat k))], [])) (fun k _ => k ≤ l.length ∧ ∀ j, j < k → l[j]? = some 0) 0 [] (by kernel_rfl) (by kernel_rfl) (by kernel_rfl) rfl (fun _ _ => ⟨Nat.zero_le _, fun j h => by omega⟩) ?_
  rintro k w1 ⟨hk, hall⟩ hx1 back
  refine To.runF 8 [] (fun _ _ => by kernel_rfl) fun f2 g2 l2 => ?_
  by_cases hlt : k < l.length
  · obtain ⟨ad, ha, hck⟩ := hin.one k hlt
    refine To.testT (decide (Int.ofNat k < Int.ofNat l.length)) (by kernel_rfl) (decide_eq_true (Int.ofNat_lt.2 hlt)) ?_
    refine To.runF 7 [] (fun _ _ => by kernel_rfl) fun f3 g3 l3 => ?_
    refine To.indexAt elIP a ad l.length cap k (by kernel_rfl) ha hlt ?_
    refine To.loadOne uU8 rfl (ad.add (k * 1)) (.int .u8 ((l[k]).toNat : Int)) (by kernel_rfl) (fun w2 hw2 => hw2.ext.cell hck (by simp)) ?_
    refine To.runF 2 [] (fun _ _ => by kernel_rfl) fun f4 g4 l4 => ?_
    by_cases hz : l[k] = 0
    · refine To.testF (((l[k]).toNat : Int) != 0) (by kernel_rfl) (by rw [ne0, hz]; rfl) ?_
      refine To.runF 7 [] (fun _ _ => by kernel_rfl) fun f5 g5 l5 => ?_
      refine To.slotE 3 (.int .i64 (IntKind.i64.wrap (Int.ofNat k + 1))) (.int .i64 (Int.ofNat (k + 1))) (by kernel_rfl) (by rw [wrap_succ k (by omega)]) ?_
      exact back _ _ (k + 1) [] (by omega) ⟨by kernel_rfl, by kernel_rfl, by kernel_rfl, by kernel_rfl, by kernel_rfl, rfl⟩ (fun w7 hw7 => ⟨hlt, fun j hj => by
        by_cases hjk : j = k
        · subst hjk; rw [List.getElem?_eq_getElem (by omega), hz]
        · exact hall j (by omega)⟩)
    · refine To.testT (((l[k]).toNat : Int) != 0) (by kernel_rfl) (by rw [ne0, beq_eq_false_iff_ne.2 hz]; rfl) ?_
      refine To.runF 4 [] (fun _ _ => by kernel_rfl) fun f5 g5 l5 => ?_
      exact To.ret [] (.bool false) (by kernel_rfl) (by kernel_rfl) fun w4 hw4 => ⟨_, rfl, hw4.ext, by
        rw [show l.all (· == 0) = false from List.all_eq_false.2 ⟨l[k], List.getElem_mem _, by simpa using hz⟩]⟩
  · have hk1 : k = l.length := by omega
    subst hk1
    refine To.testF (decide (Int.ofNat l.length < Int.ofNat l.length)) (by kernel_rfl) (by simp) ?_
    refine To.runF 5 [] (fun _ _ => by kernel_rfl) fun f3 g3 l3 => ?_
    exact To.ret [] (.bool true) (by kernel_rfl) (by kernel_rfl) fun w4 hw4 => ⟨_, rfl, hw4.ext, by
      rw [show l.all (· == 0) = true from List.all_eq_true.2 fun x hx => by
        obtain ⟨j, hj⟩ := List.mem_iff_getElem?.1 hx
        rw [hall j (List.getElem?_eq_some_iff.1 hj).1] at hj
        simpa using (Option.some.inj hj).symm]⟩
theorem eq255 (u : UInt8) : ((u.toNat : Int) == 255) = (u == 255) := by
  have h := ne255 u
  cases h1 : ((u.toNat : Int) == 255) <;> cases h2 : (u == 255) <;> simp_all [bne]
theorem isZerosN (l : List UInt8) (a : Option Addr) (n cap : Nat) (hn : n = l.length) (w : World) (hin : BytesIn w a l) (hlen : l.length ≤ 1152921504606846976) :
    Calls Tryz.prog 203 #[.slice a n cap] w (fun e w1 => ∃ v, e = .returned v ∧ Ext [] w w1 ∧ v = .bool (l.all (· == 0))) := by
  subst hn; exact isZeros l a cap w hin hlen
theorem to4 (l : List UInt8) (a : Option Addr) (cap : Nat) (w : World) (hin : BytesIn w a l) (hlen : l.length ≤ 1152921504606846976) (hcap : l.length ≤ cap) (hm : mapped l = false) :
    Calls Tryz.prog 169 #[.slice a l.length cap] w (fun e w1 => ∃ v, e = .returned v ∧ Ext [] w w1 ∧ v = if l.length = 4 then .slice a l.length cap else .slice none 0 0) := by
  refine calls_of0 (args := [.slice a l.length cap]) Tryz.func169 rfl rfl rfl ?_
  refine To.runF 11 [] (fun _ _ => by kernel_rfl) fun f1 g1 l1 => ?_
  by_cases h4 : l.length = 4
  · refine To.testT (Int.ofNat l.length == 4) (by kernel_rfl) (by rw [h4]; rfl) ?_
    refine To.runF 5 [] (fun _ _ => by kernel_rfl) fun f2 g2 l2 => ?_
    exact To.ret [] (.slice a l.length cap) (by kernel_rfl) (by kernel_rfl) fun w4 hw4 => ⟨_, rfl, hw4.ext, by rw [if_pos h4]⟩
  refine To.testF (Int.ofNat l.length == 4) (by kernel_rfl) (by simp only [Int.ofNat_eq_natCast, beq_eq_false_iff_ne, ne_eq]; omega) ?_
  refine To.runF 8 [] (fun _ _ => by kernel_rfl) fun f2 g2 l2 => ?_
  by_cases h16 : l.length = 16
  · refine To.slotT 10 (Int.ofNat l.length == 16) (by kernel_rfl) (by rw [h16]; rfl) ?_
    obtain ⟨ad, ha, hc10⟩ := hin.one 10 (by omega)
    obtain ⟨_, ha', hc11⟩ := hin.one 11 (by omega)
    rw [ha] at ha'; cases ha'
    refine To.runF 1 [] (fun _ _ => by kernel_rfl) fun f3 g3 l3 => ?_
    refine To.sliceMid elIP a l.length 0 10 cap (by omega) (by omega) (by kernel_rfl) ?_
    refine To.callN 203 #[.slice (onA a 0 1 cap) 10 (cap - 0)] (by kernel_rfl) (fun _ => by kernel_rfl) (fun w2 hw2 => isZerosN ((l.drop 0).take 10) _ 10 _ (by simp [h16]) w2 (((hin.later hw2.ext).from 0 cap hcap).upTo 10) (by simp; omega)) (fun w2 v2 w3 hw2 hx2 hv2 hnew2 hwi2 => ?_)
    subst hv2
    refine To.runF 2 [] (fun _ _ => by kernel_rfl) fun f4 g4 l4 => ?_
    have hmz : ¬ (((l.drop 0).take 10).all (· == 0) = true ∧ l[10] = 255 ∧ l[11] = 255) := fun ⟨hz, e1, e2⟩ => by
      have : mapped l = true := by
        unfold mapped
        rw [List.getD_eq_getElem?_getD, List.getD_eq_getElem?_getD, List.getElem?_eq_getElem (show 10 < l.length by omega), List.getElem?_eq_getElem (show 11 < l.length by omega)]
        rw [List.drop_zero] at hz
        simp [h16, e1, e2, hz]
      rw [this] at hm; cases hm
    have n4 : (if l.length = 4 then Value.slice a l.length cap else .slice none 0 0) = .slice none 0 0 := if_neg h4
    refine To.slot 15 (((l.drop 0).take 10).all (· == 0)) (by kernel_rfl) (fun hz => ?_) (fun _ => ?_)
    · refine To.runF 1 [] (fun _ _ => by kernel_rfl) fun f5 g5 l5 => ?_
      refine To.indexAt elIP a ad l.length cap 10 (by kernel_rfl) ha (by omega) ?_
      refine To.loadOne uU8 rfl (ad.add (10 * 1)) (.int .u8 ((l[10]).toNat : Int)) (by kernel_rfl) (fun w2 hw2 => hw2.ext.cell hc10 (by simp)) ?_
      refine To.runF 3 [] (fun _ _ => by kernel_rfl) fun f6 g6 l6 => ?_
      by_cases e10 : l[10] = 255
      · refine To.slotT 21 (((l[10]).toNat : Int) == 255) (by kernel_rfl) (by rw [eq255, e10]; rfl) ?_
        refine To.runF 1 [] (fun _ _ => by kernel_rfl) fun f7 g7 l7 => ?_
        refine To.indexAt elIP a ad l.length cap 11 (by kernel_rfl) ha (by omega) ?_
        refine To.loadOne uU8 rfl (ad.add (11 * 1)) (.int .u8 ((l[11]).toNat : Int)) (by kernel_rfl) (fun w2 hw2 => hw2.ext.cell hc11 (by simp)) ?_
        refine To.runF 3 [] (fun _ _ => by kernel_rfl) fun f8 g8 l8 => ?_
        refine To.testF (((l[11]).toNat : Int) == 255) (by kernel_rfl) (by rw [eq255]; exact beq_eq_false_iff_ne.2 fun e => hmz ⟨hz, e10, e⟩) ?_
        refine To.runF 5 [] (fun _ _ => by kernel_rfl) fun f9 g9 l9 => ?_
        exact To.ret [] (.slice none 0 0) (by kernel_rfl) (by kernel_rfl) fun w4 hw4 => ⟨_, rfl, hw4.ext, n4.symm⟩
      · refine To.slotF 21 (((l[10]).toNat : Int) == 255) (by kernel_rfl) (by rw [eq255]; exact beq_eq_false_iff_ne.2 e10) ?_
        refine To.runF 12 [] (fun _ _ => by kernel_rfl) fun f7 g7 l7 => ?_
        exact To.ret [] (.slice none 0 0) (by kernel_rfl) (by kernel_rfl) fun w4 hw4 => ⟨_, rfl, hw4.ext, n4.symm⟩
    · refine To.runF 18 [] (fun _ _ => by kernel_rfl) fun f5 g5 l5 => ?_
      exact To.ret [] (.slice none 0 0) (by kernel_rfl) (by kernel_rfl) fun w4 hw4 => ⟨_, rfl, hw4.ext, n4.symm⟩
  · refine To.slotF 10 (Int.ofNat l.length == 16) (by kernel_rfl) (by simp only [Int.ofNat_eq_natCast, beq_eq_false_iff_ne, ne_eq]; omega) ?_
    refine To.runF 23 [] (fun _ _ => by kernel_rfl) fun f3 g3 l3 => ?_
    exact To.ret [] (.slice none 0 0) (by kernel_rfl) (by kernel_rfl) fun w4 hw4 => ⟨_, rfl, hw4.ext, (if_neg h4).symm⟩
end Go.Proofs.YtgodhbgnhapemaaGreatDoor
/- Texts of numbers and of addresses of 128 bits, and that they tell what they are made of. Conditions: none. -/
namespace Go.IpText

/-- A hexadecimal digit. -/
def hexDigit (n : Nat) : UInt8 := if n < 10 then UInt8.ofNat (48 + n) else UInt8.ofNat (87 + n)
def hexVal (c : UInt8) : Nat := if c.toNat < 58 then c.toNat - 48 else c.toNat - 87
/-- A number in hexadecimal digits. -/
def hexOf (n : Nat) : List UInt8 := if n < 16 then [hexDigit n] else hexOf (n / 16) ++ [hexDigit (n % 16)]
termination_by n
decreasing_by omega
def unhex (l : List UInt8) : Nat := l.foldl (fun a c => a * 16 + hexVal c) 0
theorem digit_val : ∀ d, d < 16 → hexVal (hexDigit d) = d ∧ hexDigit d ≠ 58 := by decide +kernel
theorem hexOf_eq (n : Nat) : hexOf n = if n < 16 then [hexDigit n] else hexOf (n / 16) ++ [hexDigit (n % 16)] := by rw [hexOf]
theorem unhex_hexOf (n : Nat) : unhex (hexOf n) = n := by
  induction n using Nat.strongRecOn with
  | ind n ih =>
    rw [hexOf_eq]
    by_cases h : n < 16
    · rw [if_pos h]; simp [unhex, (digit_val n h).1]
    · rw [if_neg h]
      have := ih (n / 16) (by omega)
      unfold unhex at this ⊢
      rw [List.foldl_append, this]
      simp only [List.foldl_cons, List.foldl_nil, (digit_val (n % 16) (by omega)).1]
      omega
theorem hexOf_no (n : Nat) : ∀ c ∈ hexOf n, c ≠ 58 := by
  induction n using Nat.strongRecOn with
  | ind n ih =>
    rw [hexOf_eq]
    by_cases h : n < 16
    · rw [if_pos h]; intro c hc; rw [List.mem_singleton.1 hc]; exact (digit_val n h).2
    · rw [if_neg h]
      intro c hc
      rcases List.mem_append.1 hc with hc | hc
      · exact ih (n / 16) (by omega) c hc
      · rw [List.mem_singleton.1 hc]; exact (digit_val (n % 16) (by omega)).2
theorem hexOf_ne (n : Nat) : hexOf n ≠ [] := by
  rw [hexOf_eq]
  split <;> simp

/-- The pieces between colons. -/
def pieces : List UInt8 → List (List UInt8)
  | [] => [[]]
  | c :: r => if c = 58 then [] :: pieces r else match pieces r with
    | [] => [[c]]
    | p :: ps => (c :: p) :: ps
theorem pieces_ne (l : List UInt8) : pieces l ≠ [] := by
  cases l with
  | nil => simp [pieces]
  | cons c r =>
    rw [pieces]
    split
    · simp
    · split <;> simp
theorem pieces_colon (r : List UInt8) : pieces (58 :: r) = [] :: pieces r := by rw [pieces, if_pos rfl]
theorem pieces_last {a : List UInt8} (h : ∀ c ∈ a, c ≠ 58) : pieces a = [a] := by
  induction a with
  | nil => rfl
  | cons c r ih =>
    rw [pieces, if_neg (h c (List.mem_cons_self ..)), ih fun x hx => h x (List.mem_cons_of_mem _ hx)]
theorem pieces_next {a : List UInt8} (h : ∀ c ∈ a, c ≠ 58) (r : List UInt8) : pieces (a ++ 58 :: r) = a :: pieces r := by
  induction a with
  | nil => exact pieces_colon r
  | cons c a ih =>
    rw [List.cons_append, pieces, if_neg (h c (List.mem_cons_self ..)), ih fun x hx => h x (List.mem_cons_of_mem _ hx)]
theorem pieces_hex (n : Nat) : pieces (hexOf n) = [hexOf n] := pieces_last (hexOf_no n)
theorem pieces_hex_next (n : Nat) (r : List UInt8) : pieces (hexOf n ++ 58 :: r) = hexOf n :: pieces r := pieces_next (hexOf_no n) r

/-- The text of eight groups, a run of zeros from 'fr' up to 'to' left out. -/
def sixGo (g : Nat → Nat) (fr to : Nat) : Nat → Nat → List UInt8 → List UInt8
  | 0, _, s => s
  | n + 1, i, s => if i < 8 then
      if i = fr then (if 8 ≤ to then s ++ [58, 58] else sixGo g fr to n (to + 1) (s ++ [58, 58] ++ hexOf (g to)))
      else sixGo g fr to n (i + 1) ((if 0 < i then s ++ [58] else s) ++ hexOf (g i))
    else s
def sixText (g : Nat → Nat) (fr to : Nat) : List UInt8 := sixGo g fr to 9 0 []
/-- What pieces tell: the groups. -/
def groups (p : List (List UInt8)) : List Nat :=
  let a := p.takeWhile fun x => !x.isEmpty
  if a.length = p.length then a.map unhex
  else
    let b := (p.reverse.takeWhile fun x => !x.isEmpty).reverse
    a.map unhex ++ List.replicate (8 - a.length - b.length) 0 ++ b.map unhex
theorem hex_notEmpty (n : Nat) : (hexOf n).isEmpty = false := by
  cases h : hexOf n with
  | nil => exact absurd h (hexOf_ne n)
  | cons _ _ => rfl
theorem sixText_none (g : Nat → Nat) (to : Nat) : groups (pieces (sixText g 255 to)) = (List.range 8).map g := by
  simp [sixText, sixGo, groups, pieces_hex, pieces_hex_next, hex_notEmpty, unhex_hexOf, List.range, List.range.loop]
theorem sixText_run (g : Nat → Nat) (fr to : Nat) (h : fr < to) (ht : to ≤ 8) (hz : ∀ j, fr ≤ j → j < to → g j = 0) : groups (pieces (sixText g fr to)) = (List.range 8).map g := by
  have hf : fr = 0 ∨ fr = 1 ∨ fr = 2 ∨ fr = 3 ∨ fr = 4 ∨ fr = 5 ∨ fr = 6 ∨ fr = 7 := by omega
  have hto : to = 1 ∨ to = 2 ∨ to = 3 ∨ to = 4 ∨ to = 5 ∨ to = 6 ∨ to = 7 ∨ to = 8 := by omega
  rcases hf with rfl | rfl | rfl | rfl | rfl | rfl | rfl | rfl <;> rcases hto with rfl | rfl | rfl | rfl | rfl | rfl | rfl | rfl <;>
    first
    | omega
    | (simp [sixText, sixGo, groups, pieces, pieces_hex, pieces_hex_next, pieces_colon, hex_notEmpty, unhex_hexOf, List.range, List.range.loop]
       try (repeat' constructor)
       all_goals (first | rfl | exact (hz _ (by omega) (by omega)).symm | exact hz _ (by omega) (by omega)))
end Go.IpText
/- The text of a number in hexadecimal digits. Conditions: the number has at most 16 bits. -/
namespace Go.Proofs.YtgodhbgnhapemaaGreatDoor
open Go Go.SX Go.IpText
set_option maxHeartbeats 8000000
set_option maxRecDepth 100000
theorem and15 (m : Nat) (h : m ≤ 65535) : IntKind.i64.wrap (((BitVec.ofInt IntKind.i64.bits (Int.ofNat m) &&& BitVec.ofInt IntKind.i64.bits 15).toNat : Nat) : Int) = Int.ofNat (m % 16) := by
  have e : (BitVec.ofInt 64 (Int.ofNat m) &&& BitVec.ofInt 64 15).toNat = m % 16 := by
    rw [BitVec.toNat_and]
    have e1 : (BitVec.ofInt 64 (Int.ofNat m)).toNat = m := by
      simp only [Int.ofNat_eq_natCast, BitVec.ofInt_natCast, BitVec.toNat_ofNat]; omega
    have e2 : (BitVec.ofInt 64 15).toNat = 2 ^ 4 - 1 := by decide
    rw [e1, e2, Nat.and_two_pow_sub_one_eq_mod]
  show IntKind.i64.wrap (((BitVec.ofInt 64 (Int.ofNat m) &&& BitVec.ofInt 64 15).toNat : Nat) : Int) = _
  rw [e, IntWalk.i64_in _ ⟨by omega, by omega⟩]; rfl
theorem hexOf_length : ∀ (k n : Nat), n < 16 ^ (k + 1) → (hexOf n).length ≤ k + 1
  | 0, n, h => by rw [hexOf_eq, if_pos (by simpa using h)]; simp
  | k + 1, n, h => by
    rw [hexOf_eq]
    split
    · simp
    · rw [List.length_append]
      have := hexOf_length k (n / 16) (by rw [Nat.pow_succ] at h; omega)
      simp only [List.length_singleton]; omega
theorem hexOf4 {n : Nat} (h : n ≤ 65535) : (hexOf n).length ≤ 4 := hexOf_length 3 n (by show n < 65536; omega)
def hexDigits : ByteArray := ⟨#[48, 49, 50, 51, 52, 53, 54, 55, 56, 57, 97, 98, 99, 100, 101, 102]⟩
theorem hexDigits_at : ∀ r, r < 16 → hexDigits.extract r (r + 1) = ⟨⟨[Go.IpText.hexDigit r]⟩⟩ := by decide +kernel
theorem zzHex (n : Nat) (w : World) (hn : n ≤ 65535) :
    Calls Tryz.prog 204 #[.int .i64 (Int.ofNat n)] w (fun e w1 => ∃ v, e = .returned v ∧ Ext [] w w1 ∧ v = .string ⟨⟨hexOf n⟩⟩) := by
  refine calls_of0 (args := [.int .i64 (Int.ofNat n)]) Tryz.func204 rfl rfl rfl ?_
  refine To.runF 14 [] (fun _ _ => by kernel_rfl) fun f1 g1 l1 => ?_
  refine To.loop (fun k : Nat × List UInt8 × Bool => if k.2.2 then k.1 + 1 else 0) (fun k => ([(0, .int .i64 (Int.ofNat k.1)), (3, .string ⟨⟨k.2.1⟩⟩), (4, .bool k.2.2)], [])) (fun k _ => k.1 ≤ 65535 ∧ (k.2.2 = true → hexOf n = hexOf k.1 ++ k.2.1) ∧ (k.2.2 = false → hexOf n = k.2.1)) (n, [], true) [] (by kernel_rfl) (by kernel_rfl) (by kernel_rfl) rfl (fun _ _ => ⟨hn, fun _ => by simp, fun h => by cases h⟩) ?_
  rintro ⟨m, s, ok⟩ w1 ⟨hm, ht, hf⟩ hx1 back
  have hm : m ≤ 65535 := hm
  have ht : ok = true → hexOf n = hexOf m ++ s := ht
  have hf : ok = false → hexOf n = s := hf
  refine To.runF 5 [] (fun _ _ => by kernel_rfl) fun f2 g2 l2 => ?_
  cases ok with
  | false =>
    refine To.testF false (by kernel_rfl) rfl ?_
    refine To.runF 6 [] (fun _ _ => by kernel_rfl) fun f3 g3 l3 => ?_
    exact To.ret [] (.string ⟨⟨s⟩⟩) (by kernel_rfl) (by kernel_rfl) fun w4 hw4 => ⟨_, rfl, hw4.ext, by rw [hf rfl]⟩
  | true =>
    refine To.testT true (by kernel_rfl) rfl ?_
    refine To.runF 10 [] (fun _ _ => by kernel_rfl) fun f3 g3 l3 => ?_
    have h15 := and15 m hm
    have hsl : s.length ≤ 4 := by
      have h1 := congrArg List.length (ht rfl)
      rw [List.length_append] at h1
      have h2 := hexOf4 hn
      omega
    have h16 : m % 16 < 16 := Nat.mod_lt _ (by decide)
    refine To.slotE 9 (.int .i64 (IntKind.i64.wrap (((BitVec.ofInt IntKind.i64.bits (Int.ofNat m) &&& BitVec.ofInt IntKind.i64.bits 15).toNat : Nat) : Int))) (.int .i64 (Int.ofNat (m % 16))) (by kernel_rfl) (by rw [h15]) ?_
    refine To.slotE 12 (.int .i64 (IntKind.i64.wrap (IntKind.i64.wrap (((BitVec.ofInt IntKind.i64.bits (Int.ofNat m) &&& BitVec.ofInt IntKind.i64.bits 15).toNat : Nat) : Int) + 1))) (.int .i64 (Int.ofNat (m % 16 + 1))) (by kernel_rfl) (by rw [h15, wrap_succ _ (by omega)]) ?_
    refine To.sliceStr uStr hexDigits (m % 16) (m % 16 + 1) (by omega) (by show m % 16 + 1 ≤ 16; omega) (by kernel_rfl) ?_
    refine To.runF 1 [] (fun _ _ => by kernel_rfl) fun f4 g4 l4 => ?_
    refine To.addText (t := 9) [Go.IpText.hexDigit (m % 16)] s (hexDigits.extract (m % 16) (m % 16 + 1)) ⟨⟨s⟩⟩ (hexDigits_at _ h16) rfl (by kernel_rfl) (by simp; omega) ?_
    refine To.runF 13 [] (fun _ _ => by kernel_rfl) fun f5 g5 l5 => ?_
    have hdv : Int.fdiv (Int.ofNat m) 16 = Int.ofNat (m / 16) := by
      rw [Int.fdiv_eq_ediv_of_nonneg _ (by decide)]; rfl
    refine To.slotE 0 (.int .i64 (Int.fdiv (Int.ofNat m) 16)) (.int .i64 (Int.ofNat (m / 16))) (by kernel_rfl) (by rw [hdv]) ?_
    refine To.slotE 4 (.bool (decide (Int.fdiv (Int.ofNat m) 16 > 0))) (.bool (decide (0 < m / 16))) (by kernel_rfl) (by rw [hdv]; congr 1; exact decide_eq_decide.2 (by simp only [Int.ofNat_eq_natCast]; omega)) ?_
    exact back _ _ (m / 16, [Go.IpText.hexDigit (m % 16)] ++ s, decide (0 < m / 16)) [] (by
      by_cases h0 : 0 < m / 16
      · simp [h0]; omega
      · simp [h0]) ⟨by kernel_rfl, by kernel_rfl, by kernel_rfl, by kernel_rfl, by kernel_rfl, rfl⟩ (fun w7 hw7 => ⟨by simp only; omega, fun h => by
        have h0 : 0 < m / 16 := of_decide_eq_true h
        rw [ht rfl, hexOf_eq m, if_neg (by omega)]; simp, fun h => by
        have h0 : ¬ 0 < m / 16 := of_decide_eq_false h
        have h2 : m % 16 = m := Nat.mod_eq_of_lt (by omega)
        rw [ht rfl, hexOf_eq m, if_pos (by omega), h2]⟩)
end Go.Proofs.YtgodhbgnhapemaaGreatDoor
/- The group of an address of 128 bits, as the closure reads it. Conditions: the address lies in memory. -/
namespace Go.Proofs.YtgodhbgnhapemaaGreatDoor
open Go Go.SX Go.IpText
set_option maxHeartbeats 8000000
set_option maxRecDepth 100000
def groupOf (ip : List UInt8) (i : Nat) : Nat := (ip.getD (2 * i) 0).toNat * 256 + (ip.getD (2 * i + 1) 0).toNat
theorem or16 (x y : UInt8) : IntKind.i64.wrap (((BitVec.ofInt IntKind.i64.bits (IntKind.i64.wrap (IntKind.i64.wrap (x.toNat : Int) * 256)) ||| BitVec.ofInt IntKind.i64.bits (IntKind.i64.wrap (y.toNat : Int))).toNat : Nat) : Int) = Int.ofNat (x.toNat * 256 + y.toNat) := by
  have hx := x.toNat_lt
  have hy := y.toNat_lt
  rw [IntWalk.i64_in (x.toNat : Int) ⟨by omega, by omega⟩, IntWalk.i64_in ((x.toNat : Int) * 256) ⟨by omega, by omega⟩, IntWalk.i64_in (y.toNat : Int) ⟨by omega, by omega⟩]
  have e : (BitVec.ofInt 64 ((x.toNat : Int) * 256) ||| BitVec.ofInt 64 (y.toNat : Int)).toNat = x.toNat * 256 + y.toNat := by
    rw [BitVec.toNat_or]
    have e1 : (BitVec.ofInt 64 ((x.toNat : Int) * 256)).toNat = x.toNat * 256 := by
      rw [show ((x.toNat : Int) * 256) = ((x.toNat * 256 : Nat) : Int) by omega, BitVec.ofInt_natCast, BitVec.toNat_ofNat]; omega
    have e2 : (BitVec.ofInt 64 (y.toNat : Int)).toNat = y.toNat := by
      rw [BitVec.ofInt_natCast, BitVec.toNat_ofNat]; omega
    rw [e1, e2]
    have := Nat.two_pow_add_eq_or_of_lt (i := 8) (b := y.toNat) (by omega) x.toNat
    rw [Nat.mul_comm x.toNat 256]
    exact this.symm
  show IntKind.i64.wrap (((BitVec.ofInt 64 ((x.toNat : Int) * 256) ||| BitVec.ofInt 64 (y.toNat : Int)).toNat : Nat) : Int) = _
  rw [e, IntWalk.i64_in _ ⟨by omega, by omega⟩]; rfl
theorem groupOf_at {ip : List UInt8} {i : Nat} (h : 2 * i + 1 < ip.length) : groupOf ip i = (ip[2 * i]).toNat * 256 + (ip[2 * i + 1]).toNat := by
  unfold groupOf
  rw [List.getD_eq_getElem?_getD, List.getD_eq_getElem?_getD, List.getElem?_eq_getElem (show 2 * i < ip.length by omega), List.getElem?_eq_getElem h]
  rfl
theorem group (ip : List UInt8) (a : Option Addr) (ca bx i : Nat) (w : World) (hin : BytesIn w a ip) (h16 : ip.length = 16) (hi : i < 8) (hbx : w.heap[bx]? = some (.cells ⟨[.slice a ip.length ca]⟩ 127 (0, 0))) :
    Calls Tryz.prog 205 #[.int .i64 (Int.ofNat i), .pointer (some ⟨bx, 0, none⟩)] w (fun e w1 => ∃ v, e = .returned v ∧ Ext [] w w1 ∧ v = .int .i64 (Int.ofNat (groupOf ip i))) := by
  refine calls_of0 (args := [.int .i64 (Int.ofNat i), .pointer (some ⟨bx, 0, none⟩)]) Tryz.func205 rfl rfl rfl ?_
  refine To.withAt bx (.cells ⟨[.slice a ip.length ca]⟩ 127 (0, 0)) false hbx (nums_all (Q := fun n => n ≠ bx) (l := []) (by kernel_rfl) trivial) (by simp) ?_
  refine To.runF 13 [1, 0, 0, 0, 0, 1, 2, 7, 0, 8, 9, 10] (fun _ _ => by kernel_rfl) fun f1 g1 l1 => ?_
  obtain ⟨ad, ha, hc0⟩ := hin.one (2 * i) (by omega)
  obtain ⟨_, ha', hc1⟩ := hin.one (2 * i + 1) (by omega)
  rw [ha] at ha'; cases ha'
  have h2 : IntKind.i64.wrap (2 * Int.ofNat i) = Int.ofNat (2 * i) := by simp only [Int.ofNat_eq_natCast]; rw [IntWalk.i64_in _ ⟨by omega, by omega⟩]; omega
  refine To.slotE 6 (.int .i64 (IntKind.i64.wrap (2 * Int.ofNat i))) (.int .i64 (Int.ofNat (2 * i))) (by kernel_rfl) (by rw [h2]) ?_
  refine To.slotE 14 (.int .i64 (IntKind.i64.wrap (IntKind.i64.wrap (2 * Int.ofNat i) + 1))) (.int .i64 (Int.ofNat (2 * i + 1))) (by kernel_rfl) (by rw [h2, wrap_succ _ (by omega)]) ?_
  refine To.indexAtE 3 elIP a ad ip.length ca (2 * i) (by kernel_rfl) ha (by omega) ?_
  refine To.indexAtE 11 elIP a ad ip.length ca (2 * i + 1) (by kernel_rfl) ha (by omega) ?_
  refine To.pick 1 (by kernel_rfl) ⟨⟨trivial, ?_⟩, ?_⟩
  · refine To.loadOne uU8 rfl (ad.add (2 * i * 1)) (.int .u8 ((ip[2 * i]).toNat : Int)) (by kernel_rfl) (fun w2 hw2 => hw2.ext.cell hc0 (by simp)) ?_
    refine To.runF 2 [5, 6] (fun _ _ => by kernel_rfl) fun f2 g2 l2 => ?_
    refine To.pick 0 (by kernel_rfl) ⟨trivial, ?_⟩
    refine To.loadOne uU8 rfl (ad.add ((2 * i + 1) * 1)) (.int .u8 ((ip[2 * i + 1]).toNat : Int)) (by kernel_rfl) (fun w2 hw2 => hw2.ext.cell hc1 (by simp)) ?_
    refine To.runF 4 [] (fun _ _ => by kernel_rfl) fun f3 g3 l3 => ?_
    exact To.ret [] (.int .i64 (IntKind.i64.wrap (((BitVec.ofInt IntKind.i64.bits (IntKind.i64.wrap (IntKind.i64.wrap ((ip[2 * i]).toNat : Int) * 256)) ||| BitVec.ofInt IntKind.i64.bits (IntKind.i64.wrap ((ip[2 * i + 1]).toNat : Int))).toNat : Nat) : Int))) (by kernel_rfl) (by kernel_rfl) fun w4 hw4 => ⟨_, rfl, hw4.ext, by rw [or16, groupOf_at (by omega)]⟩
  · refine To.loadOne uU8 rfl (ad.add ((2 * i + 1) * 1)) (.int .u8 ((ip[2 * i + 1]).toNat : Int)) (by kernel_rfl) (fun w2 hw2 => hw2.ext.cell hc1 (by simp)) ?_
    refine To.runF 1 [13] (fun _ _ => by kernel_rfl) fun f2 g2 l2 => ?_
    refine To.pick 0 (by kernel_rfl) ⟨trivial, ?_⟩
    refine To.loadOne uU8 rfl (ad.add (2 * i * 1)) (.int .u8 ((ip[2 * i]).toNat : Int)) (by kernel_rfl) (fun w2 hw2 => hw2.ext.cell hc0 (by simp)) ?_
    refine To.runF 5 [] (fun _ _ => by kernel_rfl) fun f3 g3 l3 => ?_
    exact To.ret [] (.int .i64 (IntKind.i64.wrap (((BitVec.ofInt IntKind.i64.bits (IntKind.i64.wrap (IntKind.i64.wrap ((ip[2 * i]).toNat : Int) * 256)) ||| BitVec.ofInt IntKind.i64.bits (IntKind.i64.wrap ((ip[2 * i + 1]).toNat : Int))).toNat : Nat) : Int))) (by kernel_rfl) (by kernel_rfl) fun w4 hw4 => ⟨_, rfl, hw4.ext, by rw [or16, groupOf_at (by omega)]⟩
end Go.Proofs.YtgodhbgnhapemaaGreatDoor
/- The decimal numeral of a number, by the library's contract. Conditions: the library's table of powers lies as it is laid. -/
namespace Go.Proofs.YtgodhbgnhapemaaGreatDoor
open Go Go.SX Go.IpText Go.Shelf
set_option maxHeartbeats 8000000
set_option maxRecDepth 100000
abbrev Tab (w : World) : Prop := Lib.TabIs Tryz.prog w "internal/strconv.uint64pow10" .u64 Lib.pow10Tab
theorem Tab.later {w w' : World} (h : Tab w) (hx : Ext [] w w') : Tab w' := by
  unfold Tab Lib.TabIs World.var? at h ⊢
  cases hg : Tryz.prog.globalNamed "internal/strconv.uint64pow10" with
  | none => rw [hg] at h; cases h
  | some g =>
    rw [hg] at h
    simp only [Option.bind_some] at h ⊢
    have hlt : g < w.heap.size := by
      cases hh : w.heap[g]? with
      | none => rw [hh] at h; cases h
      | some o => exact (Array.getElem?_eq_some_iff.1 hh).1
    rw [hx.block g hlt (by simp)]
    exact h
theorem ext_grow (w : World) (k : Nat) (os : Array Obj) : Ext [] w (Go.Sort.grow (w.drewN k) os) := by
  refine ⟨rfl, rfl, rfl, ?_, fun j hj _ => ?_⟩
  · show w.heap.size ≤ (w.heap ++ os).size
    rw [Array.size_append]; omega
  · show (w.heap ++ os)[j]? = w.heap[j]?
    rw [Array.getElem?_append_left hj]
theorem itoa (n : Nat) (w : World) (ht : Tab w) (hn : n ≤ 1000) :
    Calls Tryz.prog 178 #[.int .i64 (Int.ofNat n)] w (fun e w1 => ∃ v, e = .returned v ∧ Ext [] w w1 ∧ v = .string ⟨⟨Lib.itoa (Int.ofNat n)⟩⟩) := by
  refine (Any.strconv_Itoa Tryz.lays171 (Int.ofNat n) (by simp only [Int.ofNat_eq_natCast]; omega) (by simp only [Int.ofNat_eq_natCast]; omega) w ht).mono fun e w1 ⟨h1, k, os, h2⟩ => ⟨_, h1, by rw [h2]; exact ext_grow w k os, rfl⟩
theorem itoa_len (u : UInt8) : (Lib.itoa (Int.ofNat u.toNat)).length ≤ 21 := by
  have h := u.toNat_lt
  exact Lib.itoa_length_le _ (by simp only [Int.ofNat_eq_natCast]; omega) (by simp only [Int.ofNat_eq_natCast]; omega)
theorem itoaT (n : Nat) (t : List UInt8) (h : t = Lib.itoa (Int.ofNat n)) (w : World) (ht : Tab w) (hn : n ≤ 1000) :
    Calls Tryz.prog 178 #[.int .i64 (Int.ofNat n)] w (fun e w1 => ∃ v, e = .returned v ∧ Ext [] w w1 ∧ v = .string ⟨⟨t⟩⟩) := by
  subst h; exact itoa n w ht hn
end Go.Proofs.YtgodhbgnhapemaaGreatDoor
/- The text of an address, as the package writes it. Conditions: 4 bytes, or 16 that map none. -/
namespace Go.Proofs.YtgodhbgnhapemaaGreatDoor
open Go Go.SX Go.IpText
set_option maxHeartbeats 8000000
set_option maxRecDepth 100000
def zerosFrom (g : Nat → Nat) : Nat → Nat → Nat
  | 0, j => j
  | f + 1, j => if j < 8 ∧ g j = 0 then zerosFrom g f (j + 1) else j
def runGo (g : Nat → Nat) : Nat → Nat → Nat → Nat → Nat × Nat
  | 0, _, fr, tu => (fr, tu)
  | f + 1, i, fr, tu => if 2 ≤ zerosFrom g 8 i - i ∧ tu - fr < zerosFrom g 8 i - i then runGo g f (i + 1) i (zerosFrom g 8 i) else runGo g f (i + 1) fr tu
def runOf (g : Nat → Nat) : Nat × Nat := runGo g 8 0 255 255
def fourText (ip : List UInt8) : List UInt8 :=
  Lib.itoa ((ip.getD 0 0).toNat : Int) ++ [46] ++ Lib.itoa ((ip.getD 1 0).toNat : Int) ++ [46] ++ Lib.itoa ((ip.getD 2 0).toNat : Int) ++ [46] ++ Lib.itoa ((ip.getD 3 0).toNat : Int)
def ipText (ip : List UInt8) : List UInt8 := if ip.length = 4 then fourText ip else sixText (groupOf ip) (runOf (groupOf ip)).1 (runOf (groupOf ip)).2
theorem groupOf_le (ip : List UInt8) (i : Nat) : groupOf ip i ≤ 65535 := by
  unfold groupOf
  have h1 := (ip.getD (2 * i) 0).toNat_lt
  have h2 := (ip.getD (2 * i + 1) 0).toNat_lt
  omega
theorem zerosFrom_spec (g : Nat → Nat) : ∀ f j, j ≤ 8 → j ≤ zerosFrom g f j ∧ zerosFrom g f j ≤ 8 ∧ ∀ m, j ≤ m → m < zerosFrom g f j → g m = 0
  | 0, j, h => ⟨Nat.le_refl _, h, fun m h1 h2 => absurd h2 (by rw [zerosFrom]; omega)⟩
  | f + 1, j, h => by
    rw [zerosFrom]
    split
    · rename_i hc
      obtain ⟨h1, h2, h3⟩ := zerosFrom_spec g f (j + 1) (by omega)
      refine ⟨by omega, h2, fun m hm1 hm2 => ?_⟩
      by_cases hmj : m = j
      · rw [hmj]; exact hc.2
      · exact h3 m (by omega) hm2
    · exact ⟨Nat.le_refl _, h, fun m h1 h2 => absurd h2 (by omega)⟩
/-- A run of zeros, or none. -/
def RunSpec (g : Nat → Nat) (fr tu : Nat) : Prop := (fr = 255 ∧ tu = 255) ∨ (fr < tu ∧ tu ≤ 8 ∧ ∀ m, fr ≤ m → m < tu → g m = 0)
theorem runGo_spec (g : Nat → Nat) : ∀ f i fr tu, i + f ≤ 8 → RunSpec g fr tu → RunSpec g (runGo g f i fr tu).1 (runGo g f i fr tu).2
  | 0, i, fr, tu, _, h => h
  | f + 1, i, fr, tu, hi, h => by
    rw [runGo]
    obtain ⟨h1, h2, h3⟩ := zerosFrom_spec g 8 i (by omega)
    split
    · rename_i hc
      exact runGo_spec g f (i + 1) i _ (by omega) (.inr ⟨by omega, h2, h3⟩)
    · exact runGo_spec g f (i + 1) fr tu (by omega) h
theorem runOf_spec (g : Nat → Nat) : RunSpec g (runOf g).1 (runOf g).2 := runGo_spec g 8 0 255 255 (by omega) (.inl ⟨rfl, rfl⟩)
theorem four_at {ip : List UInt8} (h : ip.length = 4) : ipText ip = Lib.itoa (Int.ofNat (ip[0]).toNat) ++ ([46] : List UInt8) ++ Lib.itoa (Int.ofNat (ip[1]).toNat) ++ ([46] : List UInt8) ++ Lib.itoa (Int.ofNat (ip[2]).toNat) ++ ([46] : List UInt8) ++ Lib.itoa (Int.ofNat (ip[3]).toNat) := by
  unfold ipText
  rw [if_pos h]
  unfold fourText
  rw [List.getD_eq_getElem?_getD, List.getD_eq_getElem?_getD, List.getD_eq_getElem?_getD, List.getD_eq_getElem?_getD, List.getElem?_eq_getElem (show 0 < ip.length by omega), List.getElem?_eq_getElem (show 1 < ip.length by omega), List.getElem?_eq_getElem (show 2 < ip.length by omega), List.getElem?_eq_getElem (show 3 < ip.length by omega)]
  rfl
theorem wrapU (u : UInt8) : IntKind.i64.wrap (u.toNat : Int) = Int.ofNat u.toNat := by
  have h := u.toNat_lt
  rw [IntWalk.i64_in _ ⟨by omega, by omega⟩]; rfl
theorem cells_at {w : World} {b : Nat} {c : Array Value} {e : TypeId} {z : Nat × Nat} {ad : Addr} {v : Value} (hB : w.heap[b]? = some (.cells c e z)) (hb : ad.block = b) (h : w.cell? ad = some v) : c[ad.off]? = some v := by
  obtain ⟨c', e', z', h1, _, h2⟩ := block_of_cell h
  rw [hb, hB] at h1
  simp only [Option.some.injEq, Obj.cells.injEq] at h1
  rw [h1.1]; exact h2
theorem add_blk (a : Addr) (i : Nat) : (a.add i).block = a.block := by unfold Addr.add; split <;> rfl
theorem ipString (ip : List UInt8) (a : Option Addr) (ca : Nat) (w : World) (ht : Tab w) (hin : BytesIn w a ip) (hl : ip.length = 4 ∨ ip.length = 16) (hca : ip.length ≤ ca) (hm : mapped ip = false) :
    Calls Tryz.prog 170 #[.slice a ip.length ca] w (fun e w1 => ∃ v, e = .returned v ∧ Ext [] w w1 ∧ v = .string ⟨⟨ipText ip⟩⟩) := by
  refine calls_of0 (args := [.slice a ip.length ca]) Tryz.func170 rfl rfl rfl ?_
  obtain ⟨ad, ha, hc0⟩ := hin.one 0 (by omega)
  subst ha
  have hcell : ∀ j (h : j < ip.length), w.cell? (ad.add (j * 1)) = some (.int .u8 ((ip[j]).toNat : Int)) := fun j h => by
    obtain ⟨ad', h1, h2⟩ := hin.one j h
    cases h1; exact h2
  obtain ⟨c1, e1, z1, hB1, hsp, hP0⟩ := block_of_cell hc0
  rw [add_blk] at hB1
  have hsp0 : ad.spot = none := by
    have := World.cell?_spot hc0
    simpa [Addr.add] using this
  have hP : ∀ j (h : j < ip.length), c1[(ad.add (j * 1)).off]? = some (.int .u8 ((ip[j]).toNat : Int)) := fun j h => cells_at hB1 (add_blk _ _) (hcell j h)
  refine To.withAt ad.block (.cells c1 e1 z1) false hB1 (nums_all (Q := fun n => n ≠ ad.block) (l := []) (by kernel_rfl) trivial) (by simp) ?_
  refine To.runF 12 [1] (fun _ _ => by kernel_rfl) fun f1 g1 l1 => ?_
  refine To.testF (Int.ofNat ip.length == 0) (by kernel_rfl) (by simp only [Int.ofNat_eq_natCast, beq_eq_false_iff_ne, ne_eq]; omega) ?_
  refine To.runF 8 [1] (fun _ _ => by kernel_rfl) fun f2 g2 l2 => ?_
  by_cases h4 : ip.length = 4
  · refine To.slotF 21 (Int.ofNat ip.length != 4) (by kernel_rfl) (by rw [h4]; rfl) ?_
    refine To.runF 11 [1] (fun _ _ => by kernel_rfl) fun f3 g3 l3 => ?_
    refine To.callN 169 #[.slice (some ad) ip.length ca] (by kernel_rfl) (fun _ => by kernel_rfl) (fun w2 hw2 => to4 ip (some ad) ca w2 (hin.later hw2.ext) (by omega) hca hm) (fun w2 v2 w3 hw2 hx2 hv2 hnew2 hwi2 => ?_)
    rw [if_pos h4] at hv2
    subst hv2
    refine To.runF 14 [1, 0, 0, 0, 6, 13, 20] (fun _ _ => by kernel_rfl) fun f4 g4 l4 => ?_
    refine To.indexAtE 1 elIP (some ad) ad ip.length ca 0 (by kernel_rfl) rfl (by omega) ?_
    refine To.loadOneE 2 uU8 rfl (ad.add (0 * 1)) (.int .u8 ((ip[0]).toNat : Int)) (by kernel_rfl) (fun w3 hw3 => SH.cell (j := 0) (b := ad.block) (c := c1) (e := e1) (z := z1) (q := false) hw3 (by kernel_rfl) (add_blk _ _) (spotadd hsp0 _) (hP 0 (by omega))) ?_
    refine To.indexAtE 7 elIP (some ad) ad ip.length ca 1 (by kernel_rfl) rfl (by omega) ?_
    refine To.loadOneE 8 uU8 rfl (ad.add (1 * 1)) (.int .u8 ((ip[1]).toNat : Int)) (by kernel_rfl) (fun w3 hw3 => SH.cell (j := 0) (b := ad.block) (c := c1) (e := e1) (z := z1) (q := false) hw3 (by kernel_rfl) (add_blk _ _) (spotadd hsp0 _) (hP 1 (by omega))) ?_
    refine To.indexAtE 14 elIP (some ad) ad ip.length ca 2 (by kernel_rfl) rfl (by omega) ?_
    refine To.loadOneE 15 uU8 rfl (ad.add (2 * 1)) (.int .u8 ((ip[2]).toNat : Int)) (by kernel_rfl) (fun w3 hw3 => SH.cell (j := 0) (b := ad.block) (c := c1) (e := e1) (z := z1) (q := false) hw3 (by kernel_rfl) (add_blk _ _) (spotadd hsp0 _) (hP 2 (by omega))) ?_
    refine To.indexAtE 21 elIP (some ad) ad ip.length ca 3 (by kernel_rfl) rfl (by omega) ?_
    refine To.loadOneE 22 uU8 rfl (ad.add (3 * 1)) (.int .u8 ((ip[3]).toNat : Int)) (by kernel_rfl) (fun w3 hw3 => SH.cell (j := 0) (b := ad.block) (c := c1) (e := e1) (z := z1) (q := false) hw3 (by kernel_rfl) (add_blk _ _) (spotadd hsp0 _) (hP 3 (by omega))) ?_
    refine To.runF 4 [3, 9, 16, 23] (fun _ _ => by kernel_rfl) fun f5 g5 l5 => ?_
    refine To.slotE 53 (.int .i64 (IntKind.i64.wrap ((ip[0]).toNat : Int))) (.int .i64 (Int.ofNat (ip[0]).toNat)) (by kernel_rfl) (by rw [wrapU]) ?_
    refine To.slotE 59 (.int .i64 (IntKind.i64.wrap ((ip[1]).toNat : Int))) (.int .i64 (Int.ofNat (ip[1]).toNat)) (by kernel_rfl) (by rw [wrapU]) ?_
    refine To.slotE 66 (.int .i64 (IntKind.i64.wrap ((ip[2]).toNat : Int))) (.int .i64 (Int.ofNat (ip[2]).toNat)) (by kernel_rfl) (by rw [wrapU]) ?_
    refine To.slotE 73 (.int .i64 (IntKind.i64.wrap ((ip[3]).toNat : Int))) (.int .i64 (Int.ofNat (ip[3]).toNat)) (by kernel_rfl) (by rw [wrapU]) ?_
    obtain ⟨t0, ht0⟩ : ∃ t : List UInt8, t = Lib.itoa (Int.ofNat (ip[0]).toNat) := ⟨_, rfl⟩
    have l0 : t0.length ≤ 21 := by rw [ht0]; exact itoa_len _
    obtain ⟨t1, ht1⟩ : ∃ t : List UInt8, t = Lib.itoa (Int.ofNat (ip[1]).toNat) := ⟨_, rfl⟩
    have l1 : t1.length ≤ 21 := by rw [ht1]; exact itoa_len _
    obtain ⟨t2, ht2⟩ : ∃ t : List UInt8, t = Lib.itoa (Int.ofNat (ip[2]).toNat) := ⟨_, rfl⟩
    have l2 : t2.length ≤ 21 := by rw [ht2]; exact itoa_len _
    obtain ⟨t3, ht3⟩ : ∃ t : List UInt8, t = Lib.itoa (Int.ofNat (ip[3]).toNat) := ⟨_, rfl⟩
    have l3 : t3.length ≤ 21 := by rw [ht3]; exact itoa_len _
    refine To.callN 178 #[.int .i64 (Int.ofNat (ip[0]).toNat)] (by kernel_rfl) (fun _ => by kernel_rfl) (fun w4 hw4 => itoaT (ip[0]).toNat t0 ht0 w4 (ht.later hw4.ext) (by have := (ip[0]).toNat_lt; omega)) (fun w4 v4 w5 hw4 hx4 hv4 hnew4 hwi4 => ?_)
    subst hv4
    refine To.addTextE 5 (t := 9) (t0) (([46] : List UInt8)) ⟨⟨t0⟩⟩ ⟨⟨([46] : List UInt8)⟩⟩ rfl rfl (by kernel_rfl) (by simp only [List.length_append, List.length_singleton]; omega) ?_
    refine To.callN 178 #[.int .i64 (Int.ofNat (ip[1]).toNat)] (by kernel_rfl) (fun _ => by kernel_rfl) (fun w4 hw4 => itoaT (ip[1]).toNat t1 ht1 w4 (ht.later hw4.ext) (by have := (ip[1]).toNat_lt; omega)) (fun w4 v4 w5 hw4 hx4 hv4 hnew4 hwi4 => ?_)
    subst hv4
    refine To.addTextE 11 (t := 9) (t0 ++ ([46] : List UInt8)) (t1) ⟨⟨t0 ++ ([46] : List UInt8)⟩⟩ ⟨⟨t1⟩⟩ rfl rfl (by kernel_rfl) (by simp only [List.length_append, List.length_singleton]; omega) ?_
    refine To.addTextE 12 (t := 9) (t0 ++ ([46] : List UInt8) ++ t1) (([46] : List UInt8)) ⟨⟨t0 ++ ([46] : List UInt8) ++ t1⟩⟩ ⟨⟨([46] : List UInt8)⟩⟩ rfl rfl (by kernel_rfl) (by simp only [List.length_append, List.length_singleton]; omega) ?_
    refine To.callN 178 #[.int .i64 (Int.ofNat (ip[2]).toNat)] (by kernel_rfl) (fun _ => by kernel_rfl) (fun w4 hw4 => itoaT (ip[2]).toNat t2 ht2 w4 (ht.later hw4.ext) (by have := (ip[2]).toNat_lt; omega)) (fun w4 v4 w5 hw4 hx4 hv4 hnew4 hwi4 => ?_)
    subst hv4
    refine To.addTextE 18 (t := 9) (t0 ++ ([46] : List UInt8) ++ t1 ++ ([46] : List UInt8)) (t2) ⟨⟨t0 ++ ([46] : List UInt8) ++ t1 ++ ([46] : List UInt8)⟩⟩ ⟨⟨t2⟩⟩ rfl rfl (by kernel_rfl) (by simp only [List.length_append, List.length_singleton]; omega) ?_
    refine To.addTextE 19 (t := 9) (t0 ++ ([46] : List UInt8) ++ t1 ++ ([46] : List UInt8) ++ t2) (([46] : List UInt8)) ⟨⟨t0 ++ ([46] : List UInt8) ++ t1 ++ ([46] : List UInt8) ++ t2⟩⟩ ⟨⟨([46] : List UInt8)⟩⟩ rfl rfl (by kernel_rfl) (by simp only [List.length_append, List.length_singleton]; omega) ?_
    refine To.callN 178 #[.int .i64 (Int.ofNat (ip[3]).toNat)] (by kernel_rfl) (fun _ => by kernel_rfl) (fun w4 hw4 => itoaT (ip[3]).toNat t3 ht3 w4 (ht.later hw4.ext) (by have := (ip[3]).toNat_lt; omega)) (fun w4 v4 w5 hw4 hx4 hv4 hnew4 hwi4 => ?_)
    subst hv4
    refine To.addText (t := 9) (t0 ++ ([46] : List UInt8) ++ t1 ++ ([46] : List UInt8) ++ t2 ++ ([46] : List UInt8)) t3 ⟨⟨t0 ++ ([46] : List UInt8) ++ t1 ++ ([46] : List UInt8) ++ t2 ++ ([46] : List UInt8)⟩⟩ ⟨⟨t3⟩⟩ rfl rfl (by kernel_rfl) (by simp only [List.length_append, List.length_singleton]; omega) ?_
    refine To.runF 2 [] (fun _ _ => by kernel_rfl) fun f6 g6 l6 => ?_
    exact To.ret [] (.string ⟨⟨t0 ++ ([46] : List UInt8) ++ t1 ++ ([46] : List UInt8) ++ t2 ++ ([46] : List UInt8) ++ t3⟩⟩) (by kernel_rfl) (by kernel_rfl) fun w9 hw9 => ⟨_, rfl, hw9.ext, by rw [four_at h4, ht0, ht1, ht2, ht3]⟩
  · have h16 : ip.length = 16 := by omega
    refine To.slotT 21 (Int.ofNat ip.length != 4) (by kernel_rfl) (by rw [h16]; rfl) ?_
    refine To.runF 5 [1] (fun _ _ => by kernel_rfl) fun f3 g3 l3 => ?_
    refine To.testF (Int.ofNat ip.length != 16) (by kernel_rfl) (by rw [h16]; rfl) ?_
    refine To.runF 5 [1] (fun _ _ => by kernel_rfl) fun f4 g4 l4 => ?_
    refine To.callN 169 #[.slice (some ad) ip.length ca] (by kernel_rfl) (fun _ => by kernel_rfl) (fun w2 hw2 => to4 ip (some ad) ca w2 (hin.later hw2.ext) (by omega) hca hm) (fun w2 v2 w3 hw2 hx2 hv2 hnew2 hwi2 => ?_)
    rw [if_neg h4] at hv2
    subst hv2
    refine To.runF 25 [] (fun _ _ => by kernel_rfl) fun f5 g5 l5 => ?_
    refine To.loop (fun k : Nat × Nat × Nat => 8 - k.1) (fun k => ([(1, .pointer (some ⟨f1 0, 0, none⟩)), (7, .func (.func 205) #[] #[.pointer (some ⟨f1 0, 0, none⟩)]), (8, .int .i64 (Int.ofNat k.2.1)), (9, .int .i64 (Int.ofNat k.2.2)), (10, .int .i64 (Int.ofNat k.1))], [some ⟨f1 0, .cells ⟨[.slice (some ad) ip.length ca]⟩ 127 (0, 0), true⟩])) (fun k _ => k.1 ≤ 8 ∧ k.2.1 ≤ k.2.2 ∧ k.2.2 ≤ 255 ∧ runGo (groupOf ip) (8 - k.1) k.1 k.2.1 k.2.2 = runOf (groupOf ip)) (0, 255, 255) [1] (by kernel_rfl) (by kernel_rfl) (by kernel_rfl) rfl (fun _ _ => ⟨Nat.zero_le _, Nat.le_refl _, Nat.le_refl _, rfl⟩) ?_
    rintro ⟨i, fr, tu⟩ w5 ⟨hi8, hft, hto, hrun⟩ hx5 back
    have hi8 : i ≤ 8 := hi8
    have hft : fr ≤ tu := hft
    have hto : tu ≤ 255 := hto
    have hrun : runGo (groupOf ip) (8 - i) i fr tu = runOf (groupOf ip) := hrun
    refine To.runF 6 [] (fun _ _ => by kernel_rfl) fun f6 g6 l6 => ?_
    by_cases hlt : i < 8
    · refine To.testT (decide (Int.ofNat i < 8)) (by kernel_rfl) (decide_eq_true (by simp only [Int.ofNat_eq_natCast]; omega)) ?_
      refine To.runF 10 [] (fun _ _ => by kernel_rfl) fun f7 g7 l7 => ?_
      refine To.loop (fun j : Nat => 8 - j) (fun j => ([(1, .pointer (some ⟨f1 0, 0, none⟩)), (7, .func (.func 205) #[] #[.pointer (some ⟨f1 0, 0, none⟩)]), (8, .int .i64 (Int.ofNat fr)), (9, .int .i64 (Int.ofNat tu)), (10, .int .i64 (Int.ofNat i)), (11, .int .i64 (Int.ofNat j))], [some ⟨f1 0, .cells ⟨[.slice (some ad) ip.length ca]⟩ 127 (0, 0), true⟩])) (fun j _ => i ≤ j ∧ j ≤ 8 ∧ zerosFrom (groupOf ip) (8 - (j - i)) j = zerosFrom (groupOf ip) 8 i) i [0] (by kernel_rfl) (by kernel_rfl) (by kernel_rfl) rfl (fun _ _ => ⟨Nat.le_refl _, hi8, by rw [Nat.sub_self]⟩) ?_
      rintro j w6 ⟨hij, hj8, hz⟩ hx6 back2
      refine To.runF 6 [] (fun _ _ => by kernel_rfl) fun f8 g8 l8 => ?_
      by_cases hjl : j < 8
      · refine To.slotT 84 (decide (Int.ofNat j < 8)) (by kernel_rfl) (decide_eq_true (by simp only [Int.ofNat_eq_natCast]; omega)) ?_
        refine To.runF 2 [] (fun _ _ => by kernel_rfl) fun f9 g9 l9 => ?_
        refine To.callN 205 #[.int .i64 (Int.ofNat j), .pointer (some ⟨f1 0, 0, none⟩)] (by kernel_rfl) (fun _ => by kernel_rfl) (fun w7 hw7 => group ip (some ad) ca (f1 0) j w7 (hin.later hw7.ext) h16 hjl
          (hw7.blk (j := 0) (b := f1 0) (o := .cells ⟨[.slice (some ad) ip.length ca]⟩ 127 (0, 0)) (q := true) (by kernel_rfl))) (fun w7 v7 w8 hw7 hx7 hv7 hnew7 hwi7 => ?_)
        subst hv7
        refine To.runF 3 [] (fun _ _ => by kernel_rfl) fun f10 g10 l10 => ?_
        by_cases hg0 : groupOf ip j = 0
        · refine To.testT (Int.ofNat (groupOf ip j) == 0) (by kernel_rfl) (by rw [hg0]; rfl) ?_
          refine To.runF 8 [] (fun _ _ => by kernel_rfl) fun f11 g11 l11 => ?_
          refine To.slotE 11 (.int .i64 (IntKind.i64.wrap (Int.ofNat j + 1))) (.int .i64 (Int.ofNat (j + 1))) (by kernel_rfl) (by rw [wrap_succ j (by omega)]) ?_
          exact back2 _ _ (j + 1) [0] (by omega) ⟨by kernel_rfl, by kernel_rfl, by kernel_rfl, by kernel_rfl, by kernel_rfl, rfl⟩ (fun w12 hw12 => ⟨by omega, by omega, by
            rw [← hz, show 8 - (j - i) = 8 - (j + 1 - i) + 1 by omega, zerosFrom, if_pos ⟨hjl, hg0⟩]⟩)
        · refine To.testF (Int.ofNat (groupOf ip j) == 0) (by kernel_rfl) (by simp only [Int.ofNat_eq_natCast, beq_eq_false_iff_ne, ne_eq]; omega) ?_
          have hZ : zerosFrom (groupOf ip) 8 i = j := by
            rw [← hz]
            cases h9 : 8 - (j - i) with
            | zero => rfl
            | succ q => rw [zerosFrom, if_neg (fun h => hg0 h.2)]
          refine To.runF 13 [] (fun _ _ => by kernel_rfl) fun f11 g11 l11 => ?_
          have hd : IntKind.i64.wrap (Int.ofNat j - Int.ofNat i) = Int.ofNat (j - i) := by
            simp only [Int.ofNat_eq_natCast]; rw [IntWalk.i64_in _ ⟨by omega, by omega⟩]; omega
          have hd2 : IntKind.i64.wrap (Int.ofNat tu - Int.ofNat fr) = Int.ofNat (tu - fr) := by
            simp only [Int.ofNat_eq_natCast]; rw [IntWalk.i64_in _ ⟨by omega, by omega⟩]; omega
          have hstep : runGo (groupOf ip) (8 - i) i fr tu = if 2 ≤ j - i ∧ tu - fr < j - i then runGo (groupOf ip) (8 - (i + 1)) (i + 1) i j else runGo (groupOf ip) (8 - (i + 1)) (i + 1) fr tu := by
            conv => lhs; rw [show 8 - i = 8 - (i + 1) + 1 by omega]
            rw [runGo, hZ]
          by_cases hl2 : 2 ≤ j - i
          · refine To.slotT 97 (decide (IntKind.i64.wrap (Int.ofNat j - Int.ofNat i) ≥ 2)) (by kernel_rfl) (by rw [hd]; exact decide_eq_true (by simp only [Int.ofNat_eq_natCast]; omega)) ?_
            refine To.runF 7 [] (fun _ _ => by kernel_rfl) fun f12 g12 l12 => ?_
            by_cases hl3 : tu - fr < j - i
            · refine To.testT (decide (IntKind.i64.wrap (Int.ofNat j - Int.ofNat i) > IntKind.i64.wrap (Int.ofNat tu - Int.ofNat fr))) (by kernel_rfl) (by rw [hd, hd2]; exact decide_eq_true (by simp only [Int.ofNat_eq_natCast]; omega)) ?_
              refine To.runF 12 [] (fun _ _ => by kernel_rfl) fun f13 g13 l13 => ?_
              refine To.slotE 10 (.int .i64 (IntKind.i64.wrap (Int.ofNat i + 1))) (.int .i64 (Int.ofNat (i + 1))) (by kernel_rfl) (by rw [wrap_succ i (by omega)]) ?_
              exact back _ _ (i + 1, i, j) [0] (by simp only; omega) ⟨by kernel_rfl, by kernel_rfl, by kernel_rfl, by kernel_rfl, by kernel_rfl, rfl⟩ (fun w12 hw12 => ⟨by simp only; omega, by simp only; omega, by simp only; omega, by simp only; rw [← hrun, hstep, if_pos ⟨hl2, hl3⟩]⟩)
            · refine To.testF (decide (IntKind.i64.wrap (Int.ofNat j - Int.ofNat i) > IntKind.i64.wrap (Int.ofNat tu - Int.ofNat fr))) (by kernel_rfl) (by rw [hd, hd2]; exact decide_eq_false (by simp only [Int.ofNat_eq_natCast]; omega)) ?_
              refine To.runF 7 [] (fun _ _ => by kernel_rfl) fun f13 g13 l13 => ?_
              refine To.slotE 10 (.int .i64 (IntKind.i64.wrap (Int.ofNat i + 1))) (.int .i64 (Int.ofNat (i + 1))) (by kernel_rfl) (by rw [wrap_succ i (by omega)]) ?_
              exact back _ _ (i + 1, fr, tu) [0] (by simp only; omega) ⟨by kernel_rfl, by kernel_rfl, by kernel_rfl, by kernel_rfl, by kernel_rfl, rfl⟩ (fun w12 hw12 => ⟨by simp only; omega, hft, hto, by simp only; rw [← hrun, hstep, if_neg (fun h => hl3 h.2)]⟩)
          · refine To.slotF 97 (decide (IntKind.i64.wrap (Int.ofNat j - Int.ofNat i) ≥ 2)) (by kernel_rfl) (by rw [hd]; exact decide_eq_false (by simp only [Int.ofNat_eq_natCast]; omega)) ?_
            refine To.runF 15 [] (fun _ _ => by kernel_rfl) fun f12 g12 l12 => ?_
            refine To.slotE 10 (.int .i64 (IntKind.i64.wrap (Int.ofNat i + 1))) (.int .i64 (Int.ofNat (i + 1))) (by kernel_rfl) (by rw [wrap_succ i (by omega)]) ?_
            exact back _ _ (i + 1, fr, tu) [0] (by simp only; omega) ⟨by kernel_rfl, by kernel_rfl, by kernel_rfl, by kernel_rfl, by kernel_rfl, rfl⟩ (fun w12 hw12 => ⟨by simp only; omega, hft, hto, by simp only; rw [← hrun, hstep, if_neg (fun h => hl2 h.1)]⟩)
      · have hj88 : j = 8 := by omega
        subst hj88
        refine To.slotF 84 (decide (Int.ofNat 8 < 8)) (by kernel_rfl) (by simp) ?_
        have hZ : zerosFrom (groupOf ip) 8 i = 8 := by
          rw [← hz]
          cases h9 : 8 - (8 - i) with
          | zero => rfl
          | succ q => rw [zerosFrom, if_neg (fun h => absurd h.1 (by omega))]
        refine To.runF 20 [] (fun _ _ => by kernel_rfl) fun f9 g9 l9 => ?_
        have hd : IntKind.i64.wrap (Int.ofNat 8 - Int.ofNat i) = Int.ofNat (8 - i) := by
          simp only [Int.ofNat_eq_natCast]; rw [IntWalk.i64_in _ ⟨by omega, by omega⟩]; omega
        have hd2 : IntKind.i64.wrap (Int.ofNat tu - Int.ofNat fr) = Int.ofNat (tu - fr) := by
          simp only [Int.ofNat_eq_natCast]; rw [IntWalk.i64_in _ ⟨by omega, by omega⟩]; omega
        have hstep : runGo (groupOf ip) (8 - i) i fr tu = if 2 ≤ 8 - i ∧ tu - fr < 8 - i then runGo (groupOf ip) (8 - (i + 1)) (i + 1) i 8 else runGo (groupOf ip) (8 - (i + 1)) (i + 1) fr tu := by
          conv => lhs; rw [show 8 - i = 8 - (i + 1) + 1 by omega]
          rw [runGo, hZ]
        by_cases hl2 : 2 ≤ 8 - i
        · refine To.slotT 97 (decide (IntKind.i64.wrap (Int.ofNat 8 - Int.ofNat i) ≥ 2)) (by kernel_rfl) (by rw [hd]; exact decide_eq_true (by simp only [Int.ofNat_eq_natCast]; omega)) ?_
          refine To.runF 7 [] (fun _ _ => by kernel_rfl) fun f10 g10 l10 => ?_
          by_cases hl3 : tu - fr < 8 - i
          · refine To.testT (decide (IntKind.i64.wrap (Int.ofNat 8 - Int.ofNat i) > IntKind.i64.wrap (Int.ofNat tu - Int.ofNat fr))) (by kernel_rfl) (by rw [hd, hd2]; exact decide_eq_true (by simp only [Int.ofNat_eq_natCast]; omega)) ?_
            refine To.runF 12 [] (fun _ _ => by kernel_rfl) fun f11 g11 l11 => ?_
            refine To.slotE 10 (.int .i64 (IntKind.i64.wrap (Int.ofNat i + 1))) (.int .i64 (Int.ofNat (i + 1))) (by kernel_rfl) (by rw [wrap_succ i (by omega)]) ?_
            exact back _ _ (i + 1, i, 8) [0] (by simp only; omega) ⟨by kernel_rfl, by kernel_rfl, by kernel_rfl, by kernel_rfl, by kernel_rfl, rfl⟩ (fun w12 hw12 => ⟨by simp only; omega, by simp only; omega, by simp only; omega, by simp only; rw [← hrun, hstep, if_pos ⟨hl2, hl3⟩]⟩)
          · refine To.testF (decide (IntKind.i64.wrap (Int.ofNat 8 - Int.ofNat i) > IntKind.i64.wrap (Int.ofNat tu - Int.ofNat fr))) (by kernel_rfl) (by rw [hd, hd2]; exact decide_eq_false (by simp only [Int.ofNat_eq_natCast]; omega)) ?_
            refine To.runF 7 [] (fun _ _ => by kernel_rfl) fun f11 g11 l11 => ?_
            refine To.slotE 10 (.int .i64 (IntKind.i64.wrap (Int.ofNat i + 1))) (.int .i64 (Int.ofNat (i + 1))) (by kernel_rfl) (by rw [wrap_succ i (by omega)]) ?_
            exact back _ _ (i + 1, fr, tu) [0] (by simp only; omega) ⟨by kernel_rfl, by kernel_rfl, by kernel_rfl, by kernel_rfl, by kernel_rfl, rfl⟩ (fun w12 hw12 => ⟨by simp only; omega, hft, hto, by simp only; rw [← hrun, hstep, if_neg (fun h => hl3 h.2)]⟩)
        · refine To.slotF 97 (decide (IntKind.i64.wrap (Int.ofNat 8 - Int.ofNat i) ≥ 2)) (by kernel_rfl) (by rw [hd]; exact decide_eq_false (by simp only [Int.ofNat_eq_natCast]; omega)) ?_
          refine To.runF 15 [] (fun _ _ => by kernel_rfl) fun f10 g10 l10 => ?_
          refine To.slotE 10 (.int .i64 (IntKind.i64.wrap (Int.ofNat i + 1))) (.int .i64 (Int.ofNat (i + 1))) (by kernel_rfl) (by rw [wrap_succ i (by omega)]) ?_
          exact back _ _ (i + 1, fr, tu) [0] (by simp only; omega) ⟨by kernel_rfl, by kernel_rfl, by kernel_rfl, by kernel_rfl, by kernel_rfl, rfl⟩ (fun w12 hw12 => ⟨by simp only; omega, hft, hto, by simp only; rw [← hrun, hstep, if_neg (fun h => hl2 h.1)]⟩)
    · have hi88 : i = 8 := by omega
      subst hi88
      refine To.testF (decide (Int.ofNat 8 < 8)) (by kernel_rfl) (by simp) ?_
      have hrun2 : runOf (groupOf ip) = (fr, tu) := hrun.symm
      have hspec : RunSpec (groupOf ip) fr tu := by have := runOf_spec (groupOf ip); rw [hrun2] at this; exact this
      have hT : ipText ip = sixText (groupOf ip) fr tu := by unfold ipText; rw [if_neg h4, hrun2]
      refine To.runF 11 [] (fun _ _ => by kernel_rfl) fun f7 g7 l7 => ?_
      refine To.loop (fun k : Nat × List UInt8 => 9 - k.1) (fun k => ([(1, .pointer (some ⟨f1 0, 0, none⟩)), (7, .func (.func 205) #[] #[.pointer (some ⟨f1 0, 0, none⟩)]), (8, .int .i64 (Int.ofNat fr)), (9, .int .i64 (Int.ofNat tu)), (13, .string ⟨⟨k.2⟩⟩), (14, .int .i64 (Int.ofNat k.1))], [some ⟨f1 0, .cells ⟨[.slice (some ad) ip.length ca]⟩ 127 (0, 0), true⟩])) (fun k _ => k.1 ≤ 256 ∧ k.2.length ≤ 10 * k.1 ∧ ∃ q, 8 - k.1 < q ∧ sixGo (groupOf ip) fr tu q k.1 k.2 = sixText (groupOf ip) fr tu) (0, []) [0] (by kernel_rfl) (by kernel_rfl) (by kernel_rfl) rfl (fun _ _ => ⟨by decide, by decide, 9, by decide, rfl⟩) ?_
      rintro ⟨k, s⟩ w6 ⟨hk256, hsl, q, hq, hgo⟩ hx6 back2
      have hk256 : k ≤ 256 := hk256
      have hsl : s.length ≤ 10 * k := hsl
      have hq : 8 - k < q := hq
      have hgo : sixGo (groupOf ip) fr tu q k s = sixText (groupOf ip) fr tu := hgo
      refine To.runF 6 [] (fun _ _ => by kernel_rfl) fun f8 g8 l8 => ?_
      by_cases hk8 : k < 8
      · refine To.testT (decide (Int.ofNat k < 8)) (by kernel_rfl) (decide_eq_true (by simp only [Int.ofNat_eq_natCast]; omega)) ?_
        refine To.runF 10 [] (fun _ _ => by kernel_rfl) fun f9 g9 l9 => ?_
        by_cases hkf : k = fr
        · subst hkf
          refine To.testT (Int.ofNat k == Int.ofNat k) (by kernel_rfl) (by simp) ?_
          refine To.runF 3 [] (fun _ _ => by kernel_rfl) fun f10 g10 l10 => ?_
          refine To.addText (t := 9) s ([58, 58] : List UInt8) ⟨⟨s⟩⟩ ⟨⟨([58, 58] : List UInt8)⟩⟩ rfl rfl (by kernel_rfl) (by simp only [List.length_cons, List.length_nil]; omega) ?_
          refine To.runF 12 [] (fun _ _ => by kernel_rfl) fun f11 g11 l11 => ?_
          have hft2 : k < tu ∧ tu ≤ 8 := by
            rcases hspec with h | h
            · omega
            · exact ⟨h.1, h.2.1⟩
          by_cases ht8 : 8 ≤ tu
          · refine To.testT (decide (Int.ofNat tu ≥ 8)) (by kernel_rfl) (decide_eq_true (by simp only [Int.ofNat_eq_natCast]; omega)) ?_
            have hend : s ++ ([58, 58] : List UInt8) = sixText (groupOf ip) k tu := by
              rw [← hgo]
              cases q with
              | zero => omega
              | succ q => rw [sixGo, if_pos hk8, if_pos rfl, if_pos ht8]
            refine To.runF 6 [] (fun _ _ => by kernel_rfl) fun f12 g12 l12 => ?_
            exact To.ret [] (.string ⟨⟨s ++ ([58, 58] : List UInt8)⟩⟩) (by kernel_rfl) (by kernel_rfl) fun w9 hw9 => ⟨_, rfl, hw9.ext, by rw [hT, hend]⟩
          · refine To.testF (decide (Int.ofNat tu ≥ 8)) (by kernel_rfl) (decide_eq_false (by simp only [Int.ofNat_eq_natCast]; omega)) ?_
            refine To.runF 5 [] (fun _ _ => by kernel_rfl) fun f12 g12 l12 => ?_
            refine To.callN 205 #[.int .i64 (Int.ofNat tu), .pointer (some ⟨f1 0, 0, none⟩)] (by kernel_rfl) (fun _ => by kernel_rfl) (fun w7 hw7 => group ip (some ad) ca (f1 0) tu w7 (hin.later hw7.ext) h16 (by omega)
              (hw7.blk (j := 0) (b := f1 0) (o := .cells ⟨[.slice (some ad) ip.length ca]⟩ 127 (0, 0)) (q := true) (by kernel_rfl))) (fun w7 v7 w8 hw7 hx7 hv7 hnew7 hwi7 => ?_)
            subst hv7
            refine To.callN 204 #[.int .i64 (Int.ofNat (groupOf ip tu))] (by kernel_rfl) (fun _ => by kernel_rfl) (fun w9 hw9 => zzHex (groupOf ip tu) w9 (groupOf_le ip tu)) (fun w9 v9 w10 hw9 hx9 hv9 hnew9 hwi9 => ?_)
            subst hv9
            have hhl := hexOf4 (groupOf_le ip tu)
            refine To.addText (t := 9) (s ++ ([58, 58] : List UInt8)) (hexOf (groupOf ip tu)) ⟨⟨s ++ ([58, 58] : List UInt8)⟩⟩ ⟨⟨hexOf (groupOf ip tu)⟩⟩ rfl rfl (by kernel_rfl) (by simp only [List.length_append, List.length_cons, List.length_nil]; omega) ?_
            refine To.runF 8 [] (fun _ _ => by kernel_rfl) fun f13 g13 l13 => ?_
            refine To.slotE 14 (.int .i64 (IntKind.i64.wrap (Int.ofNat tu + 1))) (.int .i64 (Int.ofNat (tu + 1))) (by kernel_rfl) (by rw [wrap_succ _ (by omega)]) ?_
            exact back2 _ _ (tu + 1, s ++ ([58, 58] : List UInt8) ++ hexOf (groupOf ip tu)) [0] (by simp only; omega) ⟨by kernel_rfl, by kernel_rfl, by kernel_rfl, by kernel_rfl, by kernel_rfl, rfl⟩ (fun w12 hw12 => ⟨by simp only; omega, by simp only [List.length_append, List.length_cons, List.length_nil]; omega, by
              cases q with
              | zero => omega
              | succ q =>
                refine ⟨q, by simp only; omega, ?_⟩
                simp only
                rw [← hgo, sixGo, if_pos hk8]
                rw [if_pos rfl, if_neg ht8]⟩)
        · refine To.testF (Int.ofNat k == Int.ofNat fr) (by kernel_rfl) (by simp only [Int.ofNat_eq_natCast, beq_eq_false_iff_ne, ne_eq]; omega) ?_
          refine To.runF 5 [] (fun _ _ => by kernel_rfl) fun f10 g10 l10 => ?_
          by_cases hk0 : 0 < k
          · refine To.testT (decide (Int.ofNat k > 0)) (by kernel_rfl) (decide_eq_true (by simp only [Int.ofNat_eq_natCast]; omega)) ?_
            refine To.runF 2 [] (fun _ _ => by kernel_rfl) fun f11 g11 l11 => ?_
            refine To.addText (t := 9) s ([58] : List UInt8) ⟨⟨s⟩⟩ ⟨⟨([58] : List UInt8)⟩⟩ rfl rfl (by kernel_rfl) (by simp only [List.length_cons, List.length_nil]; omega) ?_
            refine To.runF 6 [] (fun _ _ => by kernel_rfl) fun f12 g12 l12 => ?_
            refine To.callN 205 #[.int .i64 (Int.ofNat k), .pointer (some ⟨f1 0, 0, none⟩)] (by kernel_rfl) (fun _ => by kernel_rfl) (fun w7 hw7 => group ip (some ad) ca (f1 0) k w7 (hin.later hw7.ext) h16 hk8
              (hw7.blk (j := 0) (b := f1 0) (o := .cells ⟨[.slice (some ad) ip.length ca]⟩ 127 (0, 0)) (q := true) (by kernel_rfl))) (fun w7 v7 w8 hw7 hx7 hv7 hnew7 hwi7 => ?_)
            subst hv7
            refine To.callN 204 #[.int .i64 (Int.ofNat (groupOf ip k))] (by kernel_rfl) (fun _ => by kernel_rfl) (fun w9 hw9 => zzHex (groupOf ip k) w9 (groupOf_le ip k)) (fun w9 v9 w10 hw9 hx9 hv9 hnew9 hwi9 => ?_)
            subst hv9
            have hhl := hexOf4 (groupOf_le ip k)
            refine To.addText (t := 9) (s ++ ([58] : List UInt8)) (hexOf (groupOf ip k)) ⟨⟨s ++ ([58] : List UInt8)⟩⟩ ⟨⟨hexOf (groupOf ip k)⟩⟩ rfl rfl (by kernel_rfl) (by simp only [List.length_append, List.length_cons, List.length_nil]; omega) ?_
            refine To.runF 8 [] (fun _ _ => by kernel_rfl) fun f13 g13 l13 => ?_
            refine To.slotE 14 (.int .i64 (IntKind.i64.wrap (Int.ofNat k + 1))) (.int .i64 (Int.ofNat (k + 1))) (by kernel_rfl) (by rw [wrap_succ _ (by omega)]) ?_
            exact back2 _ _ (k + 1, s ++ ([58] : List UInt8) ++ hexOf (groupOf ip k)) [0] (by simp only; omega) ⟨by kernel_rfl, by kernel_rfl, by kernel_rfl, by kernel_rfl, by kernel_rfl, rfl⟩ (fun w12 hw12 => ⟨by simp only; omega, by simp only [List.length_append, List.length_cons, List.length_nil]; omega, by
              cases q with
              | zero => omega
              | succ q =>
                refine ⟨q, by simp only; omega, ?_⟩
                simp only
                rw [← hgo, sixGo, if_pos hk8]
                rw [if_neg hkf, if_pos hk0]⟩)
          · refine To.testF (decide (Int.ofNat k > 0)) (by kernel_rfl) (decide_eq_false (by simp only [Int.ofNat_eq_natCast]; omega)) ?_
            refine To.runF 5 [] (fun _ _ => by kernel_rfl) fun f11 g11 l11 => ?_
            refine To.callN 205 #[.int .i64 (Int.ofNat k), .pointer (some ⟨f1 0, 0, none⟩)] (by kernel_rfl) (fun _ => by kernel_rfl) (fun w7 hw7 => group ip (some ad) ca (f1 0) k w7 (hin.later hw7.ext) h16 hk8
              (hw7.blk (j := 0) (b := f1 0) (o := .cells ⟨[.slice (some ad) ip.length ca]⟩ 127 (0, 0)) (q := true) (by kernel_rfl))) (fun w7 v7 w8 hw7 hx7 hv7 hnew7 hwi7 => ?_)
            subst hv7
            refine To.callN 204 #[.int .i64 (Int.ofNat (groupOf ip k))] (by kernel_rfl) (fun _ => by kernel_rfl) (fun w9 hw9 => zzHex (groupOf ip k) w9 (groupOf_le ip k)) (fun w9 v9 w10 hw9 hx9 hv9 hnew9 hwi9 => ?_)
            subst hv9
            have hhl := hexOf4 (groupOf_le ip k)
            refine To.addText (t := 9) (s) (hexOf (groupOf ip k)) ⟨⟨s⟩⟩ ⟨⟨hexOf (groupOf ip k)⟩⟩ rfl rfl (by kernel_rfl) (by omega) ?_
            refine To.runF 8 [] (fun _ _ => by kernel_rfl) fun f12 g12 l12 => ?_
            refine To.slotE 14 (.int .i64 (IntKind.i64.wrap (Int.ofNat k + 1))) (.int .i64 (Int.ofNat (k + 1))) (by kernel_rfl) (by rw [wrap_succ _ (by omega)]) ?_
            exact back2 _ _ (k + 1, s ++ hexOf (groupOf ip k)) [0] (by simp only; omega) ⟨by kernel_rfl, by kernel_rfl, by kernel_rfl, by kernel_rfl, by kernel_rfl, rfl⟩ (fun w12 hw12 => ⟨by simp only; omega, by simp only [List.length_append, List.length_cons, List.length_nil]; omega, by
              cases q with
              | zero => omega
              | succ q =>
                refine ⟨q, by simp only; omega, ?_⟩
                simp only
                rw [← hgo, sixGo, if_pos hk8]
                rw [if_neg hkf, if_neg hk0]⟩)
      · refine To.testF (decide (Int.ofNat k < 8)) (by kernel_rfl) (decide_eq_false (by simp only [Int.ofNat_eq_natCast]; omega)) ?_
        have hend : s = sixText (groupOf ip) fr tu := by
          rw [← hgo]
          cases q with
          | zero => rfl
          | succ q => rw [sixGo, if_neg hk8]
        refine To.runF 6 [] (fun _ _ => by kernel_rfl) fun f9 g9 l9 => ?_
        exact To.ret [] (.string ⟨⟨s⟩⟩) (by kernel_rfl) (by kernel_rfl) fun w9 hw9 => ⟨_, rfl, hw9.ext, by rw [hT, hend]⟩
end Go.Proofs.YtgodhbgnhapemaaGreatDoor
