/- An address of 128 bits is parsed. Conditions: as each says. -/
import Derived.Test.YtgodhbgnhapemaaGreatDoorJMemo
import Derived.Test.YtgodhbgnhapemaaGreatDoorJTr
import Derived.Test.YtgodhbgnhapemaaGreatDoorJPieces
import Derived.Test.YtgodhbgnhapemaaGreatDoorJDig
import Derived.Test.YtgodhbgnhapemaaGreatDoorJRef
set_option linter.unusedVariables false
set_option linter.unusedSimpArgs false
/- Reading the text of 16 bytes. Conditions: as each says. -/
namespace Go.Proofs.YtgodhbgnhapemaaGreatDoor
open Go Go.SX Go.IpText Go.RowKit
set_option maxHeartbeats 8000000
set_option maxRecDepth 100000
/-- A run of hexadecimal digits: its value, how many. -/
def hexGo : List UInt8 → Nat → Nat → Option (Nat × Nat)
  | [], acc, off => some (acc, off)
  | c :: r, acc, off => if 0 ≤ digI c then (if 3 < off then none else hexGo r (acc * 16 + (digI c).toNat) (off + 1)) else some (acc, off)
/-- The loop over groups, where it does well. -/
inductive LoopR : List UInt8 → Option Nat → List UInt8 → Option Nat → List UInt8 → Prop
  | done {e o} (h : o.length = 16) : LoopR [] e o e o
  | four {s e o acc off f} (hx : hexGo s 0 0 = some (acc, off)) (h0 : off ≠ 0) (hd : s[off]? = some 46) (he : e = none → o.length = 12) (ho : o.length ≤ 12) (hf : fieldsGo s none 0 0 [] = some f) : LoopR s e o e (o ++ f)
  | last {s e o acc off} (hx : hexGo s 0 0 = some (acc, off)) (h0 : off ≠ 0) (hd : s.drop off = []) (ho : o.length ≤ 14) : LoopR s e o e (o ++ [UInt8.ofNat (acc / 256), UInt8.ofNat acc])
  | gap0 {s o acc off} (hx : hexGo s 0 0 = some (acc, off)) (h0 : off ≠ 0) (hd : s.drop off = [58, 58]) (ho : o.length ≤ 14) : LoopR s none o (some (o.length + 2)) (o ++ [UInt8.ofNat (acc / 256), UInt8.ofNat acc])
  | gap {s o acc off c r e1 o1} (hx : hexGo s 0 0 = some (acc, off)) (h0 : off ≠ 0) (hd : s.drop off = 58 :: 58 :: c :: r) (ho : o.length ≤ 12) (h : LoopR (c :: r) (some (o.length + 2)) (o ++ [UInt8.ofNat (acc / 256), UInt8.ofNat acc]) e1 o1) : LoopR s none o e1 o1
  | next {s e o acc off c r e1 o1} (hx : hexGo s 0 0 = some (acc, off)) (h0 : off ≠ 0) (hd : s.drop off = 58 :: c :: r) (hc : c ≠ 58) (ho : o.length ≤ 12) (h : LoopR (c :: r) e (o ++ [UInt8.ofNat (acc / 256), UInt8.ofNat acc]) e1 o1) : LoopR s e o e1 o1
theorem LoopR.inv {s : List UInt8} {e : Option Nat} {o : List UInt8} {e1 : Option Nat} {o1 : List UInt8} (h : LoopR s e o e1 o1) : (s = [] ∧ e1 = e ∧ o1 = o ∧ o.length = 16) ∨ ∃ acc off, hexGo s 0 0 = some (acc, off) ∧ off ≠ 0 ∧ o.length ≤ 14 ∧
    ((s[off]? = some 46 ∧ (e = none → o.length = 12) ∧ o.length ≤ 12 ∧ ∃ f, fieldsGo s none 0 0 [] = some f ∧ e1 = e ∧ o1 = o ++ f) ∨
     (s.drop off = [] ∧ e1 = e ∧ o1 = o ++ [UInt8.ofNat (acc / 256), UInt8.ofNat acc]) ∨
     (s.drop off = [58, 58] ∧ e = none ∧ e1 = some (o.length + 2) ∧ o1 = o ++ [UInt8.ofNat (acc / 256), UInt8.ofNat acc]) ∨
     (∃ c r, s.drop off = 58 :: 58 :: c :: r ∧ e = none ∧ o.length ≤ 12 ∧ LoopR (c :: r) (some (o.length + 2)) (o ++ [UInt8.ofNat (acc / 256), UInt8.ofNat acc]) e1 o1) ∨
     (∃ c r, s.drop off = 58 :: c :: r ∧ c ≠ 58 ∧ o.length ≤ 12 ∧ LoopR (c :: r) e (o ++ [UInt8.ofNat (acc / 256), UInt8.ofNat acc]) e1 o1)) := by
  cases h with
  | done h => exact .inl ⟨rfl, rfl, rfl, h⟩
  | four hx h0 hd he ho hf => exact .inr ⟨_, _, hx, h0, by omega, .inl ⟨hd, he, ho, _, hf, rfl, rfl⟩⟩
  | last hx h0 hd ho => exact .inr ⟨_, _, hx, h0, ho, .inr (.inl ⟨hd, rfl, rfl⟩)⟩
  | gap0 hx h0 hd ho => exact .inr ⟨_, _, hx, h0, ho, .inr (.inr (.inl ⟨hd, rfl, rfl, rfl⟩))⟩
  | gap hx h0 hd ho h => exact .inr ⟨_, _, hx, h0, by omega, .inr (.inr (.inr (.inl ⟨_, _, hd, rfl, ho, h⟩)))⟩
  | next hx h0 hd hc ho h => exact .inr ⟨_, _, hx, h0, by omega, .inr (.inr (.inr (.inr ⟨_, _, hd, hc, ho, h⟩)))⟩
/-- The 16 cells of a row that a function tells. -/
def rowF (F : Nat → UInt8) : List Value := (List.range 16).map fun k => Value.int .u8 (Int.ofNat (F k).toNat)
theorem rowF_len (F : Nat → UInt8) : (rowF F).length = 16 := by simp [rowF]
theorem rowF_set (F : Nat → UInt8) (j : Nat) (x : UInt8) (hj : j < 16) : (rowF F).set j (.int .u8 (Int.ofNat x.toNat)) = rowF fun k => if k = j then x else F k := by
  apply List.ext_getElem?
  intro k
  unfold rowF
  rw [List.getElem?_set, List.getElem?_map, List.getElem?_map]
  by_cases hk : k < 16
  · rw [List.getElem?_range hk]
    by_cases hjk : j = k
    · subst hjk; simp [hj]
    · rw [if_neg hjk]
      simp only [Option.map_some, if_neg (fun e : k = j => hjk e.symm)]
  · rw [List.getElem?_eq_none (by simp; omega), if_neg (by omega)]; rfl
theorem rowF_get (F : Nat → UInt8) (j : Nat) (hj : j < 16) : (rowF F)[j]? = some (.int .u8 (Int.ofNat (F j).toNat)) := by
  unfold rowF
  rw [List.getElem?_map, List.getElem?_range hj]; rfl
theorem rowF_ext {F G : Nat → UInt8} (h : ∀ k, k < 16 → F k = G k) : rowF F = rowF G := by
  unfold rowF
  apply List.map_congr_left
  intro k hk
  rw [h k (List.mem_range.1 hk)]
theorem rowF_list {F : Nat → UInt8} {l : List UInt8} (hl : l.length = 16) (h : ∀ k, k < 16 → l[k]? = some (F k)) : rowF F = ucells l := by
  apply List.ext_getElem?
  intro k
  unfold ucells
  rw [List.getElem?_map]
  by_cases hk : k < 16
  · rw [rowF_get F k hk, h k hk]; rfl
  · rw [List.getElem?_eq_none (by rw [rowF_len]; omega), List.getElem?_eq_none (by omega)]; rfl
theorem elA : ArrOf Tryz.prog 167 5 16 1 := ArrOf.of (by kernel_rfl) (by kernel_rfl)
def outF (o : List UInt8) : Nat → UInt8 := fun k => o.getD k 0
theorem row_out (o : List UInt8) (ho : o.length ≤ 16) : rowF (outF o) = ucells o ++ List.replicate (16 - o.length) (.int .u8 0) := by
  apply List.ext_getElem?
  intro k
  have hu : (ucells o).length = o.length := by simp [ucells]
  by_cases hk : k < 16
  · rw [rowF_get _ k hk]
    by_cases hko : k < o.length
    · rw [List.getElem?_append_left (by omega)]
      unfold ucells outF
      rw [List.getElem?_map, List.getElem?_eq_getElem hko, List.getD_eq_getElem?_getD, List.getElem?_eq_getElem hko]; rfl
    · rw [List.getElem?_append_right (by omega), List.getElem?_replicate, if_pos (by omega)]
      unfold outF
      rw [List.getD_eq_getElem?_getD, List.getElem?_eq_none (by omega)]; rfl
  · rw [List.getElem?_eq_none (by rw [rowF_len]; omega), List.getElem?_eq_none (by rw [List.length_append, hu, List.length_replicate]; omega)]
theorem row_two (o : List UInt8) (a b : UInt8) : rowF (fun k => if k = o.length + 1 then b else if k = o.length then a else outF o k) = rowF (outF (o ++ [a, b])) := by
  apply rowF_ext
  intro k hk
  unfold outF
  rw [List.getD_eq_getElem?_getD, List.getD_eq_getElem?_getD]
  by_cases h1 : k = o.length + 1
  · rw [if_pos h1, h1, List.getElem?_append_right (by omega), Nat.add_sub_cancel_left]; rfl
  · rw [if_neg h1]
    by_cases h2 : k = o.length
    · rw [if_pos h2, h2, List.getElem?_append_right (by omega), Nat.sub_self]; rfl
    · rw [if_neg h2]
      by_cases h3 : k < o.length
      · rw [List.getElem?_append_left h3]
      · rw [List.getElem?_eq_none (by omega), List.getElem?_eq_none (by simp; omega)]
theorem row_four (o f : List UInt8) (ho : o.length ≤ 12) (hf : f.length = 4) : fCells (ucells o) f (List.replicate (16 - o.length) (.int .u8 0)) = rowF (outF (o ++ f)) := by
  rw [row_out (o ++ f) (by rw [List.length_append]; omega)]
  unfold fCells
  rw [List.drop_replicate, hf, show ucells (o ++ f) = ucells o ++ ucells f by simp [ucells], List.append_assoc, List.length_append, hf, show 16 - (o.length + 4) = 16 - o.length - 4 by omega]
theorem sl16 (g l : Nat) (hl : l ≤ 12) (w : World) : (Instr.sliceAt 167 (.pointer (some ⟨g, 0, none⟩)) (some (.int .i64 (Int.ofNat l))) (some (.int .i64 (Int.ofNat (l + 4)))) none).run Tryz.prog w = .ok (.slice (some ⟨g, l, none⟩) 4 (16 - l)) w := by
  have hal : Program.arrayLen Tryz.prog 167 = 16 := by kernel_rfl
  have hsz : (sizeOf (Program.elem Tryz.prog 167)).run Tryz.prog w = .ok 1 w := by
    rw [show Program.elem Tryz.prog 167 = 5 from by kernel_rfl]; rfl
  rw [run_sliceAt_array_lh w 167 ⟨g, 0, none⟩ (by kernel_rfl) .i64 .i64 (Int.ofNat l) (Int.ofNat (l + 4)) (by simp only [Int.ofNat_eq_natCast]; omega) (by simp only [Int.ofNat_eq_natCast]; omega) (by rw [hal]; simp only [Int.ofNat_eq_natCast]; omega), hsz, hal]
  have h1 : ¬ (16 = l) := by omega
  simp [slicedAt, Addr.add, h1]
  by_cases h0 : l = 0
  · subst h0; simp
  · simp [h0]; omega
def eI : Option Nat → Int
  | none => -1
  | some k => Int.ofNat k
/-- The row while its end is moved behind: so many of its cells stand n further. -/
def movF (o : List UInt8) (n L : Nat) : Nat → Nat → UInt8
  | 0 => outF o
  | c + 1 => fun x => if x = L - (c + 1) + n then outF o (L - (c + 1)) else movF o n L c x
theorem movF_is (o : List UInt8) (n L : Nat) : ∀ c, c ≤ L → ∀ x, movF o n L c x = if L - c + n ≤ x ∧ x < L + n then outF o (x - n) else outF o x
  | 0, _, x => by rw [if_neg (by omega)]; rfl
  | c + 1, h, x => by
    show (if x = L - (c + 1) + n then outF o (L - (c + 1)) else movF o n L c x) = _
    rw [movF_is o n L c (by omega)]
    by_cases h1 : x = L - (c + 1) + n
    · rw [if_pos h1, if_pos (by omega), h1, Nat.add_sub_cancel]
    · rw [if_neg h1]
      by_cases h2 : L - c + n ≤ x ∧ x < L + n
      · rw [if_pos h2, if_pos (by omega)]
      · rw [if_neg h2, if_neg (by omega)]
/-- The row while the gap is filled with zeros: so many of them. -/
def fillF (o : List UInt8) (n L k : Nat) : Nat → Nat → UInt8
  | 0 => movF o n L (L - k)
  | c + 1 => fun x => if x = k + c then 0 else fillF o n L k c x
theorem fillF_is (o : List UInt8) (n L k : Nat) : ∀ c x, fillF o n L k c x = if k ≤ x ∧ x < k + c then 0 else movF o n L (L - k) x
  | 0, x => by rw [if_neg (by omega)]; rfl
  | c + 1, x => by
    show (if x = k + c then 0 else fillF o n L k c x) = _
    rw [fillF_is o n L k c]
    by_cases h1 : x = k + c
    · rw [if_pos h1, if_pos (by omega)]
    · rw [if_neg h1]
      by_cases h2 : k ≤ x ∧ x < k + c
      · rw [if_pos h2, if_pos (by omega)]
      · rw [if_neg h2, if_neg (by omega)]
def finL (k : Nat) (o : List UInt8) : List UInt8 := o.take k ++ (List.replicate (16 - o.length) 0 ++ o.drop k)
theorem fin_row (o : List UInt8) (k : Nat) (hk : k ≤ o.length) (ho : o.length < 16) : rowF (fillF o (16 - o.length) o.length k (16 - o.length)) = ucells (finL k o) := by
  refine rowF_list (by unfold finL; simp; omega) fun x hx => ?_
  rw [fillF_is, movF_is _ _ _ _ (by omega)]
  unfold finL outF
  by_cases h1 : x < k
  · rw [List.getElem?_append_left (by rw [List.length_take]; omega), List.getElem?_take_of_lt h1, if_neg (by omega), if_neg (by omega), List.getD_eq_getElem?_getD, List.getElem?_eq_getElem (by omega)]; rfl
  · rw [List.getElem?_append_right (by rw [List.length_take]; omega), List.length_take, Nat.min_eq_left hk]
    by_cases h2 : x < k + (16 - o.length)
    · rw [List.getElem?_append_left (by rw [List.length_replicate]; omega), List.getElem?_replicate, if_pos (by omega), if_pos (by omega)]
    · rw [List.getElem?_append_right (by rw [List.length_replicate]; omega), List.length_replicate, List.getElem?_drop, if_neg (by omega), if_pos (by omega), List.getD_eq_getElem?_getD, show k + (x - k - (16 - o.length)) = x - (16 - o.length) by omega, List.getElem?_eq_getElem (by omega)]; rfl
theorem parse6 (s res : List UInt8) (w : World) (hs : ∀ c ∈ s, c ∈ sixLetters) (hl : s.length ≤ 100)
    (h : (∃ s0 c e1 o1, s = c :: s0 ∧ c ≠ 58 ∧ LoopR s none [] e1 o1 ∧ (e1 = none ∧ o1 = res ∧ o1.length = 16 ∨ ∃ k, e1 = some k ∧ o1.length < 16 ∧ res = finL k o1)) ∨ s = [58, 58] ∧ res = List.replicate 16 0 ∨ ∃ c s0 k o1, s = 58 :: 58 :: c :: s0 ∧ LoopR (c :: s0) (some 0) [] (some k) o1 ∧ o1.length < 16 ∧ res = finL k o1) :
    Calls Tryz.prog 264 #[.string ⟨⟨s⟩⟩] w (fun e w1 => ∃ v, e = .returned v ∧ Ext [] w w1 ∧ v = .tuple #[.agg ⟨ucells res⟩, .bool true]) := by
  refine calls_of0 (args := [.string ⟨⟨s⟩⟩]) Tryz.func264 rfl rfl rfl ?_
  have hB : Obj.cells ⟨rowF (outF [])⟩ 167 (0, 0) = .cells ⟨ucells (List.replicate 16 0)⟩ 167 (0, 0) := rfl
  obtain ⟨z, hz⟩ : ∃ z, z = Obj.cells ⟨ucells (List.replicate 16 0)⟩ 167 (0, 0) := ⟨_, rfl⟩
  rcases Classical.em (s = [58, 58] ∧ res = List.replicate 16 0) with ⟨rfl, rfl⟩ | hno
  · refine To.runF 54 [1, 1, 1, 1, 1, 1, 1, 1, 1, 1, 1, 1, 1, 1, 1, 1, 0, 0, 0, 0, 0, 0, 0, 0, 0, 0, 0, 0, 0, 0, 0, 0] (fun _ _ => by kernel_rfl) fun f1 g1 l1 => ?_
    exact To.ret [0, 0, 0, 0, 0, 0, 0, 0, 0, 0, 0, 0, 0, 0, 0, 0] (.tuple #[.agg ⟨ucells (List.replicate 16 0)⟩, .bool true]) (by kernel_rfl) (by kernel_rfl) fun w8 hw8 => ⟨_, rfl, hw8.ext, rfl⟩
  obtain ⟨sA, eA, e1, o1, hLR, hfin, hhead⟩ : ∃ sA eA e1 o1, LoopR sA eA [] e1 o1 ∧ (e1 = none ∧ o1 = res ∧ o1.length = 16 ∨ ∃ k, e1 = some k ∧ o1.length < 16 ∧ res = finL k o1) ∧ ((s = sA ∧ eA = none ∧ ∃ c s0, s = c :: s0 ∧ c ≠ 58) ∨ (eA = some 0 ∧ ∃ c s0, sA = c :: s0 ∧ s = 58 :: 58 :: sA)) := by
    rcases h with ⟨s0, c, e1, o1, h1, h2, h3, h4⟩ | h | ⟨c, s0, k, o1, h1, h2, h2b, h3⟩
    · exact ⟨s, none, e1, o1, h3, h4, .inl ⟨rfl, rfl, c, s0, h1, h2⟩⟩
    · exact absurd h hno
    · exact ⟨c :: s0, some 0, some k, o1, h2, .inr ⟨k, rfl, h2b, h3⟩, .inr ⟨rfl, c, s0, rfl, h1⟩⟩
  refine To.runF 20 [] (fun _ _ => by kernel_rfl) fun f1 g1 l1 => ?_
  refine To.meet 2 (ι := Unit) (fun _ => ([(0, .string ⟨⟨sA⟩⟩), (2, .pointer (some ⟨f1 0, 0, none⟩)), (3, .bool false), (4, .pointer (some ⟨f1 1, 0, none⟩)), (5, .int .i64 (eI eA))], [some ⟨f1 0, .cells ⟨rowF (outF [])⟩ 167 (0, 0), true⟩, some ⟨f1 1, .cells ⟨rowF (outF [])⟩ 167 (0, 0), true⟩])) (fun _ _ => True) (fun join => ?_) (fun _ w12 _ hx12 => ?_)
  · rcases hhead with ⟨rfl, rfl, c, s0, rfl, hc⟩ | ⟨rfl, c, s0, rfl, rfl⟩
    · by_cases h2 : 2 ≤ (c :: s0).length
      · refine To.slotT 15 (decide (((ByteArray.mk ⟨c :: s0⟩).size : Int) ≥ 2)) (by kernel_rfl) (decide_eq_true (by show ((c :: s0).length : Int) ≥ 2; omega)) ?_
        refine To.runF 5 [] (fun _ _ => by kernel_rfl) fun f2 g2 l2 => ?_
        have hcn : (((c.toNat : Nat) : Int) == 58) = false := beq_eq_false_iff_ne.2 fun e => hc (UInt8.toNat_inj.1 (Int.ofNat.inj e))
        refine To.slotF 20 (((c.toNat : Nat) : Int) == 58) (by kernel_rfl) hcn ?_
        refine To.runF 7 [] (fun _ _ => by kernel_rfl) fun f3 g3 l3 => ?_
        exact join _ _ () [0, 1] ⟨by kernel_rfl, by kernel_rfl, by kernel_rfl, by kernel_rfl, by kernel_rfl, rfl⟩ (fun _ _ => trivial)
      · refine To.slotF 15 (decide (((ByteArray.mk ⟨c :: s0⟩).size : Int) ≥ 2)) (by kernel_rfl) (decide_eq_false (by show ¬ ((c :: s0).length : Int) ≥ 2; omega)) ?_
        refine To.runF 12 [] (fun _ _ => by kernel_rfl) fun f2 g2 l2 => ?_
        exact join _ _ () [0, 1] ⟨by kernel_rfl, by kernel_rfl, by kernel_rfl, by kernel_rfl, by kernel_rfl, rfl⟩ (fun _ _ => trivial)
    · refine To.slotT 15 (decide (((ByteArray.mk ⟨58 :: 58 :: c :: s0⟩).size : Int) ≥ 2)) (by kernel_rfl) (decide_eq_true (by show ((58 :: 58 :: c :: s0).length : Int) ≥ 2; simp only [List.length_cons]; omega)) ?_
      refine To.runF 18 [] (fun _ _ => by kernel_rfl) fun f2 g2 l2 => ?_
      refine To.sliceStrFrom (t := 9) uStr ⟨⟨58 :: 58 :: c :: s0⟩⟩ 2 (by show 2 ≤ (58 :: 58 :: c :: s0).length; simp only [List.length_cons]; omega) (by kernel_rfl) ?_
      refine To.slotE 26 (.string ((ByteArray.mk ⟨58 :: 58 :: c :: s0⟩).extract 2 (ByteArray.mk ⟨58 :: 58 :: c :: s0⟩).size)) (.string ⟨⟨c :: s0⟩⟩) (by kernel_rfl) (by rw [exB, show (ByteArray.mk ⟨58 :: 58 :: c :: s0⟩).size = (58 :: 58 :: c :: s0).length from rfl, List.take_length]; rfl) ?_
      refine To.runF 10 [] (fun _ _ => by kernel_rfl) fun f3 g3 l3 => ?_
      exact join _ _ () [0, 1] ⟨by kernel_rfl, by kernel_rfl, by kernel_rfl, by kernel_rfl, by kernel_rfl, rfl⟩ (fun _ _ => trivial)
  · obtain ⟨bf, hbf⟩ : ∃ bf : List UInt8 → List (Option Blk), bf = fun o => [some ⟨f1 0, .cells ⟨rowF (outF [])⟩ 167 (0, 0), true⟩, some ⟨f1 1, .cells ⟨rowF (outF o)⟩ 167 (0, 0), true⟩] := ⟨_, rfl⟩
    refine To.runF 6 [] (fun _ _ => by kernel_rfl) fun f2 g2 l2 => ?_
    refine To.meet 2 (ι := Unit) (fun _ => ([(0, .string ⟨⟨[]⟩⟩), (2, .pointer (some ⟨f1 0, 0, none⟩)), (3, .bool false), (4, .pointer (some ⟨f1 1, 0, none⟩)), (5, .int .i64 (eI e1)), (6, .int .i64 (Int.ofNat o1.length))], [some ⟨f1 0, .cells ⟨rowF (outF [])⟩ 167 (0, 0), true⟩, some ⟨f1 1, .cells ⟨rowF (outF o1)⟩ 167 (0, 0), true⟩])) (fun _ _ => o1.length ≤ 16 ∧ ∀ k, e1 = some k → k ≤ o1.length) (fun join => ?_) (fun _ w14 hm14 hx14 => ?_)
    · refine To.loop (ι := List UInt8 × Option Nat × List UInt8) (fun i => i.1.length) (fun i => ([(0, .string ⟨⟨i.1⟩⟩), (2, .pointer (some ⟨f1 0, 0, none⟩)), (3, .bool false), (4, .pointer (some ⟨f1 1, 0, none⟩)), (5, .int .i64 (eI i.2.1)), (6, .int .i64 (Int.ofNat i.2.2.length))], [some ⟨f1 0, .cells ⟨rowF (outF [])⟩ 167 (0, 0), true⟩, some ⟨f1 1, .cells ⟨rowF (outF i.2.2)⟩ 167 (0, 0), true⟩])) (fun i _ => LoopR i.1 i.2.1 i.2.2 e1 o1 ∧ i.1.length ≤ 100 ∧ (∀ c ∈ i.1, c ∈ sixLetters) ∧ i.2.2.length ≤ 16 ∧ ∀ k, i.2.1 = some k → k ≤ i.2.2.length) (sA, eA, []) [0, 1] (by kernel_rfl) (by kernel_rfl) (by kernel_rfl) rfl (fun _ _ => ⟨hLR, by rcases hhead with ⟨rfl, _, _⟩ | ⟨_, c, s0, _, rfl⟩ <;> first | exact hl | (show sA.length ≤ 100; simp only [List.length_cons] at hl; omega), by rcases hhead with ⟨rfl, _, _⟩ | ⟨_, c, s0, _, rfl⟩ <;> first | exact hs | exact fun x hx => hs x (List.mem_cons_of_mem _ (List.mem_cons_of_mem _ hx)), Nat.zero_le _, fun k hk => by rcases hhead with ⟨_, rfl, _⟩ | ⟨rfl, _⟩ <;> cases hk; exact Nat.le_refl _⟩) ?_
      rintro ⟨s, e, o⟩ w1 ⟨hR, hsl, hlt, hol, hek⟩ hx1 back
      have hR : LoopR s e o e1 o1 := hR
      have hsl : s.length ≤ 100 := hsl
      have hol : o.length ≤ 16 := hol
      have hlt : ∀ c ∈ s, c ∈ sixLetters := hlt
      have hek : ∀ k, e = some k → k ≤ o.length := hek
      refine To.runF 6 [] (fun _ _ => by kernel_rfl) fun f3 g3 l3 => ?_
      rcases hR.inv with ⟨rfl, rfl, rfl, h16⟩ | ⟨A, O, hx, hO0, ho14, hnext⟩
      · refine To.testF (decide (Int.ofNat o1.length < 16)) (by kernel_rfl) (decide_eq_false (by simp only [Int.ofNat_eq_natCast]; omega)) ?_
        refine To.runF 1 [] (fun _ _ => by kernel_rfl) fun f4 g4 l4 => ?_
        exact join _ _ () [0, 1] ⟨by kernel_rfl, by kernel_rfl, by kernel_rfl, by kernel_rfl, by kernel_rfl, rfl⟩ (fun _ _ => ⟨hol, hek⟩)
      refine To.testT (decide (Int.ofNat o.length < 16)) (by kernel_rfl) (decide_eq_true (by simp only [Int.ofNat_eq_natCast]; omega)) ?_
      refine To.runF 9 [] (fun _ _ => by kernel_rfl) fun f4 g4 l4 => ?_
      have h47 : digI 46 = -1 := by decide
      refine To.meet 2 (ι := Unit) (fun _ => ([(0, .string ⟨⟨s⟩⟩), (2, .pointer (some ⟨f1 0, 0, none⟩)), (3, .bool false), (4, .pointer (some ⟨f1 1, 0, none⟩)), (5, .int .i64 (eI e)), (6, .int .i64 (Int.ofNat o.length)), (7, .int .i64 (Int.ofNat O)), (8, .int .i64 (Int.ofNat A))], [some ⟨f1 0, .cells ⟨rowF (outF [])⟩ 167 (0, 0), true⟩, some ⟨f1 1, .cells ⟨rowF (outF o)⟩ 167 (0, 0), true⟩])) (fun _ _ => A < 65536 ∧ O ≤ 4 ∧ O ≤ s.length) (fun join2 => ?_) (fun _ w16 hm16 hx16 => ?_)
      · refine To.loop (ι := Nat × Nat) (fun i => s.length - i.2) (fun i => ([(0, .string ⟨⟨s⟩⟩), (2, .pointer (some ⟨f1 0, 0, none⟩)), (3, .bool false), (4, .pointer (some ⟨f1 1, 0, none⟩)), (5, .int .i64 (eI e)), (6, .int .i64 (Int.ofNat o.length)), (7, .int .i64 (Int.ofNat i.2)), (8, .int .i64 (Int.ofNat i.1))], [some ⟨f1 0, .cells ⟨rowF (outF [])⟩ 167 (0, 0), true⟩, some ⟨f1 1, .cells ⟨rowF (outF o)⟩ 167 (0, 0), true⟩])) (fun i _ => hexGo (s.drop i.2) i.1 i.2 = some (A, O) ∧ i.2 ≤ s.length ∧ i.2 ≤ 4 ∧ i.1 < 16 ^ i.2) (0, 0) [0, 1] (by kernel_rfl) (by kernel_rfl) (by kernel_rfl) rfl (fun _ _ => ⟨hx, Nat.zero_le _, Nat.zero_le _, by decide⟩) ?_
        rintro ⟨acc, off⟩ w1 ⟨hxg, hoffl, hoff4, hacc⟩ hx1 back2
        have hxg : hexGo (s.drop off) acc off = some (A, O) := hxg
        have hoffl : off ≤ s.length := hoffl
        have hoff4 : off ≤ 4 := hoff4
        have hacc : acc < 16 ^ off := hacc
        have hacc2 : acc < 65536 := Nat.lt_of_lt_of_le hacc (Nat.pow_le_pow_right (by decide) hoff4)
        refine To.runF 8 [] (fun _ _ => by kernel_rfl) fun f5 g5 l5 => ?_
        by_cases hlt2 : off < s.length
        · refine To.slotT 37 (decide (Int.ofNat off < Int.ofNat (ByteArray.mk ⟨s⟩).size)) (by kernel_rfl) (decide_eq_true (Int.ofNat_lt.2 hlt2)) ?_
          obtain ⟨c, hc⟩ : ∃ c, c = s[off] := ⟨_, rfl⟩
          have hcs : Int.ofNat (UInt8.toNat ((ByteArray.mk ⟨s⟩)[off]'hlt2)) = Int.ofNat c.toNat := by rw [hc]; rfl
          have hcl : c ∈ sixLetters := by rw [hc]; exact hlt _ (List.getElem_mem _)
          have hdr : s.drop off = c :: s.drop (off + 1) := by rw [hc]; exact List.drop_eq_getElem_cons hlt2
          rw [hdr, hexGo] at hxg
          refine To.runF 2 [] (fun _ _ => by kernel_rfl) fun f6 g6 l6 => ?_
          refine To.indexStr uStr ⟨⟨s⟩⟩ off hlt2 (by kernel_rfl) ?_
          refine To.slotE 40 (.int .u8 (Int.ofNat (UInt8.toNat ((ByteArray.mk ⟨s⟩)[off]'hlt2)))) (.int .u8 (Int.ofNat c.toNat)) (by kernel_rfl) (by rw [hcs]) ?_
          refine To.callN 315 #[.int .u8 (Int.ofNat c.toNat)] (by kernel_rfl) (fun _ => by kernel_rfl) (fun w2 hw2 => digW c w2 hcl) (fun w2 v2 w3 hw2 hx2 hv2 hnew2 hwi2 => ?_)
          subst hv2
          refine To.runF 3 [] (fun _ _ => by kernel_rfl) fun f7 g7 l7 => ?_
          by_cases hd0 : 0 ≤ digI c
          · rw [if_pos hd0] at hxg
            by_cases h3 : 3 < off
            · rw [if_pos h3] at hxg; cases hxg
            rw [if_neg h3] at hxg
            refine To.testT (decide (digI c ≥ 0)) (by kernel_rfl) (decide_eq_true hd0) ?_
            refine To.runF 8 [] (fun _ _ => by kernel_rfl) fun f8 g8 l8 => ?_
            have hd15 : digI c ≤ 15 := by unfold digI; split <;> (try split) <;> omega
            have hdn : digI c = Int.ofNat (digI c).toNat := (Int.toNat_of_nonneg hd0).symm
            have hacc16 : acc * 16 < 1048576 := by omega
            have hsh : IntKind.i64.wrap (Int.ofNat acc * 2 ^ min (Int.toNat 4) IntKind.i64.bits) = Int.ofNat (acc * 16) := by
              rw [show (2 : Int) ^ min (Int.toNat 4) IntKind.i64.bits = 16 from rfl, IntWalk.i64_in _ ⟨by simp only [Int.ofNat_eq_natCast]; omega, by simp only [Int.ofNat_eq_natCast]; omega⟩]; rfl
            refine To.slotE 45 (.int .i64 (IntKind.i64.wrap (Int.ofNat acc * 2 ^ min (Int.toNat 4) IntKind.i64.bits))) (.int .i64 (Int.ofNat (acc * 16))) (by kernel_rfl) (by rw [hsh]) ?_
            refine To.indexStr uStr ⟨⟨s⟩⟩ off hlt2 (by kernel_rfl) ?_
            refine To.slotE 48 (.int .u8 (Int.ofNat (UInt8.toNat ((ByteArray.mk ⟨s⟩)[off]'hlt2)))) (.int .u8 (Int.ofNat c.toNat)) (by kernel_rfl) (by rw [hcs]) ?_
            refine To.callN 315 #[.int .u8 (Int.ofNat c.toNat)] (by kernel_rfl) (fun _ => by kernel_rfl) (fun w4 hw4 => digW c w4 hcl) (fun w4 v4 w5 hw4 hx4 hv4 hnew4 hwi4 => ?_)
            subst hv4
            refine To.runF 9 [] (fun _ _ => by kernel_rfl) fun f9 g9 l9 => ?_
            refine To.testF (decide (Int.ofNat off > 3)) (by kernel_rfl) (decide_eq_false (by simp only [Int.ofNat_eq_natCast]; omega)) ?_
            refine To.runF 7 [] (fun _ _ => by kernel_rfl) fun f10 g10 l10 => ?_
            have hsum : IntKind.i64.wrap (Int.ofNat (acc * 16) + digI c) = Int.ofNat (acc * 16 + (digI c).toNat) := by
              rw [IntWalk.i64_in _ ⟨by simp only [Int.ofNat_eq_natCast]; omega, by simp only [Int.ofNat_eq_natCast]; omega⟩]; simp only [Int.ofNat_eq_natCast]; omega
            refine To.slotE 8 (.int .i64 (IntKind.i64.wrap (Int.ofNat (acc * 16) + digI c))) (.int .i64 (Int.ofNat (acc * 16 + (digI c).toNat))) (by kernel_rfl) (by rw [hsum]) ?_
            refine To.slotE 7 (.int .i64 (IntKind.i64.wrap (Int.ofNat off + 1))) (.int .i64 (Int.ofNat (off + 1))) (by kernel_rfl) (by rw [wrap_succ off (by omega)]) ?_
            exact back2 _ _ (acc * 16 + (digI c).toNat, off + 1) [0, 1] (by show s.length - (off + 1) < s.length - off; omega) ⟨by kernel_rfl, by kernel_rfl, by kernel_rfl, by kernel_rfl, by kernel_rfl, rfl⟩ (fun w7 hw7 => ⟨hxg, hlt2, by show off + 1 ≤ 4; omega, by show acc * 16 + (digI c).toNat < 16 ^ (off + 1); rw [Nat.pow_succ]; omega⟩)
          · rw [if_neg hd0] at hxg
            cases hxg
            refine To.testF (decide (digI c ≥ 0)) (by kernel_rfl) (decide_eq_false hd0) ?_
            refine To.runF 1 [] (fun _ _ => by kernel_rfl) fun f8 g8 l8 => ?_
            exact join2 _ _ () [0, 1] ⟨by kernel_rfl, by kernel_rfl, by kernel_rfl, by kernel_rfl, by kernel_rfl, rfl⟩ (fun _ _ => ⟨hacc2, hoff4, hoffl⟩)
        · have : off = s.length := by omega
          subst this
          rw [List.drop_length, hexGo] at hxg
          cases hxg
          refine To.slotF 37 (decide (Int.ofNat s.length < Int.ofNat (ByteArray.mk ⟨s⟩).size)) (by kernel_rfl) (decide_eq_false (Int.lt_irrefl _)) ?_
          refine To.runF 9 [] (fun _ _ => by kernel_rfl) fun f6 g6 l6 => ?_
          exact join2 _ _ () [0, 1] ⟨by kernel_rfl, by kernel_rfl, by kernel_rfl, by kernel_rfl, by kernel_rfl, rfl⟩ (fun _ _ => ⟨hacc2, hoff4, hoffl⟩)
      obtain ⟨hA, hO4, hOl⟩ := hm16
      have hO0i : (Int.ofNat O == 0) = false := beq_eq_false_iff_ne.2 (by simp only [Int.ofNat_eq_natCast]; omega)
      refine To.runF 6 [] (fun _ _ => by kernel_rfl) fun f5 g5 l5 => ?_
      refine To.testF (Int.ofNat O == 0) (by kernel_rfl) hO0i ?_
      refine To.runF 9 [] (fun _ _ => by kernel_rfl) fun f6 g6 l6 => ?_
      rcases hnext with ⟨hd46, he12, ho12, f, hf, rfl, rfl⟩ | hnext
      · have hOs : O < s.length := (List.getElem?_eq_some_iff.1 hd46).1
        have hc46 : s[O] = 46 := (List.getElem?_eq_some_iff.1 hd46).2
        refine To.slotT 63 (decide (Int.ofNat O < Int.ofNat (ByteArray.mk ⟨s⟩).size)) (by kernel_rfl) (decide_eq_true (Int.ofNat_lt.2 hOs)) ?_
        refine To.runF 2 [] (fun _ _ => by kernel_rfl) fun f7 g7 l7 => ?_
        refine To.indexStr uStr ⟨⟨s⟩⟩ O hOs (by kernel_rfl) ?_
        have hcs : Int.ofNat (UInt8.toNat ((ByteArray.mk ⟨s⟩)[O]'hOs)) = 46 := by show Int.ofNat (s[O]).toNat = 46; rw [hc46]; rfl
        refine To.slotE 66 (.int .u8 (Int.ofNat (UInt8.toNat ((ByteArray.mk ⟨s⟩)[O]'hOs)))) (.int .u8 46) (by kernel_rfl) (by rw [hcs]) ?_
        refine To.runF 10 [] (fun _ _ => by kernel_rfl) fun f8 g8 l8 => ?_
        refine To.meet 2 (ι := Unit) (fun _ => ([(0, .string ⟨⟨s⟩⟩), (2, .pointer (some ⟨f1 0, 0, none⟩)), (3, .bool false), (4, .pointer (some ⟨f1 1, 0, none⟩)), (5, .int .i64 (eI e1)), (6, .int .i64 (Int.ofNat o.length))], [some ⟨f1 0, .cells ⟨rowF (outF [])⟩ 167 (0, 0), true⟩, some ⟨f1 1, .cells ⟨rowF (outF (o ++ f))⟩ 167 (0, 0), true⟩])) (fun _ _ => f.length = 4) (fun join4 => ?_) (fun _ w20 hm20 hx20 => ?_)
        · cases e1 with
          | none =>
            refine To.slotT 71 (decide (eI none < 0)) (by kernel_rfl) (by decide) ?_
            refine To.runF 4 [] (fun _ _ => by kernel_rfl) fun f9 g9 l9 => ?_
            refine To.slotF 75 (Int.ofNat o.length != 12) (by kernel_rfl) (by rw [he12 rfl]; rfl) ?_
            refine To.runF 5 [] (fun _ _ => by kernel_rfl) fun f10 g10 l10 => ?_
            have hw4 : IntKind.i64.wrap (Int.ofNat o.length + 4) = Int.ofNat (o.length + 4) := by
              rw [IntWalk.i64_in _ ⟨by simp only [Int.ofNat_eq_natCast]; omega, by simp only [Int.ofNat_eq_natCast]; omega⟩]; rfl
            refine To.slotF 80 (decide (IntKind.i64.wrap (Int.ofNat o.length + 4) > 16)) (by kernel_rfl) (decide_eq_false (by rw [hw4]; simp only [Int.ofNat_eq_natCast]; omega)) ?_
            refine To.runF 4 [] (fun _ _ => by kernel_rfl) fun f11 g11 l11 => ?_
            refine To.slotE 84 (.int .i64 (IntKind.i64.wrap (Int.ofNat o.length + 4))) (.int .i64 (Int.ofNat (o.length + 4))) (by kernel_rfl) (by rw [hw4]) ?_
            refine To.lawV (Instr.sliceAt 167 (.pointer (some ⟨f1 1, 0, none⟩)) (some (.int .i64 (Int.ofNat o.length))) (some (.int .i64 (Int.ofNat (o.length + 4)))) none) (.slice (some ⟨f1 1, o.length, none⟩) 4 (16 - o.length)) (by kernel_rfl) (fun w _ => sl16 (f1 1) o.length ho12 w) ?_
            refine To.callGC 263 #[.string ⟨⟨s⟩⟩, .slice (some ⟨f1 1, o.length, none⟩) 4 (16 - o.length)] (some (f1 1)) (some 1) (Φ := fun _ v w1 => v = .bool true ∧ f.length = 4 ∧ w1.heap[f1 1]? = some (.cells ⟨rowF (outF (o ++ f))⟩ 167 (0, 0))) (by kernel_rfl) (fun _ => by kernel_rfl)
              (fun w4 hw4 => (fields4 s f (f1 1) o.length (ucells o) (List.replicate (16 - o.length) (.int .u8 0)) (16 - o.length) w4 (by omega) hf (by rw [show fCells (ucells o) [] (List.replicate (16 - o.length) (.int .u8 0)) = rowF (outF o) from (row_out o hol).symm]; exact hw4.blk (j := 1) (b := f1 1) (o := .cells ⟨rowF (outF o)⟩ 167 (0, 0)) (q := true) (by kernel_rfl)) (by simp [ucells]) (by rw [List.length_replicate]; omega)).mono fun e w1 ⟨v, h1, h2, h3, h4, h5⟩ => ⟨v, h1, h2.grown1, h3, h5, by rw [h4, row_four o f ho12 h5]⟩)
              (fun w hw i x hx => nums_all (Q := fun n => some n ≠ some (f1 1)) (l := [some (f1 0), none]) (by kernel_rfl) ⟨fun e => (hw.tr.ne 0 1 ⟨f1 0, .cells ⟨rowF (outF [])⟩ 167 (0, 0), true⟩ ⟨f1 1, .cells ⟨rowF (outF o)⟩ 167 (0, 0), true⟩ (by kernel_rfl) (by kernel_rfl) (by decide)) (Option.some.inj e), trivial⟩ i x hx) (fun w9 _ q hq => .inl (by cases hq; exact l1 1)) (fun w _ => held0S (by kernel_rfl)) (fun w4 v4 w5 hw4 hg4 hΦ => ?_)
            obtain ⟨rfl, hf4, hrow⟩ := hΦ
            have hne01 : f1 0 ≠ f1 1 := (hw4.tr.ne 0 1 ⟨f1 0, .cells ⟨rowF (outF [])⟩ 167 (0, 0), true⟩ ⟨f1 1, .cells ⟨rowF (outF o)⟩ 167 (0, 0), true⟩ (by kernel_rfl) (by kernel_rfl) (by decide))
            refine To.withAt (f1 1) (.cells ⟨rowF (outF (o ++ f))⟩ 167 (0, 0)) true hrow (nums_all (Q := fun n => n ≠ f1 1) (l := [some (f1 0), none]) (by kernel_rfl) ⟨hne01, trivial⟩) (fun _ => .inl (l1 1)) ?_
            refine To.runF 5 [] (fun _ _ => by kernel_rfl) fun f12 g12 l12 => ?_
            exact join4 _ _ () [0, 2] ⟨by kernel_rfl, by kernel_rfl, by kernel_rfl, by kernel_rfl, by kernel_rfl, rfl⟩ (fun _ _ => hf4)
          | some k =>
            refine To.slotF 71 (decide (eI (some k) < 0)) (by kernel_rfl) (decide_eq_false (by show ¬ Int.ofNat k < 0; simp only [Int.ofNat_eq_natCast]; omega)) ?_
            refine To.runF 9 [] (fun _ _ => by kernel_rfl) fun f9 g9 l9 => ?_
            have hw4 : IntKind.i64.wrap (Int.ofNat o.length + 4) = Int.ofNat (o.length + 4) := by
              rw [IntWalk.i64_in _ ⟨by simp only [Int.ofNat_eq_natCast]; omega, by simp only [Int.ofNat_eq_natCast]; omega⟩]; rfl
            refine To.slotF 80 (decide (IntKind.i64.wrap (Int.ofNat o.length + 4) > 16)) (by kernel_rfl) (decide_eq_false (by rw [hw4]; simp only [Int.ofNat_eq_natCast]; omega)) ?_
            refine To.runF 4 [] (fun _ _ => by kernel_rfl) fun f10 g10 l10 => ?_
            refine To.slotE 84 (.int .i64 (IntKind.i64.wrap (Int.ofNat o.length + 4))) (.int .i64 (Int.ofNat (o.length + 4))) (by kernel_rfl) (by rw [hw4]) ?_
            refine To.lawV (Instr.sliceAt 167 (.pointer (some ⟨f1 1, 0, none⟩)) (some (.int .i64 (Int.ofNat o.length))) (some (.int .i64 (Int.ofNat (o.length + 4)))) none) (.slice (some ⟨f1 1, o.length, none⟩) 4 (16 - o.length)) (by kernel_rfl) (fun w _ => sl16 (f1 1) o.length ho12 w) ?_
            refine To.callGC 263 #[.string ⟨⟨s⟩⟩, .slice (some ⟨f1 1, o.length, none⟩) 4 (16 - o.length)] (some (f1 1)) (some 1) (Φ := fun _ v w1 => v = .bool true ∧ f.length = 4 ∧ w1.heap[f1 1]? = some (.cells ⟨rowF (outF (o ++ f))⟩ 167 (0, 0))) (by kernel_rfl) (fun _ => by kernel_rfl)
              (fun w4 hw4 => (fields4 s f (f1 1) o.length (ucells o) (List.replicate (16 - o.length) (.int .u8 0)) (16 - o.length) w4 (by omega) hf (by rw [show fCells (ucells o) [] (List.replicate (16 - o.length) (.int .u8 0)) = rowF (outF o) from (row_out o hol).symm]; exact hw4.blk (j := 1) (b := f1 1) (o := .cells ⟨rowF (outF o)⟩ 167 (0, 0)) (q := true) (by kernel_rfl)) (by simp [ucells]) (by rw [List.length_replicate]; omega)).mono fun e w1 ⟨v, h1, h2, h3, h4, h5⟩ => ⟨v, h1, h2.grown1, h3, h5, by rw [h4, row_four o f ho12 h5]⟩)
              (fun w hw i x hx => nums_all (Q := fun n => some n ≠ some (f1 1)) (l := [some (f1 0), none]) (by kernel_rfl) ⟨fun e => (hw.tr.ne 0 1 ⟨f1 0, .cells ⟨rowF (outF [])⟩ 167 (0, 0), true⟩ ⟨f1 1, .cells ⟨rowF (outF o)⟩ 167 (0, 0), true⟩ (by kernel_rfl) (by kernel_rfl) (by decide)) (Option.some.inj e), trivial⟩ i x hx) (fun w9 _ q hq => .inl (by cases hq; exact l1 1)) (fun w _ => held0S (by kernel_rfl)) (fun w4 v4 w5 hw4 hg4 hΦ => ?_)
            obtain ⟨rfl, hf4, hrow⟩ := hΦ
            have hne01 : f1 0 ≠ f1 1 := (hw4.tr.ne 0 1 ⟨f1 0, .cells ⟨rowF (outF [])⟩ 167 (0, 0), true⟩ ⟨f1 1, .cells ⟨rowF (outF o)⟩ 167 (0, 0), true⟩ (by kernel_rfl) (by kernel_rfl) (by decide))
            refine To.withAt (f1 1) (.cells ⟨rowF (outF (o ++ f))⟩ 167 (0, 0)) true hrow (nums_all (Q := fun n => n ≠ f1 1) (l := [some (f1 0), none]) (by kernel_rfl) ⟨hne01, trivial⟩) (fun _ => .inl (l1 1)) ?_
            refine To.runF 5 [] (fun _ _ => by kernel_rfl) fun f11 g11 l11 => ?_
            exact join4 _ _ () [0, 2] ⟨by kernel_rfl, by kernel_rfl, by kernel_rfl, by kernel_rfl, by kernel_rfl, rfl⟩ (fun _ _ => hf4)
        refine To.runF 11 [] (fun _ _ => by kernel_rfl) fun f9 g9 l9 => ?_
        have hw4 : IntKind.i64.wrap (Int.ofNat o.length + 4) = Int.ofNat (o ++ f).length := by
          rw [IntWalk.i64_in _ ⟨by simp only [Int.ofNat_eq_natCast]; omega, by simp only [Int.ofNat_eq_natCast]; omega⟩, List.length_append, hm20]; rfl
        refine To.slotE 6 (.int .i64 (IntKind.i64.wrap (Int.ofNat o.length + 4))) (.int .i64 (Int.ofNat (o ++ f).length)) (by kernel_rfl) (by rw [hw4]) ?_
        exact join _ _ () [0, 1] ⟨by kernel_rfl, by kernel_rfl, by kernel_rfl, by kernel_rfl, by kernel_rfl, rfl⟩ (fun _ _ => ⟨by rw [List.length_append]; omega, fun k hk => by have := hek k hk; rw [List.length_append]; omega⟩)
      refine To.meet 2 (ι := Unit) (fun _ => ([(0, .string ⟨⟨s⟩⟩), (2, .pointer (some ⟨f1 0, 0, none⟩)), (3, .bool false), (4, .pointer (some ⟨f1 1, 0, none⟩)), (5, .int .i64 (eI e)), (6, .int .i64 (Int.ofNat o.length)), (7, .int .i64 (Int.ofNat O)), (8, .int .i64 (Int.ofNat A))], [some ⟨f1 0, .cells ⟨rowF (outF [])⟩ 167 (0, 0), true⟩, some ⟨f1 1, .cells ⟨rowF (outF o)⟩ 167 (0, 0), true⟩])) (fun _ _ => True) (fun join3 => ?_) (fun _ w18 hm18 hx18 => ?_)
      · by_cases hOs : O < s.length
        · have hc58 : s[O] = 58 := by
            have hdr : s.drop O = s[O] :: s.drop (O + 1) := List.drop_eq_getElem_cons hOs
            rw [hdr] at hnext
            rcases hnext with ⟨h, _⟩ | ⟨h, _⟩ | ⟨_, _, h, _⟩ | ⟨_, _, h, _⟩
            · cases h
            · exact (List.cons.inj h).1
            · exact (List.cons.inj h).1
            · exact (List.cons.inj h).1
          refine To.slotT 63 (decide (Int.ofNat O < Int.ofNat (ByteArray.mk ⟨s⟩).size)) (by kernel_rfl) (decide_eq_true (Int.ofNat_lt.2 hOs)) ?_
          refine To.runF 2 [] (fun _ _ => by kernel_rfl) fun f7 g7 l7 => ?_
          refine To.indexStr uStr ⟨⟨s⟩⟩ O hOs (by kernel_rfl) ?_
          have hcs : Int.ofNat (UInt8.toNat ((ByteArray.mk ⟨s⟩)[O]'hOs)) = 58 := by show Int.ofNat (s[O]).toNat = 58; rw [hc58]; rfl
          refine To.slotE 66 (.int .u8 (Int.ofNat (UInt8.toNat ((ByteArray.mk ⟨s⟩)[O]'hOs)))) (.int .u8 58) (by kernel_rfl) (by rw [hcs]) ?_
          refine To.runF 5 [] (fun _ _ => by kernel_rfl) fun f8 g8 l8 => ?_
          exact join3 _ _ () [0, 1] ⟨by kernel_rfl, by kernel_rfl, by kernel_rfl, by kernel_rfl, by kernel_rfl, rfl⟩ (fun _ _ => trivial)
        · refine To.slotF 63 (decide (Int.ofNat O < Int.ofNat (ByteArray.mk ⟨s⟩).size)) (by kernel_rfl) (decide_eq_false (fun h => hOs (Int.ofNat_lt.1 h))) ?_
          refine To.runF 8 [] (fun _ _ => by kernel_rfl) fun f7 g7 l7 => ?_
          exact join3 _ _ () [0, 1] ⟨by kernel_rfl, by kernel_rfl, by kernel_rfl, by kernel_rfl, by kernel_rfl, rfl⟩ (fun _ _ => trivial)
      refine To.runF 10 [] (fun _ _ => by kernel_rfl) fun f7 g7 l7 => ?_
      have hA1 : IntKind.u8.wrap (Int.fdiv (Int.ofNat A) (2 ^ min (Int.toNat 8) IntKind.i64.bits)) = Int.ofNat (UInt8.ofNat (A / 256)).toNat := by
        rw [show (2 : Int) ^ min (Int.toNat 8) IntKind.i64.bits = 256 from rfl, show Int.fdiv (Int.ofNat A) 256 = Int.ofNat (A / 256) from by rw [Int.fdiv_eq_ediv_of_nonneg _ (by decide)]; rfl, IntWalk.u8_in _ ⟨by simp only [Int.ofNat_eq_natCast]; omega, by simp only [Int.ofNat_eq_natCast]; omega⟩]
        have : (UInt8.ofNat (A / 256)).toNat = A / 256 := by simp [UInt8.toNat_ofNat']; omega
        rw [this]
      have hA2 : IntKind.u8.wrap (Int.ofNat A) = Int.ofNat (UInt8.ofNat A).toNat := by
        rw [UInt8.toNat_ofNat']
        rw [IntKind.wrap_u8]
        simp only [Int.ofNat_eq_natCast]
        omega
      refine To.slotE 94 (.int .i64 (IntKind.i64.wrap (Int.ofNat o.length + 1))) (.int .i64 (Int.ofNat (o.length + 1))) (by kernel_rfl) (by rw [wrap_succ o.length (by omega)]) ?_
      refine To.slotE 97 (.int .u8 (IntKind.u8.wrap (Int.fdiv (Int.ofNat A) (2 ^ min (Int.toNat 8) IntKind.i64.bits)))) (.int .u8 (Int.ofNat (UInt8.ofNat (A / 256)).toNat)) (by kernel_rfl) (by rw [hA1]) ?_
      refine To.slotE 99 (.int .u8 (IntKind.u8.wrap (Int.ofNat A))) (.int .u8 (Int.ofNat (UInt8.ofNat A).toNat)) (by kernel_rfl) (by rw [hA2]) ?_
      refine To.indexArr elA ⟨f1 1, 0, none⟩ o.length (by kernel_rfl) (by omega) ?_
      refine To.storeOne 1 (t := 5) (e := 167) (by kernel_rfl) (f1 1) o.length (rowF (outF o)) (rowF fun k => if k = o.length then UInt8.ofNat (A / 256) else outF o k) (.int .u8 (Int.ofNat (UInt8.ofNat (A / 256)).toNat)) (by kernel_rfl) (by kernel_rfl) (by rw [rowF_len]; omega) (rowF_set _ _ _ (by omega)).symm rfl rfl (held0 (by kernel_rfl)) ?_
      refine To.indexArr elA ⟨f1 1, 0, none⟩ (o.length + 1) (by kernel_rfl) (by omega) ?_
      refine To.storeOne 1 (t := 5) (e := 167) (by kernel_rfl) (f1 1) (o.length + 1) (rowF fun k => if k = o.length then UInt8.ofNat (A / 256) else outF o k) (rowF (outF (o ++ [UInt8.ofNat (A / 256), UInt8.ofNat A]))) (.int .u8 (Int.ofNat (UInt8.ofNat A).toNat)) (by kernel_rfl) (by kernel_rfl) (by rw [rowF_len]; omega) (by rw [rowF_set _ _ _ (by omega)]; exact (row_two o _ _).symm) rfl rfl (held0 (by kernel_rfl)) ?_
      refine To.runF 11 [] (fun _ _ => by kernel_rfl) fun f8 g8 l8 => ?_
      have hw2 : IntKind.i64.wrap (Int.ofNat o.length + 2) = Int.ofNat (o.length + 2) := by
        rw [IntWalk.i64_in _ ⟨by simp only [Int.ofNat_eq_natCast]; omega, by simp only [Int.ofNat_eq_natCast]; omega⟩]; rfl
      obtain ⟨o2, ho2⟩ : ∃ o2, o2 = o ++ [UInt8.ofNat (A / 256), UInt8.ofNat A] := ⟨_, rfl⟩
      have ho2l : o2.length = o.length + 2 := by rw [ho2, List.length_append]; rfl
      refine To.slotE 6 (.int .i64 (IntKind.i64.wrap (Int.ofNat o.length + 2))) (.int .i64 (Int.ofNat o2.length)) (by kernel_rfl) (by rw [hw2, ho2l]) ?_
      rw [← ho2] at hnext ⊢
      refine To.sliceStrFrom (t := 9) uStr ⟨⟨s⟩⟩ O hOl (by kernel_rfl) ?_
      refine To.slotE 106 (.string ((ByteArray.mk ⟨s⟩).extract O (ByteArray.mk ⟨s⟩).size)) (.string ⟨⟨s.drop O⟩⟩) (by kernel_rfl) (by rw [exB, show (ByteArray.mk ⟨s⟩).size = s.length from rfl, List.take_length]) ?_
      have hltd : ∀ c ∈ s.drop O, c ∈ sixLetters := fun c hc => hlt c (List.mem_of_mem_drop hc)
      have hdl : (s.drop O).length < s.length := by rw [List.length_drop]; omega
      obtain ⟨d, hd⟩ : ∃ d, d = s.drop O := ⟨_, rfl⟩
      rw [← hd] at hnext hltd hdl ⊢
      refine To.runF 9 [] (fun _ _ => by kernel_rfl) fun f9 g9 l9 => ?_
      rcases hnext with ⟨hd0, rfl, rfl⟩ | ⟨hd1, rfl, rfl, rfl⟩ | ⟨c, r, hd2, rfl, ho12, hR2⟩ | ⟨c, r, hd3, hc58, ho12, hR2⟩
      · subst hd0
        refine To.testT (((ByteArray.mk ⟨[]⟩).size : Int) == 0) (by kernel_rfl) rfl ?_
        refine To.runF 1 [] (fun _ _ => by kernel_rfl) fun f10 g10 l10 => ?_
        exact join _ _ () [0, 1] ⟨by kernel_rfl, by kernel_rfl, by kernel_rfl, by kernel_rfl, by kernel_rfl, rfl⟩ (fun _ _ => ⟨by omega, fun k hk => by have := hek k hk; omega⟩)
      · subst hd1
        refine To.testF (((ByteArray.mk ⟨[58, 58]⟩).size : Int) == 0) (by kernel_rfl) rfl ?_
        refine To.runF 55 [] (fun _ _ => by kernel_rfl) fun f10 g10 l10 => ?_
        refine To.slotE 5 (.int .i64 (Int.ofNat o1.length)) (.int .i64 (eI (some (o.length + 2)))) (by kernel_rfl) (by rw [ho2l]; rfl) ?_
        exact join _ _ () [0, 1] ⟨by kernel_rfl, by kernel_rfl, by kernel_rfl, by kernel_rfl, by kernel_rfl, rfl⟩ (fun _ _ => ⟨by omega, fun k hk => by cases hk; omega⟩)
      · subst hd2
        refine To.testF (((ByteArray.mk ⟨58 :: 58 :: c :: r⟩).size : Int) == 0) (by kernel_rfl) rfl ?_
        refine To.runF 18 [] (fun _ _ => by kernel_rfl) fun f10 g10 l10 => ?_
        refine To.sliceStrFrom (t := 9) uStr ⟨⟨58 :: 58 :: c :: r⟩⟩ 1 (by show 1 ≤ (58 :: 58 :: c :: r).length; simp only [List.length_cons]; omega) (by kernel_rfl) ?_
        refine To.slotE 120 (.string ((ByteArray.mk ⟨58 :: 58 :: c :: r⟩).extract 1 (ByteArray.mk ⟨58 :: 58 :: c :: r⟩).size)) (.string ⟨⟨58 :: c :: r⟩⟩) (by kernel_rfl) (by rw [exB, show (ByteArray.mk ⟨58 :: 58 :: c :: r⟩).size = (58 :: 58 :: c :: r).length from rfl, List.take_length]; rfl) ?_
        refine To.runF 25 [] (fun _ _ => by kernel_rfl) fun f11 g11 l11 => ?_
        refine To.sliceStrFrom (t := 9) uStr ⟨⟨58 :: c :: r⟩⟩ 1 (by show 1 ≤ (58 :: c :: r).length; simp only [List.length_cons]; omega) (by kernel_rfl) ?_
        refine To.slotE 129 (.string ((ByteArray.mk ⟨58 :: c :: r⟩).extract 1 (ByteArray.mk ⟨58 :: c :: r⟩).size)) (.string ⟨⟨c :: r⟩⟩) (by kernel_rfl) (by rw [exB, show (ByteArray.mk ⟨58 :: c :: r⟩).size = (58 :: c :: r).length from rfl, List.take_length]; rfl) ?_
        refine To.runF 11 [] (fun _ _ => by kernel_rfl) fun f12 g12 l12 => ?_
        refine To.slotE 5 (.int .i64 (Int.ofNat o2.length)) (.int .i64 (eI (some (o.length + 2)))) (by kernel_rfl) (by rw [ho2l]; rfl) ?_
        exact back _ _ (c :: r, some (o.length + 2), o2) [0, 1] (by simp only [List.length_cons] at hdl ⊢; omega) ⟨by kernel_rfl, by kernel_rfl, by kernel_rfl, by kernel_rfl, by kernel_rfl, rfl⟩ (fun w7 hw7 => ⟨hR2, by simp only [List.length_cons] at hdl ⊢; omega, fun x hx => hltd x (List.mem_cons_of_mem _ (List.mem_cons_of_mem _ hx)), by show o2.length ≤ 16; omega, fun k hk => by cases hk; show o.length + 2 ≤ o2.length; omega⟩)
      · subst hd3
        refine To.testF (((ByteArray.mk ⟨58 :: c :: r⟩).size : Int) == 0) (by kernel_rfl) rfl ?_
        refine To.runF 18 [] (fun _ _ => by kernel_rfl) fun f10 g10 l10 => ?_
        refine To.sliceStrFrom (t := 9) uStr ⟨⟨58 :: c :: r⟩⟩ 1 (by show 1 ≤ (58 :: c :: r).length; simp only [List.length_cons]; omega) (by kernel_rfl) ?_
        refine To.slotE 120 (.string ((ByteArray.mk ⟨58 :: c :: r⟩).extract 1 (ByteArray.mk ⟨58 :: c :: r⟩).size)) (.string ⟨⟨c :: r⟩⟩) (by kernel_rfl) (by rw [exB, show (ByteArray.mk ⟨58 :: c :: r⟩).size = (58 :: c :: r).length from rfl, List.take_length]; rfl) ?_
        refine To.runF 8 [] (fun _ _ => by kernel_rfl) fun f11 g11 l11 => ?_
        refine To.testF (((c.toNat : Nat) : Int) == 58) (by kernel_rfl) (beq_eq_false_iff_ne.2 fun e => hc58 (UInt8.toNat_inj.1 (Int.ofNat.inj e))) ?_
        refine To.runF 2 [] (fun _ _ => by kernel_rfl) fun f12 g12 l12 => ?_
        exact back _ _ (c :: r, e, o2) [0, 1] (by simp only [List.length_cons] at hdl ⊢; omega) ⟨by kernel_rfl, by kernel_rfl, by kernel_rfl, by kernel_rfl, by kernel_rfl, rfl⟩ (fun w7 hw7 => ⟨hR2, by simp only [List.length_cons] at hdl ⊢; omega, fun x hx => hltd x (List.mem_cons_of_mem _ hx), by show o2.length ≤ 16; omega, fun k hk => by have := hek k hk; show k ≤ o2.length; omega⟩)
    · obtain ⟨ho16, hek⟩ := hm14
      refine To.runF 15 [] (fun _ _ => by kernel_rfl) fun f3 g3 l3 => ?_
      by_cases h16 : o1.length < 16
      · refine To.testT (decide (Int.ofNat o1.length < 16)) (by kernel_rfl) (decide_eq_true (by simp only [Int.ofNat_eq_natCast]; omega)) ?_
        refine To.runF 6 [] (fun _ _ => by kernel_rfl) fun f4 g4 l4 => ?_
        rcases hfin with ⟨_, _, h⟩ | ⟨k, rfl, _, hres⟩
        · exact absurd h (by omega)
        have hk : k ≤ o1.length := hek k rfl
        refine To.testF (decide (eI (some k) < 0)) (by kernel_rfl) (decide_eq_false (by show ¬ Int.ofNat k < 0; simp only [Int.ofNat_eq_natCast]; omega)) ?_
        refine To.runF 15 [] (fun _ _ => by kernel_rfl) fun f5 g5 l5 => ?_
        obtain ⟨n, hn⟩ : ∃ n, n = 16 - o1.length := ⟨_, rfl⟩
        have hwn : IntKind.i64.wrap (16 - Int.ofNat o1.length) = Int.ofNat n := by
          rw [IntWalk.i64_in _ ⟨by simp only [Int.ofNat_eq_natCast]; omega, by simp only [Int.ofNat_eq_natCast]; omega⟩]; simp only [Int.ofNat_eq_natCast]; omega
        have hwj : ∀ m, m ≤ 16 → IntKind.i64.wrap (Int.ofNat m - 1) = Int.ofNat m - 1 := fun m hm => IntWalk.i64_in _ ⟨by simp only [Int.ofNat_eq_natCast]; omega, by simp only [Int.ofNat_eq_natCast]; omega⟩
        refine To.slotE 9 (.int .i64 (IntKind.i64.wrap (16 - Int.ofNat o1.length))) (.int .i64 (Int.ofNat n)) (by kernel_rfl) (by rw [hwn]) ?_
        refine To.slotE 10 (.int .i64 (IntKind.i64.wrap (Int.ofNat o1.length - 1))) (.int .i64 (Int.ofNat o1.length - 1)) (by kernel_rfl) (by rw [hwj _ (by omega)]) ?_
        refine To.meet 2 (ι := Unit) (fun _ => ([(2, .pointer (some ⟨f1 0, 0, none⟩)), (3, .bool false), (4, .pointer (some ⟨f1 1, 0, none⟩)), (5, .int .i64 (Int.ofNat k)), (9, .int .i64 (Int.ofNat n))], [some ⟨f1 0, .cells ⟨rowF (outF [])⟩ 167 (0, 0), true⟩, some ⟨f1 1, .cells ⟨rowF (movF o1 n o1.length (o1.length - k))⟩ 167 (0, 0), true⟩])) (fun _ _ => True) (fun join6 => ?_) (fun _ w24 _ hx24 => ?_)
        · refine To.loop (ι := Nat) (fun c => o1.length - c) (fun c => ([(2, .pointer (some ⟨f1 0, 0, none⟩)), (3, .bool false), (4, .pointer (some ⟨f1 1, 0, none⟩)), (5, .int .i64 (Int.ofNat k)), (9, .int .i64 (Int.ofNat n)), (10, .int .i64 (Int.ofNat (o1.length - c) - 1))], [some ⟨f1 0, .cells ⟨rowF (outF [])⟩ 167 (0, 0), true⟩, some ⟨f1 1, .cells ⟨rowF (movF o1 n o1.length c)⟩ 167 (0, 0), true⟩])) (fun c _ => c + k ≤ o1.length) 0 [0, 1] (by kernel_rfl) (by kernel_rfl) (by kernel_rfl) rfl (fun _ _ => by omega) ?_
          intro c w1 hck hx1 back6
          have hck : c + k ≤ o1.length := hck
          obtain ⟨m, hm⟩ : ∃ m, m = o1.length - c := ⟨_, rfl⟩
          refine To.runF 7 [] (fun _ _ => by kernel_rfl) fun f6 g6 l6 => ?_
          by_cases hlt6 : c + k < o1.length
          · refine To.testT (decide (Int.ofNat (o1.length - c) - 1 ≥ Int.ofNat k)) (by kernel_rfl) (decide_eq_true (by simp only [Int.ofNat_eq_natCast]; omega)) ?_
            have e1 : Int.ofNat (o1.length - c) - 1 = Int.ofNat (o1.length - (c + 1)) := by simp only [Int.ofNat_eq_natCast]; omega
            have e2 : IntKind.i64.wrap (Int.ofNat (o1.length - c) - 1 + Int.ofNat n) = Int.ofNat (o1.length - (c + 1) + n) := by
              rw [IntWalk.i64_in _ ⟨by simp only [Int.ofNat_eq_natCast]; omega, by simp only [Int.ofNat_eq_natCast]; omega⟩]; simp only [Int.ofNat_eq_natCast]; omega
            refine To.runF 8 [] (fun _ _ => by kernel_rfl) fun f7 g7 l7 => ?_
            refine To.slotE 153 (.int .i64 (IntKind.i64.wrap (Int.ofNat (o1.length - c) - 1 + Int.ofNat n))) (.int .i64 (Int.ofNat (o1.length - (c + 1) + n))) (by kernel_rfl) (by rw [e2]) ?_
            refine To.slotE 154 (.int .i64 (Int.ofNat (o1.length - c) - 1)) (.int .i64 (Int.ofNat (o1.length - (c + 1)))) (by kernel_rfl) (by rw [e1]) ?_
            refine To.indexArr elA ⟨f1 1, 0, none⟩ (o1.length - (c + 1)) (by kernel_rfl) (by omega) ?_
            refine To.loadOne uU8 rfl ((⟨f1 1, 0, none⟩ : Addr).add ((o1.length - (c + 1)) * 1)) (.int .u8 (Int.ofNat (outF o1 (o1.length - (c + 1))).toNat)) (by kernel_rfl) (fun w2 hw2 => by
              rw [Nat.mul_one]
              refine hw2.cellAt0 (j := 1) (b := f1 1) (l := rowF (movF o1 n o1.length c)) (e := 167) (f := (0, 0)) (q := true) (by kernel_rfl) ?_
              rw [rowF_get _ _ (by omega), movF_is _ _ _ _ (by omega), if_neg (by omega)]) ?_
            refine To.indexArr elA ⟨f1 1, 0, none⟩ (o1.length - (c + 1) + n) (by kernel_rfl) (by omega) ?_
            refine To.storeOne 1 (t := 5) (e := 167) (by kernel_rfl) (f1 1) (o1.length - (c + 1) + n) (rowF (movF o1 n o1.length c)) (rowF (movF o1 n o1.length (c + 1))) (.int .u8 (Int.ofNat (outF o1 (o1.length - (c + 1))).toNat)) (by kernel_rfl) (by kernel_rfl) (by rw [rowF_len]; omega) (rowF_set _ _ _ (by omega)).symm rfl rfl (held0 (by kernel_rfl)) ?_
            refine To.runF 7 [] (fun _ _ => by kernel_rfl) fun f8 g8 l8 => ?_
            have e3 : IntKind.i64.wrap (Int.ofNat (o1.length - c) - 1 - 1) = Int.ofNat (o1.length - (c + 1)) - 1 := by
              rw [IntWalk.i64_in _ ⟨by simp only [Int.ofNat_eq_natCast]; omega, by simp only [Int.ofNat_eq_natCast]; omega⟩]; simp only [Int.ofNat_eq_natCast]; omega
            refine To.slotE 10 (.int .i64 (IntKind.i64.wrap (Int.ofNat (o1.length - c) - 1 - 1))) (.int .i64 (Int.ofNat (o1.length - (c + 1)) - 1)) (by kernel_rfl) (by rw [e3]) ?_
            exact back6 _ _ (c + 1) [0, 1] (by omega) ⟨by kernel_rfl, by kernel_rfl, by kernel_rfl, by kernel_rfl, by kernel_rfl, rfl⟩ (fun w7 hw7 => by show c + 1 + k ≤ o1.length; omega)
          · have : c = o1.length - k := by omega
            subst this
            refine To.testF (decide (Int.ofNat (o1.length - (o1.length - k)) - 1 ≥ Int.ofNat k)) (by kernel_rfl) (decide_eq_false (by simp only [Int.ofNat_eq_natCast]; omega)) ?_
            refine To.runF 1 [] (fun _ _ => by kernel_rfl) fun f7 g7 l7 => ?_
            exact join6 _ _ () [0, 1] ⟨by kernel_rfl, by kernel_rfl, by kernel_rfl, by kernel_rfl, by kernel_rfl, rfl⟩ (fun _ _ => trivial)
        refine To.runF 6 [] (fun _ _ => by kernel_rfl) fun f6 g6 l6 => ?_
        refine To.loop (ι := Nat) (fun c => n - c) (fun c => ([(2, .pointer (some ⟨f1 0, 0, none⟩)), (3, .bool false), (4, .pointer (some ⟨f1 1, 0, none⟩)), (5, .int .i64 (Int.ofNat k)), (9, .int .i64 (Int.ofNat n)), (11, .int .i64 (Int.ofNat (k + c)))], [some ⟨f1 0, .cells ⟨rowF (outF [])⟩ 167 (0, 0), true⟩, some ⟨f1 1, .cells ⟨rowF (fillF o1 n o1.length k c)⟩ 167 (0, 0), true⟩])) (fun c _ => c ≤ n) 0 [0, 1] (by kernel_rfl) (by kernel_rfl) (by kernel_rfl) rfl (fun _ _ => Nat.zero_le _) ?_
        intro c w1 hcn hx1 back7
        have hcn : c ≤ n := hcn
        refine To.runF 9 [] (fun _ _ => by kernel_rfl) fun f7 g7 l7 => ?_
        have e4 : IntKind.i64.wrap (Int.ofNat k + Int.ofNat n) = Int.ofNat (k + n) := by
          rw [IntWalk.i64_in _ ⟨by simp only [Int.ofNat_eq_natCast]; omega, by simp only [Int.ofNat_eq_natCast]; omega⟩]; simp only [Int.ofNat_eq_natCast]; omega
        by_cases hlt7 : c < n
        · refine To.testT (decide (Int.ofNat (k + c) < IntKind.i64.wrap (Int.ofNat k + Int.ofNat n))) (by kernel_rfl) (decide_eq_true (by rw [e4]; simp only [Int.ofNat_eq_natCast]; omega)) ?_
          refine To.runF 5 [] (fun _ _ => by kernel_rfl) fun f8 g8 l8 => ?_
          refine To.indexArr elA ⟨f1 1, 0, none⟩ (k + c) (by kernel_rfl) (by omega) ?_
          refine To.storeOne 1 (t := 5) (e := 167) (by kernel_rfl) (f1 1) (k + c) (rowF (fillF o1 n o1.length k c)) (rowF (fillF o1 n o1.length k (c + 1))) (.int .u8 (Int.ofNat (0 : UInt8).toNat)) (by kernel_rfl) (by kernel_rfl) (by rw [rowF_len]; omega) (rowF_set _ _ _ (by omega)).symm rfl rfl (held0 (by kernel_rfl)) ?_
          refine To.runF 7 [] (fun _ _ => by kernel_rfl) fun f9 g9 l9 => ?_
          refine To.slotE 11 (.int .i64 (IntKind.i64.wrap (Int.ofNat (k + c) + 1))) (.int .i64 (Int.ofNat (k + (c + 1)))) (by kernel_rfl) (by rw [wrap_succ (k + c) (by omega), Nat.add_assoc]) ?_
          exact back7 _ _ (c + 1) [0, 1] (by omega) ⟨by kernel_rfl, by kernel_rfl, by kernel_rfl, by kernel_rfl, by kernel_rfl, rfl⟩ (fun w7 hw7 => hlt7)
        · have : c = n := by omega
          subst this
          refine To.testF (decide (Int.ofNat (k + c) < IntKind.i64.wrap (Int.ofNat k + Int.ofNat c))) (by kernel_rfl) (decide_eq_false (by rw [e4]; simp only [Int.ofNat_eq_natCast]; omega)) ?_
          refine To.runF 7 [1, 1, 1, 1, 1, 1, 1, 1, 1, 1, 1, 1, 1, 1, 1, 1, 0, 0, 0, 0, 0, 0, 0, 0, 0, 0, 0, 0, 0, 0, 0, 0] (fun _ _ => by kernel_rfl) fun f8 g8 l8 => ?_
          exact To.ret [0, 0, 0, 0, 0, 0, 0, 0, 0, 0, 0, 0, 0, 0, 0, 0] (.tuple #[.agg ⟨rowF (fillF o1 c o1.length k c)⟩, .bool true]) (by kernel_rfl) (by kernel_rfl) fun w8 hw8 => ⟨_, rfl, hw8.ext, by rw [hn, fin_row o1 k hk h16, ← hres]⟩
      · refine To.testF (decide (Int.ofNat o1.length < 16)) (by kernel_rfl) (decide_eq_false (by simp only [Int.ofNat_eq_natCast]; omega)) ?_
        refine To.runF 5 [] (fun _ _ => by kernel_rfl) fun f4 g4 l4 => ?_
        rcases hfin with ⟨rfl, hres, h⟩ | ⟨k, _, h, _⟩
        · refine To.testF (decide (eI none ≥ 0)) (by kernel_rfl) (by decide) ?_
          refine To.runF 7 [1, 1, 1, 1, 1, 1, 1, 1, 1, 1, 1, 1, 1, 1, 1, 1, 0, 0, 0, 0, 0, 0, 0, 0, 0, 0, 0, 0, 0, 0, 0, 0] (fun _ _ => by kernel_rfl) fun f5 g5 l5 => ?_
          exact To.ret [0, 0, 0, 0, 0, 0, 0, 0, 0, 0, 0, 0, 0, 0, 0, 0] (.tuple #[.agg ⟨rowF (outF o1)⟩, .bool true]) (by kernel_rfl) (by kernel_rfl) fun w8 hw8 => ⟨_, rfl, hw8.ext, by rw [← hres, rowF_list h fun k hk => by unfold outF; rw [List.getD_eq_getElem?_getD, List.getElem?_eq_getElem (by omega)]; rfl]⟩
        · exact absurd h h16
end Go.Proofs.YtgodhbgnhapemaaGreatDoor
/- Plain: the text of 16 bytes is read as those bytes. Conditions: as each says. -/
namespace Go.Proofs.YtgodhbgnhapemaaGreatDoor
open Go Go.SX Go.IpText
set_option maxHeartbeats 8000000
set_option maxRecDepth 100000
theorem digI_hex : ∀ d, d < 16 → digI (Go.IpText.hexDigit d) = (d : Int) ∧ Go.IpText.hexDigit d ≠ 58 ∧ Go.IpText.hexDigit d ∈ sixLetters := by decide +kernel
theorem hexGo_hex (n : Nat) : n ≤ 65535 → ∀ r, (∀ c ∈ r.head?, digI c < 0) → hexGo (hexOf n ++ r) 0 0 = some (n, (hexOf n).length) := by
  have key : ∀ n, n ≤ 65535 → ∀ r, hexGo (hexOf n ++ r) 0 0 = hexGo r n (hexOf n).length := by
    intro n
    induction n using Nat.strongRecOn with
    | ind n ih =>
      intro hn r
      rw [hexOf_eq]
      by_cases h : n < 16
      · rw [if_pos h, List.singleton_append, hexGo, (digI_hex n h).1, if_pos (Int.natCast_nonneg n), if_neg (by omega)]
        show hexGo r (0 * 16 + n) (0 + 1) = hexGo r n 1
        rw [Nat.zero_mul, Nat.zero_add]
      · rw [if_neg h, List.append_assoc, ih (n / 16) (by omega) (by omega), List.singleton_append, hexGo, (digI_hex (n % 16) (Nat.mod_lt _ (by decide))).1, if_pos (Int.natCast_nonneg _)]
        have hl := hexOf_length 2 (n / 16) (by show n / 16 < 4096; omega)
        rw [if_neg (by omega), List.length_append]
        show hexGo r (n / 16 * 16 + n % 16) _ = _
        rw [show n / 16 * 16 + n % 16 = n by omega]; rfl
  intro hn r hr
  rw [key n hn]
  cases r with
  | nil => rfl
  | cons c r => rw [hexGo, if_neg (by have := hr c (by simp); omega)]
theorem hexOf_first (n : Nat) : ∃ c r, hexOf n = c :: r ∧ c ≠ 58 := by
  induction n using Nat.strongRecOn with
  | ind n ih =>
    rw [hexOf_eq]
    by_cases h : n < 16
    · rw [if_pos h]; exact ⟨_, _, rfl, (digI_hex n h).2.1⟩
    · rw [if_neg h]
      obtain ⟨c, r, h1, h2⟩ := ih (n / 16) (by omega)
      exact ⟨c, r ++ [Go.IpText.hexDigit (n % 16)], by rw [h1]; rfl, h2⟩
section
variable (g : Nat → Nat) (fr tu : Nat)
def tailT (n i : Nat) : List UInt8 := sixGo g fr tu n i []
theorem sixGo_app : ∀ n i s, sixGo g fr tu n i s = s ++ tailT g fr tu n i
  | 0, i, s => by rw [tailT, sixGo, sixGo, List.append_nil]
  | n + 1, i, s => by
    unfold tailT
    rw [sixGo, sixGo]
    split
    · split
      · split
        · rfl
        · rw [sixGo_app n (tu + 1), sixGo_app n (tu + 1) ([] ++ [58, 58] ++ hexOf (g tu))]; simp
      · rw [sixGo_app n (i + 1), sixGo_app n (i + 1) ((if 0 < i then [] ++ [58] else []) ++ hexOf (g i))]
        split <;> simp
    · simp
theorem tail_end (n : Nat) {i : Nat} (h : 8 ≤ i) : tailT g fr tu n i = [] := by
  cases n with
  | zero => rfl
  | succ n => rw [tailT, sixGo, if_neg (by omega)]
theorem tail_next (n : Nat) {i : Nat} (h : i < 8) (h0 : 0 < i) (hf : i ≠ fr) : tailT g fr tu (n + 1) i = 58 :: (hexOf (g i) ++ tailT g fr tu n (i + 1)) := by
  rw [tailT, sixGo, if_pos h, if_neg hf, if_pos h0, sixGo_app]; rfl
theorem tail_gap (n : Nat) {i : Nat} (h : i < 8) (hf : i = fr) (ht : tu < 8) : tailT g fr tu (n + 1) i = 58 :: 58 :: (hexOf (g tu) ++ tailT g fr tu n (tu + 1)) := by
  rw [tailT, sixGo, if_pos h, if_pos hf, if_neg (by omega), sixGo_app]; rfl
theorem tail_gap0 (n : Nat) {i : Nat} (h : i < 8) (hf : i = fr) (ht : 8 ≤ tu) : tailT g fr tu (n + 1) i = [58, 58] := by
  rw [tailT, sixGo, if_pos h, if_pos hf, if_pos ht]; rfl
theorem tail_head (n i : Nat) : ∀ c ∈ (tailT g fr tu n (i + 1)).head?, digI c < 0 := by
  have h58 : digI 58 < 0 := by decide
  cases n with
  | zero => intro c hc; cases hc
  | succ n =>
    by_cases h : i + 1 < 8
    · by_cases hf : i + 1 = fr
      · by_cases ht : tu < 8
        · rw [tail_gap g fr tu n h hf ht]; intro c hc; cases hc; exact h58
        · rw [tail_gap0 g fr tu n h hf (by omega)]; intro c hc; cases hc; exact h58
      · rw [tail_next g fr tu n h (Nat.succ_pos i) hf]; intro c hc; cases hc; exact h58
    · rw [tail_end g fr tu _ (by omega)]; intro c hc; cases hc
theorem hex_group (n i : Nat) (hg : ∀ i, g i ≤ 65535) : hexGo (hexOf (g i) ++ tailT g fr tu n (i + 1)) 0 0 = some (g i, (hexOf (g i)).length) ∧ (hexOf (g i)).length ≠ 0 ∧ (hexOf (g i) ++ tailT g fr tu n (i + 1)).drop (hexOf (g i)).length = tailT g fr tu n (i + 1) := by
  refine ⟨hexGo_hex _ (hg i) _ (tail_head g fr tu n i), ?_, List.drop_left ..⟩
  obtain ⟨c, r, h, _⟩ := hexOf_first (g i)
  rw [h]; simp
end
def pairOf (b : List UInt8) (i : Nat) : List UInt8 := [UInt8.ofNat (groupOf b i / 256), UInt8.ofNat (groupOf b i)]
theorem pair_drop (b l : List UInt8) (i : Nat) (h : 2 * i + 2 ≤ l.length) (hl : ∀ k, k < l.length → l[k]? = b[k]?) : l.drop (2 * i) = pairOf b i ++ l.drop (2 * (i + 1)) := by
  have h1 : l.drop (2 * i) = l[2 * i] :: l[2 * i + 1] :: l.drop (2 * i + 1 + 1) := by
    rw [List.drop_eq_getElem_cons (by omega), List.drop_eq_getElem_cons (by omega)]
  have e0 : b.getD (2 * i) 0 = l[2 * i] := by
    rw [List.getD_eq_getElem?_getD, ← hl _ (by omega), List.getElem?_eq_getElem (by omega)]; rfl
  have e1 : b.getD (2 * i + 1) 0 = l[2 * i + 1] := by
    rw [List.getD_eq_getElem?_getD, ← hl _ (by omega), List.getElem?_eq_getElem (by omega)]; rfl
  rw [h1, show 2 * (i + 1) = 2 * i + 1 + 1 by omega]
  unfold pairOf groupOf
  rw [e0, e1]
  have t0 := (l[2 * i]).toNat_lt
  have t1 := (l[2 * i + 1]).toNat_lt
  have a0 : UInt8.ofNat (((l[2 * i]).toNat * 256 + (l[2 * i + 1]).toNat) / 256) = l[2 * i] := by
    rw [show ((l[2 * i]).toNat * 256 + (l[2 * i + 1]).toNat) / 256 = (l[2 * i]).toNat by omega]; simp
  have a1 : UInt8.ofNat ((l[2 * i]).toNat * 256 + (l[2 * i + 1]).toNat) = l[2 * i + 1] := by
    apply UInt8.toNat_inj.1
    rw [UInt8.toNat_ofNat']
    omega
  rw [a0, a1]; rfl
theorem after_gap (b : List UInt8) (hb : b.length = 16) (fr tu : Nat) : ∀ m n i o, i + m = 7 → fr < i → 7 ≤ n + i → o.length ≤ 2 * i → ∀ e, LoopR (hexOf (groupOf b i) ++ tailT (groupOf b) fr tu n (i + 1)) e o e (o ++ b.drop (2 * i))
  | 0, n, i, o, him, hf, hn, ho, e => by
    obtain ⟨h1, h2, h3⟩ := hex_group (groupOf b) fr tu n i (groupOf_le b)
    have h3 := h3.trans (tail_end (groupOf b) fr tu n (by omega))
    rw [pair_drop b b i (by omega) (fun _ _ => rfl), List.drop_of_length_le (by omega : b.length ≤ 2 * (i + 1)), List.append_nil]
    exact .last h1 h2 h3 (by omega)
  | m + 1, n, i, o, him, hf, hn, ho, e => by
    obtain ⟨h1, h2, h3⟩ := hex_group (groupOf b) fr tu n i (groupOf_le b)
    cases n with
    | zero => omega
    | succ n =>
      have h3 := h3.trans (tail_next (groupOf b) fr tu n (by omega) (Nat.succ_pos i) (by omega))
      have ih := after_gap b hb fr tu m n (i + 1) (o ++ pairOf b i) (by omega) (by omega) (by omega) (by rw [List.length_append]; show o.length + 2 ≤ _; omega) e
      rw [List.append_assoc, ← pair_drop b b i (by omega) (fun _ _ => rfl)] at ih
      obtain ⟨c, r, hc, hc58⟩ := hexOf_first (groupOf b (i + 1))
      rw [hc, List.cons_append] at h3 ih
      exact .next h1 h2 h3 hc58 (by omega) ih
theorem before_gap (b : List UInt8) (hb : b.length = 16) (fr tu : Nat) (hft : fr = 255 ∨ fr < tu ∧ tu ≤ 8) : ∀ m n i o, i + m = 7 → (fr = 255 ∨ i < fr) → 7 ≤ n + i → o.length = 2 * i →
    LoopR (hexOf (groupOf b i) ++ tailT (groupOf b) fr tu n (i + 1)) none o (if fr = 255 then none else some (2 * fr)) (o ++ (if fr = 255 then b.drop (2 * i) else (b.take (2 * fr)).drop (2 * i) ++ b.drop (2 * tu)))
  | 0, n, i, o, him, hf, hn, ho => by
    obtain ⟨h1, h2, h3⟩ := hex_group (groupOf b) fr tu n i (groupOf_le b)
    have h3 := h3.trans (tail_end (groupOf b) fr tu n (by omega))
    have hf : fr = 255 := by omega
    rw [if_pos hf, if_pos hf, pair_drop b b i (by omega) (fun _ _ => rfl), List.drop_of_length_le (by omega : b.length ≤ 2 * (i + 1)), List.append_nil]
    exact .last h1 h2 h3 (by omega)
  | m + 1, n, i, o, him, hf, hn, ho => by
    obtain ⟨h1, h2, h3⟩ := hex_group (groupOf b) fr tu n i (groupOf_le b)
    cases n with
    | zero => omega
    | succ n =>
      by_cases hi : i + 1 = fr
      · have hne : fr ≠ 255 := by omega
        obtain ⟨hft1, hft2⟩ : fr < tu ∧ tu ≤ 8 := hft.resolve_left hne
        have htk : (b.take (2 * fr)).drop (2 * i) = pairOf b i := by
          rw [pair_drop b (b.take (2 * fr)) i (by rw [List.length_take]; omega) (fun k hk => List.getElem?_take_of_lt (by rw [List.length_take] at hk; omega)), List.drop_of_length_le (by rw [List.length_take]; omega), List.append_nil]
        rw [if_neg hne, if_neg hne, htk, show 2 * fr = o.length + 2 by omega]
        by_cases ht : tu < 8
        · have h3 := h3.trans (tail_gap (groupOf b) fr tu n (by omega) hi ht)
          obtain ⟨c, r, hc, hc58⟩ := hexOf_first (groupOf b tu)
          have ih := after_gap b hb fr tu (7 - tu) n tu (o ++ pairOf b i) (by omega) hft1 (by omega) (by rw [List.length_append]; show o.length + 2 ≤ _; omega) (some (o.length + 2))
          rw [hc, List.cons_append] at h3 ih
          rw [List.append_assoc] at ih
          exact .gap h1 h2 h3 (by omega) ih
        · have h3 := h3.trans (tail_gap0 (groupOf b) fr tu n (by omega) hi (by omega))
          rw [List.drop_of_length_le (by omega : b.length ≤ 2 * tu), List.append_nil]
          exact .gap0 h1 h2 h3 (by omega)
      · have h3 := h3.trans (tail_next (groupOf b) fr tu n (by omega) (Nat.succ_pos i) hi)
        have ih := before_gap b hb fr tu hft m n (i + 1) (o ++ pairOf b i) (by omega) (by omega) (by omega) (by rw [List.length_append]; show o.length + 2 = _; omega)
        have hstep : o ++ pairOf b i ++ (if fr = 255 then b.drop (2 * (i + 1)) else (b.take (2 * fr)).drop (2 * (i + 1)) ++ b.drop (2 * tu)) = o ++ (if fr = 255 then b.drop (2 * i) else (b.take (2 * fr)).drop (2 * i) ++ b.drop (2 * tu)) := by
          rw [List.append_assoc]
          by_cases h255 : fr = 255
          · rw [if_pos h255, if_pos h255, ← pair_drop b b i (by omega) (fun _ _ => rfl)]
          · rw [if_neg h255, if_neg h255, pair_drop b (b.take (2 * fr)) i (by rw [List.length_take]; omega) (fun k hk => List.getElem?_take_of_lt (by rw [List.length_take] at hk; omega))]
            simp only [List.append_assoc]
        rw [hstep] at ih
        obtain ⟨c, r, hc, hc58⟩ := hexOf_first (groupOf b (i + 1))
        rw [hc, List.cons_append] at h3 ih
        exact .next h1 h2 h3 hc58 (by omega) ih
theorem fin_back (b : List UInt8) (hb : b.length = 16) (fr tu : Nat) (h1 : fr ≤ tu) (h2 : tu ≤ 8) (hz : ∀ m, fr ≤ m → m < tu → groupOf b m = 0) : finL (2 * fr) (b.take (2 * fr) ++ b.drop (2 * tu)) = b := by
  unfold finL
  have ht : (b.take (2 * fr)).length = 2 * fr := by rw [List.length_take]; omega
  rw [List.take_append_of_le_length (by omega), List.take_of_length_le (by omega), List.drop_append_of_le_length (by omega), List.drop_of_length_le (by omega : (b.take (2 * fr)).length ≤ 2 * fr), List.nil_append, List.length_append, ht, List.length_drop, hb]
  apply List.ext_getElem?
  intro k
  by_cases hk1 : k < 2 * fr
  · rw [List.getElem?_append_left (by omega), List.getElem?_take_of_lt hk1]
  · rw [List.getElem?_append_right (by omega), ht]
    by_cases hk2 : k < 2 * tu
    · rw [List.getElem?_append_left (by rw [List.length_replicate]; omega), List.getElem?_replicate, if_pos (by omega)]
      have hg := hz (k / 2) (by omega) (by omega)
      unfold groupOf at hg
      have hk : b.getD k 0 = 0 := by
        rcases Nat.mod_two_eq_zero_or_one k with hm | hm
        · have e : 2 * (k / 2) = k := by omega
          rw [e] at hg
          exact UInt8.toNat_inj.1 (by show (b.getD k 0).toNat = 0; omega)
        · have e : 2 * (k / 2) + 1 = k := by omega
          rw [e] at hg
          exact UInt8.toNat_inj.1 (by show (b.getD k 0).toNat = 0; omega)
      rw [List.getD_eq_getElem?_getD, List.getElem?_eq_getElem (by omega)] at hk
      rw [List.getElem?_eq_getElem (by omega)]
      exact congrArg some hk.symm
    · rw [List.getElem?_append_right (by rw [List.length_replicate]; omega), List.length_replicate, List.getElem?_drop]
      congr 1
      omega
def ReadsSix (s res : List UInt8) : Prop := (∃ s0 c e1 o1, s = c :: s0 ∧ c ≠ 58 ∧ LoopR s none [] e1 o1 ∧ (e1 = none ∧ o1 = res ∧ o1.length = 16 ∨ ∃ k, e1 = some k ∧ o1.length < 16 ∧ res = finL k o1)) ∨ s = [58, 58] ∧ res = List.replicate 16 0 ∨ ∃ c s0 k o1, s = 58 :: 58 :: c :: s0 ∧ LoopR (c :: s0) (some 0) [] (some k) o1 ∧ o1.length < 16 ∧ res = finL k o1
theorem reads_plain (b : List UInt8) (hb : b.length = 16) (fr tu : Nat) (hsp : RunSpec (groupOf b) fr tu) : ReadsSix (sixText (groupOf b) fr tu) b := by
  have hft : fr = 255 ∨ fr < tu ∧ tu ≤ 8 := by
    rcases hsp with ⟨h, _⟩ | ⟨h1, h2, _⟩
    · exact .inl h
    · exact .inr ⟨h1, h2⟩
  unfold sixText
  by_cases h0 : fr = 0
  · obtain ⟨h1, h2, hz⟩ : fr < tu ∧ tu ≤ 8 ∧ ∀ m, fr ≤ m → m < tu → groupOf b m = 0 := by
      rcases hsp with ⟨h, _⟩ | h
      · omega
      · exact h
    subst h0
    have hback := fin_back b hb 0 tu (by omega) h2 hz
    by_cases ht : tu < 8
    · refine .inr (.inr ?_)
      obtain ⟨c, r, hc, hc58⟩ := hexOf_first (groupOf b tu)
      have ih := after_gap b hb 0 tu (7 - tu) 8 tu [] (by omega) h1 (by omega) (Nat.zero_le _) (some 0)
      have hs := tail_gap (groupOf b) 0 tu 8 (i := 0) (by omega) rfl ht
      rw [hc, List.cons_append] at hs ih
      exact ⟨c, _, 0, _, hs, ih, by rw [List.nil_append, List.length_drop]; omega, hback.symm⟩
    · refine .inr (.inl ⟨tail_gap0 (groupOf b) 0 tu 8 (i := 0) (by omega) rfl (by omega), ?_⟩)
      rw [← hback]
      have : tu = 8 := by omega
      subst this
      rw [List.drop_of_length_le (by omega : b.length ≤ 2 * 8)]
      rfl
  · refine .inl ?_
    have hs : sixGo (groupOf b) fr tu 9 0 [] = hexOf (groupOf b 0) ++ tailT (groupOf b) fr tu 8 (0 + 1) := by
      rw [sixGo, if_pos (by decide), if_neg (fun e => h0 e.symm), sixGo_app]; rfl
    have ih := before_gap b hb fr tu hft 7 8 0 [] (by omega) (by omega) (by omega) rfl
    obtain ⟨c, r, hc, hc58⟩ := hexOf_first (groupOf b 0)
    rw [← hs] at ih
    rw [hc, List.cons_append] at hs
    refine ⟨_, c, _, _, hs, hc58, ih, ?_⟩
    by_cases h255 : fr = 255
    · rw [if_pos h255, if_pos h255]; exact .inl ⟨rfl, rfl, hb⟩
    · rw [if_neg h255, if_neg h255]
      obtain ⟨h1, h2, hz⟩ : fr < tu ∧ tu ≤ 8 ∧ ∀ m, fr ≤ m → m < tu → groupOf b m = 0 := hsp.resolve_left fun h => h255 h.1
      refine .inr ⟨_, rfl, ?_, (fin_back b hb fr tu (by omega) h2 hz).symm⟩
      show (b.take (2 * fr) ++ b.drop (2 * tu)).length < 16
      rw [List.length_append, List.length_take, List.length_drop]; omega
end Go.Proofs.YtgodhbgnhapemaaGreatDoor
/- Plain: the text of a mapped address is read as its bytes; the letters of an address's text. Conditions: as each says. -/
namespace Go.Proofs.YtgodhbgnhapemaaGreatDoor
open Go Go.SX Go.IpText
set_option maxHeartbeats 8000000
set_option maxRecDepth 100000
theorem hexGo_run (r : List UInt8) : ∀ (l : List UInt8) (acc off : Nat), (∀ c ∈ l, 0 ≤ digI c) → off + l.length ≤ 4 → ∃ A, hexGo (l ++ r) acc off = hexGo r A (off + l.length)
  | [], acc, off, _, _ => ⟨acc, rfl⟩
  | c :: l, acc, off, hd, hl => by
    rw [List.length_cons] at hl
    obtain ⟨A, hA⟩ := hexGo_run r l (acc * 16 + (digI c).toNat) (off + 1) (fun x hx => hd x (List.mem_cons_of_mem _ hx)) (by omega)
    refine ⟨A, ?_⟩
    rw [List.cons_append, hexGo, if_pos (hd c (List.mem_cons_self ..)), if_neg (by omega), hA, List.length_cons]
    congr 1
    omega
theorem dec_digit (n : Nat) : ∀ c ∈ Lib.decDigits n, 0 ≤ digI c ∧ c ≠ 58 ∧ c ∈ sixLetters := by
  induction n using Nat.strongRecOn with
  | ind n ih =>
    have dig : ∀ d, d < 10 → 0 ≤ digI (UInt8.ofNat (48 + d)) ∧ UInt8.ofNat (48 + d) ≠ 58 ∧ UInt8.ofNat (48 + d) ∈ sixLetters := by decide
    by_cases h : n < 10
    · rw [Lib.decDigits_one h]; intro c hc; rw [List.mem_singleton.1 hc]; exact dig n h
    · rw [decBig (by omega)]
      intro c hc
      rcases List.mem_append.1 hc with hc | hc
      · exact ih (n / 10) (by omega) c hc
      · rw [List.mem_singleton.1 hc]; exact dig (n % 10) (by omega)
theorem dec_len (x : UInt8) : 1 ≤ (Lib.decDigits x.toNat).length ∧ (Lib.decDigits x.toNat).length ≤ 3 := by
  have hx := x.toNat_lt
  by_cases h1 : x.toNat < 10
  · rw [Lib.decDigits_one h1]; exact ⟨Nat.le_refl _, by show 1 ≤ 3; decide⟩
  · by_cases h2 : x.toNat < 100
    · rw [decBig (by omega), Lib.decDigits_one (by omega)]; exact ⟨by show 1 ≤ 2; decide, by show 2 ≤ 3; decide⟩
    · rw [dec3 h2 (by omega)]; exact ⟨by show 1 ≤ 3; decide, Nat.le_refl 3⟩
theorem fourText_dec (b : List UInt8) : ∃ rest, fourText b = Lib.decDigits (b.getD 0 0).toNat ++ 46 :: rest := by
  unfold fourText
  refine ⟨Lib.itoa ((b.getD 1 0).toNat : Int) ++ 46 :: (Lib.itoa ((b.getD 2 0).toNat : Int) ++ 46 :: Lib.itoa ((b.getD 3 0).toNat : Int)), ?_⟩
  rw [Lib.itoa_nonneg (b.getD 0 0).toNat]
  simp only [List.append_assoc, List.singleton_append, List.cons_append, List.nil_append]
theorem reads_mapped (b : List UInt8) (hb : b.length = 16) (hm : mapped b = true) : ReadsSix ([58, 58, 102, 102, 102, 102, 58] ++ fourText (b.drop 12)) b := by
  obtain ⟨d, hd⟩ : ∃ d, d = b.drop 12 := ⟨_, rfl⟩
  have hdl : d.length = 4 := by rw [hd, List.length_drop]; omega
  obtain ⟨x0, x1, x2, x3, hx⟩ : ∃ x0 x1 x2 x3, d = [x0, x1, x2, x3] := by
    match d, hdl with
    | [x0, x1, x2, x3], _ => exact ⟨x0, x1, x2, x3, rfl⟩
  rw [← hd]
  obtain ⟨rest, hr⟩ := fourText_dec d
  obtain ⟨h1, h3⟩ := dec_len (d.getD 0 0)
  obtain ⟨c, r, hc⟩ : ∃ c r, Lib.decDigits (d.getD 0 0).toNat = c :: r := by
    cases h : Lib.decDigits (d.getD 0 0).toNat with
    | nil => rw [h] at h1; exact absurd h1 (by decide)
    | cons c r => exact ⟨c, r, rfl⟩
  have hc58 : c ≠ 58 := (dec_digit _ c (by rw [hc]; exact List.mem_cons_self ..)).2.1
  obtain ⟨A, hA⟩ := hexGo_run (46 :: rest) (Lib.decDigits (d.getD 0 0).toNat) 0 0 (fun c hc => (dec_digit _ c hc).1) (by omega)
  have hxg : hexGo (fourText d) 0 0 = some (A, (Lib.decDigits (d.getD 0 0).toNat).length) := by
    rw [hr, hA, hexGo, if_neg (by decide), Nat.zero_add]
  have h46 : (fourText d)[(Lib.decDigits (d.getD 0 0).toNat).length]? = some 46 := by
    rw [hr, List.getElem?_append_right (Nat.le_refl _), Nat.sub_self]; rfl
  have hfour : LoopR (fourText d) (some 0) [255, 255] (some 0) ([255, 255] ++ d) := .four hxg (by omega) h46 (fun e => by cases e) (by decide) (by rw [hx]; exact fields_four x0 x1 x2 x3)
  have hfc : fourText d = c :: (r ++ 46 :: rest) := by rw [hr, hc]; rfl
  refine .inr (.inr ⟨102, [102, 102, 102, 58] ++ fourText d, 0, [255, 255] ++ d, rfl, ?_, by rw [hx]; show 6 < 16; decide, ?_⟩)
  · rw [hfc] at hfour ⊢
    exact .next (acc := 65535) (off := 4) rfl (by decide) rfl hc58 (by decide) hfour
  · obtain ⟨_, hz, h255⟩ := mapped_is hm
    obtain ⟨e10, e11⟩ := h255 (by omega)
    have h10 : b.take 10 = List.replicate 10 0 := List.eq_replicate_iff.2 ⟨by rw [List.length_take]; omega, fun x hx => by
      have := List.all_eq_true.1 hz x (by rw [List.drop_zero]; exact hx)
      simpa using this⟩
    have h12 : b.drop 10 = 255 :: 255 :: d := by
      rw [List.drop_eq_getElem_cons (by omega), List.drop_eq_getElem_cons (by omega), e10, e11, hd]
    have hb2 : b = b.take 10 ++ b.drop 10 := (List.take_append_drop 10 b).symm
    rw [h10, h12] at hb2
    rw [hb2]
    unfold finL
    have : 16 - ([255, 255] ++ d).length = 10 := by rw [List.length_append, hdl]; rfl
    rw [this]; rfl
theorem six_reads (b : List UInt8) (hb : b.length = 16) : ReadsSix (sixOf b) b := by
  unfold sixOf
  split
  · rename_i hm
    exact reads_mapped b hb hm
  · unfold ipText
    rw [if_neg (by omega)]
    exact reads_plain b hb _ _ (runOf_spec _)
end Go.Proofs.YtgodhbgnhapemaaGreatDoor
/- Reading the text of 16 bytes: an address, its transcoder. Conditions: as each says. -/
namespace Go.Proofs.YtgodhbgnhapemaaGreatDoor
open Go Go.SX Go.IpText
set_option maxHeartbeats 8000000
set_option maxRecDepth 100000
theorem hexOf_letters (n : Nat) : ∀ c ∈ hexOf n, c ∈ sixLetters ∧ c ≠ 46 ∧ c ≠ 58 ∧ c ≠ 37 := by
  induction n using Nat.strongRecOn with
  | ind n ih =>
    have dig : ∀ d, d < 16 → Go.IpText.hexDigit d ∈ sixLetters ∧ Go.IpText.hexDigit d ≠ 46 ∧ Go.IpText.hexDigit d ≠ 58 ∧ Go.IpText.hexDigit d ≠ 37 := by decide +kernel
    rw [hexOf_eq]
    by_cases h : n < 16
    · rw [if_pos h]; intro c hc; rw [List.mem_singleton.1 hc]; exact dig n h
    · rw [if_neg h]
      intro c hc
      rcases List.mem_append.1 hc with hc | hc
      · exact ih (n / 16) (by omega) c hc
      · rw [List.mem_singleton.1 hc]; exact dig (n % 16) (Nat.mod_lt _ (by decide))
theorem sixGo_letters (g : Nat → Nat) (fr tu : Nat) : ∀ n i s, (∀ c ∈ s, c ∈ sixLetters) → ∀ c ∈ sixGo g fr tu n i s, c ∈ sixLetters
  | 0, i, s, h => h
  | n + 1, i, s, h => by
    rw [sixGo]
    have app : ∀ t : List UInt8, (∀ c ∈ t, c ∈ sixLetters) → ∀ u : List UInt8, (∀ c ∈ u, c ∈ sixLetters) → ∀ c ∈ t ++ u, c ∈ sixLetters := fun t ht u hu c hc => by
      rcases List.mem_append.1 hc with hc | hc
      · exact ht c hc
      · exact hu c hc
    have h2 : ∀ c ∈ ([58, 58] : List UInt8), c ∈ sixLetters := by decide
    have h1 : ∀ c ∈ ([58] : List UInt8), c ∈ sixLetters := by decide
    have hh : ∀ n, ∀ c ∈ hexOf n, c ∈ sixLetters := fun n c hc => (hexOf_letters n c hc).1
    split
    · split
      · split
        · exact app _ h _ h2
        · exact sixGo_letters g fr tu n _ _ (app _ (app _ h _ h2) _ (hh _))
      · refine sixGo_letters g fr tu n _ _ (app _ ?_ _ (hh _))
        split
        · exact app _ h _ h1
        · exact h
    · exact h
theorem four_letters (b : List UInt8) : ∀ c ∈ fourText b, c ∈ sixLetters := by
  have it : ∀ x : UInt8, ∀ c ∈ Lib.itoa (x.toNat : Int), c ∈ sixLetters := fun x => by rw [Lib.itoa_nonneg]; exact fun c hc => (dec_digit _ c hc).2.2
  have h46 : (46 : UInt8) ∈ sixLetters := by decide
  unfold fourText
  intro c hc
  simp only [List.mem_append, List.mem_singleton] at hc
  rcases hc with (((((hc | hc) | hc) | hc) | hc) | hc) | hc
  · exact it _ c hc
  · rw [hc]; exact h46
  · exact it _ c hc
  · rw [hc]; exact h46
  · exact it _ c hc
  · rw [hc]; exact h46
  · exact it _ c hc
theorem six_letters (b : List UInt8) (hb : b.length = 16) : ∀ c ∈ sixOf b, c ∈ sixLetters := by
  unfold sixOf
  split
  · intro c hc
    rcases List.mem_append.1 hc with hc | hc
    · exact (by decide : ∀ c ∈ ([58, 58, 102, 102, 102, 102, 58] : List UInt8), c ∈ sixLetters) c hc
    · exact four_letters _ c hc
  · unfold ipText
    rw [if_neg (by omega)]
    exact sixGo_letters _ _ _ _ _ _ (fun c hc => by cases hc)
theorem four_short (b : List UInt8) : (fourText b).length ≤ 15 := by
  have it : ∀ x : UInt8, (Lib.itoa (x.toNat : Int)).length ≤ 3 := fun x => by rw [Lib.itoa_nonneg]; exact (dec_len x).2
  unfold fourText
  simp only [List.length_append, List.length_singleton]
  have h0 := it (b.getD 0 0)
  have h1 := it (b.getD 1 0)
  have h2 := it (b.getD 2 0)
  have h3 := it (b.getD 3 0)
  omega
theorem six_short (b : List UInt8) (hb : b.length = 16) : (sixOf b).length ≤ 100 := by
  unfold sixOf
  split
  · have := four_short (b.drop 12)
    rw [List.length_append]; simp only [List.length_cons, List.length_nil]; omega
  · unfold ipText
    rw [if_neg (by omega)]
    have := sixGo_len (groupOf b) (groupOf_le b) (runOf (groupOf b)).1 (runOf (groupOf b)).2 9 0 []
    unfold sixText
    simp only [List.length_nil] at this
    omega
theorem six_first (b : List UInt8) (hb : b.length = 16) : ∃ pre rest, sixOf b = pre ++ 58 :: rest ∧ ∀ x ∈ pre, x ≠ 46 ∧ x ≠ 58 ∧ x ≠ 37 := by
  unfold sixOf
  split
  · exact ⟨[], _, rfl, fun x hx => by cases hx⟩
  · unfold ipText sixText
    rw [if_neg (by omega)]
    obtain ⟨fr, hfr⟩ : ∃ fr, fr = (runOf (groupOf b)).1 := ⟨_, rfl⟩
    obtain ⟨tu, htu⟩ : ∃ tu, tu = (runOf (groupOf b)).2 := ⟨_, rfl⟩
    rw [← hfr, ← htu]
    by_cases h0 : 0 = fr
    · by_cases ht : tu < 8
      · exact ⟨[], _, tail_gap (groupOf b) fr tu 8 (i := 0) (by omega) h0 ht, fun x hx => by cases hx⟩
      · exact ⟨[], _, tail_gap0 (groupOf b) fr tu 8 (i := 0) (by omega) h0 (by omega), fun x hx => by cases hx⟩
    · have hs : sixGo (groupOf b) fr tu 9 0 [] = hexOf (groupOf b 0) ++ tailT (groupOf b) fr tu 8 (0 + 1) := by
        rw [sixGo, if_pos (by decide), if_neg h0, sixGo_app]; rfl
      have : ∃ rest, tailT (groupOf b) fr tu 8 (0 + 1) = 58 :: rest := by
        by_cases h1 : 0 + 1 = fr
        · by_cases ht : tu < 8
          · exact ⟨_, tail_gap (groupOf b) fr tu 7 (by omega) h1 ht⟩
          · exact ⟨_, tail_gap0 (groupOf b) fr tu 7 (by omega) h1 (by omega)⟩
        · exact ⟨_, tail_next (groupOf b) fr tu 7 (by omega) (by omega) h1⟩
      obtain ⟨rest, hr⟩ := this
      exact ⟨hexOf (groupOf b 0), rest, by rw [hs, hr], fun x hx => (hexOf_letters _ x hx).2⟩
theorem no37 : ∀ c ∈ sixLetters, c ≠ 37 := by decide
theorem parse16b (b : List UInt8) (w : World) (hb : b.length = 16) :
    Calls Tryz.prog 202 #[.string ⟨⟨sixOf b⟩⟩] w (fun e w1 => ∃ v, e = .returned v ∧ Ext [] w w1 ∧ v = .tuple #[.agg ⟨ucells b⟩, .bool false, .bool true]) := by
  refine calls_of0 (args := [.string ⟨⟨sixOf b⟩⟩]) Tryz.func202 rfl rfl rfl ?_
  obtain ⟨x0, x1, x2, x3, x4, x5, x6, x7, x8, x9, x10, x11, x12, x13, x14, x15, hbx⟩ : ∃ x0 x1 x2 x3 x4 x5 x6 x7 x8 x9 x10 x11 x12 x13 x14 x15, b = [x0, x1, x2, x3, x4, x5, x6, x7, x8, x9, x10, x11, x12, x13, x14, x15] := by
    match b, hb with
    | [x0, x1, x2, x3, x4, x5, x6, x7, x8, x9, x10, x11, x12, x13, x14, x15], _ => exact ⟨x0, x1, x2, x3, x4, x5, x6, x7, x8, x9, x10, x11, x12, x13, x14, x15, rfl⟩
  obtain ⟨s, hs⟩ : ∃ s, s = sixOf b := ⟨_, rfl⟩
  obtain ⟨pre, rest, hpr, hpre⟩ := six_first b hb
  have hlet : ∀ c ∈ s, c ∈ sixLetters := by rw [hs]; exact six_letters b hb
  have hsl0 : s.length ≤ 100 := by rw [hs]; exact six_short b hb
  have hrd : ReadsSix s b := by rw [hs]; exact six_reads b hb
  rw [← hs] at hpr ⊢
  subst hbx
  have hsz : (ByteArray.mk ⟨s⟩).size = s.length := rfl
  have hsl : s.length ≤ 100 := hsl0
  have hpl : pre.length < s.length := by rw [hpr, List.length_append, List.length_cons]; omega
  refine To.runF 12 [] (fun _ _ => by kernel_rfl) fun f1 g1 l1 => ?_
  refine To.loop (fun k : Nat => s.length - k) (fun k => ([(0, .string ⟨⟨s⟩⟩), (2, .pointer (some ⟨f1 0, 0, none⟩)), (3, .bool false), (4, .bool false), (5, .int .i64 (Int.ofNat k))], [some ⟨f1 0, .cells ⟨ucells (List.replicate 16 0)⟩ 167 (0, 0), true⟩])) (fun k _ => k ≤ pre.length) 0 [0] (by kernel_rfl) (by kernel_rfl) (by kernel_rfl) rfl (fun _ _ => Nat.zero_le _) ?_
  rintro k w1 hk hx1 back
  have hk : k ≤ pre.length := hk
  have hks : k < s.length := by omega
  refine To.runF 8 [] (fun _ _ => by kernel_rfl) fun f2 g2 l2 => ?_
  refine To.testT (decide (Int.ofNat k < Int.ofNat (ByteArray.mk ⟨s⟩).size)) (by kernel_rfl) (decide_eq_true (Int.ofNat_lt.2 hks)) ?_
  obtain ⟨c, hc⟩ : ∃ c, c = s[k] := ⟨_, rfl⟩
  have hcs : Int.ofNat (UInt8.toNat ((ByteArray.mk ⟨s⟩)[k]'hks)) = Int.ofNat c.toNat := by rw [hc]; rfl
  refine To.runF 7 [] (fun _ _ => by kernel_rfl) fun f3 g3 l3 => ?_
  refine To.indexStr uStr ⟨⟨s⟩⟩ k hks (by kernel_rfl) ?_
  refine To.runF 7 [] (fun _ _ => by kernel_rfl) fun f4 g4 l4 => ?_
  by_cases hkp : k = pre.length
  · have hc58 : c = 58 := by rw [hc]; simp only [hpr, hkp]; rw [List.getElem_append_right (Nat.le_refl _)]; simp
    refine To.testF (Int.ofNat (UInt8.toNat ((ByteArray.mk ⟨s⟩)[k]'hks)) == 46) (by kernel_rfl) (by rw [hcs, hc58]; rfl) ?_
    refine To.runF 5 [] (fun _ _ => by kernel_rfl) fun f5 g5 l5 => ?_
    refine To.testT (Int.ofNat (UInt8.toNat ((ByteArray.mk ⟨s⟩)[k]'hks)) == 58) (by kernel_rfl) (by rw [hcs, hc58]; rfl) ?_
    refine To.runF 7 [] (fun _ _ => by kernel_rfl) fun f6 g6 l6 => ?_
    refine To.loop (fun j : Nat => s.length - j) (fun j => ([(0, .string ⟨⟨s⟩⟩), (2, .pointer (some ⟨f1 0, 0, none⟩)), (3, .bool false), (4, .bool false), (6, .int .i64 (Int.ofNat j))], [some ⟨f1 0, .cells ⟨ucells (List.replicate 16 0)⟩ 167 (0, 0), true⟩])) (fun j _ => j ≤ s.length) k [0] (by kernel_rfl) (by kernel_rfl) (by kernel_rfl) rfl (fun _ _ => Nat.le_of_lt hks) ?_
    intro j w1 hj hx1 back2
    have hj : j ≤ s.length := hj
    refine To.runF 8 [] (fun _ _ => by kernel_rfl) fun f7 g7 l7 => ?_
    by_cases hjs : j < s.length
    · refine To.testT (decide (Int.ofNat j < Int.ofNat (ByteArray.mk ⟨s⟩).size)) (by kernel_rfl) (decide_eq_true (Int.ofNat_lt.2 hjs)) ?_
      refine To.runF 7 [] (fun _ _ => by kernel_rfl) fun f8 g8 l8 => ?_
      refine To.indexStr uStr ⟨⟨s⟩⟩ j hjs (by kernel_rfl) ?_
      refine To.runF 2 [] (fun _ _ => by kernel_rfl) fun f9 g9 l9 => ?_
      refine To.testF (Int.ofNat (UInt8.toNat ((ByteArray.mk ⟨s⟩)[j]'hjs)) == 37) (by kernel_rfl) (beq_eq_false_iff_ne.2 fun e => no37 _ (hlet _ (List.getElem_mem hjs)) (UInt8.toNat_inj.1 (Int.ofNat.inj e))) ?_
      refine To.runF 7 [] (fun _ _ => by kernel_rfl) fun f10 g10 l10 => ?_
      refine To.slotE 6 (.int .i64 (IntKind.i64.wrap (Int.ofNat j + 1))) (.int .i64 (Int.ofNat (j + 1))) (by kernel_rfl) (by rw [wrap_succ j (by omega)]) ?_
      exact back2 _ _ (j + 1) [0] (by omega) ⟨by kernel_rfl, by kernel_rfl, by kernel_rfl, by kernel_rfl, by kernel_rfl, rfl⟩ (fun w7 hw7 => hjs)
    · refine To.testF (decide (Int.ofNat j < Int.ofNat (ByteArray.mk ⟨s⟩).size)) (by kernel_rfl) (decide_eq_false fun h => hjs (Int.ofNat_lt.1 h)) ?_
      refine To.runF 4 [] (fun _ _ => by kernel_rfl) fun f8 g8 l8 => ?_
      refine To.callN 264 #[.string ⟨⟨s⟩⟩] (by kernel_rfl) (fun _ => by kernel_rfl) (fun w2 hw2 => parse6 s [x0, x1, x2, x3, x4, x5, x6, x7, x8, x9, x10, x11, x12, x13, x14, x15] w2 hlet hsl0 hrd) (fun w2 v2 w3 hw2 hx2 hv2 hnew2 hwi2 => ?_)
      subst hv2
      refine To.runF 14 [0, 0, 0, 0, 0, 0, 0, 0, 0, 0, 0, 0, 0, 0, 0, 0, 0, 0, 0, 0, 0, 0, 0, 0, 0, 0, 0, 0, 0, 0, 0, 0, 0, 0, 0, 0, 0, 0, 0, 0, 0, 0, 0, 0, 0, 0, 0, 0] (fun _ _ => by kernel_rfl) fun f9 g9 l9 => ?_
      exact To.ret [0, 0, 0, 0, 0, 0, 0, 0, 0, 0, 0, 0, 0, 0, 0, 0] (.tuple #[.agg ⟨ucells [x0, x1, x2, x3, x4, x5, x6, x7, x8, x9, x10, x11, x12, x13, x14, x15]⟩, .bool false, .bool true]) (by kernel_rfl) (by kernel_rfl) fun w8 hw8 => ⟨_, rfl, hw8.ext, rfl⟩
  · have hcp : c ∈ pre := by
      rw [hc]; simp only [hpr]; rw [List.getElem_append_left (by omega)]; exact List.getElem_mem _
    have hne : ∀ u : UInt8, c ≠ u → (Int.ofNat (UInt8.toNat ((ByteArray.mk ⟨s⟩)[k]'hks)) == Int.ofNat u.toNat) = false := fun u hu => by
      rw [hcs]; exact beq_eq_false_iff_ne.2 fun e => hu (UInt8.toNat_inj.1 (Int.ofNat.inj e))
    refine To.testF (Int.ofNat (UInt8.toNat ((ByteArray.mk ⟨s⟩)[k]'hks)) == 46) (by kernel_rfl) (hne 46 (hpre c hcp).1) ?_
    refine To.runF 5 [] (fun _ _ => by kernel_rfl) fun f5 g5 l5 => ?_
    refine To.testF (Int.ofNat (UInt8.toNat ((ByteArray.mk ⟨s⟩)[k]'hks)) == 58) (by kernel_rfl) (hne 58 (hpre c hcp).2.1) ?_
    refine To.runF 5 [] (fun _ _ => by kernel_rfl) fun f6 g6 l6 => ?_
    refine To.testF (Int.ofNat (UInt8.toNat ((ByteArray.mk ⟨s⟩)[k]'hks)) == 37) (by kernel_rfl) (hne 37 (hpre c hcp).2.2) ?_
    refine To.runF 8 [] (fun _ _ => by kernel_rfl) fun f7 g7 l7 => ?_
    refine To.slotE 5 (.int .i64 (IntKind.i64.wrap (Int.ofNat k + 1))) (.int .i64 (Int.ofNat (k + 1))) (by kernel_rfl) (by rw [wrap_succ k (by omega)]) ?_
    exact back _ _ (k + 1) [0] (by omega) ⟨by kernel_rfl, by kernel_rfl, by kernel_rfl, by kernel_rfl, by kernel_rfl, rfl⟩ (fun w7 hw7 => by show k + 1 ≤ pre.length; omega)
theorem ip6StB (b : List UInt8) (w : World) (hb : b.length = 16) :
    Calls Tryz.prog 133 #[.string ⟨⟨sixOf b⟩⟩] w (fun e w1 => ∃ v, e = .returned v ∧ Ext [] w w1 ∧ ∃ ad c, v = .tuple #[.slice (some ad) b.length c, .nilIface] ∧ BytesIn w1 (some ad) b ∧ b.length ≤ c ∧ w.heap.size ≤ ad.block) := by
  refine calls_of0 (args := [.string ⟨⟨sixOf b⟩⟩]) Tryz.func133 rfl rfl rfl ?_
  obtain ⟨x0, x1, x2, x3, x4, x5, x6, x7, x8, x9, x10, x11, x12, x13, x14, x15, hbx⟩ : ∃ x0 x1 x2 x3 x4 x5 x6 x7 x8 x9 x10 x11 x12 x13 x14 x15, b = [x0, x1, x2, x3, x4, x5, x6, x7, x8, x9, x10, x11, x12, x13, x14, x15] := by
    match b, hb with
    | [x0, x1, x2, x3, x4, x5, x6, x7, x8, x9, x10, x11, x12, x13, x14, x15], _ => exact ⟨x0, x1, x2, x3, x4, x5, x6, x7, x8, x9, x10, x11, x12, x13, x14, x15, rfl⟩
  obtain ⟨s, hs⟩ : ∃ s, s = sixOf b := ⟨_, rfl⟩
  have hp : ∀ w, Calls Tryz.prog 202 #[.string ⟨⟨s⟩⟩] w (fun e w1 => ∃ v, e = .returned v ∧ Ext [] w w1 ∧ v = .tuple #[.agg ⟨ucells b⟩, .bool false, .bool true]) := fun w => by rw [hs]; exact parse16b b w hb
  rw [← hs]
  clear hs
  subst hbx
  refine To.runF 16 [] (fun _ _ => by kernel_rfl) fun f1 g1 l1 => ?_
  refine To.callN 202 #[.string ⟨⟨s⟩⟩] (by kernel_rfl) (fun _ => by kernel_rfl) (fun w2 hw2 => hp w2) (fun w2 v2 w3 hw2 hx2 hv2 hnew2 hwi2 => ?_)
  subst hv2
  refine To.runF 67 [0, 0, 0, 0, 0, 0, 0, 0, 0, 0, 0, 0, 0, 0, 0, 0] (fun _ _ => by kernel_rfl) fun f2 g2 l2 => ?_
  exact To.ret [] (.tuple #[.slice (some ⟨f2 0, 0, none⟩) 16 16, .nilIface]) (by kernel_rfl) (by kernel_rfl) fun w8 hw8 => ⟨_, rfl, hw8.ext, ⟨f2 0, 0, none⟩, 16, rfl, bytesOfZ (rest := []) (hw8.blk (j := 0) (b := f2 0) (o := .cells ⟨ucells [x0, x1, x2, x3, x4, x5, x6, x7, x8, x9, x10, x11, x12, x13, x14, x15] ++ []⟩ 167 (0, 0)) (q := true) (by kernel_rfl)), Nat.le_refl _, Nat.le_trans hwi2 (Nat.le_trans hx2.size (l2 0))⟩
def xIp6 : Value := .agg #[.func (.func 133) #[] #[], .func (.func 134) #[] #[], .nilFunc]
theorem trIp6 (val : List UInt8) (hl : val.length = 16) : Tr1 xIp6 val (sixOf val) := by
  refine ⟨fun w ht => ?_, fun w a ca ht hin hca => ?_, fun w a ca ht hin hca => ?_⟩
  · refine calls_of0 (args := [xIp6, .string ⟨⟨sixOf val⟩⟩]) Tryz.func356 rfl rfl rfl ?_
    refine To.runF 11 [0] (fun _ _ => by kernel_rfl) fun f1 g1 l1 => ?_
    refine To.callN 133 #[.string ⟨⟨sixOf val⟩⟩] (by kernel_rfl) (fun _ => by kernel_rfl) (fun w2 hw2 => ip6StB val w2 hl) (fun w2 v2 w3 hw2 hx2 hv2 hnew2 hwi2 => ?_)
    obtain ⟨ad, c, rfl, hin2, hc2, hn2⟩ := hv2
    refine To.runF 5 [] (fun _ _ => by kernel_rfl) fun f2 g2 l2 => ?_
    exact To.ret [] (.tuple #[.slice (some ad) val.length c, .nilIface]) (by kernel_rfl) (by kernel_rfl) fun w9 hw9 => ⟨_, rfl, hw9.ext, ad, c, rfl, hin2.kept (hw9.fr.kept (Q := fun n => n = ad.block) (l := [some (f1 0)]) (by kernel_rfl) (nums_of (by kernel_rfl) (hnew2 ad.block hn2))), hc2, Nat.le_trans hwi2 hn2⟩
  · refine calls_of0 (args := [xIp6, .slice a val.length ca]) Tryz.func355 rfl rfl rfl ?_
    refine To.runF 11 [0] (fun _ _ => by kernel_rfl) fun f1 g1 l1 => ?_
    refine To.callN 134 #[.slice a val.length ca] (by kernel_rfl) (fun _ => by kernel_rfl) (fun w2 hw2 => ip6BtSAny val a ca w2 (ht.later hw2.ext) (hin.later hw2.ext) hl hca) (fun w2 v2 w3 hw2 hx2 hv2 hnew2 hwi2 => ?_)
    subst hv2
    refine To.runF 5 [] (fun _ _ => by kernel_rfl) fun f2 g2 l2 => ?_
    exact To.ret [] (.tuple #[.string ⟨⟨sixOf val⟩⟩, .nilIface]) (by kernel_rfl) (by kernel_rfl) fun w4 hw4 => ⟨_, rfl, hw4.ext, _, rfl⟩
  · refine calls_of0 (args := [xIp6, .slice a val.length ca]) Tryz.func357 rfl rfl rfl ?_
    refine To.runF 17 [0] (fun _ _ => by kernel_rfl) fun f1 g1 l1 => ?_
    exact To.ret [] .nilIface (by kernel_rfl) (by kernel_rfl) fun w4 hw4 => ⟨_, rfl, hw4.ext, rfl⟩
end Go.Proofs.YtgodhbgnhapemaaGreatDoor
