/- What Write does to a buffer that was only written. Conditions: as each says. -/
import Derived.Test.YtgodhbgnhapemaaGreatDoorJRead
import Derived.Test.YtgodhbgnhapemaaGreatDoorSxC
set_option linter.unusedVariables false
set_option linter.unusedSimpArgs false
/- What (*bytes.Buffer).Write does to a buffer that was only written: it turns the buffer and its own row, and no other block. Conditions: the bytes lie elsewhere, and are some. -/
namespace Go.Proofs.YtgodhbgnhapemaaGreatDoor
open Go Go.SX Go.IpText
set_option maxHeartbeats 8000000
set_option maxRecDepth 100000
theorem growNil (n : Nat) (w : World) (hn : 1 ≤ n) (hl : n ≤ 140737488355328) :
    Calls Tryz.prog 94 #[.slice none 0 0, .int .i64 (Int.ofNat n)] w (fun e w1 => ∃ v, e = .returned v ∧ Ext [] w w1 ∧ ∃ g c cells, v = .slice (some ⟨g, 0, none⟩) 0 c ∧ w1.heap[g]? = some (.cells ⟨cells⟩ 5 (0, 0)) ∧ w.heap.size ≤ g ∧ cells.length = c ∧ n ≤ c ∧ c ≤ maxLen) := by
  refine (Any.bytes_growSlice_nil { Tryz.lays180 with } n w hn hl).mono fun e w1 ⟨c, cells, h1, h2, h3, h4, h5, h6⟩ => ⟨_, h1, ⟨h6.os, h6.tape, h6.output, h6.size, fun k hk _ => h6.block k hk⟩, w.heap.size, c, cells.toList, rfl, h2, Nat.le_refl _, by rw [Array.length_toList]; exact h3, h4, h5⟩
theorem growRow (g l c n : Nat) (cur : List Value) (w : World) (hg : w.heap[g]? = some (.cells ⟨cur⟩ 5 (0, 0))) (hc : cur.length = c) (hlc : l ≤ c) (hn : 1 ≤ n) (hl : l + n ≤ 140737488355328) (hc2 : c ≤ 140737488355328) (h1 : ∀ v ∈ cur.take l, v.oneCell' = true) :
    Calls Tryz.prog 94 #[.slice (some ⟨g, 0, none⟩) l c, .int .i64 (Int.ofNat n)] w (fun e w1 => ∃ v, e = .returned v ∧ Ext [] w w1 ∧ ∃ g' c' cells, v = .slice (some ⟨g', 0, none⟩) l c' ∧ w1.heap[g']? = some (.cells ⟨cells⟩ 5 (0, 0)) ∧ w.heap.size ≤ g' ∧ cells.length = c' ∧ l + n ≤ c' ∧ c' ≤ maxLen ∧ cells.take l = cur.take l) := by
  refine (Any.bytes_growSlice_row { Tryz.lays180 with } g l c n ⟨cur⟩ w hg hc hlc hn hl hc2 h1).mono fun e w1 ⟨c', cells, h1, h2, h3, h4, h5, h6, h7⟩ => ⟨_, h1, ⟨h7.os, h7.tape, h7.output, h7.size, fun k hk _ => h7.block k hk⟩, w.heap.size, c', cells.toList, rfl, h2, Nat.le_refl _, by rw [Array.length_toList]; exact h3, h5, h6, h4⟩
/-- What Write leaves. -/
def WrPost (b : Nat) (S : List Nat) (l val : List UInt8) (w : World) (e : Ending) (w1 : World) : Prop :=
  ∃ v, e = .returned v ∧ Ext S w w1 ∧ v = .tuple #[.int .i64 (Int.ofNat val.length), .nilIface] ∧ ∃ g' c' rest', w1.heap[b]? = some (.cells ⟨[.slice (some ⟨g', 0, none⟩) (l ++ val).length c', .int .i64 0, .int .i8 0]⟩ 73 (0, 0)) ∧
    w1.heap[g']? = some (.cells ⟨ucells (l ++ val) ++ rest'⟩ 5 (0, 0)) ∧ (ucells (l ++ val) ++ rest').length = c' ∧ (l ++ val).length ≤ c' ∧ c' ≤ maxLen ∧ (g' ∈ S ∨ w.heap.size ≤ g') ∧ g' ≠ b
theorem cop (l val : List UInt8) (rest : List Value) : (ucells l ++ rest).take l.length ++ ucells val ++ (ucells l ++ rest).drop (l.length + (ucells val).length) = ucells (l ++ val) ++ rest.drop val.length := by
  have h1 : (ucells l).length = l.length := ucells_length l
  rw [← h1, List.take_left, ← List.drop_drop, List.drop_left, ucells_append, ucells_length]
theorem cop0 (val : List UInt8) (rest : List Value) : rest.take 0 ++ ucells val ++ rest.drop (0 + (ucells val).length) = ucells val ++ rest.drop val.length := by
  rw [List.take_zero, List.nil_append, Nat.zero_add, ucells_length]
theorem onAt (g o c : Nat) (h : c ≠ o) : onA (some ⟨g, 0, none⟩) o 1 c = some ⟨g, o, none⟩ := by
  unfold onA; rw [if_neg h, Nat.mul_one]; show some ((⟨g, 0, none⟩ : Addr).add o) = _; rw [add0]
theorem writeNil (b : Nat) (lr : Int) (val : List UInt8) (src : Addr) (ca : Nat) (w : World)
    (hb : w.heap[b]? = some (.cells ⟨[.slice none 0 0, .int .i64 0, .int .i8 lr]⟩ 73 (0, 0)))
    (hin : BytesIn w (some src) val) (hv : 1 ≤ val.length) (h64 : val.length ≤ 64) (hsb : src.block ≠ b) :
    Calls Tryz.prog 35 #[.pointer (some ⟨b, 0, none⟩), .slice (some src) val.length ca] w (WrPost b [b] [] val w) := by
  refine calls_of1 (args := [.pointer (some ⟨b, 0, none⟩), .slice (some src) val.length ca]) b _ hb Tryz.func35 rfl rfl rfl ?_
  refine To.runF 45 [0, 0, 0] (fun _ _ => by kernel_rfl) fun f1 g1 l1 => ?_
  refine To.testF (decide ((val.length : Int) ≤ 0)) (by kernel_rfl) (decide_eq_false (by omega)) ?_
  refine To.runF 102 [1, 0, 0, 0, 1, 2, 3, 0, 4, 0, 0, 0, 0] (fun _ _ => by kernel_rfl) fun f2 g2 l2 => ?_
  refine To.testF (decide ((val.length : Int) ≤ 0)) (by kernel_rfl) (decide_eq_false (by omega)) ?_
  refine To.runF 32 [0] (fun _ _ => by kernel_rfl) fun f3 g3 l3 => ?_
  refine To.testT (decide ((val.length : Int) ≤ 64)) (by kernel_rfl) (decide_eq_true (by omega)) ?_
  refine To.runF 4 [] (fun _ _ => by kernel_rfl) fun f4 g4 l4 => ?_
  refine To.makeCap (t := 28) elB val.length 64 h64 (by kernel_rfl) (by decide) (by decide) ?_
  intro g rest hrl hg
  refine To.runF 20 [0, 0] (fun _ _ => by kernel_rfl) fun f5 g5 l5 => ?_
  refine To.slotE 29 (.slice (some ⟨g, 0, none⟩) (val.length - Int.toNat 0) 64) (.slice (some ⟨g, 0, none⟩) val.length 64) (by kernel_rfl) rfl ?_
  refine To.copyRow (elem := 5) (dT := 28) (sT := 28) (ty := 3) 1 g 0 val.length 64 src val.length ca rest (ucells val ++ rest.drop val.length) 5 (ucells val) uBytes (by kernel_rfl) (by kernel_rfl) (by kernel_rfl) (by rw [ucells_length]; exact (Nat.min_self _).symm)
    (fun w8 hw8 j u hj => by
      obtain ⟨ad, h1, h2⟩ := hin.cells j u hj
      cases h1
      exact hw8.ext.cell h2 (by rw [add_block]; simpa using hsb)) (by rw [ucells_length]; omega) (ucells_one _) (cop0 val rest) (fun i x hx => by rw [show SX.Fin.heldC _ = [] by kernel_rfl] at hx; cases i <;> cases hx) ?_
  refine To.runF 3 [] (fun _ _ => by kernel_rfl) fun f6 g6 l6 => ?_
  exact To.ret [] (.tuple #[.int .i64 (Int.ofNat (ucells val).length), .nilIface]) (by kernel_rfl) (by kernel_rfl) fun w9 hw9 => ⟨_, rfl, hw9.ext, by rw [ucells_length], g, 64, rest.drop val.length,
    hw9.blk (j := 0) (b := b) (o := .cells ⟨[.slice (some ⟨g, 0, none⟩) val.length 64, .int .i64 0, .int .i8 0]⟩ 73 (0, 0)) (q := true) (by kernel_rfl),
    hw9.blk (j := 1) (b := g) (o := .cells ⟨ucells val ++ rest.drop val.length⟩ 5 (0, 0)) (q := true) (by kernel_rfl), by rw [List.nil_append, List.length_append, List.length_drop, ucells_length]; omega, h64, by decide, .inr (Nat.le_trans (show w.heap.size ≤ _ from by exact Nat.le_refl _) hg), fun e => by have h1 := at_lt hb; have h2 : w.heap.size ≤ g := hg; omega⟩
theorem writeRow (b g c : Nat) (lr : Int) (l val : List UInt8) (rest : List Value) (src : Addr) (ca : Nat) (w : World)
    (hb : w.heap[b]? = some (.cells ⟨[.slice (some ⟨g, 0, none⟩) l.length c, .int .i64 0, .int .i8 lr]⟩ 73 (0, 0)))
    (hg : w.heap[g]? = some (.cells ⟨ucells l ++ rest⟩ 5 (0, 0))) (hc : (ucells l ++ rest).length = c) (hlc : l.length ≤ c) (hcm : c ≤ maxLen) (hl1 : 1 ≤ l.length)
    (hin : BytesIn w (some src) val) (hv : 1 ≤ val.length) (hlen : l.length + val.length ≤ 140737488355328) (hsb : src.block ≠ b) (hsg : src.block ≠ g) :
    Calls Tryz.prog 35 #[.pointer (some ⟨b, 0, none⟩), .slice (some src) val.length ca] w (WrPost b [b, g] l val w) := by
  have hbg : b ≠ g := ne_of_type hg hb (by decide)
  refine calls_of2 (args := [.pointer (some ⟨b, 0, none⟩), .slice (some src) val.length ca]) b g _ _ hb hg hbg Tryz.func35 rfl rfl rfl ?_
  have hcm2 : c ≤ 9223372036854775807 := by simpa [maxLen] using hcm
  have hw0 : IntKind.i64.wrap ((c : Int) - (l.length : Int)) = Int.ofNat (c - l.length) := by
    rw [IntWalk.i64_in _ ⟨by omega, by omega⟩]; simp only [Int.ofNat_eq_natCast]; omega
  refine To.runF 45 [0, 0, 0] (fun _ _ => by kernel_rfl) fun f1 g1 l1 => ?_
  by_cases hroom : val.length ≤ c - l.length
  · refine To.testT (decide ((val.length : Int) ≤ IntKind.i64.wrap ((c : Int) - (l.length : Int)))) (by kernel_rfl) (decide_eq_true (by rw [hw0]; simp only [Int.ofNat_eq_natCast]; omega)) ?_
    refine To.runF 10 [0] (fun _ _ => by kernel_rfl) fun f2 g2 l2 => ?_
    have hw1 : IntKind.i64.wrap ((l.length : Int) + (val.length : Int)) = Int.ofNat (l.length + val.length) := by
      rw [IntWalk.i64_in _ ⟨by omega, by omega⟩]; rfl
    refine To.slotE 28 (.int .i64 (IntKind.i64.wrap ((l.length : Int) + (val.length : Int)))) (.int .i64 (Int.ofNat (l.length + val.length))) (by kernel_rfl) (by rw [hw1]) ?_
    refine To.sliceUpTo elB (some ⟨g, 0, none⟩) l.length (l.length + val.length) c (by omega) (by kernel_rfl) ?_
    refine To.runF 32 [0, 0] (fun _ _ => by kernel_rfl) fun f3 g3 l3 => ?_
    refine To.sliceFrom elB (some ⟨g, 0, none⟩) (l.length + val.length) l.length c (by omega) (by omega) (by kernel_rfl) ?_
    refine To.slotE 29 (.slice (onA (some ⟨g, 0, none⟩) l.length 1 c) (l.length + val.length - l.length) (c - l.length)) (.slice (some ⟨g, l.length, none⟩) val.length (c - l.length)) (by kernel_rfl) (by rw [onAt g l.length c (by omega), Nat.add_sub_cancel_left]) ?_
    refine To.runF 1 [] (fun _ _ => by kernel_rfl) fun f4 g4 l4 => ?_
    refine To.copyRow (elem := 5) (dT := 28) (sT := 28) (ty := 3) 1 g l.length val.length (c - l.length) src val.length ca (ucells l ++ rest) (ucells (l ++ val) ++ rest.drop val.length) 5 (ucells val) uBytes (by kernel_rfl) (by kernel_rfl) (by kernel_rfl) (by rw [ucells_length]; exact (Nat.min_self _).symm)
      (fun w8 hw8 j u hj => by
        obtain ⟨ad, h1, h2⟩ := hin.cells j u hj
        cases h1
        exact hw8.ext.cell h2 (by rw [add_block]; simpa using ⟨hsb, hsg⟩)) (by rw [ucells_length, hc]; omega) (ucells_one _) (cop l val rest) (fun i x hx => by rw [show SX.Fin.heldC _ = [] by kernel_rfl] at hx; cases i <;> cases hx) ?_
    refine To.runF 3 [] (fun _ _ => by kernel_rfl) fun f5 g5 l5 => ?_
    exact To.ret [] (.tuple #[.int .i64 (Int.ofNat (ucells val).length), .nilIface]) (by kernel_rfl) (by kernel_rfl) fun w9 hw9 => ⟨_, rfl, hw9.ext, by rw [ucells_length], g, c, rest.drop val.length,
      by rw [List.length_append]; exact hw9.blk (j := 0) (b := b) (o := .cells ⟨[.slice (some ⟨g, 0, none⟩) (l.length + val.length) c, .int .i64 0, .int .i8 0]⟩ 73 (0, 0)) (q := true) (by kernel_rfl),
      hw9.blk (j := 1) (b := g) (o := .cells ⟨ucells (l ++ val) ++ rest.drop val.length⟩ 5 (0, 0)) (q := true) (by kernel_rfl), by
        rw [List.length_append, ucells_length] at hc
        rw [List.length_append, List.length_drop, ucells_length, List.length_append]; omega, by rw [List.length_append]; omega, hcm, .inl (by simp), Ne.symm hbg⟩
  · refine To.testF (decide ((val.length : Int) ≤ IntKind.i64.wrap ((c : Int) - (l.length : Int)))) (by kernel_rfl) (decide_eq_false (by rw [hw0]; simp only [Int.ofNat_eq_natCast]; omega)) ?_
    refine To.runF 60 [1, 0, 0, 0, 1, 2, 3, 0, 4, 0] (fun _ _ => by kernel_rfl) fun f2 g2 l2 => ?_
    have hw2 : IntKind.i64.wrap ((l.length : Int) - 0) = Int.ofNat l.length := by
      rw [IntWalk.i64_in _ ⟨by omega, by omega⟩]; simp
    refine To.slotE 5 (.int .i64 (IntKind.i64.wrap ((l.length : Int) - 0))) (.int .i64 (Int.ofNat l.length)) (by kernel_rfl) (by rw [hw2]) ?_
    refine To.slotF 13 (IntKind.i64.wrap ((l.length : Int) - 0) == 0) (by kernel_rfl) (beq_eq_false_iff_ne.2 (by rw [hw2]; simp only [Int.ofNat_eq_natCast]; omega)) ?_
    refine To.runF 42 [0, 0] (fun _ _ => by kernel_rfl) fun f3 g3 l3 => ?_
    refine To.testF (decide ((val.length : Int) ≤ IntKind.i64.wrap ((c : Int) - (l.length : Int)))) (by kernel_rfl) (decide_eq_false (by rw [hw0]; simp only [Int.ofNat_eq_natCast]; omega)) ?_
    refine To.runF 53 [0, 0] (fun _ _ => by kernel_rfl) fun f4 g4 l4 => ?_
    have hq : IntKind.i64.wrap (IntKind.i64.wrap (Int.tdiv (c : Int) 2) - Int.ofNat l.length) = (c : Int) / 2 - (l.length : Int) := by
      rw [Int.tdiv_eq_ediv_of_nonneg (by omega), IntWalk.i64_in ((c : Int) / 2) ⟨by omega, by omega⟩, IntWalk.i64_in ((c : Int) / 2 - Int.ofNat l.length) ⟨by simp only [Int.ofNat_eq_natCast]; omega, by simp only [Int.ofNat_eq_natCast]; omega⟩]; rfl
    refine To.testF (decide ((val.length : Int) ≤ IntKind.i64.wrap (IntKind.i64.wrap (Int.tdiv (c : Int) 2) - Int.ofNat l.length))) (by kernel_rfl) (decide_eq_false (by rw [hq]; omega)) ?_
    refine To.runF 9 [] (fun _ _ => by kernel_rfl) fun f5 g5 l5 => ?_
    have hbig : (c : Int) ≤ 140737488355328 := by omega
    have hq2 : IntKind.i64.wrap (IntKind.i64.wrap (9223372036854775807 - (c : Int)) - (val.length : Int)) = 9223372036854775807 - (c : Int) - (val.length : Int) := by
      rw [IntWalk.i64_in (9223372036854775807 - (c : Int)) ⟨by omega, by omega⟩, IntWalk.i64_in _ ⟨by omega, by omega⟩]
    refine To.testF (decide ((c : Int) > IntKind.i64.wrap (IntKind.i64.wrap (9223372036854775807 - (c : Int)) - (val.length : Int)))) (by kernel_rfl) (decide_eq_false (by rw [hq2]; omega)) ?_
    refine To.runF 17 [1, 0, 20, 0, 1, 2, 3, 4, 0, 5, 6, 7, 8, 0, 9, 10, 11, 12, 13, 0] (fun _ _ => by kernel_rfl) fun f6 g6 l6 => ?_
    refine To.slotE 85 (.slice (if c = 0 then some ⟨g, 0, none⟩ else some ⟨g, 0, none⟩) l.length c) (.slice (some ⟨g, 0, none⟩) l.length c) (by kernel_rfl) (by rw [ite_self]) ?_
    refine To.slotE 91 (.int .i64 (IntKind.i64.wrap (0 + (val.length : Int)))) (.int .i64 (Int.ofNat val.length)) (by kernel_rfl) (by rw [Int.zero_add, IntWalk.i64_in _ ⟨by omega, by omega⟩]; rfl) ?_
    refine To.callN 94 #[.slice (some ⟨g, 0, none⟩) l.length c, .int .i64 (Int.ofNat val.length)] (by kernel_rfl) (fun _ => by kernel_rfl) (fun w2 hw2 => growRow g l.length c val.length (ucells l ++ rest) w2 (hw2.blk (j := 1) (b := g) (o := .cells ⟨ucells l ++ rest⟩ 5 (0, 0)) (q := true) (by kernel_rfl)) hc hlc hv hlen (by omega) (by rw [← ucells_length l, List.take_left]; exact ucells_one l)) (fun w2 v2 w3 hw2 hx2 hv2 hnew2 hwi2 => ?_)
    obtain ⟨g2, c2, cells, rfl, hg2, hgn, hcl, hcn, hcm3, htk⟩ := hv2
    have htk2 : cells.take l.length = ucells l := by rw [htk, ← ucells_length l, List.take_left]
    obtain ⟨rest2, rfl⟩ : ∃ r, cells = ucells l ++ r := ⟨cells.drop l.length, by rw [← htk2, List.take_append_drop]⟩
    refine To.withAt g2 (.cells ⟨ucells l ++ rest2⟩ 5 (0, 0)) true hg2 (hnew2 g2 hgn) (fun _ => .inl (Nat.le_trans hwi2 hgn)) ?_
    refine To.runF 21 [0, 0, 0] (fun _ _ => by kernel_rfl) fun f7 g7 l7 => ?_
    have hw1 : IntKind.i64.wrap (Int.ofNat l.length + (val.length : Int)) = Int.ofNat (l.length + val.length) := by
      simp only [Int.ofNat_eq_natCast]; rw [IntWalk.i64_in _ ⟨by omega, by omega⟩]; omega
    refine To.slotE 105 (.int .i64 (IntKind.i64.wrap (Int.ofNat l.length + (val.length : Int)))) (.int .i64 (Int.ofNat (l.length + val.length))) (by kernel_rfl) (by rw [hw1]) ?_
    refine To.sliceUpTo elB (some ⟨g2, 0, none⟩) l.length (l.length + val.length) c2 hcn (by kernel_rfl) ?_
    refine To.runF 19 [0, 0] (fun _ _ => by kernel_rfl) fun f8 g8 l8 => ?_
    refine To.sliceFrom elB (some ⟨g2, 0, none⟩) (l.length + val.length) l.length c2 (by omega) hcn (by kernel_rfl) ?_
    refine To.slotE 29 (.slice (onA (some ⟨g2, 0, none⟩) l.length 1 c2) (l.length + val.length - l.length) (c2 - l.length)) (.slice (some ⟨g2, l.length, none⟩) val.length (c2 - l.length)) (by kernel_rfl) (by rw [onAt g2 l.length c2 (by omega), Nat.add_sub_cancel_left]) ?_
    refine To.runF 1 [] (fun _ _ => by kernel_rfl) fun f9 g9 l9 => ?_
    refine To.copyRow (elem := 5) (dT := 28) (sT := 28) (ty := 3) 2 g2 l.length val.length (c2 - l.length) src val.length ca (ucells l ++ rest2) (ucells (l ++ val) ++ rest2.drop val.length) 5 (ucells val) uBytes (by kernel_rfl) (by kernel_rfl) (by kernel_rfl) (by rw [ucells_length]; exact (Nat.min_self _).symm)
      (fun w8 hw8 j u hj => by
        obtain ⟨ad, h1, h2⟩ := hin.cells j u hj
        cases h1
        exact hw8.ext.cell h2 (by rw [add_block]; simpa using ⟨hsb, hsg⟩)) (by rw [ucells_length, hcl]; omega) (ucells_one _) (cop l val rest2) (fun i x hx => by rw [show SX.Fin.heldC _ = [] by kernel_rfl] at hx; cases i <;> cases hx) ?_
    refine To.runF 3 [] (fun _ _ => by kernel_rfl) fun f10 g10 l10 => ?_
    exact To.ret [] (.tuple #[.int .i64 (Int.ofNat (ucells val).length), .nilIface]) (by kernel_rfl) (by kernel_rfl) fun w9 hw9 => ⟨_, rfl, hw9.ext, by rw [ucells_length], g2, c2, rest2.drop val.length,
      by rw [List.length_append]; exact hw9.blk (j := 0) (b := b) (o := .cells ⟨[.slice (some ⟨g2, 0, none⟩) (l.length + val.length) c2, .int .i64 0, .int .i8 0]⟩ 73 (0, 0)) (q := true) (by kernel_rfl),
      hw9.blk (j := 2) (b := g2) (o := .cells ⟨ucells (l ++ val) ++ rest2.drop val.length⟩ 5 (0, 0)) (q := true) (by kernel_rfl), by
        rw [List.length_append, ucells_length] at hcl
        rw [List.length_append, List.length_drop, ucells_length, List.length_append]; omega, by rw [List.length_append]; omega, hcm3, .inr (Nat.le_trans hwi2 hgn), fun e => by have := at_lt hb; have : w.heap.size ≤ w2.heap.size := hwi2; omega⟩
theorem ones_len (l : List UInt8) : (ones l).length = l.length := by simp [ones]
theorem ones_each (l : List UInt8) : ∀ cs ∈ ones l, cs.length = 1 := by
  intro cs h
  simp only [ones, List.mem_map] at h
  obtain ⟨u, _, rfl⟩ := h
  rfl
theorem writeAny (b : Nat) (a : Option Addr) (n c : Nat) (ob : Option Blk) (l val : List UInt8) (src : Addr) (ca : Nat) (w : World)
    (hO : ORow 1 5 a n c ob (ones l)) (hot : OTrue ob w)
    (hb : w.heap[b]? = some (.cells ⟨[.slice a n c, .int .i64 0, .int .i8 0]⟩ 73 (0, 0)))
    (hin : BytesIn w (some src) val) (hv : 1 ≤ val.length) (hl1 : l = [] → ob = none) (h64 : l = [] → val.length ≤ 64) (hlen : l.length + val.length ≤ 140737488355328) (hsb : src.block ≠ b) (hsg : ∀ m, numO ob = some m → src.block ≠ m) :
    Calls Tryz.prog 35 #[.pointer (some ⟨b, 0, none⟩), .slice (some src) val.length ca] w (WrPost b (b :: (numO ob).toList) l val w) := by
  rcases hO.is with ⟨rfl, rfl, rfl, rfl, hl⟩ | ⟨g, rest, rfl, rfl, h3, h4, h5, h6, h7⟩
  · have : l = [] := by simpa [ones] using hl
    subst this
    exact writeNil b 0 val src ca w hb hin hv (h64 rfl) hsb
  · have hn : n = l.length := by rw [← h3, ones_len]
    subst hn
    have h8 : w.heap[g]? = some (.cells ⟨(ones l).flatten ++ rest⟩ 5 (0, 0)) := hot _ rfl
    rw [ones_flat] at h8 h5
    exact writeRow b g c 0 l val rest src ca w hb h8 (by rw [h5, Nat.mul_one]) h6 h7 (List.length_pos_iff.2 fun e => by cases hl1 e) hin hv hlen hsb (hsg g rfl)
/-- 'b.Write(p)' of a buffer that is known. -/
theorem To.bufWrite {E : Env} {r : SX.Fin} (hP : E.P = Tryz.prog) (j0 j1 b : Nat) (a : Option Addr) (n c : Nat) (ob : Option Blk) (l val : List UInt8) (src : Addr) (ca : Nat)
    (h : r.oper.isSome = true) (hm : ∀ w, r.opm.run E.P w = .ok (.enter 35 #[.pointer (some ⟨b, 0, none⟩), .slice (some src) val.length ca]) w)
    (hj0 : nth r.hp j0 = some ⟨b, .cells ⟨[.slice a n c, .int .i64 0, .int .i8 0]⟩ 73 (0, 0), true⟩) (hj1 : nth r.hp j1 = ob) (hO : ORow 1 5 a n c ob (ones l)) (hh : r.heldC = [])
    (hin : ∀ w, Facts E r.hp w → BytesIn w (some src) val) (hv : 1 ≤ val.length) (hl1 : l = [] → ob = none) (h64 : l = [] → val.length ≤ 64) (hlen : l.length + val.length ≤ 140737488355328)
    (hsb : src.block ≠ b) (hsg : ∀ m, numO ob = some m → src.block ≠ m)
    (k : ∀ w w1 g' c' n' css' cells', Facts E r.hp w → Ext (b :: (numO ob).toList) w w1 → css' = ones (l ++ val) → ORow 1 5 (some ⟨g', 0, none⟩) n' c' (some ⟨g', .cells ⟨cells'⟩ 5 (0, 0), true⟩) css' → (numO ob = some g' ∨ w.heap.size ≤ g') →
      To { E with w0 := w1 } ((((r.gave (.tuple #[.int .i64 (Int.ofNat val.length), .nilIface])).delS [j0, j1]).with b (.cells ⟨[.slice (some ⟨g', 0, none⟩) n' c', .int .i64 0, .int .i8 0]⟩ 73 (0, 0)) true).with g' (.cells ⟨cells'⟩ 5 (0, 0)) true)) : To E r := by
  have hob : ∀ x, ob = some x → x.rw = true ∧ numO ob = some x.b := fun x hx => by
    rcases hO.is with ⟨_, _, _, h1, _⟩ | ⟨g, rest, _, h1, _⟩
    · rw [h1] at hx; cases hx
    · rw [h1] at hx ⊢; cases hx; exact ⟨rfl, rfl⟩
  have hnum : ∀ m, m ∈ (numO ob).toList → ∃ x, ob = some x ∧ x.b = m := fun m hm => by
    cases ob with
    | none => cases hm
    | some x => exact ⟨x, rfl, by simpa [numO, eq_comm] using hm⟩
  have hS : ∀ w, Facts E r.hp w → ∀ i x, nth (delL r.hp [j0, j1]) i = some x → x.b ∉ b :: (numO ob).toList := fun w hw i x hx hmem => by
    obtain ⟨h1, hi1⟩ := nth_delN (hp := delN r.hp j0) (j := j1) hx
    obtain ⟨h2, hi0⟩ := nth_delN h1
    rcases List.mem_cons.1 hmem with e | e
    · exact hw.tr.ne i j0 x _ h2 hj0 hi0 e
    · obtain ⟨y, hy, he⟩ := hnum _ e
      exact hw.tr.ne i j1 x y h2 (hj1.trans hy) hi1 he.symm
  have hown : ∀ w, Facts E r.hp w → ∀ b', b' ∈ b :: (numO ob).toList → E.wi.heap.size ≤ b' ∨ b' ∈ E.ins := fun w hw b' hmem => by
    rcases List.mem_cons.1 hmem with e | e
    · rw [e]; exact hw.own j0 _ hj0 rfl
    · obtain ⟨y, hy, he⟩ := hnum _ e
      rw [← he]; exact hw.own j1 y (hj1.trans hy) (hob y hy).1
  refine To.callS 35 #[.pointer (some ⟨b, 0, none⟩), .slice (some src) val.length ca] (b :: (numO ob).toList) [j0, j1]
    (Φ := fun w v w1 => v = .tuple #[.int .i64 (Int.ofNat val.length), .nilIface] ∧ ∃ g' c' rest', w1.heap[b]? = some (.cells ⟨[.slice (some ⟨g', 0, none⟩) (l ++ val).length c', .int .i64 0, .int .i8 0]⟩ 73 (0, 0)) ∧
      w1.heap[g']? = some (.cells ⟨ucells (l ++ val) ++ rest'⟩ 5 (0, 0)) ∧ (ucells (l ++ val) ++ rest').length = c' ∧ (l ++ val).length ≤ c' ∧ c' ≤ maxLen ∧ (g' ∈ b :: (numO ob).toList ∨ w.heap.size ≤ g') ∧ g' ≠ b)
    h hm (fun w hw => ?_) hS hown (fun w hw i x hx => by rw [hh] at hx; cases i <;> cases hx) ?_
  · rw [hP]
    exact writeAny b a n c ob l val src ca w hO (OTrue.of hw hj1) (hw.tr.blk j0 _ hj0) (hin w hw) hv hl1 h64 hlen hsb hsg
  · rintro w v w1 hw hx ⟨rfl, g', c', rest', h1, h2, h3, h4, h5, h6, h7⟩
    have hne : ∀ j x, nth ((r.gave (.tuple #[.int .i64 (Int.ofNat val.length), .nilIface])).delS [j0, j1]).hp j = some x → x.b ∉ b :: (numO ob).toList ∧ x.b < w.heap.size := fun j x hx => by
      have hx := hp_delS j x hx
      rw [hp_gave h] at hx
      exact ⟨hS w hw j x hx, hw.lt (nth_delL hx)⟩
    refine To.withAt b (.cells ⟨[.slice (some ⟨g', 0, none⟩) (l ++ val).length c', .int .i64 0, .int .i8 0]⟩ 73 (0, 0)) true h1 (fun j x hx e => (hne j x hx).1 (by rw [e]; exact List.mem_cons_self ..)) (fun _ => hown w hw b (List.mem_cons_self ..)) ?_
    refine To.withAt g' (.cells ⟨(ones (l ++ val)).flatten ++ rest'⟩ 5 (0, 0)) true (by rw [ones_flat]; exact h2) (ne_with (fun j x hx e => ?_) (Ne.symm h7)) (fun _ => ?_) ?_
    · rcases h6 with h6 | h6
      · exact (hne j x hx).1 (by rw [e]; exact h6)
      · have := (hne j x hx).2; omega
    · rcases h6 with h6 | h6
      · exact hown w hw g' h6
      · exact .inl (Nat.le_trans hw.ext.size h6)
    · refine k w w1 g' c' _ (ones (l ++ val)) _ hw hx rfl ⟨.inr ⟨g', rest', rfl, rfl, ones_len _, ones_each _, by rw [ones_flat, h3, Nat.mul_one], h4, h5⟩⟩ ?_
      rcases h6 with h6 | h6
      · rcases List.mem_cons.1 h6 with e | e
        · exact absurd e h7
        · obtain ⟨y, hy, he⟩ := hnum _ e
          exact .inl (by rw [(hob y hy).2, he])
      · exact .inr h6
end Go.Proofs.YtgodhbgnhapemaaGreatDoor
