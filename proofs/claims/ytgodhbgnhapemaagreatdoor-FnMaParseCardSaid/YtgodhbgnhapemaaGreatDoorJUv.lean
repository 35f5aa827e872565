/- A number's varint. Conditions: none. -/
import Derived.Test.YtgodhbgnhapemaaGreatDoorJMem
import Derived.Test.YtgodhbgnhapemaaGreatDoorShelf
import Derived.Test.YtgodhbgnhapemaaGreatDoorSxB
import Derived.Lib.ItoaNum
set_option linter.unusedVariables false
set_option linter.unusedSimpArgs false
/- ZZUvarint: a number's varint. Conditions: none. -/
namespace Go.Proofs.YtgodhbgnhapemaaGreatDoor
open Go Go.SX Go.Shelf
set_option maxHeartbeats 8000000
set_option maxRecDepth 100000
def uvSize (k : Nat) : Nat := k / 7 + (if 0 < k % 7 ∨ k / 7 = 0 then 1 else 0)
theorem uvSize_add (k : Nat) (h : 1 ≤ k) : uvSize (7 + k) = uvSize k + 1 := by
  unfold uvSize
  have h1 : (7 + k) / 7 = k / 7 + 1 := by omega
  have h2 : (7 + k) % 7 = k % 7 := by omega
  rw [h1, h2]
  by_cases h3 : 0 < k % 7
  · simp only [h3, true_or, if_true]
  · rw [if_neg (by omega), if_neg (by omega)]
theorem uvarint_size (n : Nat) (hn : n < 18446744073709551616) : (Lib.uvarint n).length = uvSize (Lib.bitLen n) := by
  induction n using Nat.strongRecOn with
  | ind n ih =>
    by_cases h : n < 128
    · rw [Lib.uvarint_small h]
      have := (by decide +kernel : ∀ m : Fin 128, uvSize (Lib.bitLen m.val) = 1) ⟨n, h⟩
      exact this.symm
    · rw [Lib.uvarint_big (by omega), List.length_cons, ih (n / 128) (by omega) (by omega)]
      have h1 := Lib.bitLen_shift 7 n (by omega) (by omega)
      have e : n / 2 ^ 7 = n / 128 := rfl
      rw [e] at h1
      have h2 : 1 ≤ Lib.bitLen (n / 128) := (Lib.bitLenAux_bounds 64 (n / 128) (by omega) (by omega)).1
      rw [h1, uvSize_add _ h2]
theorem held_noneU {r : SX.Fin} {g : Nat} (h : r.heldC = []) : ∀ i x, nth r.heldC i = some x → some x.b ≠ some g := fun i x hx => by rw [h] at hx; cases i <;> cases hx
theorem putUv (n : Nat) (hn : n < 18446744073709551616) (g : Nat) (rest : List Value) (w : World) (hl : rest.length = (Lib.uvarint n).length) (hg : w.heap[g]? = some (.cells ⟨rest⟩ 5 (0, 0))) :
    Calls Tryz.prog 52 #[.slice (some ⟨g, 0, none⟩) (Lib.uvarint n).length (Lib.uvarint n).length, .int .u64 n] w (fun e w1 => ∃ v, e = .returned v ∧ w.grownBy w1 (some g) ∧ v = .int .i64 (Int.ofNat (Lib.uvarint n).length) ∧ w1.heap[g]? = some (.cells ⟨ucells (Lib.uvarint n)⟩ 5 (0, 0))) := by
  refine (Any.binary_PutUvarint Tryz.lays46 g 0 (Lib.uvarint n).length (Lib.uvarint n).length n hn w (Nat.le_refl _) (fun j hj => ?_)).mono (fun e w1 h => ?_)
  · rw [Nat.zero_add, cell_of_row w g j _ _ (0, 0) hg]
    refine ⟨by simp [hl, hj], ?_⟩
    unfold World.frozen?
    simp [hg]
  · obtain ⟨rfl, rfl⟩ := h
    have hlen : (Lib.byteCells (Lib.uvarint n)).length = (Lib.uvarint n).length := by simp [Lib.byteCells]
    have hlt := at_lt hg
    rw [setCells_row (t := 5) (z := (0, 0)) _ 0 rest w hg (by rw [hlen, hl]; omega)]
    refine ⟨_, rfl, ⟨rfl, rfl, rfl, by simp, fun k hk hne => ?_⟩, rfl, ?_⟩
    · show (w.heap.setIfInBounds g _)[k]? = _
      rw [Array.getElem?_setIfInBounds_ne (fun e => hne (by rw [e]))]
    · show (w.heap.setIfInBounds g _)[g]? = _
      rw [Array.getElem?_setIfInBounds, if_pos rfl, if_pos hlt, hlen, Nat.zero_add, ← hl, List.drop_length]
      simp [Lib.byteCells, ucells]
/-- The varint of a number. -/
def UvTo : Prop := ∀ (n : Nat) (w : World), n < 9223372036854775808 → Calls Tryz.prog 37 #[.int .u64 n] w fun e w1 =>
  ∃ v, e = .returned v ∧ Ext [] w w1 ∧ ∃ b c, v = .slice (some ⟨b, 0, none⟩) (Lib.uvarint n).length c ∧ w1.heap[b]? = some (.cells ⟨ucells (Lib.uvarint n)⟩ 5 (0, 0)) ∧ w.heap.size ≤ b
theorem uvTo : UvTo := fun n w hn => by
  refine calls_of0 (args := [.int .u64 n]) Tryz.func37 rfl rfl rfl ?_
  refine To.runF 15 [] (fun _ _ => by kernel_rfl) fun f1 g1 l1 => ?_
  have hext : ∀ w' : World, Calls Tryz.prog 97 #[.int .u64 n] w' fun e w1 => ∃ v, e = .returned v ∧ Ext [] w' w1 ∧ v = .int .i64 (Int.ofNat (Lib.bitLen n)) := fun w' =>
    Calls.ext (Ψ := fun _ v _ => v = .int .i64 (Int.ofNat (Lib.bitLen n))) (Tryz.bits_Len64 n w' (by omega) (by omega)) (fun e w1 h => ⟨_, h.1, h.2, by simp⟩)
  refine To.callN 97 #[.int .u64 n] (by kernel_rfl) (fun _ => by kernel_rfl) (fun w2 hw2 => hext w2) (fun w2 v2 w3 hw2 hx2 hv2 hnew2 hwi2 => ?_)
  subst hv2
  refine To.runF 22 [] (fun _ _ => by kernel_rfl) fun f2 g2 l2 => ?_
  have hul : (Lib.uvarint n).length ≤ 10 := Lib.uvarint_length64 (by omega)
  have hk : Lib.bitLen n ≤ 64 := by
    have h1 : Lib.uvarint n = Lib.uvarint n := rfl
    by_cases h0 : n = 0
    · rw [h0]; decide
    · have h2 := (Lib.bitLenAux_bounds 64 n (by omega) h0).2.1
      have h3 : Lib.bitLenAux 64 n = Lib.bitLen n := rfl
      rw [h3] at h2
      have h4 : Lib.bitLen n - 1 < 64 := (Nat.pow_lt_pow_iff_right (by decide : 1 < 2)).1 (by omega)
      omega
  have hdiv : IntKind.i64.wrap (Int.tdiv (Int.ofNat (Lib.bitLen n)) 7) = Int.ofNat (Lib.bitLen n / 7) := by
    rw [show Int.tdiv (Int.ofNat (Lib.bitLen n)) 7 = ((Lib.bitLen n / 7 : Nat) : Int) from rfl, IntWalk.i64_in _ ⟨by omega, by omega⟩]; rfl
  refine To.slotE 6 (.int .i64 (IntKind.i64.wrap (Int.tdiv (Int.ofNat (Lib.bitLen n)) 7))) (.int .i64 (Int.ofNat (Lib.bitLen n / 7))) (by kernel_rfl) (by rw [hdiv]) ?_
  have hwi3 : w.heap.size ≤ w3.heap.size := Nat.le_trans hwi2 hx2.size
  by_cases hr : 0 < Lib.bitLen n % 7
  · refine To.slotT 16 (decide (Int.tmod (Int.ofNat (Lib.bitLen n)) 7 > 0)) (by kernel_rfl) (decide_eq_true (by show ((Lib.bitLen n % 7 : Nat) : Int) > 0; omega)) ?_
    refine To.runF 16 [] (fun _ _ => by kernel_rfl) fun f3 g3 l3 => ?_
    have hN : IntKind.i64.wrap (Int.ofNat (Lib.bitLen n / 7) + 1) = Int.ofNat (Lib.uvarint n).length := by
      rw [wrap_succ _ (by omega), uvarint_size n (by omega)]; unfold uvSize; rw [if_pos (.inl hr)]
    refine To.slotE 6 (.int .i64 (IntKind.i64.wrap (Int.ofNat (Lib.bitLen n / 7) + 1))) (.int .i64 (Int.ofNat (Lib.uvarint n).length)) (by kernel_rfl) (by rw [hN]) ?_
    refine To.makeFull elB (Lib.uvarint n).length (by kernel_rfl) (by omega) (by simp only [maxLen]; omega) ?_
    intro g rest hrl hg
    refine To.runF 6 [] (fun _ _ => by kernel_rfl) fun f4 g4 l4 => ?_
    refine To.callGC 52 #[.slice (some ⟨g, 0, none⟩) (Lib.uvarint n).length (Lib.uvarint n).length, .int .u64 n] (some g) (some 0) (Φ := fun _ v w1 => v = .int .i64 (Int.ofNat (Lib.uvarint n).length) ∧ w1.heap[g]? = some (.cells ⟨ucells (Lib.uvarint n)⟩ 5 (0, 0))) (by kernel_rfl) (fun _ => by kernel_rfl)
      (fun w4 hw4 => putUv n (by omega) g rest w4 (by rw [hrl, Nat.mul_one]) (hw4.blk (j := 0) (b := g) (o := .cells ⟨rest⟩ 5 (0, 0)) (q := true) (by kernel_rfl)))
      (fun w _ i x hx => nums_all (Q := fun n => some n ≠ some g) (l := [none]) (by kernel_rfl) trivial i x hx) (fun w9 _ b hb => .inl (by cases hb; exact Nat.le_trans hwi3 hg)) (fun w _ => held_noneU (by kernel_rfl)) (fun w4 v4 w5 hw4 hg4 hΦ => ?_)
    obtain ⟨rfl, hrow⟩ := hΦ
    refine To.runF 6 [] (fun _ _ => by kernel_rfl) fun f5 g5 l5 => ?_
    refine To.sliceTo elB g (Lib.uvarint n).length (Lib.uvarint n).length (Lib.uvarint n).length (Nat.le_refl _) (by kernel_rfl) ?_
    refine To.runF 2 [] (fun _ _ => by kernel_rfl) fun f6 g6 l6 => ?_
    exact To.ret [] (.slice (some ⟨g, 0, none⟩) (Lib.uvarint n).length (Lib.uvarint n).length) (by kernel_rfl) (by kernel_rfl) fun w9 hw9 =>
      ⟨_, rfl, hw9.ext, g, (Lib.uvarint n).length, rfl, (hw9.fr.kept (Q := fun _ => True) (l := [none]) (by kernel_rfl) trivial) g _ trivial hrow, Nat.le_trans hwi3 hg⟩
  refine To.slotF 16 (decide (Int.tmod (Int.ofNat (Lib.bitLen n)) 7 > 0)) (by kernel_rfl) (decide_eq_false (by show ¬ ((Lib.bitLen n % 7 : Nat) : Int) > 0; omega)) ?_
  refine To.runF 4 [] (fun _ _ => by kernel_rfl) fun f3 g3 l3 => ?_
  by_cases hz : Lib.bitLen n / 7 = 0
  · refine To.testT (Int.ofNat (Lib.bitLen n / 7) == 0) (by kernel_rfl) (by rw [hz]; rfl) ?_
    refine To.runF 11 [] (fun _ _ => by kernel_rfl) fun f4 g4 l4 => ?_
    have hN : IntKind.i64.wrap (Int.ofNat (Lib.bitLen n / 7) + 1) = Int.ofNat (Lib.uvarint n).length := by
      rw [wrap_succ _ (by omega), uvarint_size n (by omega)]; unfold uvSize; rw [if_pos (.inr hz)]
    refine To.slotE 6 (.int .i64 (IntKind.i64.wrap (Int.ofNat (Lib.bitLen n / 7) + 1))) (.int .i64 (Int.ofNat (Lib.uvarint n).length)) (by kernel_rfl) (by rw [hN]) ?_
    refine To.makeFull elB (Lib.uvarint n).length (by kernel_rfl) (by omega) (by simp only [maxLen]; omega) ?_
    intro g rest hrl hg
    refine To.runF 6 [] (fun _ _ => by kernel_rfl) fun f5 g5 l5 => ?_
    refine To.callGC 52 #[.slice (some ⟨g, 0, none⟩) (Lib.uvarint n).length (Lib.uvarint n).length, .int .u64 n] (some g) (some 0) (Φ := fun _ v w1 => v = .int .i64 (Int.ofNat (Lib.uvarint n).length) ∧ w1.heap[g]? = some (.cells ⟨ucells (Lib.uvarint n)⟩ 5 (0, 0))) (by kernel_rfl) (fun _ => by kernel_rfl)
      (fun w4 hw4 => putUv n (by omega) g rest w4 (by rw [hrl, Nat.mul_one]) (hw4.blk (j := 0) (b := g) (o := .cells ⟨rest⟩ 5 (0, 0)) (q := true) (by kernel_rfl)))
      (fun w _ i x hx => nums_all (Q := fun n => some n ≠ some g) (l := [none]) (by kernel_rfl) trivial i x hx) (fun w9 _ b hb => .inl (by cases hb; exact Nat.le_trans hwi3 hg)) (fun w _ => held_noneU (by kernel_rfl)) (fun w4 v4 w5 hw4 hg4 hΦ => ?_)
    obtain ⟨rfl, hrow⟩ := hΦ
    refine To.runF 6 [] (fun _ _ => by kernel_rfl) fun f6 g6 l6 => ?_
    refine To.sliceTo elB g (Lib.uvarint n).length (Lib.uvarint n).length (Lib.uvarint n).length (Nat.le_refl _) (by kernel_rfl) ?_
    refine To.runF 2 [] (fun _ _ => by kernel_rfl) fun f7 g7 l7 => ?_
    exact To.ret [] (.slice (some ⟨g, 0, none⟩) (Lib.uvarint n).length (Lib.uvarint n).length) (by kernel_rfl) (by kernel_rfl) fun w9 hw9 =>
      ⟨_, rfl, hw9.ext, g, (Lib.uvarint n).length, rfl, (hw9.fr.kept (Q := fun _ => True) (l := [none]) (by kernel_rfl) trivial) g _ trivial hrow, Nat.le_trans hwi3 hg⟩
  · refine To.testF (Int.ofNat (Lib.bitLen n / 7) == 0) (by kernel_rfl) (by simp only [Int.ofNat_eq_natCast, beq_eq_false_iff_ne, ne_eq]; omega) ?_
    refine To.runF 7 [] (fun _ _ => by kernel_rfl) fun f4 g4 l4 => ?_
    have hN : Int.ofNat (Lib.bitLen n / 7) = Int.ofNat (Lib.uvarint n).length := by
      rw [uvarint_size n (by omega)]; unfold uvSize; rw [if_neg (by omega)]; rfl
    refine To.slotE 6 (.int .i64 (Int.ofNat (Lib.bitLen n / 7))) (.int .i64 (Int.ofNat (Lib.uvarint n).length)) (by kernel_rfl) (by rw [hN]) ?_
    refine To.makeFull elB (Lib.uvarint n).length (by kernel_rfl) (by omega) (by simp only [maxLen]; omega) ?_
    intro g rest hrl hg
    refine To.runF 6 [] (fun _ _ => by kernel_rfl) fun f5 g5 l5 => ?_
    refine To.callGC 52 #[.slice (some ⟨g, 0, none⟩) (Lib.uvarint n).length (Lib.uvarint n).length, .int .u64 n] (some g) (some 0) (Φ := fun _ v w1 => v = .int .i64 (Int.ofNat (Lib.uvarint n).length) ∧ w1.heap[g]? = some (.cells ⟨ucells (Lib.uvarint n)⟩ 5 (0, 0))) (by kernel_rfl) (fun _ => by kernel_rfl)
      (fun w4 hw4 => putUv n (by omega) g rest w4 (by rw [hrl, Nat.mul_one]) (hw4.blk (j := 0) (b := g) (o := .cells ⟨rest⟩ 5 (0, 0)) (q := true) (by kernel_rfl)))
      (fun w _ i x hx => nums_all (Q := fun n => some n ≠ some g) (l := [none]) (by kernel_rfl) trivial i x hx) (fun w9 _ b hb => .inl (by cases hb; exact Nat.le_trans hwi3 hg)) (fun w _ => held_noneU (by kernel_rfl)) (fun w4 v4 w5 hw4 hg4 hΦ => ?_)
    obtain ⟨rfl, hrow⟩ := hΦ
    refine To.runF 6 [] (fun _ _ => by kernel_rfl) fun f6 g6 l6 => ?_
    refine To.sliceTo elB g (Lib.uvarint n).length (Lib.uvarint n).length (Lib.uvarint n).length (Nat.le_refl _) (by kernel_rfl) ?_
    refine To.runF 2 [] (fun _ _ => by kernel_rfl) fun f7 g7 l7 => ?_
    exact To.ret [] (.slice (some ⟨g, 0, none⟩) (Lib.uvarint n).length (Lib.uvarint n).length) (by kernel_rfl) (by kernel_rfl) fun w9 hw9 =>
      ⟨_, rfl, hw9.ext, g, (Lib.uvarint n).length, rfl, (hw9.fr.kept (Q := fun _ => True) (l := [none]) (by kernel_rfl) trivial) g _ trivial hrow, Nat.le_trans hwi3 hg⟩
end Go.Proofs.YtgodhbgnhapemaaGreatDoor
