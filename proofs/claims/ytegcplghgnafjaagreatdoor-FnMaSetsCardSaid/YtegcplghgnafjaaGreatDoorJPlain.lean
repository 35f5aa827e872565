/- A number's varint, and the plain law: contained, once each and kept agree with the lists. Conditions: as each says. -/
import Derived.Test.YtegcplghgnafjaaGreatDoorJMake
import Derived.Test.YtegcplghgnafjaaGreatDoorShelf
import Derived.Test.YtegcplghgnafjaaGreatDoorSxB
import Derived.Lib.ItoaNum
import Derived.Test.YtegcplghgnafjaaGreatDoorJAlive
/- ZZUvarint: a number's varint. Conditions: none. -/
namespace Go.Proofs.YtegcplghgnafjaaGreatDoor
open Go Go.SX Go.Shelf
set_option maxHeartbeats 8000000
set_option maxRecDepth 100000
def uvSize (k : Nat) : Nat := k / 7 + (if 0 < k % 7 ∨ k / 7 = 0 then 1 else 0)
theorem uvSize_add (k : Nat) (h : 1 ≤ k) : uvSize (7 + k) = uvSize k + 1 := by
  unfold uvSize
  have h1 : (7 + k) / 7 = k / 7 + 1 := by omega
  have h2 : (7 + k) % 7 = k % 7 := by omega
  rw [h1, h2]
  by_cases h3 : 0 < k % 7
  · simp only [h3, true_or, if_true]
  · rw [if_neg (by omega), if_neg (by omega)]
theorem uvarint_size (n : Nat) (hn : n < 18446744073709551616) : (Lib.uvarint n).length = uvSize (Lib.bitLen n) := by
  induction n using Nat.strongRecOn with
  | ind n ih =>
    by_cases h : n < 128
    · rw [Lib.uvarint_small h]
      have := (by decide +kernel : ∀ m : Fin 128, uvSize (Lib.bitLen m.val) = 1) ⟨n, h⟩
      exact this.symm
    · rw [Lib.uvarint_big (by omega), List.length_cons, ih (n / 128) (by omega) (by omega)]
      have h1 := Lib.bitLen_shift 7 n (by omega) (by omega)
      have e : n / 2 ^ 7 = n / 128 := rfl
      rw [e] at h1
      have h2 : 1 ≤ Lib.bitLen (n / 128) := (Lib.bitLenAux_bounds 64 (n / 128) (by omega) (by omega)).1
      rw [h1, uvSize_add _ h2]
theorem held_none9 {r : SX.Fin} {g : Nat} (h : r.heldC = []) : ∀ i x, nth r.heldC i = some x → some x.b ≠ some g := fun i x hx => by rw [h] at hx; cases i <;> cases hx
theorem putUv (n : Nat) (hn : n < 18446744073709551616) (g : Nat) (rest : List Value) (w : World) (hl : rest.length = (Lib.uvarint n).length) (hg : w.heap[g]? = some (.cells ⟨rest⟩ 5 (0, 0))) :
    Calls Tryz.prog 111 #[.slice (some ⟨g, 0, none⟩) (Lib.uvarint n).length (Lib.uvarint n).length, .int .u64 n] w (fun e w1 => ∃ v, e = .returned v ∧ w.grownBy w1 (some g) ∧ v = .int .i64 (Int.ofNat (Lib.uvarint n).length) ∧ w1.heap[g]? = some (.cells ⟨ucells (Lib.uvarint n)⟩ 5 (0, 0))) := by
  refine (Any.binary_PutUvarint Tryz.lays46 g 0 (Lib.uvarint n).length (Lib.uvarint n).length n hn w (Nat.le_refl _) (fun j hj => ?_)).mono (fun e w1 h => ?_)
  · rw [Nat.zero_add, cell_of_row w g j _ _ (0, 0) hg]
    refine ⟨by simp [hl, hj], ?_⟩
    unfold World.frozen?
    simp [hg]
  · obtain ⟨rfl, rfl⟩ := h
    have hlen : (Lib.byteCells (Lib.uvarint n)).length = (Lib.uvarint n).length := by simp [Lib.byteCells]
    have hlt := at_lt hg
    rw [setCells_row (t := 5) (z := (0, 0)) _ 0 rest w hg (by rw [hlen, hl]; omega)]
    refine ⟨_, rfl, ⟨rfl, rfl, rfl, by simp, fun k hk hne => ?_⟩, rfl, ?_⟩
    · show (w.heap.setIfInBounds g _)[k]? = _
      rw [Array.getElem?_setIfInBounds_ne (fun e => hne (by rw [e]))]
    · show (w.heap.setIfInBounds g _)[g]? = _
      rw [Array.getElem?_setIfInBounds, if_pos rfl, if_pos hlt, hlen, Nat.zero_add, ← hl, List.drop_length]
      simp [Lib.byteCells, ucells]
theorem uvTo : UvTo := fun n w hn => by
  refine calls_of0 (args := [.int .u64 n]) Tryz.func51 rfl rfl rfl ?_
  refine To.runF 23 [] (fun _ _ => by kernel_rfl) fun f1 g1 l1 => ?_
  have hext : ∀ w' : World, Calls Tryz.prog 69 #[.int .u64 n] w' fun e w1 => ∃ v, e = .returned v ∧ Ext [] w' w1 ∧ v = .int .i64 (Int.ofNat (Lib.bitLen n)) := fun w' =>
    Calls.ext (Ψ := fun _ v _ => v = .int .i64 (Int.ofNat (Lib.bitLen n))) (Tryz.bits_Len64 n w' (by omega) (by omega)) (fun e w1 h => ⟨_, h.1, h.2, by simp⟩)
  refine To.callN 69 #[.int .u64 n] (by kernel_rfl) (fun _ => by kernel_rfl) (fun w2 hw2 => hext w2) (fun w2 v2 w3 hw2 hx2 hv2 hnew2 hwi2 => ?_)
  subst hv2
  refine To.runF 22 [] (fun _ _ => by kernel_rfl) fun f2 g2 l2 => ?_
  have hul : (Lib.uvarint n).length ≤ 10 := Lib.uvarint_length64 (by omega)
  have hk : Lib.bitLen n ≤ 64 := by
    have h1 : Lib.uvarint n = Lib.uvarint n := rfl
    by_cases h0 : n = 0
    · rw [h0]; decide
    · have h2 := (Lib.bitLenAux_bounds 64 n (by omega) h0).2.1
      have h3 : Lib.bitLenAux 64 n = Lib.bitLen n := rfl
      rw [h3] at h2
      have h4 : Lib.bitLen n - 1 < 64 := (Nat.pow_lt_pow_iff_right (by decide : 1 < 2)).1 (by omega)
      omega
  have hdiv : IntKind.i64.wrap (Int.tdiv (Int.ofNat (Lib.bitLen n)) 7) = Int.ofNat (Lib.bitLen n / 7) := by
    rw [show Int.tdiv (Int.ofNat (Lib.bitLen n)) 7 = ((Lib.bitLen n / 7 : Nat) : Int) from rfl, IntWalk.i64_in _ ⟨by omega, by omega⟩]; rfl
  refine To.slotE 6 (.int .i64 (IntKind.i64.wrap (Int.tdiv (Int.ofNat (Lib.bitLen n)) 7))) (.int .i64 (Int.ofNat (Lib.bitLen n / 7))) (by kernel_rfl) (by rw [hdiv]) ?_
  have hwi3 : w.heap.size ≤ w3.heap.size := Nat.le_trans hwi2 hx2.size
  by_cases hr : 0 < Lib.bitLen n % 7
  · refine To.slotT 16 (decide (Int.tmod (Int.ofNat (Lib.bitLen n)) 7 > 0)) (by kernel_rfl) (decide_eq_true (by show ((Lib.bitLen n % 7 : Nat) : Int) > 0; omega)) ?_
    refine To.runF 16 [] (fun _ _ => by kernel_rfl) fun f3 g3 l3 => ?_
    have hN : IntKind.i64.wrap (Int.ofNat (Lib.bitLen n / 7) + 1) = Int.ofNat (Lib.uvarint n).length := by
      rw [wrap_succ _ (by omega), uvarint_size n (by omega)]; unfold uvSize; rw [if_pos (.inl hr)]
    refine To.slotE 6 (.int .i64 (IntKind.i64.wrap (Int.ofNat (Lib.bitLen n / 7) + 1))) (.int .i64 (Int.ofNat (Lib.uvarint n).length)) (by kernel_rfl) (by rw [hN]) ?_
    refine To.makeFull elB (Lib.uvarint n).length (by kernel_rfl) (by omega) (by simp only [maxLen]; omega) ?_
    intro g rest hrl hg
    refine To.runF 6 [] (fun _ _ => by kernel_rfl) fun f4 g4 l4 => ?_
    refine To.callGC 111 #[.slice (some ⟨g, 0, none⟩) (Lib.uvarint n).length (Lib.uvarint n).length, .int .u64 n] (some g) (some 0) (Φ := fun _ v w1 => v = .int .i64 (Int.ofNat (Lib.uvarint n).length) ∧ w1.heap[g]? = some (.cells ⟨ucells (Lib.uvarint n)⟩ 5 (0, 0))) (by kernel_rfl) (fun _ => by kernel_rfl)
      (fun w4 hw4 => putUv n (by omega) g rest w4 (by rw [hrl, Nat.mul_one]) (hw4.blk (j := 0) (b := g) (o := .cells ⟨rest⟩ 5 (0, 0)) (q := true) (by kernel_rfl)))
      (fun w _ i x hx => nums_all (Q := fun n => some n ≠ some g) (l := [none]) (by kernel_rfl) trivial i x hx) (fun w9 _ b hb => .inl (by cases hb; exact Nat.le_trans hwi3 hg)) (fun w _ => held_none9 (by kernel_rfl)) (fun w4 v4 w5 hw4 hg4 hΦ => ?_)
    obtain ⟨rfl, hrow⟩ := hΦ
    refine To.runF 6 [] (fun _ _ => by kernel_rfl) fun f5 g5 l5 => ?_
    refine To.sliceTo elB g (Lib.uvarint n).length (Lib.uvarint n).length (Lib.uvarint n).length (Nat.le_refl _) (by kernel_rfl) ?_
    refine To.runF 5 [] (fun _ _ => by kernel_rfl) fun f6 g6 l6 => ?_
    exact To.ret [] (.slice (some ⟨g, 0, none⟩) (Lib.uvarint n).length (Lib.uvarint n).length) (by kernel_rfl) (by kernel_rfl) fun w9 hw9 =>
      ⟨_, rfl, hw9.ext, g, (Lib.uvarint n).length, rfl, (hw9.fr.kept (Q := fun _ => True) (l := [none]) (by kernel_rfl) trivial) g _ trivial hrow, Nat.le_trans hwi3 hg⟩
  refine To.slotF 16 (decide (Int.tmod (Int.ofNat (Lib.bitLen n)) 7 > 0)) (by kernel_rfl) (decide_eq_false (by show ¬ ((Lib.bitLen n % 7 : Nat) : Int) > 0; omega)) ?_
  refine To.runF 4 [] (fun _ _ => by kernel_rfl) fun f3 g3 l3 => ?_
  by_cases hz : Lib.bitLen n / 7 = 0
  · refine To.testT (Int.ofNat (Lib.bitLen n / 7) == 0) (by kernel_rfl) (by rw [hz]; rfl) ?_
    refine To.runF 11 [] (fun _ _ => by kernel_rfl) fun f4 g4 l4 => ?_
    have hN : IntKind.i64.wrap (Int.ofNat (Lib.bitLen n / 7) + 1) = Int.ofNat (Lib.uvarint n).length := by
      rw [wrap_succ _ (by omega), uvarint_size n (by omega)]; unfold uvSize; rw [if_pos (.inr hz)]
    refine To.slotE 6 (.int .i64 (IntKind.i64.wrap (Int.ofNat (Lib.bitLen n / 7) + 1))) (.int .i64 (Int.ofNat (Lib.uvarint n).length)) (by kernel_rfl) (by rw [hN]) ?_
    refine To.makeFull elB (Lib.uvarint n).length (by kernel_rfl) (by omega) (by simp only [maxLen]; omega) ?_
    intro g rest hrl hg
    refine To.runF 6 [] (fun _ _ => by kernel_rfl) fun f5 g5 l5 => ?_
    refine To.callGC 111 #[.slice (some ⟨g, 0, none⟩) (Lib.uvarint n).length (Lib.uvarint n).length, .int .u64 n] (some g) (some 0) (Φ := fun _ v w1 => v = .int .i64 (Int.ofNat (Lib.uvarint n).length) ∧ w1.heap[g]? = some (.cells ⟨ucells (Lib.uvarint n)⟩ 5 (0, 0))) (by kernel_rfl) (fun _ => by kernel_rfl)
      (fun w4 hw4 => putUv n (by omega) g rest w4 (by rw [hrl, Nat.mul_one]) (hw4.blk (j := 0) (b := g) (o := .cells ⟨rest⟩ 5 (0, 0)) (q := true) (by kernel_rfl)))
      (fun w _ i x hx => nums_all (Q := fun n => some n ≠ some g) (l := [none]) (by kernel_rfl) trivial i x hx) (fun w9 _ b hb => .inl (by cases hb; exact Nat.le_trans hwi3 hg)) (fun w _ => held_none9 (by kernel_rfl)) (fun w4 v4 w5 hw4 hg4 hΦ => ?_)
    obtain ⟨rfl, hrow⟩ := hΦ
    refine To.runF 6 [] (fun _ _ => by kernel_rfl) fun f6 g6 l6 => ?_
    refine To.sliceTo elB g (Lib.uvarint n).length (Lib.uvarint n).length (Lib.uvarint n).length (Nat.le_refl _) (by kernel_rfl) ?_
    refine To.runF 5 [] (fun _ _ => by kernel_rfl) fun f7 g7 l7 => ?_
    exact To.ret [] (.slice (some ⟨g, 0, none⟩) (Lib.uvarint n).length (Lib.uvarint n).length) (by kernel_rfl) (by kernel_rfl) fun w9 hw9 =>
      ⟨_, rfl, hw9.ext, g, (Lib.uvarint n).length, rfl, (hw9.fr.kept (Q := fun _ => True) (l := [none]) (by kernel_rfl) trivial) g _ trivial hrow, Nat.le_trans hwi3 hg⟩
  · refine To.testF (Int.ofNat (Lib.bitLen n / 7) == 0) (by kernel_rfl) (by simp only [Int.ofNat_eq_natCast, beq_eq_false_iff_ne, ne_eq]; omega) ?_
    refine To.runF 7 [] (fun _ _ => by kernel_rfl) fun f4 g4 l4 => ?_
    have hN : Int.ofNat (Lib.bitLen n / 7) = Int.ofNat (Lib.uvarint n).length := by
      rw [uvarint_size n (by omega)]; unfold uvSize; rw [if_neg (by omega)]; rfl
    refine To.slotE 6 (.int .i64 (Int.ofNat (Lib.bitLen n / 7))) (.int .i64 (Int.ofNat (Lib.uvarint n).length)) (by kernel_rfl) (by rw [hN]) ?_
    refine To.makeFull elB (Lib.uvarint n).length (by kernel_rfl) (by omega) (by simp only [maxLen]; omega) ?_
    intro g rest hrl hg
    refine To.runF 6 [] (fun _ _ => by kernel_rfl) fun f5 g5 l5 => ?_
    refine To.callGC 111 #[.slice (some ⟨g, 0, none⟩) (Lib.uvarint n).length (Lib.uvarint n).length, .int .u64 n] (some g) (some 0) (Φ := fun _ v w1 => v = .int .i64 (Int.ofNat (Lib.uvarint n).length) ∧ w1.heap[g]? = some (.cells ⟨ucells (Lib.uvarint n)⟩ 5 (0, 0))) (by kernel_rfl) (fun _ => by kernel_rfl)
      (fun w4 hw4 => putUv n (by omega) g rest w4 (by rw [hrl, Nat.mul_one]) (hw4.blk (j := 0) (b := g) (o := .cells ⟨rest⟩ 5 (0, 0)) (q := true) (by kernel_rfl)))
      (fun w _ i x hx => nums_all (Q := fun n => some n ≠ some g) (l := [none]) (by kernel_rfl) trivial i x hx) (fun w9 _ b hb => .inl (by cases hb; exact Nat.le_trans hwi3 hg)) (fun w _ => held_none9 (by kernel_rfl)) (fun w4 v4 w5 hw4 hg4 hΦ => ?_)
    obtain ⟨rfl, hrow⟩ := hΦ
    refine To.runF 6 [] (fun _ _ => by kernel_rfl) fun f6 g6 l6 => ?_
    refine To.sliceTo elB g (Lib.uvarint n).length (Lib.uvarint n).length (Lib.uvarint n).length (Nat.le_refl _) (by kernel_rfl) ?_
    refine To.runF 5 [] (fun _ _ => by kernel_rfl) fun f7 g7 l7 => ?_
    exact To.ret [] (.slice (some ⟨g, 0, none⟩) (Lib.uvarint n).length (Lib.uvarint n).length) (by kernel_rfl) (by kernel_rfl) fun w9 hw9 =>
      ⟨_, rfl, hw9.ext, g, (Lib.uvarint n).length, rfl, (hw9.fr.kept (Q := fun _ => True) (l := [none]) (by kernel_rfl) trivial) g _ trivial hrow, Nat.le_trans hwi3 hg⟩
end Go.Proofs.YtegcplghgnafjaaGreatDoor
/- Components whose rows stand in the table are told apart by their bytes. Plain Lean. Conditions: as each says. -/
namespace Go.Proofs.YtegcplghgnafjaaGreatDoor
open Go Go.SX
/-- A component whose row stands in the table. -/
def InTab (p : Row × List UInt8) : Prop := p.1 ∈ rows
theorem tab_prefix : (rows.all fun r => rows.all fun s => !(r.vc.isPrefixOf s.vc) || (r.code == s.code && r.vc == s.vc && r.size == s.size)) = true := by kernel_rfl
theorem tab_same {r s : Row} (hr : r ∈ rows) (hs : s ∈ rows) (h : r.vc.isPrefixOf s.vc = true) : r.code = s.code ∧ r.vc = s.vc ∧ r.size = s.size := by
  have h1 := List.all_eq_true.1 (List.all_eq_true.1 tab_prefix r hr) s hs
  rw [h] at h1
  simpa [and_assoc] using h1
theorem uv_mono (b : Nat) : ∀ a, a ≤ b → (Lib.uvarint a).length ≤ (Lib.uvarint b).length := by
  induction b using Nat.strongRecOn with
  | ind b ih =>
    intro a hab
    by_cases ha : a < 128
    · rw [Lib.uvarint_small ha]; exact Lib.uvarint_pos b
    · rw [Lib.uvarint_big (by omega), Lib.uvarint_big (by omega : 128 ≤ b), List.length_cons, List.length_cons]
      exact Nat.succ_le_succ (ih (b / 128) (by omega) (a / 128) (by omega))
theorem prefix_or {α : Type} {a b c d : List α} (h : a ++ c = b ++ d) : a <+: b ∨ b <+: a := List.prefix_or_prefix_of_prefix ⟨c, h⟩ ⟨d, rfl⟩
theorem bytes_inj {p q : Row × List UInt8} (hp : InTab p) (hq : InTab q) (h : bytesOf p.1.vc p.1.size p.2 = bytesOf q.1.vc q.1.size q.2) : (p.1.code, p.2) = (q.1.code, q.2) := by
  have h1 : headOf p.1.vc p.1.size p.2.length ++ p.2 = headOf q.1.vc q.1.size q.2.length ++ q.2 := by
    have := congrArg (fun s : ByteArray => s.data.toList) h
    simpa [bytesOf] using this
  have hv : ∀ (r : Row) (n : Nat), ∃ t, headOf r.vc r.size n = r.vc ++ t := fun r n => by
    unfold headOf; split
    · exact ⟨_, rfl⟩
    · exact ⟨[], by simp⟩
  obtain ⟨t1, e1⟩ := hv p.1 p.2.length
  obtain ⟨t2, e2⟩ := hv q.1 q.2.length
  have h2 : p.1.vc ++ (t1 ++ p.2) = q.1.vc ++ (t2 ++ q.2) := by rw [← List.append_assoc, ← List.append_assoc, ← e1, ← e2]; exact h1
  have hs : p.1.code = q.1.code ∧ p.1.vc = q.1.vc ∧ p.1.size = q.1.size := by
    rcases prefix_or h2 with h3 | h3
    · exact tab_same hp hq (List.isPrefixOf_iff_prefix.2 h3)
    · obtain ⟨a, b, c⟩ := tab_same hq hp (List.isPrefixOf_iff_prefix.2 h3)
      exact ⟨a.symm, b.symm, c.symm⟩
  obtain ⟨hc, hvc, hsz⟩ := hs
  rw [hvc, hsz] at h1
  have hval : p.2 = q.2 := by
    unfold headOf at h1
    split at h1
    · rw [List.append_assoc, List.append_assoc] at h1
      have h4 := List.append_cancel_left h1
      have hl := congrArg List.length h4
      simp only [List.length_append] at hl
      have hlen : p.2.length = q.2.length := by
        rcases Nat.lt_trichotomy p.2.length q.2.length with h5 | h5 | h5
        · have := uv_mono _ _ (Nat.le_of_lt h5); omega
        · exact h5
        · have := uv_mono _ _ (Nat.le_of_lt h5); omega
      rw [hlen] at h4
      exact List.append_cancel_left h4
    · exact List.append_cancel_left h1
  rw [hc, hval]
theorem blist_plain {x y : Ma} (hx : ∀ p ∈ x, InTab p) (hy : ∀ p ∈ y, InTab p) (h : blist x = blist y) : plain x = plain y := by
  induction x generalizing y with
  | nil => cases y with
    | nil => rfl
    | cons _ _ => simp [blist] at h
  | cons p x ih =>
    cases y with
    | nil => simp [blist] at h
    | cons q y =>
      simp only [blist, List.map_cons, List.cons.injEq] at h
      simp only [plain, List.map_cons]
      rw [bytes_inj (hx p (by simp)) (hy q (by simp)) h.1]
      exact congrArg _ (ih (fun p hp => hx p (by simp [hp])) (fun p hp => hy p (by simp [hp])) h.2)
end Go.Proofs.YtegcplghgnafjaaGreatDoor
/- Simple addresses as addresses of the package: rows of the table. Plain Lean. Conditions: as each says. -/
namespace Go.Proofs.YtegcplghgnafjaaGreatDoor
open Go Go.SX
theorem tab_codes : (rows.all fun r => rows.all fun s => !(r.code == s.code) || (r.vc == s.vc && r.size == s.size)) = true := by kernel_rfl
theorem tab_code {r s : Row} (hr : r ∈ rows) (hs : s ∈ rows) (h : r.code = s.code) : r.vc = s.vc ∧ r.size = s.size := by
  have h1 := List.all_eq_true.1 (List.all_eq_true.1 tab_codes r hr) s hs
  rw [show (r.code == s.code) = true by simp [h]] at h1
  simpa using h1
theorem tab_has : (specSizes.all fun c => rows.any fun r => r.code == c.1) = true := by kernel_rfl
theorem tab_fine : (rows.all fun r => !(r.code == 0) && decide (r.vc.length ≤ 10)) = true := by kernel_rfl
theorem plain_blist {x y : Ma} (hx : ∀ p ∈ x, InTab p) (hy : ∀ p ∈ y, InTab p) (h : plain x = plain y) : blist x = blist y := by
  induction x generalizing y with
  | nil => cases y with
    | nil => rfl
    | cons _ _ => simp [plain] at h
  | cons p x ih =>
    cases y with
    | nil => simp [plain] at h
    | cons q y =>
      simp only [plain, List.map_cons, List.cons.injEq, Prod.mk.injEq] at h
      obtain ⟨⟨h1, h2⟩, h3⟩ := h
      obtain ⟨h4, h5⟩ := tab_code (hx p (by simp)) (hy q (by simp)) h1
      simp only [blist, List.map_cons]
      rw [h4, h5, h2]
      exact congrArg _ (ih (fun p hp => hx p (by simp [hp])) (fun p hp => hy p (by simp [hp])) h3)
theorem blist_iff {x y : Ma} (hx : ∀ p ∈ x, InTab p) (hy : ∀ p ∈ y, InTab p) : blist x = blist y ↔ plain x = plain y := ⟨blist_plain hx hy, plain_blist hx hy⟩
/-- An address of the package that a simple one stands for. -/
structure Stands (l : Ma) (x : Comps) : Prop where
  plain : plain l = x
  tab : ∀ p ∈ l, InTab p
  fine : ∀ p ∈ l, Fine p
theorem stands_one {c : Int} {val : List UInt8} {sz : Int} (h : SimpleC c val sz) (hv : val.length ≤ 1099511627776) : ∃ r, r ∈ rows ∧ r.code = c ∧ Fine (r, val) := by
  have h1 := List.all_eq_true.1 tab_has _ h.mem
  obtain ⟨r, hr, hc⟩ := List.any_eq_true.1 h1
  have hc : r.code = c := by simpa using hc
  have h2 := List.all_eq_true.1 tab_fine r hr
  simp only [Bool.and_eq_true, Bool.not_eq_true', decide_eq_true_eq] at h2
  exact ⟨r, hr, hc, ⟨coded_all r hr, h2.1, h2.2, hv⟩⟩
theorem stands_list (x : Comps) (h : ∀ p ∈ x, ∃ sz, SimpleC p.1 p.2 sz) (hv : ∀ p ∈ x, p.2.length ≤ 1099511627776) : ∃ l, Stands l x := by
  induction x with
  | nil => exact ⟨[], rfl, (fun _ h => by cases h), (fun _ h => by cases h)⟩
  | cons p x ih =>
    obtain ⟨sz, hs⟩ := h p (by simp)
    obtain ⟨r, hr, hc, hf⟩ := stands_one hs (hv p (by simp))
    obtain ⟨l, h1, h2, h3⟩ := ih (fun q hq => h q (by simp [hq])) (fun q hq => hv q (by simp [hq]))
    refine ⟨(r, p.2) :: l, ?_, fun q hq => ?_, fun q hq => ?_⟩
    · show (r.code, p.2) :: plain l = p :: x
      rw [h1, hc]
    · simp only [List.mem_cons] at hq
      rcases hq with rfl | hq
      · exact hr
      · exact h2 q hq
    · simp only [List.mem_cons] at hq
      rcases hq with rfl | hq
      · exact hf
      · exact h3 q hq
theorem stands (x : Comps) (h : Simples x) (hv : Small x) : ∃ l, Stands l x := by
  refine stands_list x (fun p hp => ?_) (fun p hp => by have := hv.2 p hp; omega)
  rcases h with rfl | ⟨_, _, h⟩
  · cases hp
  · exact h p hp
theorem stands_all (L : List Comps) (h : ∀ x ∈ L, Simples x) (hv : ∀ x ∈ L, Small x) : ∃ M : List Ma, M.map plain = L ∧ ∀ l ∈ M, Stands l (plain l) := by
  induction L with
  | nil => exact ⟨[], rfl, fun _ h => by cases h⟩
  | cons x L ih =>
    obtain ⟨l, hl⟩ := stands x (h x (by simp)) (hv x (by simp))
    obtain ⟨M, h1, h2⟩ := ih (fun y hy => h y (by simp [hy])) (fun y hy => hv y (by simp [hy]))
    refine ⟨l :: M, by simp [hl.plain, h1], fun k hk => ?_⟩
    simp only [List.mem_cons] at hk
    rcases hk with rfl | hk
    · exact ⟨rfl, hl.tab, hl.fine⟩
    · exact h2 k hk
end Go.Proofs.YtegcplghgnafjaaGreatDoor
/- What the package's functions on lists of addresses give, against the plain ones. Plain Lean. Conditions: as each says. -/
namespace Go.Proofs.YtegcplghgnafjaaGreatDoor
open Go Go.SX
theorem hasMa_plain {x : Ma} {M : List Ma} (hx : ∀ p ∈ x, InTab p) (hM : ∀ l ∈ M, ∀ p ∈ l, InTab p) : hasMa x M = decide (plain x ∈ M.map plain) := by
  by_cases h : plain x ∈ M.map plain
  · rw [decide_eq_true h]
    obtain ⟨l, hl, he⟩ := List.mem_map.1 h
    exact List.any_eq_true.2 ⟨l, hl, decide_eq_true ((blist_iff hx (hM l hl)).2 he.symm)⟩
  · rw [decide_eq_false h, hasMa, Bool.eq_false_iff]
    intro ha
    obtain ⟨l, hl, he⟩ := List.any_eq_true.1 ha
    exact h (List.mem_map.2 ⟨l, hl, ((blist_iff hx (hM l hl)).1 (of_decide_eq_true he)).symm⟩)
theorem filter_plain (K : List (List Int)) (M : List Ma) : (M.filter (keptMa K)).map plain = (M.map plain).filter (keptBy K) := by
  rw [List.filter_map]; rfl
theorem uniq_spec (L : List Comps) : (uniqOf L).Nodup ∧ ∀ x, x ∈ uniqOf L ↔ x ∈ L := by
  suffices h : ∀ (M acc : List Comps), acc.Nodup → (M.foldl uniqStep acc).Nodup ∧ ∀ x, x ∈ M.foldl uniqStep acc ↔ x ∈ acc ∨ x ∈ M by
    have := h L [] (by simp)
    exact ⟨this.1, fun x => by rw [uniqOf, this.2 x]; simp⟩
  intro M
  induction M with
  | nil => intro acc h; exact ⟨h, fun x => by simp⟩
  | cons y M ih =>
    intro acc h
    have hs : (uniqStep acc y).Nodup ∧ ∀ x, x ∈ uniqStep acc y ↔ x ∈ acc ∨ x = y := by
      unfold uniqStep
      split
      · rename_i hy
        exact ⟨h, fun x => ⟨.inl, fun hx => by rcases hx with hx | rfl; exact hx; exact hy⟩⟩
      · rename_i hy
        refine ⟨List.nodup_append.2 ⟨h, by simp, fun a ha b hb e => ?_⟩, fun x => by simp⟩
        simp only [List.mem_singleton] at hb
        subst hb; subst e
        exact hy ha
    have := ih (uniqStep acc y) hs.1
    refine ⟨this.1, fun x => ?_⟩
    rw [List.foldl_cons, this.2 x, hs.2 x]
    simp only [List.mem_cons, or_assoc]
theorem once_plain {M U : List Ma} (hM : ∀ l ∈ M, ∀ p ∈ l, InTab p) (hnd : (U.map blist).Nodup) (hmem : ∀ s, s ∈ U.map blist ↔ s ∈ M.map blist) (hsub : ∀ x ∈ U, x ∈ M) :
    (∀ x ∈ uniqOf (M.map plain), x ∈ U.map plain) ∧ (U.map plain).length = (uniqOf (M.map plain)).length := by
  obtain ⟨h1, h2⟩ := uniq_spec (M.map plain)
  have hU : ∀ x, x ∈ U.map plain ↔ x ∈ M.map plain := fun x => by
    constructor
    · intro hx
      obtain ⟨u, hu, rfl⟩ := List.mem_map.1 hx
      exact List.mem_map.2 ⟨u, hsub u hu, rfl⟩
    · intro hx
      obtain ⟨l, hl, rfl⟩ := List.mem_map.1 hx
      obtain ⟨u, hu, he⟩ := List.mem_map.1 ((hmem (blist l)).2 (List.mem_map.2 ⟨l, hl, rfl⟩))
      exact List.mem_map.2 ⟨u, hu, (blist_iff (hM u (hsub u hu)) (hM l hl)).1 he⟩
  have hnp : (U.map plain).Nodup := by
    rw [List.Nodup, List.pairwise_map] at hnd ⊢
    exact hnd.imp_of_mem (fun {a b} ha hb hne he => hne ((blist_iff (hM a (hsub a ha)) (hM b (hsub b hb))).2 he))
  refine ⟨fun x hx => (hU x).2 ((h2 x).1 hx), ?_⟩
  exact ((List.perm_ext_iff_of_nodup hnp h1).2 (fun x => by rw [hU x, h2 x])).length_eq
end Go.Proofs.YtegcplghgnafjaaGreatDoor
