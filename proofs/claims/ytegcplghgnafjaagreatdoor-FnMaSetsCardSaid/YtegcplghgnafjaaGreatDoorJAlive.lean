/- Encapsulating two components, and laws.maAlive. Conditions: none but the hypothesis UvTo. -/
import Derived.Test.YtegcplghgnafjaaGreatDoorJSort
import Derived.Test.YtegcplghgnafjaaGreatDoorSxB
import Derived.Test.YtegcplghgnafjaaGreatDoorJWords
/- impl.MaEncapsulate of two addresses of one component. Conditions: as each says. -/
namespace Go.Proofs.YtegcplghgnafjaaGreatDoor
open Go Go.SX
set_option maxHeartbeats 8000000
set_option maxRecDepth 100000
theorem elMc : Elem Tryz.prog 46 54 3 32 := Elem.of (z := .agg #[.string ⟨#[]⟩, .pointer none, .int .i64 0]) (by kernel_rfl) (by kernel_rfl) rfl
theorem cell_lt {w : World} {a : Addr} {u : Value} (h : w.cell? a = some u) : a.block < w.heap.size := by
  obtain ⟨c, e, z, h1, _⟩ := block_of_cell h
  exact at_lt h1
theorem implEncapsulate (hu : UvTo) (p q : Row × List UInt8) (a b : Option Addr) (ca cb : Nat) (w : World) (ha : CompsIn w a (plain [p])) (hb : CompsIn w b (plain [q])) (hfp : Fine p) (hfq : Fine q) :
    Calls Tryz.prog 21 #[.slice a 1 ca, .slice b 1 cb] w (fun e w1 => ∃ v, e = .returned v ∧ Ext [] w w1 ∧ ∃ a' c', v = .slice a' 2 c' ∧ CompsIn w1 a' (plain [p, q])) := by
  refine calls_of0 (args := [.slice a 1 ca, .slice b 1 cb]) Tryz.func21 rfl rfl rfl ?_
  refine To.runF 7 [] (fun _ _ => by kernel_rfl) fun f1 g1 l1 => ?_
  refine To.callN 25 #[.slice a 1 ca] (by kernel_rfl) (fun _ => by kernel_rfl) (fun w2 hw2 => address hu [p] a ca w2 (ha.later hw2.ext) (by simpa using hfp) (by simp)) (fun w2 v2 w3 hw2 hx2 hv2 hnew2 hwi2 => ?_)
  obtain ⟨a2, c2, rfl, hm2⟩ := hv2.min
  refine To.runF 1 [] (fun _ _ => by kernel_rfl) fun f2 g2 l2 => ?_
  refine To.callN 25 #[.slice b 1 cb] (by kernel_rfl) (fun _ => by kernel_rfl) (fun w4 hw4 => address hu [q] b cb w4 (hb.later hw4.ext) (by simpa using hfq) (by simp)) (fun w4 v4 w5 hw4 hx4 hv4 hnew4 hwi4 => ?_)
  obtain ⟨a4, c4, rfl, hm4⟩ := hv4.min
  refine To.runF 255 [0, 1, 0, 1, 1, 1, 1] (fun _ _ => by kernel_rfl) fun f3 g3 l3 => ?_
  have hm25 : MIn w5 a2 [p] := (hm2.later (frx hw4.fr (by kernel_rfl))).later hx4
  obtain ⟨ad, pb, vb, ha2, hsp, hc0, hc1, hc2, hr⟩ := hm25.at_ 0 p rfl
  have e0 : w5.heap.size ≤ f3 0 := l3 0
  have e1 : w5.heap.size ≤ f3 1 := l3 1
  have e2 : w5.heap.size ≤ f3 2 := l3 2
  obtain ⟨bd, qb, ub, ha4, hsq, hd0, hd1, hd2, hs⟩ := hm4.at_ 0 q rfl
  refine To.append2 (t := 46) (t2 := 47) (ty := 46) elMc elM.sl 2 (f3 2) 0 2 [] [.string ⟨#[]⟩, .pointer none, .int .i64 0, .string ⟨#[]⟩, .pointer none, .int .i64 0] a2 1 c2 [.string (bytesOf p.1.vc p.1.size p.2), .pointer (some ⟨pb, 0, none⟩), .int .i64 (Int.ofNat (headOf p.1.vc p.1.size p.2.length).length)] (by kernel_rfl) (by kernel_rfl) rfl rfl (by decide) (by decide) rfl
    (fun w hw j u hj => by
      refine ⟨_, ha2, ?_⟩
      rcases j with _ | _ | _ | j
      · cases hj; exact (hw.fr.kept (Q := (fun b => b < w5.heap.size)) (l := [some (f3 0), some (f3 1), some (f3 2)]) (by kernel_rfl) ⟨by omega, by omega, by omega, trivial⟩).cell (cell_lt hc0) hc0
      · cases hj; exact (hw.fr.kept (Q := (fun b => b < w5.heap.size)) (l := [some (f3 0), some (f3 1), some (f3 2)]) (by kernel_rfl) ⟨by omega, by omega, by omega, trivial⟩).cell (cell_lt hc1) hc1
      · cases hj; exact (hw.fr.kept (Q := (fun b => b < w5.heap.size)) (l := [some (f3 0), some (f3 1), some (f3 2)]) (by kernel_rfl) ⟨by omega, by omega, by omega, trivial⟩).cell (cell_lt hc2) hc2
      · cases hj) (fun h => by rw [h] at ha2; cases ha2) (by intro u hu; simp only [List.mem_cons, List.not_mem_nil, or_false] at hu; rcases hu with rfl | rfl | rfl <;> rfl) (by decide) (by decide) (held_nil (by kernel_rfl)) ?_
  intro w6 w7 g' c' r' hw6 hg6 ho6 hl6 hc6 hm6
  have e6 : w5.heap.size ≤ w6.heap.size := hw6.fr.size
  have hg' : w5.heap.size ≤ g' := by rcases ho6 with h | h <;> rw [h] <;> assumption
  have hk7 : Kept (fun b => b < w5.heap.size) w5 w7 := (hw6.fr.kept (l := [some (f3 0), some (f3 1), some (f3 2)]) (by kernel_rfl) ⟨by omega, by omega, by omega, trivial⟩).trans (grown_kept hg6 (fun b hb h => by cases hb; omega))
  refine To.runF 26 [1] (fun _ _ => by kernel_rfl) fun f4 g4 l4 => ?_
  refine To.append2 (t := 46) (t2 := 47) (ty := 46) elMc elM.sl 3 g' 1 c' [.string (bytesOf p.1.vc p.1.size p.2), .pointer (some ⟨pb, 0, none⟩), .int .i64 (Int.ofNat (headOf p.1.vc p.1.size p.2.length).length)] r' a4 1 c4 [.string (bytesOf q.1.vc q.1.size q.2), .pointer (some ⟨qb, 0, none⟩), .int .i64 (Int.ofNat (headOf q.1.vc q.1.size q.2.length).length)] (by kernel_rfl) (by kernel_rfl) rfl hl6 hc6 hm6 rfl
    (fun w hw j u hj => by
      refine ⟨_, ha4, ?_⟩
      rcases j with _ | _ | _ | j
      · cases hj; exact (hk7.trans (hw.fr.kept (l := [some (f3 0), some (f3 1), none, some g']) (by kernel_rfl) ⟨by omega, by omega, by omega, trivial⟩)).cell (cell_lt hd0) hd0
      · cases hj; exact (hk7.trans (hw.fr.kept (l := [some (f3 0), some (f3 1), none, some g']) (by kernel_rfl) ⟨by omega, by omega, by omega, trivial⟩)).cell (cell_lt hd1) hd1
      · cases hj; exact (hk7.trans (hw.fr.kept (l := [some (f3 0), some (f3 1), none, some g']) (by kernel_rfl) ⟨by omega, by omega, by omega, trivial⟩)).cell (cell_lt hd2) hd2
      · cases hj) (fun h => by rw [h] at ha4; cases ha4) (by intro u hu; simp only [List.mem_cons, List.not_mem_nil, or_false] at hu; rcases hu with rfl | rfl | rfl <;> rfl) (by decide) (by decide) (held_nil (by kernel_rfl)) ?_
  intro w8 w9 g2 c2' r2 hw8 hg8 ho8 hl8 hc8 hm8
  refine To.runF 24 [] (fun _ _ => by kernel_rfl) fun f5 g5 l5 => ?_
  have e8 : w7.heap.size ≤ w8.heap.size := hw8.fr.size
  have e7 : w6.heap.size ≤ w7.heap.size := hg6.size
  have hg2 : w5.heap.size ≤ g2 := by rcases ho8 with h | h <;> rw [h] <;> omega
  have hk9 : Kept (fun b => b < w5.heap.size) w5 w9 := (hk7.trans (hw8.fr.kept (l := [some (f3 0), some (f3 1), none, some g']) (by kernel_rfl) ⟨by omega, by omega, by omega, trivial⟩)).trans (grown_kept hg8 (fun b hb h => by cases hb; omega))
  refine To.callN 35 #[.slice (some ⟨g2, 0, none⟩) 2 c2'] (by kernel_rfl) (fun _ => by kernel_rfl) (fun w10 hw10 => components [p, q] (some ⟨g2, 0, none⟩) c2' w10 ⟨fun j x hj => by
      have hk10 : Kept (fun b => b < w5.heap.size) w5 w10 := hk9.trans (hw10.fr.kept (l := [some (f3 0), some (f3 1), none, none, some g2]) (by kernel_rfl) ⟨by omega, by omega, by omega, trivial⟩)
      have hcell : ∀ i u, ([.string (bytesOf p.1.vc p.1.size p.2), .pointer (some ⟨pb, 0, none⟩), .int .i64 (Int.ofNat (headOf p.1.vc p.1.size p.2.length).length), .string (bytesOf q.1.vc q.1.size q.2), .pointer (some ⟨qb, 0, none⟩), .int .i64 (Int.ofNat (headOf q.1.vc q.1.size q.2.length).length)] ++ r2)[i]? = some u → w10.cell? ((⟨g2, 0, none⟩ : Addr).add i) = some u := fun i u hi => hw10.cellAt0 (j := 4) (b := g2) (l := [.string (bytesOf p.1.vc p.1.size p.2), .pointer (some ⟨pb, 0, none⟩), .int .i64 (Int.ofNat (headOf p.1.vc p.1.size p.2.length).length), .string (bytesOf q.1.vc q.1.size q.2), .pointer (some ⟨qb, 0, none⟩), .int .i64 (Int.ofNat (headOf q.1.vc q.1.size q.2.length).length)] ++ r2) (e := 54) (f := (0, 0)) (q := true) (by kernel_rfl) hi
      rcases j with _ | _ | j
      · cases hj; exact ⟨_, pb, vb, rfl, rfl, hcell 0 _ rfl, hcell 1 _ rfl, hcell 2 _ rfl, hr.kept hk10 hr.lt.1 hr.lt.2⟩
      · cases hj; exact ⟨_, qb, ub, rfl, rfl, hcell 3 _ rfl, hcell 4 _ rfl, hcell 5 _ rfl, hs.kept hk10 hs.lt.1 hs.lt.2⟩
      · cases hj⟩ (by simp)) (fun w10 v10 w11 hw10 hx10 hv10 hnew10 hwi10 => ?_)
  have t0 : f3 0 < w10.heap.size := hw10.lt (j := 0) (b := ⟨f3 0, .cells ⟨[.iface 47 (.slice a2 1 c2), .iface 47 (.slice a4 1 c4)]⟩ 79 (0, 0), true⟩) (by kernel_rfl)
  have t1 : f3 1 < w10.heap.size := hw10.lt (j := 1) (b := ⟨f3 1, .cells ⟨[.slice a2 1 c2, .slice a4 1 c4]⟩ 47 (0, 0), true⟩) (by kernel_rfl)
  have t2 : g2 < w10.heap.size := hw10.lt (j := 4) (b := ⟨g2, .cells ⟨[.string (bytesOf p.1.vc p.1.size p.2), .pointer (some ⟨pb, 0, none⟩), .int .i64 (Int.ofNat (headOf p.1.vc p.1.size p.2.length).length), .string (bytesOf q.1.vc q.1.size q.2), .pointer (some ⟨qb, 0, none⟩), .int .i64 (Int.ofNat (headOf q.1.vc q.1.size q.2.length).length)] ++ r2⟩ 54 (0, 0), true⟩) (by kernel_rfl)
  obtain ⟨a9, c9, rfl, _⟩ := CompsOut.min hv10
  refine To.runF 2 [] (fun _ _ => by kernel_rfl) fun f6 g6 l6 => ?_
  exact To.ret [] (.slice a9 2 c9) (by kernel_rfl) (by kernel_rfl) fun w12 hw12 => by
    have hk12 : Kept (fun b => w10.heap.size ≤ b) w11 w12 := hw12.fr.kept (l := [some (f3 0), some (f3 1), none, none, some g2]) (by kernel_rfl) ⟨by omega, by omega, by omega, trivial⟩
    obtain ⟨a', c', hv, hm⟩ := CompsOut.min (CompsOut.kept hv10 hk12 (fun b c t z hlo _ _ => hlo))
    cases hv
    exact ⟨_, rfl, hw12.ext, _, _, rfl, hm⟩
end Go.Proofs.YtegcplghgnafjaaGreatDoor
/- laws.maAlive. Conditions: none but the hypothesis UvTo. -/
namespace Go.Proofs.YtegcplghgnafjaaGreatDoor
open Go Go.SX
set_option maxHeartbeats 8000000
set_option maxRecDepth 100000
abbrev p4 : Row × List UInt8 := (row4, [127, 0, 0, 1])
abbrev p273 : Row × List UInt8 := (row273, [4, 210])
theorem fine4 : Fine p4 := ⟨coded4, by decide, by decide, by decide⟩
theorem fine273 : Fine p273 := ⟨coded273, by decide, by decide, by decide⟩
def twoCells (b0 b1 : Nat) : List Value := [.int .i64 4, .slice (some ⟨b0, 0, none⟩) 4 4, .int .i64 273, .slice (some ⟨b1, 0, none⟩) 2 2]
theorem bytesIn_row {w : World} {g : Nat} {l : List UInt8} {t : TypeId} {z : Nat × Nat} (h : w.heap[g]? = some (.cells ⟨ucells l⟩ t z)) : BytesIn w (some ⟨g, 0, none⟩) l :=
  ⟨fun j u hj => ⟨_, rfl, ucells_cell (rest := []) (by rw [List.append_nil]; exact h) hj⟩, fun h => by cases h⟩
theorem twoIn (b0 b1 b2 : Nat) (w : World) (h0 : w.heap[b0]? = some (.cells ⟨ucells [127, 0, 0, 1]⟩ 5 (0, 0))) (h1 : w.heap[b1]? = some (.cells ⟨ucells [4, 210]⟩ 5 (0, 0)))
    (h2 : w.heap[b2]? = some (.cells ⟨twoCells b0 b1⟩ 37 (0, 0))) : CompsIn w (some ⟨b2, 0, none⟩) (plain [p4, p273]) ∧ CompsIn w (some ⟨b2, 0, none⟩) (plain [p4]) ∧ CompsIn w (some ⟨b2, 2, none⟩) (plain [p273]) := by
  have hc : ∀ i u, (twoCells b0 b1)[i]? = some u → w.cell? ⟨b2, i, none⟩ = some u := fun i u hi => by
    rw [cell_of_row w b2 i _ _ (0, 0) h2]; simpa using hi
  refine ⟨⟨fun j c v hj => ?_⟩, ⟨fun j c v hj => ?_⟩, ⟨fun j c v hj => ?_⟩⟩
  · rcases j with _ | _ | j
    · cases hj; exact ⟨_, some ⟨b0, 0, none⟩, 4, rfl, rfl, hc 0 _ rfl, hc 1 _ rfl, bytesIn_row h0⟩
    · cases hj; exact ⟨_, some ⟨b1, 0, none⟩, 2, rfl, rfl, hc 2 _ rfl, hc 3 _ rfl, bytesIn_row h1⟩
    · cases hj
  · rcases j with _ | j
    · cases hj; exact ⟨_, some ⟨b0, 0, none⟩, 4, rfl, rfl, hc 0 _ rfl, hc 1 _ rfl, bytesIn_row h0⟩
    · cases hj
  · rcases j with _ | j
    · cases hj; exact ⟨_, some ⟨b1, 0, none⟩, 2, rfl, rfl, hc 2 _ rfl, hc 3 _ rfl, bytesIn_row h1⟩
    · cases hj
theorem fr3 {hp : List (Option Blk)} {w w' : World} {a b c : Nat} {oa ob oc : Obj} (h : Fr hp w w') (hn : nums hp = [some a, some b, some c]) (a1 : w.heap[a]? = some oa) (a2 : w'.heap[a]? = some oa) (b1 : w.heap[b]? = some ob) (b2 : w'.heap[b]? = some ob)
    (c1 : w.heap[c]? = some oc) (c2 : w'.heap[c]? = some oc) : Kept (fun _ => True) w w' := fun k o _ hk => by
  by_cases ha : k = a
  · subst ha; rw [a2, ← a1, hk]
  by_cases hb : k = b
  · subst hb; rw [b2, ← b1, hk]
  by_cases hc : k = c
  · subst hc; rw [c2, ← c1, hk]
  exact h.kept (Q := fun n => n ≠ a ∧ n ≠ b ∧ n ≠ c) hn ⟨fun h => h.1 rfl, fun h => h.2.1 rfl, fun h => h.2.2 rfl, trivial⟩ k o ⟨ha, hb, hc⟩ hk
theorem fineTwo : ∀ p ∈ [p4, p273], Fine p := fun p hp => by
  simp only [List.mem_cons, List.not_mem_nil, or_false] at hp
  rcases hp with rfl | rfl
  · exact fine4
  · exact fine273
theorem maAlive (hu : UvTo) (w : World) : Calls Tryz.prog 8 #[] w (fun e w1 => ∃ v, e = .returned v ∧ Ext [] w w1 ∧ v = .bool true) := by
  refine calls_of0 (args := []) Tryz.func8 rfl rfl rfl ?_
  refine To.runF 30 [0, 0, 1, 2, 3, 5] (fun _ _ => by kernel_rfl) fun f1 g1 l1 => ?_
  refine To.callN 21 #[.slice (some ⟨f1 2, 0, none⟩) 1 2, .slice (some ⟨f1 2, 2, none⟩) 1 1] (by kernel_rfl) (fun _ => by kernel_rfl) (fun w2 hw2 => implEncapsulate hu p4 p273 (some ⟨f1 2, 0, none⟩) (some ⟨f1 2, 2, none⟩) 2 1 w2 (twoIn (f1 0) (f1 1) (f1 2) _ (hw2.blk (j := 0) (b := f1 0) (o := .cells ⟨ucells [127, 0, 0, 1]⟩ 5 (0, 0)) (q := true) (by kernel_rfl)) (hw2.blk (j := 1) (b := f1 1) (o := .cells ⟨ucells [4, 210]⟩ 5 (0, 0)) (q := true) (by kernel_rfl)) (hw2.blk (j := 2) (b := f1 2) (o := .cells ⟨twoCells (f1 0) (f1 1)⟩ 37 (0, 0)) (q := true) (by kernel_rfl))).2.1 (twoIn (f1 0) (f1 1) (f1 2) _ (hw2.blk (j := 0) (b := f1 0) (o := .cells ⟨ucells [127, 0, 0, 1]⟩ 5 (0, 0)) (q := true) (by kernel_rfl)) (hw2.blk (j := 1) (b := f1 1) (o := .cells ⟨ucells [4, 210]⟩ 5 (0, 0)) (q := true) (by kernel_rfl)) (hw2.blk (j := 2) (b := f1 2) (o := .cells ⟨twoCells (f1 0) (f1 1)⟩ 37 (0, 0)) (q := true) (by kernel_rfl))).2.2 fine4 fine273) (fun w2 v2 w3 hw2 hx2 hv2 hnew2 hwi2 => ?_)
  obtain ⟨a', c', rfl, hm⟩ := hv2
  have ha' := hm.at_ 0 4 [127, 0, 0, 1] rfl
  have hb2 := hx2.at (hw2.blk (j := 2) (b := f1 2) (o := .cells ⟨twoCells (f1 0) (f1 1)⟩ 37 (0, 0)) (q := true) (by kernel_rfl)) (by simp)
  refine To.callN 20 #[.slice a' 2 c', .slice (some ⟨f1 2, 0, none⟩) 2 2] (by kernel_rfl) (fun _ => by kernel_rfl) (fun w4 hw4 => maAlike (plain [p4, p273]) (plain [p4, p273]) a' (some ⟨f1 2, 0, none⟩) c' 2 w4 (hm.kept (fr3 hw4.fr (by kernel_rfl) (hx2.at (hw2.blk (j := 0) (b := f1 0) (o := .cells ⟨ucells [127, 0, 0, 1]⟩ 5 (0, 0)) (q := true) (by kernel_rfl)) (by simp)) (hw4.blk (j := 0) (b := f1 0) (o := .cells ⟨ucells [127, 0, 0, 1]⟩ 5 (0, 0)) (q := true) (by kernel_rfl)) (hx2.at (hw2.blk (j := 1) (b := f1 1) (o := .cells ⟨ucells [4, 210]⟩ 5 (0, 0)) (q := true) (by kernel_rfl)) (by simp)) (hw4.blk (j := 1) (b := f1 1) (o := .cells ⟨ucells [4, 210]⟩ 5 (0, 0)) (q := true) (by kernel_rfl)) hb2 (hw4.blk (j := 2) (b := f1 2) (o := .cells ⟨twoCells (f1 0) (f1 1)⟩ 37 (0, 0)) (q := true) (by kernel_rfl)))) (twoIn (f1 0) (f1 1) (f1 2) _ (hw4.blk (j := 0) (b := f1 0) (o := .cells ⟨ucells [127, 0, 0, 1]⟩ 5 (0, 0)) (q := true) (by kernel_rfl)) (hw4.blk (j := 1) (b := f1 1) (o := .cells ⟨ucells [4, 210]⟩ 5 (0, 0)) (q := true) (by kernel_rfl)) (hw4.blk (j := 2) (b := f1 2) (o := .cells ⟨twoCells (f1 0) (f1 1)⟩ 37 (0, 0)) (q := true) (by kernel_rfl))).1 (by decide) (by decide)) (fun w4 v4 w5 hw4 hx4 hv4 hnew4 hwi4 => ?_)
  rw [decide_eq_true rfl] at hv4
  subst hv4
  refine To.runF 3 [8] (fun _ _ => by kernel_rfl) fun f2 g2 l2 => ?_
  refine To.callN 22 #[.slice (some ⟨f1 2, 0, none⟩) 2 2, .slice (some ⟨f1 2, 0, none⟩) 2 2] (by kernel_rfl) (fun _ => by kernel_rfl) (fun w6 hw6 => implEqual hu [p4, p273] [p4, p273] (some ⟨f1 2, 0, none⟩) (some ⟨f1 2, 0, none⟩) 2 2 w6 (twoIn (f1 0) (f1 1) (f1 2) _ (hw6.blk (j := 0) (b := f1 0) (o := .cells ⟨ucells [127, 0, 0, 1]⟩ 5 (0, 0)) (q := true) (by kernel_rfl)) (hw6.blk (j := 1) (b := f1 1) (o := .cells ⟨ucells [4, 210]⟩ 5 (0, 0)) (q := true) (by kernel_rfl)) (hw6.blk (j := 2) (b := f1 2) (o := .cells ⟨twoCells (f1 0) (f1 1)⟩ 37 (0, 0)) (q := true) (by kernel_rfl))).1 (twoIn (f1 0) (f1 1) (f1 2) _ (hw6.blk (j := 0) (b := f1 0) (o := .cells ⟨ucells [127, 0, 0, 1]⟩ 5 (0, 0)) (q := true) (by kernel_rfl)) (hw6.blk (j := 1) (b := f1 1) (o := .cells ⟨ucells [4, 210]⟩ 5 (0, 0)) (q := true) (by kernel_rfl)) (hw6.blk (j := 2) (b := f1 2) (o := .cells ⟨twoCells (f1 0) (f1 1)⟩ 37 (0, 0)) (q := true) (by kernel_rfl))).1 fineTwo fineTwo (by decide) (by decide)) (fun w6 v6 w7 hw6 hx6 hv6 hnew6 hwi6 => ?_)
  rw [decide_eq_true rfl] at hv6
  subst hv6
  refine To.runF 5 [13] (fun _ _ => by kernel_rfl) fun f3 g3 l3 => ?_
  refine To.callN 22 #[.slice (some ⟨f1 2, 0, none⟩) 2 2, .slice (some ⟨f1 2, 0, none⟩) 1 2] (by kernel_rfl) (fun _ => by kernel_rfl) (fun w8 hw8 => implEqual hu [p4, p273] [p4] (some ⟨f1 2, 0, none⟩) (some ⟨f1 2, 0, none⟩) 2 2 w8 (twoIn (f1 0) (f1 1) (f1 2) _ (hw8.blk (j := 0) (b := f1 0) (o := .cells ⟨ucells [127, 0, 0, 1]⟩ 5 (0, 0)) (q := true) (by kernel_rfl)) (hw8.blk (j := 1) (b := f1 1) (o := .cells ⟨ucells [4, 210]⟩ 5 (0, 0)) (q := true) (by kernel_rfl)) (hw8.blk (j := 2) (b := f1 2) (o := .cells ⟨twoCells (f1 0) (f1 1)⟩ 37 (0, 0)) (q := true) (by kernel_rfl))).1 (twoIn (f1 0) (f1 1) (f1 2) _ (hw8.blk (j := 0) (b := f1 0) (o := .cells ⟨ucells [127, 0, 0, 1]⟩ 5 (0, 0)) (q := true) (by kernel_rfl)) (hw8.blk (j := 1) (b := f1 1) (o := .cells ⟨ucells [4, 210]⟩ 5 (0, 0)) (q := true) (by kernel_rfl)) (hw8.blk (j := 2) (b := f1 2) (o := .cells ⟨twoCells (f1 0) (f1 1)⟩ 37 (0, 0)) (q := true) (by kernel_rfl))).2.1 fineTwo (fun p hp => fineTwo p (by simp only [List.mem_singleton] at hp; rw [hp]; simp)) (by decide) (by decide)) (fun w8 v8 w9 hw8 hx8 hv8 hnew8 hwi8 => ?_)
  rw [decide_eq_false (fun h => by have := congrArg List.length h; simp [blist] at this)] at hv8
  subst hv8
  refine To.runF 4 [] (fun _ _ => by kernel_rfl) fun f4 g4 l4 => ?_
  exact To.ret [] (.bool true) (by kernel_rfl) (by kernel_rfl) fun w10 hw10 => ⟨_, rfl, hw10.ext, rfl⟩
end Go.Proofs.YtegcplghgnafjaaGreatDoor
