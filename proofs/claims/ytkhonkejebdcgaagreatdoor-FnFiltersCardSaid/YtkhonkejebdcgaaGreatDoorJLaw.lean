/- The walk of laws.FnFilters: it returns true and turns nothing. Conditions: the argument is read as a list, the library's table lies as it is laid. -/
import Derived.Test.YtkhonkejebdcgaaGreatDoorJRun
import Derived.Test.YtkhonkejebdcgaaGreatDoorJSpec
import Derived.Test.YtkhonkejebdcgaaGreatDoorJFine
import Derived.Test.YtkhonkejebdcgaaGreatDoorJUv
/- laws.filtersAlive. Conditions: none but the hypothesis UvTo, and that the library's table lies as it is laid. -/
namespace Go.Proofs.YtkhonkejebdcgaaGreatDoor
open Go Go.SX
set_option maxHeartbeats 8000000
set_option maxRecDepth 100000
def twoCells (b0 b1 : Nat) : List Value := [.int .i64 4, .slice (some ⟨b0, 0, none⟩) 4 4, .int .i64 273, .slice (some ⟨b1, 0, none⟩) 2 2]
def liveCells (b0 b1 b4 : Nat) : List Value := [.int .i64 0, .slice (some ⟨b0, 0, none⟩) 4 4, .slice (some ⟨b1, 0, none⟩) 4 4, .int .i64 2, .slice none 0 0, .int .i64 2, .slice none 0 0, .slice none 0 0, .int .i64 1, .slice (some ⟨b4, 0, none⟩) 2 2]
def live : List Step := [⟨0, [127, 0, 0, 0], [255, 0, 0, 0], 2, []⟩, ⟨2, [], [], 1, [(4, [127, 0, 0, 1]), (273, [4, 210])]⟩]
theorem live_net : Net [127, 0, 0, 0] [255, 0, 0, 0] := ⟨.inl rfl, rfl, by decide, by decide, ⟨8, by decide, by decide⟩⟩
theorem live_ok : OkTo live live.length := by
  intro j s hj hs
  rcases j with _ | _ | j
  · cases hs
    exact ⟨⟨⟨by decide, by decide⟩, .inl rfl, fun _ => live_net, fun h => by cases h⟩, fun _ => rfl⟩
  · cases hs
    refine ⟨⟨⟨by decide, by decide⟩, by decide, (fun h => by rcases h with h | h | h <;> cases h), fun _ => ⟨⟨by decide, by decide, fun p hp => ?_⟩, ⟨fun j p hj hp => ?_, .inl ⟨_, rfl, by decide⟩⟩⟩⟩, (fun h => by cases h)⟩
    · simp only [List.mem_cons, List.not_mem_nil, or_false] at hp
      rcases hp with rfl | rfl
      · exact ⟨32, by simp [specSizes], fun _ => ⟨by decide, by decide, by decide⟩, fun h => absurd h (by decide)⟩
      · exact ⟨16, by simp [specSizes], fun _ => ⟨by decide, by decide, by decide⟩, fun h => absurd h (by decide)⟩
    · rcases j with _ | _ | j
      · cases hj; exact ⟨rfl, by decide⟩
      · cases hj; exact absurd hp (by decide)
      · cases hj
  · cases hs
theorem live_len : ∀ s ∈ live, StepLen s := by
  intro s hs
  simp only [live, List.mem_cons, List.not_mem_nil, or_false] at hs
  rcases hs with rfl | rfl
  · exact ⟨by decide, by decide, by decide, fun p hp => by cases hp⟩
  · refine ⟨by decide, by decide, by decide, fun p hp => ?_⟩
    simp only [List.mem_cons, List.not_mem_nil, or_false] at hp
    rcases hp with rfl | rfl <;> decide
theorem live_ans : answers live = [noAns, ⟨true, 0, [], []⟩] := by kernel_rfl
theorem bytesNil (w : World) : BytesIn w none [] := ⟨fun j u h => (by cases h), fun _ => rfl⟩
theorem live_in (b0 b1 b2 b3 b4 b5 : Nat) (w : World) (h0 : w.heap[b0]? = some (.cells ⟨ucells [127, 0, 0, 0]⟩ 5 (0, 0))) (h1 : w.heap[b1]? = some (.cells ⟨ucells [255, 0, 0, 0]⟩ 5 (0, 0))) (h2 : w.heap[b2]? = some (.cells ⟨ucells [127, 0, 0, 1]⟩ 5 (0, 0)))
    (h3 : w.heap[b3]? = some (.cells ⟨ucells [4, 210]⟩ 5 (0, 0))) (h4 : w.heap[b4]? = some (.cells ⟨twoCells b2 b3⟩ 75 (0, 0))) (h5 : w.heap[b5]? = some (.cells ⟨liveCells b0 b1 b4⟩ 33 (0, 0))) : StepsIn w (some ⟨b5, 0, none⟩) live := by
  have hc : ∀ i u, (liveCells b0 b1 b4)[i]? = some u → w.cell? ((⟨b5, 0, none⟩ : Addr).add i) = some u := fun i u hi => by rw [cellOfRow h5 i]; exact hi
  have hd : ∀ i u, (twoCells b2 b3)[i]? = some u → w.cell? ((⟨b4, 0, none⟩ : Addr).add i) = some u := fun i u hi => by rw [cellOfRow h4 i]; exact hi
  refine ⟨fun j s hj => ?_⟩
  rcases j with _ | _ | j
  · cases hj
    refine ⟨⟨b5, 0, none⟩, some ⟨b0, 0, none⟩, some ⟨b1, 0, none⟩, none, 4, 4, 0, rfl, rfl, fun i u hi => ?_, ⟨bytesOfRow h0, bytesOfRow h1, by decide, by decide, ⟨fun j c val h => by cases h⟩⟩⟩
    rw [add_add rfl]
    have hi5 : i < 5 := (List.getElem?_eq_some_iff.1 hi).1
    refine hc _ u ?_
    rcases i with _ | _ | _ | _ | _ | i
    · exact hi
    · exact hi
    · exact hi
    · exact hi
    · exact hi
    · omega
  · cases hj
    refine ⟨⟨b5, 0, none⟩, none, none, some ⟨b4, 0, none⟩, 0, 0, 2, rfl, rfl, fun i u hi => ?_, ⟨bytesNil w, bytesNil w, by decide, by decide, ⟨fun j c val h => ?_⟩⟩⟩
    · rw [add_add rfl]
      have hi5 : i < 5 := (List.getElem?_eq_some_iff.1 hi).1
      refine hc _ u ?_
      rcases i with _ | _ | _ | _ | _ | i
      · exact hi
      · exact hi
      · exact hi
      · exact hi
      · exact hi
      · omega
    · rcases j with _ | _ | j
      · cases h; exact ⟨⟨b4, 0, none⟩, some ⟨b2, 0, none⟩, 4, rfl, rfl, hd 0 _ rfl, hd 1 _ rfl, bytesOfRow h2, by decide⟩
      · cases h; exact ⟨⟨b4, 0, none⟩, some ⟨b3, 0, none⟩, 2, rfl, rfl, hd 2 _ rfl, hd 3 _ rfl, bytesOfRow h3, by decide⟩
      · cases h
  · cases hj
/-- A cell of a row, where what is said of its block is so. -/
theorem cellT {w : World} {sz : Nat} {ty : TypeId} {a : Option Addr} {n c : Nat} {ob : Option Blk} {css : List (List Value)} (hO : ORow sz ty a n c ob css) (ht : OTrue ob w) {i m : Nat} {cs : List Value} {u : Value} (hc : css[i]? = some cs) (hm : cs[m]? = some u) {ad : Addr} (ha : a = some ad) : w.cell? (ad.add (i * sz + m)) = some u := by
  rcases hO.is with ⟨_, _, _, _, rfl⟩ | ⟨g, rest, h1, h2, h3, h4, h5, _⟩
  · cases hc
  · rw [ha] at h1
    cases h1
    have hl := h4 cs (List.mem_of_getElem? hc)
    have hm' : m < sz := by have := (List.getElem?_eq_some_iff.1 hm).1; omega
    have hf := flat_get h4 hc hm'
    rw [hm] at hf
    rw [cellOfRow (ht _ h2) _, List.getElem?_append_left (List.getElem?_eq_some_iff.1 hf).1]; exact hf
theorem uBool : Tryz.prog.underlying 4 = some .bool := by kernel_rfl
theorem filtersAlive (hu : UvTo) (w : World) (ht : Tab w) : Calls Tryz.prog 6 #[] w (fun e w1 => ∃ v, e = .returned v ∧ Ext [] w w1 ∧ v = .bool true) := by
  refine calls_of0 (args := []) Tryz.func6 rfl rfl rfl ?_
  refine To.runF 26 [] (fun _ _ => by kernel_rfl) fun f1 g1 l1 => ?_
  refine To.callN 7 #[.slice (some ⟨f1 5, 0, none⟩) 2 2] (by kernel_rfl) (fun _ => by kernel_rfl) (fun w2 hw2 => by
    have hb := blkAll hw2 (HP := [some ⟨f1 0, .cells ⟨ucells [127, 0, 0, 0]⟩ 5 (0, 0), true⟩, some ⟨f1 1, .cells ⟨ucells [255, 0, 0, 0]⟩ 5 (0, 0), true⟩, some ⟨f1 2, .cells ⟨ucells [127, 0, 0, 1]⟩ 5 (0, 0), true⟩, some ⟨f1 3, .cells ⟨ucells [4, 210]⟩ 5 (0, 0), true⟩, some ⟨f1 4, .cells ⟨twoCells (f1 2) (f1 3)⟩ 75 (0, 0), true⟩, some ⟨f1 5, .cells ⟨liveCells (f1 0) (f1 1) (f1 4)⟩ 33 (0, 0), true⟩]) (by kernel_rfl)
    exact filterRun hu live (some ⟨f1 5, 0, none⟩) 2 w2 (ht.later hw2.ext) (live_in (f1 0) (f1 1) (f1 2) (f1 3) (f1 4) (f1 5) w2 (hb 0 _ rfl) (hb 1 _ rfl) (hb 2 _ rfl) (hb 3 _ rfl) (hb 4 _ rfl) (hb 5 _ rfl)) (by decide) live_len live_ok) (fun w2 v2 w3 hw2 hx2 hv2 hnew2 hwi2 => ?_)
  obtain ⟨a, n, c, rfl, ob, css, hO, hOT, hA⟩ := hv2
  rw [live_ans] at hA
  obtain rfl : n = 2 := by rw [← hO.len, hA.len]; rfl
  have hb3 : ∀ j x, nth [some ⟨f1 0, .cells ⟨ucells [127, 0, 0, 0]⟩ 5 (0, 0), true⟩, some ⟨f1 1, .cells ⟨ucells [255, 0, 0, 0]⟩ 5 (0, 0), true⟩, some ⟨f1 2, .cells ⟨ucells [127, 0, 0, 1]⟩ 5 (0, 0), true⟩, some ⟨f1 3, .cells ⟨ucells [4, 210]⟩ 5 (0, 0), true⟩, some ⟨f1 4, .cells ⟨twoCells (f1 2) (f1 3)⟩ 75 (0, 0), true⟩, some ⟨f1 5, .cells ⟨liveCells (f1 0) (f1 1) (f1 4)⟩ 33 (0, 0), true⟩] j = some x → w3.heap[x.b]? = some x.o := fun j x hj => hx2.at (blkAll hw2 (HP := [some ⟨f1 0, .cells ⟨ucells [127, 0, 0, 0]⟩ 5 (0, 0), true⟩, some ⟨f1 1, .cells ⟨ucells [255, 0, 0, 0]⟩ 5 (0, 0), true⟩, some ⟨f1 2, .cells ⟨ucells [127, 0, 0, 1]⟩ 5 (0, 0), true⟩, some ⟨f1 3, .cells ⟨ucells [4, 210]⟩ 5 (0, 0), true⟩, some ⟨f1 4, .cells ⟨twoCells (f1 2) (f1 3)⟩ 75 (0, 0), true⟩, some ⟨f1 5, .cells ⟨liveCells (f1 0) (f1 1) (f1 4)⟩ 33 (0, 0), true⟩]) (by kernel_rfl) j x hj) (by simp)
  obtain ⟨g, rfl⟩ := hO.start (by decide)
  obtain ⟨cs, hcs, ai, ni, ci, am, nm, cm, rfl, _, _⟩ := hA.get (j := 1) (x := ⟨true, 0, [], []⟩) rfl
  have hcell := cellT hO hOT hcs (m := 0) rfl rfl
  refine To.runF 11 [] (fun _ _ => by kernel_rfl) fun f2 g2 l2 => ?_
  refine To.loadOne uBool rfl (((⟨g, 0, none⟩ : Addr).add (1 * 4)).add 0) (.bool true) (by kernel_rfl) (fun w4 hw4 => (frAll hw4 (HP := [some ⟨f1 0, .cells ⟨ucells [127, 0, 0, 0]⟩ 5 (0, 0), true⟩, some ⟨f1 1, .cells ⟨ucells [255, 0, 0, 0]⟩ 5 (0, 0), true⟩, some ⟨f1 2, .cells ⟨ucells [127, 0, 0, 1]⟩ 5 (0, 0), true⟩, some ⟨f1 3, .cells ⟨ucells [4, 210]⟩ 5 (0, 0), true⟩, some ⟨f1 4, .cells ⟨twoCells (f1 2) (f1 3)⟩ 75 (0, 0), true⟩, some ⟨f1 5, .cells ⟨liveCells (f1 0) (f1 1) (f1 4)⟩ 33 (0, 0), true⟩]) (by kernel_rfl) hb3).cell hcell (by simp)) ?_
  refine To.runF 3 [] (fun _ _ => by kernel_rfl) fun f3 g3 l3 => ?_
  exact To.ret [] (.bool true) (by kernel_rfl) (by kernel_rfl) fun w4 hw4 => ⟨_, rfl, hw4.ext, rfl⟩
end Go.Proofs.YtkhonkejebdcgaaGreatDoor
/- The law FnFilters. Conditions: as it says. -/
namespace Go.Proofs.YtkhonkejebdcgaaGreatDoor
open Go Go.SX
set_option maxHeartbeats 8000000
set_option maxRecDepth 100000
theorem frNew {hp : List (Option Blk)} {w w' : World} {l : List (Option Nat)} (h : Fr hp w w') (hn : nums hp = l) (hq : NumsAll (fun n => w.heap.size ≤ n) l) : Ext [] w w' :=
  ⟨h.os, h.tape, h.output, h.size, fun k hk _ => h.block k hk (fun j b hj _ e => by have := nums_all hn hq j b hj; omega)⟩
theorem extFr {hp : List (Option Blk)} {w0 w w' : World} {l : List (Option Nat)} (hx : Ext [] w0 w) (h : Fr hp w w') (hn : nums hp = l) (hq : NumsAll (fun n => w0.heap.size ≤ n) l) : Ext [] w0 w' :=
  ⟨h.os.trans hx.os, h.tape.trans hx.tape, h.output.trans hx.output, Nat.le_trans hx.size h.size, fun k hk hk2 => (h.block k (Nat.lt_of_lt_of_le hk hx.size) (fun j b hj _ e => by have := nums_all hn hq j b hj; omega)).trans (hx.block k hk hk2)⟩
theorem ansGo_pair (d : Int) (L : List Rule) (a : List Step) : ∀ x ∈ ansGo d L a, x.masks.length = x.ips.length ∧ x.ips.length ≤ L.length + a.length := by
  induction a generalizing d L with
  | nil => intro x h; cases h
  | cons s a ih =>
    intro x hx
    simp only [ansGo, List.mem_cons] at hx
    rcases hx with rfl | hx
    · unfold ansOf
      split
      · simp
      · split
        · simp
        · split
          · unfold actOf noAns; split <;> simp
          · split
            · have := List.length_filter_le (hasAct s.act) L
              simp only [List.length_map, List.length_cons, true_and]; omega
            · simp [noAns]
    · have h1 := ih _ _ x hx
      have h2 := nextR_length L s
      simp only [List.length_cons]; omega
theorem answers_pair (l : List Step) (x : Ans) (h : x ∈ answers l) : x.masks.length = x.ips.length ∧ x.ips.length ≤ l.length := by
  have := ansGo_pair 1 [] l x h
  simpa using this
abbrev ansBlk (b : Nat) (x : Ans) (ai : Option Addr) (ni ci : Nat) (am : Option Addr) (nm cm : Nat) : Option Blk := some ⟨b, .cells ⟨[.bool x.yes, .int .i64 x.act, .slice ai ni ci, .slice am nm cm]⟩ 29 (0, 0), true⟩
theorem law (l : List Step) (a : Option Addr) (cap : Nat) (w : World) (ht : Tab w) (hin : StepsIn w a l) (hlen : l.length ≤ 1152921504606846976) (hs : ∀ s ∈ l, s.addr.length ≤ 1152921504606846976) :
    Calls Tryz.prog 3 #[.slice a l.length cap] w (fun e w1 => ∃ v, e = .returned v ∧ Ext [] w w1 ∧ v = .bool true) := by
  refine calls_of0 (args := [.slice a l.length cap]) Tryz.func3 rfl rfl rfl ?_
  refine To.runF 8 [] (fun _ _ => by kernel_rfl) fun f1 g1 l1 => ?_
  refine To.callN 4 #[.slice a l.length cap] (by kernel_rfl) (fun _ => by kernel_rfl) (fun w2 hw2 => zzFits15 l a cap w2 (hin.later hw2.ext) hlen hs) (fun w2 v2 w3 hw2 hx2 hv2 hnew2 hwi2 => ?_)
  obtain ⟨t1, rfl, h1⟩ := hv2
  refine To.runF 2 [] (fun _ _ => by kernel_rfl) fun f2 g2 l2 => ?_
  refine To.test (!t1) (by kernel_rfl) (fun e1 => ?_) (fun e1 => ?_)
  · refine To.runF 4 [] (fun _ _ => by kernel_rfl) fun f3 g3 l3 => ?_
    exact To.ret [] (.bool true) (by kernel_rfl) (by kernel_rfl) fun w4 hw4 => ⟨_, rfl, hw4.ext, rfl⟩
  obtain ⟨h2, h3⟩ := h1 (by simpa using e1)
  refine To.runF 5 [] (fun _ _ => by kernel_rfl) fun f3 g3 l3 => ?_
  refine To.callN 5 #[.slice a l.length cap] (by kernel_rfl) (fun _ => by kernel_rfl) (fun w4 hw4 => filterFine l a cap w4 (hin.later hw4.ext) h2 h3) (fun w4 v4 w5 hw4 hx4 hv4 hnew4 hwi4 => ?_)
  obtain ⟨t2, rfl, h4⟩ := hv4
  refine To.runF 2 [] (fun _ _ => by kernel_rfl) fun f4 g4 l4 => ?_
  refine To.test (!t2) (by kernel_rfl) (fun e2 => ?_) (fun e2 => ?_)
  · refine To.runF 2 [] (fun _ _ => by kernel_rfl) fun f5 g5 l5 => ?_
    refine To.callN 6 #[] (by kernel_rfl) (fun _ => by kernel_rfl) (fun wa hwa => filtersAlive uvTo wa (ht.later hwa.ext)) (fun wa va wb hwa hxa hva hnewa hwia => ?_)
    subst hva
    refine To.runF 2 [] (fun _ _ => by kernel_rfl) fun f6 g6 l6 => ?_
    exact To.ret [] (.bool true) (by kernel_rfl) (by kernel_rfl) fun w4 hw4 => ⟨_, rfl, hw4.ext, rfl⟩
  obtain ⟨h5, h6⟩ := h4 (by simpa using e2)
  refine To.runF 4 [] (fun _ _ => by kernel_rfl) fun f5 g5 l5 => ?_
  refine To.callN 7 #[.slice a l.length cap] (by kernel_rfl) (fun _ => by kernel_rfl) (fun w6 hw6 => filterRun uvTo l a cap w6 (ht.later hw6.ext) (hin.later hw6.ext) h6 h3 h5) (fun w6 v6 w7 hw6 hx6 hv6 hnew6 hwi6 => ?_)
  obtain ⟨ga, gn, gc, rfl, gob, gcss, hG, hGT, hGA⟩ := hv6
  refine To.runF 1 [] (fun _ _ => by kernel_rfl) fun f6 g6 l6 => ?_
  refine To.callN 8 #[.slice a l.length cap] (by kernel_rfl) (fun _ => by kernel_rfl) (fun w8 hw8 => filters l a cap w8 (hin.later hw8.ext) h6 h3 h5) (fun w8 v8 w9 hw8 hx8 hv8 hnew8 hwi8 => ?_)
  obtain ⟨sa, sn, sc, rfl, sob, scss, hS, hST, hSA⟩ := hv8
  refine To.runF 12 [] (fun _ _ => by kernel_rfl) fun f7 g7 l7 => ?_
  have hgn : gn = (answers l).length := by rw [← hG.len, hGA.len]
  have hsn : sn = (answers l).length := by rw [← hS.len, hSA.len]
  subst hgn; subst hsn
  refine To.testF (Int.ofNat (answers l).length != Int.ofNat (answers l).length) (by kernel_rfl) (by simp) ?_
  refine To.runF 9 [] (fun _ _ => by kernel_rfl) fun f8 g8 l8 => ?_
  have hGT9 : ∀ (j : Nat) (x : Ans), (answers l)[j]? = some x → ∃ cs, AnsT OwnB w7 x cs ∧ ∃ g, ga = some ⟨g, 0, none⟩ ∧ ∀ m u, cs[m]? = some u → w7.cell? ((⟨g, 0, none⟩ : Addr).add (j * 4 + m)) = some u := fun j x hx => by
    obtain ⟨cs, hcs, hI⟩ := hGA.get hx
    have hlt : j < (answers l).length := (List.getElem?_eq_some_iff.1 hx).1
    obtain ⟨g, rfl⟩ := hG.start (by omega)
    exact ⟨cs, hI, _, rfl, fun m u hu => cellT hG hGT hcs hu rfl⟩
  have hST9 : ∀ (j : Nat) (x : Ans), (answers l)[j]? = some x → ∃ cs, AnsT (StillB w8) w9 x cs ∧ ∃ g, sa = some ⟨g, 0, none⟩ ∧ ∀ m u, cs[m]? = some u → w9.cell? ((⟨g, 0, none⟩ : Addr).add (j * 4 + m)) = some u := fun j x hx => by
    obtain ⟨cs, hcs, hI⟩ := hSA.get hx
    have hlt : j < (answers l).length := (List.getElem?_eq_some_iff.1 hx).1
    obtain ⟨g, rfl⟩ := hS.start (by omega)
    exact ⟨cs, hI, _, rfl, fun m u hu => cellT hS hST hcs hu rfl⟩
  have hx79 : Ext [] w7 w9 := (frx hw8.fr (by kernel_rfl)).trans hx8
  have hal := answers_length l
  refine To.loop (fun i : Nat => (answers l).length - i) (fun i => ([(0, .slice a l.length cap), (3, .slice ga (answers l).length gc), (4, .slice sa (answers l).length sc), (25, .slice ga (answers l).length gc), (26, .int .i64 (Int.ofNat (answers l).length)), (27, .int .i64 (Int.ofNat i))], []))
    (fun i w1 => i ≤ (answers l).length ∧ Ext [] w9 w1) 0 [] (by kernel_rfl) (by kernel_rfl) (by kernel_rfl) rfl (fun w1 hw1 => ⟨Nat.zero_le _, frx hw1.fr (by kernel_rfl)⟩) ?_
  intro k w10 ⟨hk, hx10⟩ hx1 back
  refine To.runF 5 [] (fun _ _ => by kernel_rfl) fun f9 g9 l9 => ?_
  by_cases hlt : k < (answers l).length
  · obtain ⟨x, hxk⟩ : ∃ x, (answers l)[k]? = some x := ⟨(answers l)[k], by simp [hlt]⟩
    obtain ⟨gcs, ⟨gai, gni, gci, gam, gnm, gcm, rfl, hGI, hGM⟩, gad, rfl, hgc⟩ := hGT9 k x hxk
    obtain ⟨scs, ⟨sai, sni, sci, sam, snm, scm, rfl, hSI, hSM⟩, sad, rfl, hsc⟩ := hST9 k x hxk
    obtain ⟨ob1, css1, hO1, hT1, hA1⟩ := hGI
    obtain ⟨ob2, css2, hO2, hT2, hA2⟩ := hGM
    obtain ⟨ob3, css3, hO3, hT3, hA3⟩ := hSI
    obtain ⟨ob4, css4, hO4, hT4, hA4⟩ := hSM
    obtain rfl : gni = x.ips.length := by rw [← hO1.len, hA1.len]
    obtain rfl : gnm = x.masks.length := by rw [← hO2.len, hA2.len]
    obtain rfl : sni = x.ips.length := by rw [← hO3.len, hA3.len]
    obtain rfl : snm = x.masks.length := by rw [← hO4.len, hA4.len]
    refine To.testT (decide (Int.ofNat k < Int.ofNat (answers l).length)) (by kernel_rfl) (decide_eq_true (Int.ofNat_lt.2 hlt)) ?_
    refine To.runF 6 [] (fun _ _ => by kernel_rfl) fun f10 g10 l10 => ?_
    refine To.indexAt elAn (some ⟨gad, 0, none⟩) ⟨gad, 0, none⟩ (answers l).length gc k (by kernel_rfl) rfl hlt ?_
    refine To.loadAgg (t := 29) (by kernel_rfl) 4 (by kernel_rfl) ((⟨gad, 0, none⟩ : Addr).add (k * 4)) [.bool x.yes, .int .i64 x.act, .slice gai x.ips.length gci, .slice gam x.masks.length gcm] rfl (by kernel_rfl) (fun w11 hw11 j u hj => by rw [add_add rfl]; exact (frx hw11.fr (by kernel_rfl)).cell (hx10.cell (hx79.cell (hgc j u hj) (by simp)) (by simp)) (by simp)) ?_
    refine To.runF 8 [0, 0, 0, 0] (fun _ _ => by kernel_rfl) fun f11 g11 l11 => ?_
    refine To.indexAt elAn (some ⟨sad, 0, none⟩) ⟨sad, 0, none⟩ (answers l).length sc k (by kernel_rfl) rfl hlt ?_
    refine To.loadAgg (t := 29) (by kernel_rfl) 4 (by kernel_rfl) ((⟨sad, 0, none⟩ : Addr).add (k * 4)) [.bool x.yes, .int .i64 x.act, .slice sai x.ips.length sci, .slice sam x.masks.length scm] rfl (by kernel_rfl) (fun w11 hw11 j u hj => by rw [add_add rfl]; exact (frNew (l := [some (f11 0)]) hw11.fr (by kernel_rfl) ⟨l11 0, trivial⟩).cell (hx10.cell (hsc j u hj) (by simp)) (by simp)) ?_
    refine To.runF 12 [1, 1, 1, 1, 0, 1] (fun _ _ => by kernel_rfl) fun f12 g12 l12 => ?_
    refine To.slotF 41 (!(x.yes == x.yes)) (by kernel_rfl) (by simp) ?_
    refine To.runF 7 [0, 1] (fun _ _ => by kernel_rfl) fun f13 g13 l13 => ?_
    refine To.slotF 48 (x.act != x.act) (by kernel_rfl) (by simp) ?_
    refine To.runF 9 [0, 1] (fun _ _ => by kernel_rfl) fun f14 g14 l14 => ?_
    refine To.slotF 57 (Int.ofNat x.ips.length != Int.ofNat x.ips.length) (by kernel_rfl) (by simp) ?_
    refine To.runF 9 [0, 1] (fun _ _ => by kernel_rfl) fun f15 g15 l15 => ?_
    refine To.testF (Int.ofNat x.masks.length != Int.ofNat x.masks.length) (by kernel_rfl) (by simp) ?_
    refine To.runF 9 [0] (fun _ _ => by kernel_rfl) fun f16 g16 l16 => ?_
    obtain ⟨hpm, hpl⟩ := answers_pair l x (List.mem_of_getElem? hxk)
    refine To.loop (fun i : Nat => x.ips.length - i) (fun i => ([(0, .slice a l.length cap), (3, .slice (some ⟨gad, 0, none⟩) (answers l).length gc), (4, .slice (some ⟨sad, 0, none⟩) (answers l).length sc), (5, .int .i64 (Int.ofNat k)), (6, .pointer (some ⟨f11 0, 0, none⟩)), (7, .pointer (some ⟨f12 0, 0, none⟩)), (25, .slice (some ⟨gad, 0, none⟩) (answers l).length gc), (26, .int .i64 (Int.ofNat (answers l).length)), (27, .int .i64 (Int.ofNat k)), (67, .slice gai x.ips.length gci), (68, .int .i64 (Int.ofNat x.ips.length)), (69, .int .i64 (Int.ofNat i))], [ansBlk (f11 0) x gai x.ips.length gci gam x.masks.length gcm, ansBlk (f12 0) x sai x.ips.length sci sam x.masks.length scm]))
      (fun i w1 => i ≤ x.ips.length ∧ Ext [] w9 w1) 0 [0, 1] (by kernel_rfl) (by kernel_rfl) (by kernel_rfl) rfl (fun w1 hw1 => ⟨Nat.zero_le _, hx10.trans (frNew (l := [some (f11 0), some (f12 0)]) hw1.fr (by kernel_rfl) ⟨l11 0, l12 0, trivial⟩)⟩) ?_
    intro q w12 ⟨hq, hx12⟩ hxx12 back2
    refine To.runF 5 [] (fun _ _ => by kernel_rfl) fun f17 g17 l17 => ?_
    by_cases hql : q < x.ips.length
    · obtain ⟨ti, hti⟩ : ∃ t, x.ips[q]? = some t := ⟨x.ips[q], by simp [hql]⟩
      have hqm : q < x.masks.length := by omega
      obtain ⟨tm, htm⟩ : ∃ t, x.masks[q]? = some t := ⟨x.masks[q], by simp [hqm]⟩
      obtain ⟨cs1, hcs1, b1, cb1, rfl, hB1⟩ := hA1.get hti
      obtain ⟨cs2, hcs2, b2, cb2, rfl, hB2⟩ := hA2.get htm
      obtain ⟨cs3, hcs3, b3, cb3, rfl, hB3⟩ := hA3.get hti
      obtain ⟨cs4, hcs4, b4, cb4, rfl, hB4⟩ := hA4.get htm
      obtain ⟨g1, hg1⟩ := hO1.start (by omega)
      obtain ⟨g2, hg2⟩ := hO2.start (by omega)
      obtain ⟨g3, hg3⟩ := hO3.start (by omega)
      obtain ⟨g4, hg4⟩ := hO4.start (by omega)
      refine To.testT (decide (Int.ofNat q < Int.ofNat x.ips.length)) (by kernel_rfl) (decide_eq_true (Int.ofNat_lt.2 hql)) ?_
      refine To.runF 16 [2, 0, 1, 0, 0, 1, 0, 2, 6, 7, 1, 8] (fun _ _ => by kernel_rfl) fun f18 g18 l18 => ?_
      have hBB1 : BytesIn w9 b1 ti := by obtain ⟨_, _, _, _, _, h⟩ := hB1; exact h.later hx79
      have hBB2 : BytesIn w9 b2 tm := by obtain ⟨_, _, _, _, _, h⟩ := hB2; exact h.later hx79
      have hBB3 : BytesIn w9 b3 ti := BytesIn.later hB3 hx8
      have hBB4 : BytesIn w9 b4 tm := BytesIn.later hB4 hx8
      have fr12 : ∀ {hp : List (Option Blk)} {w12 w' : World}, Ext [] w9 w12 → Fr hp w12 w' → nums hp = [some (f11 0), some (f12 0)] → Ext [] w9 w' := fun hx h hn => extFr hx h hn ⟨Nat.le_trans hx10.size (l11 0), Nat.le_trans hx10.size (l12 0), trivial⟩
      refine To.indexAtE 3 elBs gai ⟨g1, 0, none⟩ x.ips.length gci q (by kernel_rfl) hg1 (by omega) ?_
      refine To.indexAtE 9 elBs sai ⟨g3, 0, none⟩ x.ips.length sci q (by kernel_rfl) hg3 (by omega) ?_
      refine To.meetD 16 [true, true, true, true, true, true, true, true, true, true, true, true, false, false, false, false, false, false, false, false, false, false, false, false, false, false, false, false] ([(0, .slice a l.length cap), (3, .slice (some ⟨gad, 0, none⟩) (answers l).length gc), (4, .slice (some ⟨sad, 0, none⟩) (answers l).length sc), (5, .int .i64 (Int.ofNat k)), (6, .pointer (some ⟨f11 0, 0, none⟩)), (7, .pointer (some ⟨f12 0, 0, none⟩)), (8, .int .i64 (Int.ofNat q)), (25, .slice (some ⟨gad, 0, none⟩) (answers l).length gc), (26, .int .i64 (Int.ofNat (answers l).length)), (27, .int .i64 (Int.ofNat k)), (67, .slice gai x.ips.length gci), (68, .int .i64 (Int.ofNat x.ips.length)), (69, .int .i64 (Int.ofNat q)), (77, .string ⟨⟨ti⟩⟩), (83, .string ⟨⟨ti⟩⟩)],
          [ansBlk (f11 0) x gai x.ips.length gci gam x.masks.length gcm, ansBlk (f12 0) x sai x.ips.length sci sam x.masks.length scm]) (fun w8 => Ext [] w9 w8) (fun join => ?_) (fun w13 hx13 hxx13 => ?_)
      · refine To.pick 1 (by kernel_rfl) ⟨⟨trivial, ?_⟩, ?_⟩
        · skip
          refine To.loadOne uBytes rfl ((⟨g1, 0, none⟩ : Addr).add (q * 1)) (.slice b1 ti.length cb1) (by kernel_rfl) (fun w8 hw8 => (fr12 hx12 hw8.fr (by kernel_rfl)).cell (hx79.cell (cellT hO1 hT1 hcs1 (m := 0) rfl hg1) (by simp)) (by simp)) ?_
          refine To.pick 1 (by kernel_rfl) ⟨⟨trivial, ?_⟩, ?_⟩
          · skip
            refine To.textOf (src := 30) (dst := 9) (e := 5) b1 ti.length cb1 ti rfl uBytes uString uU8 (by kernel_rfl) (fun w8 hw8 j u hj => (hBB1.later (fr12 hx12 hw8.fr (by kernel_rfl))).at_ j u hj) hBB1.none ?_
            refine To.loadOne uBytes rfl ((⟨g3, 0, none⟩ : Addr).add (q * 1)) (.slice b3 ti.length cb3) (by kernel_rfl) (fun w8 hw8 => (fr12 hx12 hw8.fr (by kernel_rfl)).cell (cellT hO3 hT3 hcs3 (m := 0) rfl hg3) (by simp)) ?_
            refine To.textOf (src := 30) (dst := 9) (e := 5) b3 ti.length cb3 ti rfl uBytes uString uU8 (by kernel_rfl) (fun w8 hw8 j u hj => (hBB3.later (fr12 hx12 hw8.fr (by kernel_rfl))).at_ j u hj) hBB3.none ?_
            exact join _ _ [0, 1] ⟨by kernel_rfl, by kernel_rfl, by kernel_rfl, by kernel_rfl, by kernel_rfl, rfl⟩ (fun w9 hw9 => (fr12 hx12 hw9.fr (by kernel_rfl)))
          · skip
            refine To.loadOne uBytes rfl ((⟨g3, 0, none⟩ : Addr).add (q * 1)) (.slice b3 ti.length cb3) (by kernel_rfl) (fun w8 hw8 => (fr12 hx12 hw8.fr (by kernel_rfl)).cell (cellT hO3 hT3 hcs3 (m := 0) rfl hg3) (by simp)) ?_
            refine To.pick 1 (by kernel_rfl) ⟨⟨trivial, ?_⟩, ?_⟩
            · skip
              refine To.textOf (src := 30) (dst := 9) (e := 5) b1 ti.length cb1 ti rfl uBytes uString uU8 (by kernel_rfl) (fun w8 hw8 j u hj => (hBB1.later (fr12 hx12 hw8.fr (by kernel_rfl))).at_ j u hj) hBB1.none ?_
              refine To.textOf (src := 30) (dst := 9) (e := 5) b3 ti.length cb3 ti rfl uBytes uString uU8 (by kernel_rfl) (fun w8 hw8 j u hj => (hBB3.later (fr12 hx12 hw8.fr (by kernel_rfl))).at_ j u hj) hBB3.none ?_
              exact join _ _ [0, 1] ⟨by kernel_rfl, by kernel_rfl, by kernel_rfl, by kernel_rfl, by kernel_rfl, rfl⟩ (fun w9 hw9 => (fr12 hx12 hw9.fr (by kernel_rfl)))
            · skip
              refine To.textOf (src := 30) (dst := 9) (e := 5) b3 ti.length cb3 ti rfl uBytes uString uU8 (by kernel_rfl) (fun w8 hw8 j u hj => (hBB3.later (fr12 hx12 hw8.fr (by kernel_rfl))).at_ j u hj) hBB3.none ?_
              refine To.textOf (src := 30) (dst := 9) (e := 5) b1 ti.length cb1 ti rfl uBytes uString uU8 (by kernel_rfl) (fun w8 hw8 j u hj => (hBB1.later (fr12 hx12 hw8.fr (by kernel_rfl))).at_ j u hj) hBB1.none ?_
              exact join _ _ [0, 1] ⟨by kernel_rfl, by kernel_rfl, by kernel_rfl, by kernel_rfl, by kernel_rfl, rfl⟩ (fun w9 hw9 => (fr12 hx12 hw9.fr (by kernel_rfl)))
        · skip
          refine To.loadOne uBytes rfl ((⟨g3, 0, none⟩ : Addr).add (q * 1)) (.slice b3 ti.length cb3) (by kernel_rfl) (fun w8 hw8 => (fr12 hx12 hw8.fr (by kernel_rfl)).cell (cellT hO3 hT3 hcs3 (m := 0) rfl hg3) (by simp)) ?_
          refine To.pick 1 (by kernel_rfl) ⟨⟨trivial, ?_⟩, ?_⟩
          · skip
            refine To.loadOne uBytes rfl ((⟨g1, 0, none⟩ : Addr).add (q * 1)) (.slice b1 ti.length cb1) (by kernel_rfl) (fun w8 hw8 => (fr12 hx12 hw8.fr (by kernel_rfl)).cell (hx79.cell (cellT hO1 hT1 hcs1 (m := 0) rfl hg1) (by simp)) (by simp)) ?_
            refine To.pick 1 (by kernel_rfl) ⟨⟨trivial, ?_⟩, ?_⟩
            · skip
              refine To.textOf (src := 30) (dst := 9) (e := 5) b1 ti.length cb1 ti rfl uBytes uString uU8 (by kernel_rfl) (fun w8 hw8 j u hj => (hBB1.later (fr12 hx12 hw8.fr (by kernel_rfl))).at_ j u hj) hBB1.none ?_
              refine To.textOf (src := 30) (dst := 9) (e := 5) b3 ti.length cb3 ti rfl uBytes uString uU8 (by kernel_rfl) (fun w8 hw8 j u hj => (hBB3.later (fr12 hx12 hw8.fr (by kernel_rfl))).at_ j u hj) hBB3.none ?_
              exact join _ _ [0, 1] ⟨by kernel_rfl, by kernel_rfl, by kernel_rfl, by kernel_rfl, by kernel_rfl, rfl⟩ (fun w9 hw9 => (fr12 hx12 hw9.fr (by kernel_rfl)))
            · skip
              refine To.textOf (src := 30) (dst := 9) (e := 5) b3 ti.length cb3 ti rfl uBytes uString uU8 (by kernel_rfl) (fun w8 hw8 j u hj => (hBB3.later (fr12 hx12 hw8.fr (by kernel_rfl))).at_ j u hj) hBB3.none ?_
              refine To.textOf (src := 30) (dst := 9) (e := 5) b1 ti.length cb1 ti rfl uBytes uString uU8 (by kernel_rfl) (fun w8 hw8 j u hj => (hBB1.later (fr12 hx12 hw8.fr (by kernel_rfl))).at_ j u hj) hBB1.none ?_
              exact join _ _ [0, 1] ⟨by kernel_rfl, by kernel_rfl, by kernel_rfl, by kernel_rfl, by kernel_rfl, rfl⟩ (fun w9 hw9 => (fr12 hx12 hw9.fr (by kernel_rfl)))
          · skip
            refine To.textOf (src := 30) (dst := 9) (e := 5) b3 ti.length cb3 ti rfl uBytes uString uU8 (by kernel_rfl) (fun w8 hw8 j u hj => (hBB3.later (fr12 hx12 hw8.fr (by kernel_rfl))).at_ j u hj) hBB3.none ?_
            refine To.loadOne uBytes rfl ((⟨g1, 0, none⟩ : Addr).add (q * 1)) (.slice b1 ti.length cb1) (by kernel_rfl) (fun w8 hw8 => (fr12 hx12 hw8.fr (by kernel_rfl)).cell (hx79.cell (cellT hO1 hT1 hcs1 (m := 0) rfl hg1) (by simp)) (by simp)) ?_
            refine To.textOf (src := 30) (dst := 9) (e := 5) b1 ti.length cb1 ti rfl uBytes uString uU8 (by kernel_rfl) (fun w8 hw8 j u hj => (hBB1.later (fr12 hx12 hw8.fr (by kernel_rfl))).at_ j u hj) hBB1.none ?_
            exact join _ _ [0, 1] ⟨by kernel_rfl, by kernel_rfl, by kernel_rfl, by kernel_rfl, by kernel_rfl, rfl⟩ (fun w9 hw9 => (fr12 hx12 hw9.fr (by kernel_rfl)))
      refine To.runF 2 [] (fun _ _ => by kernel_rfl) fun f19 g19 l19 => ?_
      refine To.slotF 85 (!((ByteArray.mk ⟨ti⟩).toList == (ByteArray.mk ⟨ti⟩).toList)) (by kernel_rfl) (by simp) ?_
      refine To.runF 6 [14, 15, 0, 16, 20, 21, 1, 22] (fun _ _ => by kernel_rfl) fun f20 g20 l20 => ?_
      refine To.indexAtE 17 elBs gam ⟨g2, 0, none⟩ x.masks.length gcm q (by kernel_rfl) hg2 (by omega) ?_
      refine To.indexAtE 23 elBs sam ⟨g4, 0, none⟩ x.masks.length scm q (by kernel_rfl) hg4 (by omega) ?_
      refine To.meetD 2 [true, true, true, true, true, true, true, true, true, true, true, true, true, true, true, true, true, true, true, true, true, true, true, true, true, true, false, false] ([(0, .slice a l.length cap), (3, .slice (some ⟨gad, 0, none⟩) (answers l).length gc), (4, .slice (some ⟨sad, 0, none⟩) (answers l).length sc), (5, .int .i64 (Int.ofNat k)), (6, .pointer (some ⟨f11 0, 0, none⟩)), (7, .pointer (some ⟨f12 0, 0, none⟩)), (8, .int .i64 (Int.ofNat q)), (25, .slice (some ⟨gad, 0, none⟩) (answers l).length gc), (26, .int .i64 (Int.ofNat (answers l).length)), (27, .int .i64 (Int.ofNat k)), (67, .slice gai x.ips.length gci), (68, .int .i64 (Int.ofNat x.ips.length)), (69, .int .i64 (Int.ofNat q)), (85, .bool false), (91, .string ⟨⟨tm⟩⟩), (97, .string ⟨⟨tm⟩⟩)],
          [ansBlk (f11 0) x gai x.ips.length gci gam x.masks.length gcm, ansBlk (f12 0) x sai x.ips.length sci sam x.masks.length scm]) (fun w8 => Ext [] w9 w8) (fun join => ?_) (fun w14 hx14 hxx14 => ?_)
      · refine To.pick 1 (by kernel_rfl) ⟨⟨trivial, ?_⟩, ?_⟩
        · skip
          refine To.loadOne uBytes rfl ((⟨g2, 0, none⟩ : Addr).add (q * 1)) (.slice b2 tm.length cb2) (by kernel_rfl) (fun w8 hw8 => (fr12 hx13 hw8.fr (by kernel_rfl)).cell (hx79.cell (cellT hO2 hT2 hcs2 (m := 0) rfl hg2) (by simp)) (by simp)) ?_
          refine To.pick 1 (by kernel_rfl) ⟨⟨trivial, ?_⟩, ?_⟩
          · skip
            refine To.textOf (src := 30) (dst := 9) (e := 5) b2 tm.length cb2 tm rfl uBytes uString uU8 (by kernel_rfl) (fun w8 hw8 j u hj => (hBB2.later (fr12 hx13 hw8.fr (by kernel_rfl))).at_ j u hj) hBB2.none ?_
            refine To.loadOne uBytes rfl ((⟨g4, 0, none⟩ : Addr).add (q * 1)) (.slice b4 tm.length cb4) (by kernel_rfl) (fun w8 hw8 => (fr12 hx13 hw8.fr (by kernel_rfl)).cell (cellT hO4 hT4 hcs4 (m := 0) rfl hg4) (by simp)) ?_
            refine To.textOf (src := 30) (dst := 9) (e := 5) b4 tm.length cb4 tm rfl uBytes uString uU8 (by kernel_rfl) (fun w8 hw8 j u hj => (hBB4.later (fr12 hx13 hw8.fr (by kernel_rfl))).at_ j u hj) hBB4.none ?_
            exact join _ _ [0, 1] ⟨by kernel_rfl, by kernel_rfl, by kernel_rfl, by kernel_rfl, by kernel_rfl, rfl⟩ (fun w9 hw9 => (fr12 hx13 hw9.fr (by kernel_rfl)))
          · skip
            refine To.loadOne uBytes rfl ((⟨g4, 0, none⟩ : Addr).add (q * 1)) (.slice b4 tm.length cb4) (by kernel_rfl) (fun w8 hw8 => (fr12 hx13 hw8.fr (by kernel_rfl)).cell (cellT hO4 hT4 hcs4 (m := 0) rfl hg4) (by simp)) ?_
            refine To.pick 1 (by kernel_rfl) ⟨⟨trivial, ?_⟩, ?_⟩
            · skip
              refine To.textOf (src := 30) (dst := 9) (e := 5) b2 tm.length cb2 tm rfl uBytes uString uU8 (by kernel_rfl) (fun w8 hw8 j u hj => (hBB2.later (fr12 hx13 hw8.fr (by kernel_rfl))).at_ j u hj) hBB2.none ?_
              refine To.textOf (src := 30) (dst := 9) (e := 5) b4 tm.length cb4 tm rfl uBytes uString uU8 (by kernel_rfl) (fun w8 hw8 j u hj => (hBB4.later (fr12 hx13 hw8.fr (by kernel_rfl))).at_ j u hj) hBB4.none ?_
              exact join _ _ [0, 1] ⟨by kernel_rfl, by kernel_rfl, by kernel_rfl, by kernel_rfl, by kernel_rfl, rfl⟩ (fun w9 hw9 => (fr12 hx13 hw9.fr (by kernel_rfl)))
            · skip
              refine To.textOf (src := 30) (dst := 9) (e := 5) b4 tm.length cb4 tm rfl uBytes uString uU8 (by kernel_rfl) (fun w8 hw8 j u hj => (hBB4.later (fr12 hx13 hw8.fr (by kernel_rfl))).at_ j u hj) hBB4.none ?_
              refine To.textOf (src := 30) (dst := 9) (e := 5) b2 tm.length cb2 tm rfl uBytes uString uU8 (by kernel_rfl) (fun w8 hw8 j u hj => (hBB2.later (fr12 hx13 hw8.fr (by kernel_rfl))).at_ j u hj) hBB2.none ?_
              exact join _ _ [0, 1] ⟨by kernel_rfl, by kernel_rfl, by kernel_rfl, by kernel_rfl, by kernel_rfl, rfl⟩ (fun w9 hw9 => (fr12 hx13 hw9.fr (by kernel_rfl)))
        · skip
          refine To.loadOne uBytes rfl ((⟨g4, 0, none⟩ : Addr).add (q * 1)) (.slice b4 tm.length cb4) (by kernel_rfl) (fun w8 hw8 => (fr12 hx13 hw8.fr (by kernel_rfl)).cell (cellT hO4 hT4 hcs4 (m := 0) rfl hg4) (by simp)) ?_
          refine To.pick 1 (by kernel_rfl) ⟨⟨trivial, ?_⟩, ?_⟩
          · skip
            refine To.loadOne uBytes rfl ((⟨g2, 0, none⟩ : Addr).add (q * 1)) (.slice b2 tm.length cb2) (by kernel_rfl) (fun w8 hw8 => (fr12 hx13 hw8.fr (by kernel_rfl)).cell (hx79.cell (cellT hO2 hT2 hcs2 (m := 0) rfl hg2) (by simp)) (by simp)) ?_
            refine To.pick 1 (by kernel_rfl) ⟨⟨trivial, ?_⟩, ?_⟩
            · skip
              refine To.textOf (src := 30) (dst := 9) (e := 5) b2 tm.length cb2 tm rfl uBytes uString uU8 (by kernel_rfl) (fun w8 hw8 j u hj => (hBB2.later (fr12 hx13 hw8.fr (by kernel_rfl))).at_ j u hj) hBB2.none ?_
              refine To.textOf (src := 30) (dst := 9) (e := 5) b4 tm.length cb4 tm rfl uBytes uString uU8 (by kernel_rfl) (fun w8 hw8 j u hj => (hBB4.later (fr12 hx13 hw8.fr (by kernel_rfl))).at_ j u hj) hBB4.none ?_
              exact join _ _ [0, 1] ⟨by kernel_rfl, by kernel_rfl, by kernel_rfl, by kernel_rfl, by kernel_rfl, rfl⟩ (fun w9 hw9 => (fr12 hx13 hw9.fr (by kernel_rfl)))
            · skip
              refine To.textOf (src := 30) (dst := 9) (e := 5) b4 tm.length cb4 tm rfl uBytes uString uU8 (by kernel_rfl) (fun w8 hw8 j u hj => (hBB4.later (fr12 hx13 hw8.fr (by kernel_rfl))).at_ j u hj) hBB4.none ?_
              refine To.textOf (src := 30) (dst := 9) (e := 5) b2 tm.length cb2 tm rfl uBytes uString uU8 (by kernel_rfl) (fun w8 hw8 j u hj => (hBB2.later (fr12 hx13 hw8.fr (by kernel_rfl))).at_ j u hj) hBB2.none ?_
              exact join _ _ [0, 1] ⟨by kernel_rfl, by kernel_rfl, by kernel_rfl, by kernel_rfl, by kernel_rfl, rfl⟩ (fun w9 hw9 => (fr12 hx13 hw9.fr (by kernel_rfl)))
          · skip
            refine To.textOf (src := 30) (dst := 9) (e := 5) b4 tm.length cb4 tm rfl uBytes uString uU8 (by kernel_rfl) (fun w8 hw8 j u hj => (hBB4.later (fr12 hx13 hw8.fr (by kernel_rfl))).at_ j u hj) hBB4.none ?_
            refine To.loadOne uBytes rfl ((⟨g2, 0, none⟩ : Addr).add (q * 1)) (.slice b2 tm.length cb2) (by kernel_rfl) (fun w8 hw8 => (fr12 hx13 hw8.fr (by kernel_rfl)).cell (hx79.cell (cellT hO2 hT2 hcs2 (m := 0) rfl hg2) (by simp)) (by simp)) ?_
            refine To.textOf (src := 30) (dst := 9) (e := 5) b2 tm.length cb2 tm rfl uBytes uString uU8 (by kernel_rfl) (fun w8 hw8 j u hj => (hBB2.later (fr12 hx13 hw8.fr (by kernel_rfl))).at_ j u hj) hBB2.none ?_
            exact join _ _ [0, 1] ⟨by kernel_rfl, by kernel_rfl, by kernel_rfl, by kernel_rfl, by kernel_rfl, rfl⟩ (fun w9 hw9 => (fr12 hx13 hw9.fr (by kernel_rfl)))
      refine To.runF 3 [] (fun _ _ => by kernel_rfl) fun f21 g21 l21 => ?_
      refine To.testF (!((ByteArray.mk ⟨tm⟩).toList == (ByteArray.mk ⟨tm⟩).toList)) (by kernel_rfl) (by simp) ?_
      refine To.runF 6 [] (fun _ _ => by kernel_rfl) fun f22 g22 l22 => ?_
      refine To.slotE 69 (.int .i64 (IntKind.i64.wrap (Int.ofNat q + 1))) (.int .i64 (Int.ofNat (q + 1))) (by kernel_rfl) (by rw [wrap_succ q (by omega)]) ?_
      exact back2 _ _ (q + 1) [0, 1] (by omega) ⟨by kernel_rfl, by kernel_rfl, by kernel_rfl, by kernel_rfl, by kernel_rfl, rfl⟩ (fun w15 hw15 => ⟨hql, fr12 hx14 hw15.fr (by kernel_rfl)⟩)
    · have hq1 : q = x.ips.length := by omega
      subst hq1
      refine To.testF (decide (Int.ofNat x.ips.length < Int.ofNat x.ips.length)) (by kernel_rfl) (by simp) ?_
      refine To.runF 6 [] (fun _ _ => by kernel_rfl) fun f18 g18 l18 => ?_
      refine To.slotE 27 (.int .i64 (IntKind.i64.wrap (Int.ofNat k + 1))) (.int .i64 (Int.ofNat (k + 1))) (by kernel_rfl) (by rw [wrap_succ k (by omega)]) ?_
      exact back _ _ (k + 1) [] (by omega) ⟨by kernel_rfl, by kernel_rfl, by kernel_rfl, by kernel_rfl, by kernel_rfl, rfl⟩ (fun w9 hw9 => ⟨hlt, extFr hx12 hw9.fr (l := [some (f11 0), some (f12 0)]) (by kernel_rfl) ⟨Nat.le_trans hx10.size (l11 0), Nat.le_trans hx10.size (l12 0), trivial⟩⟩)
  · have hk1 : k = (answers l).length := by omega
    subst hk1
    refine To.testF (decide (Int.ofNat (answers l).length < Int.ofNat (answers l).length)) (by kernel_rfl) (by simp) ?_
    refine To.runF 3 [] (fun _ _ => by kernel_rfl) fun f10 g10 l10 => ?_
    refine To.callN 6 #[] (by kernel_rfl) (fun _ => by kernel_rfl) (fun wa hwa => filtersAlive uvTo wa (ht.later hwa.ext)) (fun wa va wb hwa hxa hva hnewa hwia => ?_)
    subst hva
    refine To.runF 2 [] (fun _ _ => by kernel_rfl) fun f11 g11 l11 => ?_
    exact To.ret [] (.bool true) (by kernel_rfl) (by kernel_rfl) fun w4 hw4 => ⟨_, rfl, hw4.ext, rfl⟩
end Go.Proofs.YtkhonkejebdcgaaGreatDoor
