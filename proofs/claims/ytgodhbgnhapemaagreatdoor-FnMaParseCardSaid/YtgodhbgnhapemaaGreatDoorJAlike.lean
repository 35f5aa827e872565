/- Lists of components: whether two are alike, and what the thin package reads. Conditions: as each says. -/
import Derived.Test.YtgodhbgnhapemaaGreatDoorJSimple
import Derived.Laws.Strings
import Derived.Test.YtgodhbgnhapemaaGreatDoorSxB
set_option linter.unusedVariables false
set_option linter.unusedSimpArgs false
/- Whether components, and addresses, of plain data are equal; whether a list has an address. Conditions: as each says. -/
namespace Go.Proofs.YtgodhbgnhapemaaGreatDoor
open Go Go.SX
set_option maxHeartbeats 8000000
set_option maxRecDepth 100000
theorem str_eq (a b : List UInt8) : ((ByteArray.mk ⟨a⟩).toList == (ByteArray.mk ⟨b⟩).toList) = decide (a = b) := by
  rw [ByteArray.toList_eq, ByteArray.toList_eq]
  show (a == b) = decide (a = b)
  by_cases h : a = b <;> simp [h]
theorem maSame (p q : Int × List UInt8) (va vb : Option Addr) (ca cb : Nat) (w : World) (ha : BytesIn w va p.2) (hb : BytesIn w vb q.2) :
    Calls Tryz.prog 19 #[.agg #[.int .i64 p.1, .slice va p.2.length ca], .agg #[.int .i64 q.1, .slice vb q.2.length cb]] w
      (fun e w1 => ∃ v, e = .returned v ∧ Ext [] w w1 ∧ v = .bool (decide (p = q))) := by
  refine calls_of0 (args := [.agg #[.int .i64 p.1, .slice va p.2.length ca], .agg #[.int .i64 q.1, .slice vb q.2.length cb]]) Tryz.func19 rfl rfl rfl ?_
  refine To.runF 14 [0, 1] (fun _ _ => by kernel_rfl) fun f1 g1 l1 => ?_
  refine To.slot 10 (p.1 == q.1) (by kernel_rfl) (fun h1 => ?_) (fun h1 => ?_)
  · refine To.runF 2 [0] (fun _ _ => by kernel_rfl) fun f2 g2 l2 => ?_
    refine To.textOf va p.2.length ca p.2 rfl uBytes uString uU8 (by kernel_rfl) (fun w hw => (ha.later hw.ext).at_) ha.none ?_
    refine To.runF 2 [1] (fun _ _ => by kernel_rfl) fun f3 g3 l3 => ?_
    refine To.textOf vb q.2.length cb q.2 rfl uBytes uString uU8 (by kernel_rfl) (fun w hw => (hb.later hw.ext).at_) hb.none ?_
    refine To.runF 4 [] (fun _ _ => by kernel_rfl) fun f4 g4 l4 => ?_
    exact To.ret [] (.bool ((ByteArray.mk ⟨p.2⟩).toList == (ByteArray.mk ⟨q.2⟩).toList)) (by kernel_rfl) (by kernel_rfl) fun w4 hw4 => ⟨_, rfl, hw4.ext, by
      rw [str_eq]
      have e := eq_of_beq h1
      congr 1
      by_cases h : p.2 = q.2
      · rw [decide_eq_true h, decide_eq_true (Prod.ext e h)]
      · rw [decide_eq_false h, decide_eq_false (fun he => h (congrArg Prod.snd he))]⟩
  · refine To.runF 10 [] (fun _ _ => by kernel_rfl) fun f2 g2 l2 => ?_
    exact To.ret [] (.bool false) (by kernel_rfl) (by kernel_rfl) fun w4 hw4 => ⟨_, rfl, hw4.ext, by
      rw [decide_eq_false (fun he => by rw [he] at h1; simp at h1)]⟩
theorem spot_add {ad : Addr} (h : ad.spot = none) (i : Nat) : (ad.add i).spot = none := by unfold Addr.add; split <;> simp_all
theorem cells_atA {w : World} {b : Nat} {c : Array Value} {e : TypeId} {z : Nat × Nat} {ad : Addr} {v : Value} (hB : w.heap[b]? = some (.cells c e z)) (hb : ad.block = b) (h : w.cell? ad = some v) : c[ad.off]? = some v := by
  obtain ⟨c', e', z', h1, _, h2⟩ := block_of_cell h
  rw [hb, hB] at h1
  simp only [Option.some.injEq, Obj.cells.injEq] at h1
  rw [h1.1]; exact h2
theorem maAlike (x y : Comps) (a b : Option Addr) (ca cb : Nat) (w : World) (ha : CompsIn w a x) (hb : CompsIn w b y) (hx : x.length ≤ 1152921504606846976) (hy : y.length ≤ 1152921504606846976) :
    Calls Tryz.prog 10 #[.slice a x.length ca, .slice b y.length cb] w (fun e w1 => ∃ v, e = .returned v ∧ Ext [] w w1 ∧ v = .bool (decide (x = y))) := by
  refine calls_of0 (args := [.slice a x.length ca, .slice b y.length cb]) Tryz.func10 rfl rfl rfl ?_
  refine To.runF 13 [] (fun _ _ => by kernel_rfl) fun f1 g1 l1 => ?_
  by_cases hl : x.length = y.length
  · refine To.testF (Int.ofNat x.length != Int.ofNat y.length) (by kernel_rfl) (by rw [hl]; simp) ?_
    refine To.runF 9 [] (fun _ _ => by kernel_rfl) fun f2 g2 l2 => ?_
    refine To.loop (fun k : Nat => x.length - k) (fun k => ([(0, .slice a x.length ca), (1, .slice b y.length cb), (12, .int .i64 (Int.ofNat x.length)), (13, .int .i64 (Int.ofNat k))], [])) (fun k _ => k ≤ x.length ∧ x.take k = y.take k) 0 [] (by kernel_rfl) (by kernel_rfl) (by kernel_rfl) rfl (fun _ _ => ⟨Nat.zero_le _, rfl⟩) ?_
    rintro k w1 ⟨hk, hall⟩ hx1 back
    refine To.runF 5 [] (fun _ _ => by kernel_rfl) fun f3 g3 l3 => ?_
    by_cases hlt : k < x.length
    · obtain ⟨p, hp⟩ : ∃ p, x[k]? = some p := ⟨x[k], by simp [hlt]⟩
      obtain ⟨q, hq⟩ : ∃ q, y[k]? = some q := ⟨y[k]'(by omega), by simp [← hl, hlt]⟩
      obtain ⟨ad, va, cv, ha0, hsp, hc0, hc1, hva⟩ := ha.at_ k p.1 p.2 hp
      obtain ⟨bd, vb, dv, hb0, hsq, hd0, hd1, hvb⟩ := hb.at_ k q.1 q.2 hq
      refine To.testT (decide (Int.ofNat k < Int.ofNat x.length)) (by kernel_rfl) (decide_eq_true (Int.ofNat_lt.2 hlt)) ?_
      obtain ⟨c1, e1, z1, hB1, _, hP0⟩ := block_of_cell hc0
      obtain ⟨c2, e2, z2, hB2, _, hQ0⟩ := block_of_cell hd0
      have hP1 := cells_atA hB1 (by rw [add_block, add_block]) hc1
      have hQ1 := cells_atA hB2 (by rw [add_block, add_block]) hd1
      rw [add_block] at hB1 hB2
      by_cases hbb : ad.block = bd.block
      · have hB3 := hB2
        rw [← hbb, hB1] at hB3
        simp only [Option.some.injEq, Obj.cells.injEq] at hB3
        obtain ⟨rfl, rfl, rfl⟩ := hB3
        refine To.withAt ad.block (.cells c1 e1 z1) false (hx1.at hB1 (by simp)) (nums_all (Q := fun n => n ≠ ad.block) (l := []) (by kernel_rfl) trivial) (by simp) ?_
        refine To.runF 14 [1, 0, 0, 0, 1, 4, 5] (fun _ _ => by kernel_rfl) fun f4 g4 l4 => ?_
        refine To.indexAtE 2 elC a ad x.length ca k (by kernel_rfl) ha0 hlt ?_
        refine To.indexAtE 6 elC b bd y.length cb k (by kernel_rfl) hb0 (by omega) ?_
        refine To.loadAggE 3 (t := 34) (by kernel_rfl) 2 (by kernel_rfl) (ad.add (k * 2)) [.int .i64 p.1, .slice va p.2.length cv] rfl (by kernel_rfl) (fun w2 hw2 j v hj => by
          rw [add_add hsp]
          rcases j with _ | _ | j
          · cases hj; exact SH.cell (j := 0) (b := ad.block) (c := c1) (e := e1) (z := z1) (q := false) hw2 (by kernel_rfl) (add_block _ _) (spot_add hsp _) hP0
          · cases hj; exact SH.cell (j := 0) (b := ad.block) (c := c1) (e := e1) (z := z1) (q := false) hw2 (by kernel_rfl) (add_block _ _) (spot_add hsp _) hP1
          · cases hj) ?_
        refine To.loadAggE 7 (t := 34) (by kernel_rfl) 2 (by kernel_rfl) (bd.add (k * 2)) [.int .i64 q.1, .slice vb q.2.length dv] rfl (by kernel_rfl) (fun w2 hw2 j v hj => by
          rw [add_add hsq]
          rcases j with _ | _ | j
          · cases hj; exact SH.cell (j := 0) (b := ad.block) (c := c1) (e := e1) (z := z1) (q := false) hw2 (by kernel_rfl) ((add_block _ _).trans hbb.symm) (spot_add hsq _) hQ0
          · cases hj; exact SH.cell (j := 0) (b := ad.block) (c := c1) (e := e1) (z := z1) (q := false) hw2 (by kernel_rfl) ((add_block _ _).trans hbb.symm) (spot_add hsq _) hQ1
          · cases hj) ?_
        refine To.callN 19 #[.agg #[.int .i64 p.1, .slice va p.2.length cv], .agg #[.int .i64 q.1, .slice vb q.2.length dv]] (by kernel_rfl) (fun _ => by kernel_rfl) (fun w2 hw2 => maSame p q va vb cv dv w2 (hva.later hw2.ext) (hvb.later hw2.ext)) (fun w2 v2 w3 hw2 hx2 hv2 hnew2 hwi2 => ?_)
        subst hv2
        refine To.runF 2 [] (fun _ _ => by kernel_rfl) fun f5 g5 l5 => ?_
        refine To.test (!decide (p = q)) (by kernel_rfl) (fun h2 => ?_) (fun h2 => ?_)
        · refine To.runF 4 [] (fun _ _ => by kernel_rfl) fun f6 g6 l6 => ?_
          exact To.ret [] (.bool false) (by kernel_rfl) (by kernel_rfl) fun w4 hw4 => ⟨_, rfl, hw4.ext, by
            have hpq : p ≠ q := by simpa using h2
            rw [decide_eq_false (fun he => hpq (by rw [he, hq] at hp; exact (Option.some.inj hp).symm))]⟩
        have hpq : p = q := by simpa using h2
        refine To.runF 6 [] (fun _ _ => by kernel_rfl) fun f6 g6 l6 => ?_
        refine To.slotE 13 (.int .i64 (IntKind.i64.wrap (Int.ofNat k + 1))) (.int .i64 (Int.ofNat (k + 1))) (by kernel_rfl) (by rw [wrap_succ k (by omega)]) ?_
        exact back _ _ (k + 1) [] (by omega) ⟨by kernel_rfl, by kernel_rfl, by kernel_rfl, by kernel_rfl, by kernel_rfl, rfl⟩ (fun w7 hw7 => ⟨hlt, by
          rw [List.take_add_one, List.take_add_one, hall, hp, hq, hpq]⟩)
      · refine To.withAt ad.block (.cells c1 e1 z1) false (hx1.at hB1 (by simp)) (nums_all (Q := fun n => n ≠ ad.block) (l := []) (by kernel_rfl) trivial) (by simp) ?_
        refine To.withAt bd.block (.cells c2 e2 z2) false (hx1.at hB2 (by simp)) (nums_all (Q := fun n => n ≠ bd.block) (l := [some ad.block]) (by kernel_rfl) ⟨hbb, trivial⟩) (by simp) ?_
        refine To.runF 14 [2, 0, 1, 0, 0, 1, 4, 5] (fun _ _ => by kernel_rfl) fun f4 g4 l4 => ?_
        refine To.indexAtE 2 elC a ad x.length ca k (by kernel_rfl) ha0 hlt ?_
        refine To.indexAtE 6 elC b bd y.length cb k (by kernel_rfl) hb0 (by omega) ?_
        refine To.loadAggE 3 (t := 34) (by kernel_rfl) 2 (by kernel_rfl) (ad.add (k * 2)) [.int .i64 p.1, .slice va p.2.length cv] rfl (by kernel_rfl) (fun w2 hw2 j v hj => by
          rw [add_add hsp]
          rcases j with _ | _ | j
          · cases hj; exact SH.cell (j := 0) (b := ad.block) (c := c1) (e := e1) (z := z1) (q := false) hw2 (by kernel_rfl) (add_block _ _) (spot_add hsp _) hP0
          · cases hj; exact SH.cell (j := 0) (b := ad.block) (c := c1) (e := e1) (z := z1) (q := false) hw2 (by kernel_rfl) (add_block _ _) (spot_add hsp _) hP1
          · cases hj) ?_
        refine To.loadAggE 7 (t := 34) (by kernel_rfl) 2 (by kernel_rfl) (bd.add (k * 2)) [.int .i64 q.1, .slice vb q.2.length dv] rfl (by kernel_rfl) (fun w2 hw2 j v hj => by
          rw [add_add hsq]
          rcases j with _ | _ | j
          · cases hj; exact SH.cell (j := 1) (b := bd.block) (c := c2) (e := e2) (z := z2) (q := false) hw2 (by kernel_rfl) (add_block _ _) (spot_add hsq _) hQ0
          · cases hj; exact SH.cell (j := 1) (b := bd.block) (c := c2) (e := e2) (z := z2) (q := false) hw2 (by kernel_rfl) (add_block _ _) (spot_add hsq _) hQ1
          · cases hj) ?_
        refine To.callN 19 #[.agg #[.int .i64 p.1, .slice va p.2.length cv], .agg #[.int .i64 q.1, .slice vb q.2.length dv]] (by kernel_rfl) (fun _ => by kernel_rfl) (fun w2 hw2 => maSame p q va vb cv dv w2 (hva.later hw2.ext) (hvb.later hw2.ext)) (fun w2 v2 w3 hw2 hx2 hv2 hnew2 hwi2 => ?_)
        subst hv2
        refine To.runF 2 [] (fun _ _ => by kernel_rfl) fun f5 g5 l5 => ?_
        refine To.test (!decide (p = q)) (by kernel_rfl) (fun h2 => ?_) (fun h2 => ?_)
        · refine To.runF 4 [] (fun _ _ => by kernel_rfl) fun f6 g6 l6 => ?_
          exact To.ret [] (.bool false) (by kernel_rfl) (by kernel_rfl) fun w4 hw4 => ⟨_, rfl, hw4.ext, by
            have hpq : p ≠ q := by simpa using h2
            rw [decide_eq_false (fun he => hpq (by rw [he, hq] at hp; exact (Option.some.inj hp).symm))]⟩
        have hpq : p = q := by simpa using h2
        refine To.runF 6 [] (fun _ _ => by kernel_rfl) fun f6 g6 l6 => ?_
        refine To.slotE 13 (.int .i64 (IntKind.i64.wrap (Int.ofNat k + 1))) (.int .i64 (Int.ofNat (k + 1))) (by kernel_rfl) (by rw [wrap_succ k (by omega)]) ?_
        exact back _ _ (k + 1) [] (by omega) ⟨by kernel_rfl, by kernel_rfl, by kernel_rfl, by kernel_rfl, by kernel_rfl, rfl⟩ (fun w7 hw7 => ⟨hlt, by
          rw [List.take_add_one, List.take_add_one, hall, hp, hq, hpq]⟩)
    · have hk1 : k = x.length := by omega
      subst hk1
      refine To.testF (decide (Int.ofNat x.length < Int.ofNat x.length)) (by kernel_rfl) (by simp) ?_
      refine To.runF 5 [] (fun _ _ => by kernel_rfl) fun f4 g4 l4 => ?_
      exact To.ret [] (.bool true) (by kernel_rfl) (by kernel_rfl) fun w4 hw4 => ⟨_, rfl, hw4.ext, by
        rw [List.take_length, hl, List.take_length] at hall
        rw [decide_eq_true hall]⟩
  · refine To.testT (Int.ofNat x.length != Int.ofNat y.length) (by kernel_rfl) (by simp only [bne_iff_ne, ne_eq]; intro h; exact hl (Int.ofNat.inj h)) ?_
    refine To.runF 4 [] (fun _ _ => by kernel_rfl) fun f2 g2 l2 => ?_
    exact To.ret [] (.bool false) (by kernel_rfl) (by kernel_rfl) fun w4 hw4 => ⟨_, rfl, hw4.ext, by rw [decide_eq_false (fun he => hl (congrArg List.length he))]⟩
end Go.Proofs.YtgodhbgnhapemaaGreatDoor
/- The components that an address of the package is. Conditions: as each says. -/
namespace Go.Proofs.YtgodhbgnhapemaaGreatDoor
open Go Go.SX
set_option maxHeartbeats 8000000
set_option maxRecDepth 100000
/-- Cells of a component whose value lies in a block of its own. -/
def CompC (lo : Nat) (w : World) (p : Row × List UInt8) (cs : List Value) : Prop :=
  ∃ vg cap rest z, cs = [.int .i64 p.1.code, .slice (some ⟨vg, 0, none⟩) p.2.length cap] ∧ w.heap[vg]? = some (.cells ⟨ucells p.2 ++ rest⟩ 5 z) ∧ lo ≤ vg
theorem CompC.kept {Q : Nat → Prop} {lo : Nat} {w w' : World} {p : Row × List UInt8} {cs : List Value} (h : CompC lo w p cs) (hk : Kept Q w w') (hq : ∀ b c z, lo ≤ b → w.heap[b]? = some (.cells c 5 z) → Q b) : CompC lo w' p cs := by
  obtain ⟨vg, cap, rest, z, h1, h2, h3⟩ := h
  exact ⟨vg, cap, rest, z, h1, hk _ _ (hq _ _ _ h3 h2) h2, h3⟩
theorem CompC.since {lo lo' : Nat} {w : World} {p : Row × List UInt8} {cs : List Value} (h : CompC lo w p cs) (hl : lo' ≤ lo) : CompC lo' w p cs := by
  obtain ⟨vg, cap, rest, z, h1, h2, h3⟩ := h
  exact ⟨vg, cap, rest, z, h1, h2, Nat.le_trans hl h3⟩
/-- A slice of components that are new. -/
abbrev CompsOut (lo : Nat) (w : World) (v : Value) (l : Ma) : Prop := RowsN (CompC lo) 2 34 lo w v l
theorem CompsOut.kept {Q : Nat → Prop} {lo : Nat} {w w' : World} {v : Value} {l : Ma} (h : CompsOut lo w v l) (hk : Kept Q w w')
    (hq : ∀ b c t z, lo ≤ b → w.heap[b]? = some (.cells c t z) → (t = 34 ∨ t = 5) → Q b) : CompsOut lo w' v l := by
  rcases h with h | ⟨g, c, rest, css, h1, h2⟩
  · exact .inl h
  · exact .inr ⟨g, c, rest, css, h1, h2.kept ((hk _ _ (hq _ _ _ _ h2.lo h2.blk (.inl rfl)) h2.blk).trans h2.blk.symm) (fun y u _ hI => hI.kept hk (fun b c z hlo hb => hq b c _ z hlo hb (.inr rfl)))⟩
theorem CompsOut.since {lo lo' : Nat} {w : World} {v : Value} {l : Ma} (h : CompsOut lo w v l) (hl : lo' ≤ lo) : CompsOut lo' w v l := by
  rcases h with h | ⟨g, c, rest, css, h1, h2⟩
  · exact .inl h
  · exact .inr ⟨g, c, rest, css, h1, ⟨h2.blk, h2.len, h2.each, h2.room, h2.le, h2.cap, Nat.le_trans hl h2.lo, fun j cs x hj hx => (h2.all j cs x hj hx).since hl⟩⟩
theorem ucells_cell {w : World} {g : Nat} {l : List UInt8} {rest : List Value} {t : TypeId} {z : Nat × Nat} (h : w.heap[g]? = some (.cells ⟨ucells l ++ rest⟩ t z)) {j : Nat} {u : UInt8} (hj : l[j]? = some u) :
    w.cell? ((⟨g, 0, none⟩ : Addr).add j) = some (.int .u8 (u.toNat : Int)) := by
  rw [add0]
  rw [cell_of_row w g _ _ t z h]
  simp only [List.getElem?_toArray]
  exact ucells_get_app hj
theorem CompsOut.min {lo : Nat} {w : World} {v : Value} {l : Ma} (h : CompsOut lo w v l) : ∃ a c, v = .slice a l.length c ∧ CompsIn w a (plain l) := by
  rcases h with ⟨rfl, rfl⟩ | ⟨g, c, rest, css, rfl, h2⟩
  · exact ⟨none, 0, rfl, ⟨fun j c v hj => by cases hj⟩⟩
  · refine ⟨_, _, rfl, ⟨fun j cd val hj => ?_⟩⟩
    obtain ⟨p, hp, he⟩ : ∃ p, l[j]? = some p ∧ (p.1.code, p.2) = (cd, val) := by
      simp only [plain, List.getElem?_map, Option.map_eq_some_iff] at hj
      exact hj
    cases he
    obtain ⟨cs, h3, ⟨vg, cap, r2, z, rfl, h4, _⟩, h5⟩ := h2.get hp
    exact ⟨_, some ⟨vg, 0, none⟩, cap, rfl, rfl, h5 0 _ rfl, h5 1 _ rfl, ⟨fun i u hi => ⟨_, rfl, ucells_cell h4 hi⟩, fun h => by cases h⟩⟩
theorem val_extract (r : Row) (val : List UInt8) : (bytesOf r.vc r.size val).extract (headOf r.vc r.size val.length).length (bytesOf r.vc r.size val).size = ⟨⟨val⟩⟩ := by
  apply ByteArray.ext
  simp only [ByteArray.data_extract]
  apply Array.ext'
  simp [bytesOf, ByteArray.size]
theorem head_le (r : Row) (val : List UInt8) : (headOf r.vc r.size val.length).length ≤ (bytesOf r.vc r.size val).size := by
  simp [bytesOf, ByteArray.size]
theorem elC2 : Elem Tryz.prog 22 34 2 32 := elC
/-- The state of a loop that fills a row of elements of several cells. -/
abbrev OutIxN := Nat × Option (Nat × Nat × List Value × List (List Value))
def outVN (n : Nat) : Option (Nat × Nat × List Value × List (List Value)) → Value
  | none => .slice none 0 0
  | some (g, c, _, _) => .slice (some ⟨g, 0, none⟩) n c
def outBN (ty : TypeId) : Option (Nat × Nat × List Value × List (List Value)) → List (Option Blk)
  | none => []
  | some (g, _, rest, css) => [some ⟨g, .cells ⟨css.flatten ++ rest⟩ ty (0, 0), true⟩]
def OutInvN {α : Type} (I : World → α → List Value → Prop) (sz : Nat) (ty : TypeId) (lo : Nat) (L : List α) : Option (Nat × Nat × List Value × List (List Value)) → World → Prop
  | none, _ => L = []
  | some (g, c, rest, css), w1 => RowN I sz ty lo w1 g c rest css L
abbrev CompsPost (l : Ma) (w : World) (e : Ending) (w1 : World) : Prop := ∃ v, e = .returned v ∧ Ext [] w w1 ∧ CompsOut w.heap.size w1 v l
theorem components (l : Ma) (a : Option Addr) (cap : Nat) (w : World) (hin : MIn w a l) (hlen : l.length ≤ 1000000000) :
    Calls Tryz.prog 15 #[.slice a l.length cap] w (CompsPost l w) := by
  refine calls_of0 (args := [.slice a l.length cap]) Tryz.func15 rfl rfl rfl ?_
  refine To.runF 16 [] (fun _ _ => by kernel_rfl) fun f1 g1 l1 => ?_
  refine To.loop (fun i : OutIxN => l.length - i.1) (fun i => ([(3, outVN (l.take i.1).length i.2), (6, .slice a l.length cap), (7, .int .i64 (Int.ofNat l.length)), (8, .int .i64 (Int.ofNat i.1))], outBN 34 i.2))
    (fun i w1 => i.1 ≤ l.length ∧ OutInvN (CompC w.heap.size) 2 34 w.heap.size (l.take i.1) i.2 w1) (0, none) [] (by kernel_rfl) (by kernel_rfl) (by kernel_rfl) rfl (fun _ _ => ⟨Nat.zero_le _, rfl⟩) ?_
  rintro ⟨k, _ | ⟨g, c, rest, css⟩⟩ w1 ⟨hk, hinv⟩ hx1 back
  · have hk : k ≤ l.length := hk
    have hnil : l.take k = [] := hinv
    refine To.runF 5 [] (fun _ _ => by kernel_rfl) fun f2 g2 l2 => ?_
    by_cases hlt : k < l.length
    · obtain ⟨p, hp⟩ : ∃ p, l[k]? = some p := ⟨l[k], by simp [hlt]⟩
      have hst : l.take (k + 1) = l.take k ++ [p] := by rw [List.take_add_one, hp]; rfl
      obtain ⟨ad, pb, vb, ha0, hsp, hc0, hc1, hc2, hr⟩ := hin.at_ k p hp
      refine To.testT (decide (Int.ofNat k < Int.ofNat l.length)) (by kernel_rfl) (decide_eq_true (Int.ofNat_lt.2 hlt)) ?_
      refine To.runF 5 [] (fun _ _ => by kernel_rfl) fun f3 g3 l3 => ?_
      refine To.indexAt elM a ad l.length cap k (by kernel_rfl) ha0 hlt ?_
      refine To.loadAgg (t := 59) (by kernel_rfl) 3 (by kernel_rfl) (ad.add (k * 3)) [.string (bytesOf p.1.vc p.1.size p.2), .pointer (some ⟨pb, 0, none⟩), .int .i64 (Int.ofNat (headOf p.1.vc p.1.size p.2.length).length)] rfl (by kernel_rfl) (fun w2 hw2 j v hj => by
        rw [add_add hsp]
        rcases j with _ | _ | _ | j
        · cases hj; exact hw2.ext.cell hc0 (by simp)
        · cases hj; exact hw2.ext.cell hc1 (by simp)
        · cases hj; exact hw2.ext.cell hc2 (by simp)
        · cases hj) ?_
      refine To.runF 41 [0, 0, 0, 0, 0] (fun _ _ => by kernel_rfl) fun f4 g4 l4 => ?_
      have hr1 := hr.later hx1
      have q1 := hr1.lt
      have q4 : w1.heap.size ≤ f4 0 := l4 0
      have q5 : w1.heap.size ≤ f4 1 := l4 1
      refine To.withAt pb (.cells ⟨rowCells p.1 vb⟩ 79 (0, 0)) false hr1.row (nums_all (Q := fun n => n ≠ pb) (l := [some (f4 0), some (f4 1)]) (by kernel_rfl) ⟨by omega, by omega, trivial⟩) (by simp) ?_
      refine To.runF 28 [2, 1, 0, 0, 0, 1, 2, 3, 0, 0] (fun _ _ => by kernel_rfl) fun f5 g5 l5 => ?_
      refine To.sliceStrFrom uString (bytesOf p.1.vc p.1.size p.2) (headOf p.1.vc p.1.size p.2.length).length (head_le p.1 p.2) (by kernel_rfl) ?_
      refine To.slotE 13 (.string ((bytesOf p.1.vc p.1.size p.2).extract (headOf p.1.vc p.1.size p.2.length).length (bytesOf p.1.vc p.1.size p.2).size)) (.string ⟨⟨p.2⟩⟩) (by kernel_rfl) (by rw [val_extract]) ?_
      refine To.bytesOf ⟨⟨p.2⟩⟩ uString uBytes uU8 (by kernel_rfl) ?_
      intro vg cv rv hv1 hv2 hv3
      refine To.runF 8 [1, 1, 1, 1] (fun _ _ => by kernel_rfl) fun f6 g6 l6 => ?_
      have q0 : w.heap.size ≤ w1.heap.size := hx1.size
      have q6 : w1.heap.size ≤ vg := hv3
      refine To.append0 (ty := 22) elC ⟨f6 0, 0, none⟩ 1 1 [.int .i64 p.1.code, .slice (some ⟨vg, 0, none⟩) p.2.length cv] (by kernel_rfl) rfl
        (fun w hw j u hj => hw.cellAt0 (j := 4) (b := f6 0) (l := [.int .i64 p.1.code, .slice (some ⟨vg, 0, none⟩) p.2.length cv]) (e := 34) (f := (0, 0)) (q := true) (by kernel_rfl) hj) (by decide) (by decide) (by decide) ?_
      intro g' c' r' hl' hc' hm' hg'
      refine To.runF 7 [] (fun _ _ => by kernel_rfl) fun f7 g7 l7 => ?_
      refine To.slotE 8 (.int .i64 (IntKind.i64.wrap (Int.ofNat k + 1))) (.int .i64 (Int.ofNat (k + 1))) (by kernel_rfl) (by rw [wrap_succ k (by omega)]) ?_
      have hst : l.take (k + 1) = [p] := by rw [hst, hnil]; rfl
      refine To.slotE 3 (.slice (some ⟨g', 0, none⟩) 1 c') (.slice (some ⟨g', 0, none⟩) (l.take (k + 1)).length c') (by kernel_rfl) (by rw [hst]; rfl) ?_
      have q7 : w1.heap.size ≤ g' := hg'
      refine back _ _ (k + 1, some (g', c', r', [[.int .i64 p.1.code, .slice (some ⟨vg, 0, none⟩) p.2.length cv]])) [5] (by simp only; omega) ⟨by kernel_rfl, by kernel_rfl, by kernel_rfl, by kernel_rfl, by kernel_rfl, rfl⟩ (fun w7 hw7 => ⟨hlt, ?_⟩)
      show RowN _ _ _ _ _ _ _ _ _ (l.take (k + 1))
      rw [hst]
      exact RowN.one p _ rfl (hw7.blk (j := 5) (b := g') (o := .cells ⟨[.int .i64 p.1.code, .slice (some ⟨vg, 0, none⟩) p.2.length cv] ++ r'⟩ 34 (0, 0)) (q := true) (by kernel_rfl)) hl' hc' hm' (by omega)
        ⟨vg, cv, rv, (cv, cv + 1), rfl, hw7.blk (j := 3) (b := vg) (o := .cells ⟨ucells p.2 ++ rv⟩ 5 (cv, cv + 1)) (q := true) (by kernel_rfl), by omega⟩
    · have hk1 : k = l.length := by omega
      subst hk1
      refine To.testF (decide (Int.ofNat l.length < Int.ofNat l.length)) (by kernel_rfl) (by simp) ?_
      refine To.runF 6 [] (fun _ _ => by kernel_rfl) fun f3 g3 l3 => ?_
      exact To.ret [] (.slice none 0 0) (by kernel_rfl) (by kernel_rfl) fun w4 hw4 => by
        rw [List.take_length] at hnil
        rw [hnil]
        exact ⟨_, rfl, hw4.ext, .inl ⟨rfl, rfl⟩⟩
  · have hk : k ≤ l.length := hk
    have hrow : RowN (CompC w.heap.size) 2 34 w.heap.size w1 g c rest css (l.take k) := hinv
    have hul : (l.take k).length ≤ 1000000000 := by rw [List.length_take]; omega
    refine To.runF 5 [] (fun _ _ => by kernel_rfl) fun f2 g2 l2 => ?_
    by_cases hlt : k < l.length
    · obtain ⟨p, hp⟩ : ∃ p, l[k]? = some p := ⟨l[k], by simp [hlt]⟩
      have hst : l.take (k + 1) = l.take k ++ [p] := by rw [List.take_add_one, hp]; rfl
      obtain ⟨ad, pb, vb, ha0, hsp, hc0, hc1, hc2, hr⟩ := hin.at_ k p hp
      refine To.testT (decide (Int.ofNat k < Int.ofNat l.length)) (by kernel_rfl) (decide_eq_true (Int.ofNat_lt.2 hlt)) ?_
      refine To.runF 5 [] (fun _ _ => by kernel_rfl) fun f3 g3 l3 => ?_
      refine To.indexAt elM a ad l.length cap k (by kernel_rfl) ha0 hlt ?_
      refine To.loadAgg (t := 59) (by kernel_rfl) 3 (by kernel_rfl) (ad.add (k * 3)) [.string (bytesOf p.1.vc p.1.size p.2), .pointer (some ⟨pb, 0, none⟩), .int .i64 (Int.ofNat (headOf p.1.vc p.1.size p.2.length).length)] rfl (by kernel_rfl) (fun w2 hw2 j v hj => by
        rw [add_add hsp]
        rcases j with _ | _ | _ | j
        · cases hj; exact hw2.ext.cell hc0 (by simp)
        · cases hj; exact hw2.ext.cell hc1 (by simp)
        · cases hj; exact hw2.ext.cell hc2 (by simp)
        · cases hj) ?_
      refine To.runF 41 [1, 1, 1, 1, 1] (fun _ _ => by kernel_rfl) fun f4 g4 l4 => ?_
      have hr1 := hr.later hx1
      have q1 := hr1.lt
      have q4 : w1.heap.size ≤ f4 0 := l4 0
      have q5 : w1.heap.size ≤ f4 1 := l4 1
      have qg := (hr1.ne hrow.blk (by decide) (by decide)).1
      refine To.withAt pb (.cells ⟨rowCells p.1 vb⟩ 79 (0, 0)) false hr1.row (nums_all (Q := fun n => n ≠ pb) (l := [some g, some (f4 0), some (f4 1)]) (by kernel_rfl) ⟨qg, by omega, by omega, trivial⟩) (by simp) ?_
      refine To.runF 28 [3, 1, 1, 0, 0, 1, 2, 3, 0, 1] (fun _ _ => by kernel_rfl) fun f5 g5 l5 => ?_
      refine To.sliceStrFrom uString (bytesOf p.1.vc p.1.size p.2) (headOf p.1.vc p.1.size p.2.length).length (head_le p.1 p.2) (by kernel_rfl) ?_
      refine To.slotE 13 (.string ((bytesOf p.1.vc p.1.size p.2).extract (headOf p.1.vc p.1.size p.2.length).length (bytesOf p.1.vc p.1.size p.2).size)) (.string ⟨⟨p.2⟩⟩) (by kernel_rfl) (by rw [val_extract]) ?_
      refine To.bytesOf ⟨⟨p.2⟩⟩ uString uBytes uU8 (by kernel_rfl) ?_
      intro vg cv rv hv1 hv2 hv3
      refine To.runF 8 [2, 2, 2, 2] (fun _ _ => by kernel_rfl) fun f6 g6 l6 => ?_
      have q0 : w.heap.size ≤ w1.heap.size := hx1.size
      have q6 : w1.heap.size ≤ vg := hv3
      refine To.appendE (ty := 22) elC 0 g (l.take k).length c css.flatten rest (some ⟨f6 0, 0, none⟩) 1 1 [.int .i64 p.1.code, .slice (some ⟨vg, 0, none⟩) p.2.length cv] ((l.take k).length + 1) (css.flatten ++ [.int .i64 p.1.code, .slice (some ⟨vg, 0, none⟩) p.2.length cv])
        (by kernel_rfl) (by kernel_rfl) rfl rfl (by rw [flat_length hrow.each, hrow.len]) hrow.room hrow.le hrow.cap rfl
        (fun w hw j u hj => ⟨_, rfl, hw.cellAt0 (j := 5) (b := f6 0) (l := [.int .i64 p.1.code, .slice (some ⟨vg, 0, none⟩) p.2.length cv]) (e := 34) (f := (0, 0)) (q := true) (by kernel_rfl) hj⟩) (fun h => by cases h)
        (by intro u hu; simp only [List.mem_cons, List.not_mem_nil, or_false] at hu; rcases hu with rfl | rfl <;> rfl) (by simp only [maxLen]; omega) (by omega) (held_nil (by kernel_rfl)) ?_
      intro w5 w6 g' c' r' hw5 hg5 ho5 hl5 hc5 hm5
      refine To.runF 7 [] (fun _ _ => by kernel_rfl) fun f7 g7 l7 => ?_
      refine To.slotE 8 (.int .i64 (IntKind.i64.wrap (Int.ofNat k + 1))) (.int .i64 (Int.ofNat (k + 1))) (by kernel_rfl) (by rw [wrap_succ k (by omega)]) ?_
      refine To.slotE 3 (.slice (some ⟨g', 0, none⟩) ((l.take k).length + 1) c') (.slice (some ⟨g', 0, none⟩) (l.take (k + 1)).length c') (by kernel_rfl) (by rw [hst, List.length_append]; rfl) ?_
      have q2 := hrow.lo
      have q7 : w1.heap.size ≤ w5.heap.size := hw5.fr.size
      have q8 : w1.heap.size ≤ f6 0 := l6 0
      refine back _ _ (k + 1, some (g', c', r', css ++ [[.int .i64 p.1.code, .slice (some ⟨vg, 0, none⟩) p.2.length cv]])) [6] (by simp only; omega) ⟨by kernel_rfl, by kernel_rfl, by kernel_rfl, by kernel_rfl, by simp only [outBN, List.flatten_append, List.flatten_cons, List.flatten_nil, List.append_nil]; kernel_rfl, rfl⟩ (fun w7 hw7 => ⟨hlt, ?_⟩)
      show RowN _ _ _ _ _ _ _ _ _ (l.take (k + 1))
      rw [hst]
      have hg7 : w5.heap.size ≤ g' ∨ g' = g := by rcases ho5 with h | h; exact .inr h; exact .inl (by omega)
      have hkp : Kept (fun b => (b ≠ g ∧ b ≠ pb) ∧ b < w1.heap.size) w1 w7 :=
        ((hw5.fr.kept (l := [some g, some (f4 0), some (f4 1), some pb, some vg, some (f6 0)]) (by kernel_rfl) ⟨fun h => h.1.1 rfl, fun h => by have := h.2; omega, fun h => by have := h.2; omega, fun h => h.1.2 rfl, fun h => by have := h.2; omega, fun h => by have := h.2; omega, trivial⟩).trans
          (grown_kept hg5 (fun b hb h => by cases hb; exact h.1.1 rfl))).trans
          (hw7.fr.kept (l := [none, some (f4 0), some (f4 1), some pb, some vg, some (f6 0), some g']) (by kernel_rfl) ⟨fun h => by have := h.2; omega, fun h => by have := h.2; omega, fun h => h.1.2 rfl, fun h => by have := h.2; omega, fun h => by have := h.2; omega, fun h => by have := h.1.1; have := h.2; omega, trivial⟩)
      exact hrow.snoc p _ rfl (hw7.blk (j := 6) (b := g') (o := .cells ⟨css.flatten ++ [.int .i64 p.1.code, .slice (some ⟨vg, 0, none⟩) p.2.length cv] ++ r'⟩ 34 (0, 0)) (q := true) (by kernel_rfl)) hl5 hc5 hm5 (by omega)
        ⟨vg, cv, rv, (cv, cv + 1), rfl, hw7.blk (j := 4) (b := vg) (o := .cells ⟨ucells p.2 ++ rv⟩ 5 (cv, cv + 1)) (q := true) (by kernel_rfl), by omega⟩
        (fun x u _ hI => hI.kept hkp (fun b c z hlo hb => ⟨⟨ne_of_type hrow.blk hb (by decide), ne_of_type hr1.row hb (by decide)⟩, at_lt hb⟩))
    · have hk1 : k = l.length := by omega
      subst hk1
      refine To.testF (decide (Int.ofNat l.length < Int.ofNat l.length)) (by kernel_rfl) (by simp) ?_
      refine To.runF 6 [] (fun _ _ => by kernel_rfl) fun f3 g3 l3 => ?_
      exact To.ret [0] (.slice (some ⟨g, 0, none⟩) (l.take l.length).length c) (by kernel_rfl) (by kernel_rfl) fun w4 hw4 => by
        have hkp : Kept (fun b => b ≠ g) w1 w4 := hw4.fr.kept (l := [some g]) (by kernel_rfl) ⟨fun h => h rfl, trivial⟩
        have h1 := hrow.kept ((hw4.blk (j := 0) (b := g) (o := .cells ⟨css.flatten ++ rest⟩ 34 (0, 0)) (q := true) (by kernel_rfl)).trans hrow.blk.symm)
          (fun x u _ hI => hI.kept hkp (fun b c z hlo hb => ne_of_type hrow.blk hb (by decide)))
        rw [List.take_length] at h1 ⊢
        exact ⟨_, rfl, hw4.ext, .inr ⟨g, c, rest, css, rfl, h1⟩⟩
end Go.Proofs.YtgodhbgnhapemaaGreatDoor
