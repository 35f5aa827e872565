/- The package's equality, Contains and FilterAddrs, and what the thin package makes of them. Conditions: as each says. -/
import Derived.Test.YtegcplghgnafjaaGreatDoorJSpec
import Derived.Test.YtegcplghgnafjaaGreatDoorSxB
/- Whether components, and addresses, of the package are equal; whether a list of them has one. Conditions: as each says. -/
namespace Go.Proofs.YtegcplghgnafjaaGreatDoor
open Go Go.SX
set_option maxHeartbeats 8000000
set_option maxRecDepth 100000
/-- An address of the package: rows of the table, and values. -/
abbrev Ma := List (Row × List UInt8)
/-- A slice holds these components of the package. -/
structure MIn (w : World) (a : Option Addr) (l : Ma) : Prop where
  at_ : ∀ (j : Nat) (p : Row × List UInt8), l[j]? = some p → ∃ ad pb vb, a = some ad ∧ ad.spot = none ∧ w.cell? (ad.add (j * 3)) = some (.string (bytesOf p.1.vc p.1.size p.2)) ∧ w.cell? (ad.add (j * 3 + 1)) = some (.pointer (some ⟨pb, 0, none⟩)) ∧
    w.cell? (ad.add (j * 3 + 2)) = some (.int .i64 (Int.ofNat (headOf p.1.vc p.1.size p.2.length).length)) ∧ RowAt w pb vb p.1
theorem MIn.later {w w' : World} {a : Option Addr} {l : Ma} (h : MIn w a l) (hx : Ext [] w w') : MIn w' a l :=
  ⟨fun j p hj => let ⟨ad, pb, vb, h1, h2, h3, h4, h5, h6⟩ := h.at_ j p hj; ⟨ad, pb, vb, h1, h2, hx.cell h3 (by simp), hx.cell h4 (by simp), hx.cell h5 (by simp), h6.later hx⟩⟩
theorem MIn.nil {w : World} {a : Option Addr} : MIn w a [] := ⟨fun j x hj => by cases hj⟩
theorem mcells_get {l : Ma} {pbs : List Nat} (h : pbs.length = l.length) {j : Nat} {p : Row × List UInt8} (hj : l[j]? = some p) : ∃ pb, pbs[j]? = some pb ∧ (mcells l pbs)[j * 3]? = some (.string (bytesOf p.1.vc p.1.size p.2)) ∧
    (mcells l pbs)[j * 3 + 1]? = some (.pointer (some ⟨pb, 0, none⟩)) ∧ (mcells l pbs)[j * 3 + 2]? = some (.int .i64 (Int.ofNat (headOf p.1.vc p.1.size p.2.length).length)) := by
  induction l generalizing pbs j with
  | nil => cases hj
  | cons q l ih =>
    cases pbs with
    | nil => cases h
    | cons b pbs =>
      cases j with
      | zero => cases hj; exact ⟨b, rfl, rfl, rfl, rfl⟩
      | succ j =>
        obtain ⟨pb, h1, h2, h3, h4⟩ := ih (pbs := pbs) (by simpa using h) (by simpa using hj)
        have e1 : (j + 1) * 3 = j * 3 + 1 + 1 + 1 := by omega
        refine ⟨pb, by simpa using h1, ?_, ?_, ?_⟩
        · rw [e1]; simpa [mcells] using h2
        · rw [e1]; simpa [mcells] using h3
        · rw [e1]; simpa [mcells] using h4
theorem MaOut.min {w0 w : World} {v : Value} {l : Ma} (h : MaOut w0 w v l) : ∃ a c, v = .slice a l.length c ∧ MIn w a l := by
  rcases h with ⟨rfl, rfl⟩ | ⟨g, c, rest, pbs, rfl, hg, hl, _, hr, _⟩
  · exact ⟨none, 0, rfl, MIn.nil⟩
  · refine ⟨_, _, rfl, ⟨fun j p hj => ?_⟩⟩
    obtain ⟨pb, h1, h2, h3, h4⟩ := mcells_get hl hj
    obtain ⟨vb, h5, _, _⟩ := hr j p pb hj h1
    have hc : ∀ i u, (mcells l pbs)[i]? = some u → w.cell? ((⟨g, 0, none⟩ : Addr).add i) = some u := fun i u hi => by
      rw [add0, cell_of_row w g _ _ _ (0, 0) hg]
      simp only [List.getElem?_toArray]
      rw [List.getElem?_append_left (List.getElem?_eq_some_iff.1 hi).1]; exact hi
    exact ⟨_, pb, vb, rfl, rfl, hc _ _ h2, hc _ _ h3, hc _ _ h4, h5⟩
theorem componentEqual (ad bd : Addr) (s t : ByteArray) (w : World) (hc0 : w.cell? ad = some (.string s)) (hd0 : w.cell? bd = some (.string t)) :
    Calls Tryz.prog 48 #[.pointer (some ad), .pointer (some bd)] w (fun e w1 => ∃ v, e = .returned v ∧ Ext [] w w1 ∧ v = .bool (s.toList == t.toList)) := by
  refine calls_of0 (args := [.pointer (some ad), .pointer (some bd)]) Tryz.func48 rfl rfl rfl ?_
  obtain ⟨c1, e1, z1, hB1, hsp, hP0⟩ := block_of_cell hc0
  obtain ⟨c2, e2, z2, hB2, hsq, hQ0⟩ := block_of_cell hd0
  by_cases hbb : ad.block = bd.block
  · have hB3 := hB2
    rw [← hbb, hB1] at hB3
    simp only [Option.some.injEq, Obj.cells.injEq] at hB3
    obtain ⟨rfl, rfl, rfl⟩ := hB3
    refine To.withAt ad.block (.cells c1 e1 z1) false hB1 (nums_all (Q := fun n => n ≠ ad.block) (l := []) (by kernel_rfl) trivial) (by simp) ?_
    refine To.runF 24 [1, 0, 0, 1, 2, 4, 5, 6] (fun _ _ => by kernel_rfl) fun f1 g1 l1 => ?_
    refine To.loadOneE 3 uStr rfl ad (.string s) (by kernel_rfl) (fun w2 hw2 => SH.cell (j := 0) (b := ad.block) (c := c1) (e := e1) (z := z1) (q := false) hw2 (by kernel_rfl) rfl hsp hP0) ?_
    refine To.loadOneE 7 uStr rfl bd (.string t) (by kernel_rfl) (fun w2 hw2 => SH.cell (j := 0) (b := ad.block) (c := c1) (e := e1) (z := z1) (q := false) hw2 (by kernel_rfl) hbb.symm hsq hQ0) ?_
    refine To.runF 3 [] (fun _ _ => by kernel_rfl) fun f2 g2 l2 => ?_
    exact To.ret [] (.bool (s.toList == t.toList)) (by kernel_rfl) (by kernel_rfl) fun w4 hw4 => ⟨_, rfl, hw4.ext, rfl⟩
  · refine To.withAt ad.block (.cells c1 e1 z1) false hB1 (nums_all (Q := fun n => n ≠ ad.block) (l := []) (by kernel_rfl) trivial) (by simp) ?_
    refine To.withAt bd.block (.cells c2 e2 z2) false hB2 (nums_all (Q := fun n => n ≠ bd.block) (l := [some ad.block]) (by kernel_rfl) ⟨hbb, trivial⟩) (by simp) ?_
    refine To.runF 24 [2, 0, 1, 0, 1, 2, 4, 5, 6] (fun _ _ => by kernel_rfl) fun f1 g1 l1 => ?_
    refine To.loadOneE 3 uStr rfl ad (.string s) (by kernel_rfl) (fun w2 hw2 => SH.cell (j := 0) (b := ad.block) (c := c1) (e := e1) (z := z1) (q := false) hw2 (by kernel_rfl) rfl hsp hP0) ?_
    refine To.loadOneE 7 uStr rfl bd (.string t) (by kernel_rfl) (fun w2 hw2 => SH.cell (j := 1) (b := bd.block) (c := c2) (e := e2) (z := z2) (q := false) hw2 (by kernel_rfl) rfl hsq hQ0) ?_
    refine To.runF 3 [] (fun _ _ => by kernel_rfl) fun f2 g2 l2 => ?_
    exact To.ret [] (.bool (s.toList == t.toList)) (by kernel_rfl) (by kernel_rfl) fun w4 hw4 => ⟨_, rfl, hw4.ext, rfl⟩
/-- The bytes of each component. -/
def blist (l : Ma) : List ByteArray := l.map fun p => bytesOf p.1.vc p.1.size p.2
theorem toList_inj {s t : ByteArray} : (s.toList == t.toList) = decide (s = t) := by
  obtain ⟨⟨a⟩⟩ := s
  obtain ⟨⟨b⟩⟩ := t
  rw [str_eq]
  congr 1
  simp
theorem maEqual (x y : Ma) (a b : Option Addr) (ca cb : Nat) (w : World) (ha : MIn w a x) (hb : MIn w b y) (hx : x.length ≤ 1152921504606846976) (hy : y.length ≤ 1152921504606846976) :
    Calls Tryz.prog 37 #[.slice a x.length ca, .slice b y.length cb] w (fun e w1 => ∃ v, e = .returned v ∧ Ext [] w w1 ∧ v = .bool (decide (blist x = blist y))) := by
  refine calls_of0 (args := [.slice a x.length ca, .slice b y.length cb]) Tryz.func37 rfl rfl rfl ?_
  refine To.runF 13 [] (fun _ _ => by kernel_rfl) fun f1 g1 l1 => ?_
  by_cases hl : x.length = y.length
  · refine To.testF (Int.ofNat x.length != Int.ofNat y.length) (by kernel_rfl) (by rw [hl]; simp) ?_
    refine To.runF 9 [] (fun _ _ => by kernel_rfl) fun f2 g2 l2 => ?_
    refine To.loop (fun k : Nat => x.length - k) (fun k => ([(1, .slice b y.length cb), (12, .slice a x.length ca), (13, .int .i64 (Int.ofNat x.length)), (14, .int .i64 (Int.ofNat k))], [])) (fun k _ => k ≤ x.length ∧ (blist x).take k = (blist y).take k) 0 [] (by kernel_rfl) (by kernel_rfl) (by kernel_rfl) rfl (fun _ _ => ⟨Nat.zero_le _, rfl⟩) ?_
    rintro k w1 ⟨hk, hall⟩ hx1 back
    refine To.runF 5 [] (fun _ _ => by kernel_rfl) fun f3 g3 l3 => ?_
    by_cases hlt : k < x.length
    · obtain ⟨p, hp⟩ : ∃ p, x[k]? = some p := ⟨x[k], by simp [hlt]⟩
      obtain ⟨q, hq⟩ : ∃ q, y[k]? = some q := ⟨y[k]'(by omega), by simp [← hl, hlt]⟩
      obtain ⟨ad, pb, vb, ha0, hsp, hc0, hc1, hc2, hr⟩ := ha.at_ k p hp
      obtain ⟨bd, qb, ub, hb0, hsq, hd0, hd1, hd2, hs⟩ := hb.at_ k q hq
      refine To.testT (decide (Int.ofNat k < Int.ofNat x.length)) (by kernel_rfl) (decide_eq_true (Int.ofNat_lt.2 hlt)) ?_
      refine To.runF 6 [] (fun _ _ => by kernel_rfl) fun f4 g4 l4 => ?_
      refine To.indexAt elM a ad x.length ca k (by kernel_rfl) ha0 hlt ?_
      refine To.loadAgg (t := 54) (by kernel_rfl) 3 (by kernel_rfl) (ad.add (k * 3)) [.string (bytesOf p.1.vc p.1.size p.2), .pointer (some ⟨pb, 0, none⟩), .int .i64 (Int.ofNat (headOf p.1.vc p.1.size p.2.length).length)] rfl (by kernel_rfl) (fun w2 hw2 j v hj => by
        rw [add_add hsp]
        rcases j with _ | _ | _ | j
        · cases hj; exact hw2.ext.cell hc0 (by simp)
        · cases hj; exact hw2.ext.cell hc1 (by simp)
        · cases hj; exact hw2.ext.cell hc2 (by simp)
        · cases hj) ?_
      refine To.runF 8 [0, 0, 0] (fun _ _ => by kernel_rfl) fun f5 g5 l5 => ?_
      refine To.indexAt elM b bd y.length cb k (by kernel_rfl) hb0 (by omega) ?_
      refine To.callN 48 #[.pointer (some ⟨f5 0, 0, none⟩), .pointer (some (bd.add (k * 3)))] (by kernel_rfl) (fun _ => by kernel_rfl)
        (fun w2 hw2 => componentEqual _ _ (bytesOf p.1.vc p.1.size p.2) (bytesOf q.1.vc q.1.size q.2) w2
          (hw2.cellAt (j := 0) (b := f5 0) (l := [.string (bytesOf p.1.vc p.1.size p.2), .pointer (some ⟨pb, 0, none⟩), .int .i64 (Int.ofNat (headOf p.1.vc p.1.size p.2.length).length)]) (e := 54) (f := (0, 0)) (q := true) (by kernel_rfl) rfl) (hw2.ext.cell hd0 (by simp))) (fun w2 v2 w3 hw2 hx2 hv2 hnew2 hwi2 => ?_)
      subst hv2
      refine To.runF 2 [] (fun _ _ => by kernel_rfl) fun f6 g6 l6 => ?_
      refine To.test (!((bytesOf p.1.vc p.1.size p.2).toList == (bytesOf q.1.vc q.1.size q.2).toList)) (by kernel_rfl) (fun h2 => ?_) (fun h2 => ?_)
      · rw [toList_inj] at h2
        have h3 : bytesOf p.1.vc p.1.size p.2 ≠ bytesOf q.1.vc q.1.size q.2 := by simpa using h2
        refine To.runF 4 [] (fun _ _ => by kernel_rfl) fun f7 g7 l7 => ?_
        exact To.ret [] (.bool false) (by kernel_rfl) (by kernel_rfl) fun w4 hw4 => ⟨_, rfl, hw4.ext, by
          rw [decide_eq_false (fun he => h3 (by
            have e1 : (blist x)[k]? = some (bytesOf p.1.vc p.1.size p.2) := by simp [blist, hp]
            have e2 : (blist y)[k]? = some (bytesOf q.1.vc q.1.size q.2) := by simp [blist, hq]
            rw [he, e2] at e1
            exact (Option.some.inj e1).symm))]⟩
      rw [toList_inj] at h2
      have h3 : bytesOf p.1.vc p.1.size p.2 = bytesOf q.1.vc q.1.size q.2 := by simpa using h2
      refine To.runF 6 [] (fun _ _ => by kernel_rfl) fun f7 g7 l7 => ?_
      refine To.slotE 14 (.int .i64 (IntKind.i64.wrap (Int.ofNat k + 1))) (.int .i64 (Int.ofNat (k + 1))) (by kernel_rfl) (by rw [wrap_succ k (by omega)]) ?_
      exact back _ _ (k + 1) [] (by omega) ⟨by kernel_rfl, by kernel_rfl, by kernel_rfl, by kernel_rfl, by kernel_rfl, rfl⟩ (fun w7 hw7 => ⟨hlt, by
        have e1 : (blist x)[k]? = some (bytesOf p.1.vc p.1.size p.2) := by simp [blist, hp]
        have e2 : (blist y)[k]? = some (bytesOf q.1.vc q.1.size q.2) := by simp [blist, hq]
        rw [List.take_add_one, List.take_add_one, hall, e1, e2, h3]⟩)
    · have hk1 : k = x.length := by omega
      subst hk1
      refine To.testF (decide (Int.ofNat x.length < Int.ofNat x.length)) (by kernel_rfl) (by simp) ?_
      refine To.runF 5 [] (fun _ _ => by kernel_rfl) fun f4 g4 l4 => ?_
      exact To.ret [] (.bool true) (by kernel_rfl) (by kernel_rfl) fun w4 hw4 => ⟨_, rfl, hw4.ext, by
        have e1 : (blist x).length = x.length := by simp [blist]
        have e2 : (blist y).length = x.length := by simp [blist, hl]
        rw [← e1, List.take_length, e1, ← e2, List.take_length] at hall
        rw [decide_eq_true hall]⟩
  · refine To.testT (Int.ofNat x.length != Int.ofNat y.length) (by kernel_rfl) (by simp only [bne_iff_ne, ne_eq]; intro h; exact hl (Int.ofNat.inj h)) ?_
    refine To.runF 4 [] (fun _ _ => by kernel_rfl) fun f2 g2 l2 => ?_
    exact To.ret [] (.bool false) (by kernel_rfl) (by kernel_rfl) fun w4 hw4 => ⟨_, rfl, hw4.ext, by rw [decide_eq_false (fun he => hl (by have := congrArg List.length he; simpa [blist] using this))]⟩
end Go.Proofs.YtegcplghgnafjaaGreatDoor
/- The addresses of the package that lists of components are. Conditions: as each says. -/
namespace Go.Proofs.YtegcplghgnafjaaGreatDoor
open Go Go.SX
set_option maxHeartbeats 8000000
set_option maxRecDepth 100000
theorem RowAt.kept {Q : Nat → Prop} {w w' : World} {pb vb : Nat} {r : Row} (h : RowAt w pb vb r) (hk : Kept Q w w') (h1 : Q pb) (h2 : Q vb) : RowAt w' pb vb r := ⟨hk _ _ h1 h.row, hk _ _ h2 h.vc⟩
theorem MaOut.kept {Q : Nat → Prop} {w0 w w' : World} {v : Value} {l : Ma} (h : MaOut w0 w v l) (hk : Kept Q w w')
    (hq : ∀ b c t z, w0.heap.size ≤ b → w.heap[b]? = some (.cells c t z) → (t = 54 ∨ t = 71 ∨ t = 5) → Q b) : MaOut w0 w' v l := by
  rcases h with h | ⟨g, c, rest, pbs, h1, hg, hl, hc, hr, hlo⟩
  · exact .inl h
  · refine .inr ⟨g, c, rest, pbs, h1, hk _ _ (hq g _ _ _ hlo hg (.inl rfl)) hg, hl, hc, fun j p pb hj hp => ?_, hlo⟩
    obtain ⟨vb, h2, h3, h4⟩ := hr j p pb hj hp
    exact ⟨vb, h2.kept hk (hq _ _ _ _ h3 h2.row (.inr (.inl rfl))) (hq _ _ _ _ h4 h2.vc (.inr (.inr rfl))), h3, h4⟩
theorem MaOut.since {w0 w0' w : World} {v : Value} {l : Ma} (h : MaOut w0 w v l) (hs : w0'.heap.size ≤ w0.heap.size) : MaOut w0' w v l := by
  rcases h with h | ⟨g, c, rest, pbs, h1, hg, hl, hc, hr, hlo⟩
  · exact .inl h
  · refine .inr ⟨g, c, rest, pbs, h1, hg, hl, hc, fun j p pb hj hp => ?_, by omega⟩
    obtain ⟨vb, h2, h3, h4⟩ := hr j p pb hj hp
    exact ⟨vb, h2, by omega, by omega⟩
theorem MaOut.later {w0 w w' : World} {v : Value} {l : Ma} (h : MaOut w0 w v l) (hx : Ext [] w w') : MaOut w0 w' v l := h.kept (Q := fun _ => True) hx.kept (fun _ _ _ _ _ _ _ => trivial)
theorem MaOut.one {w0 w : World} {v : Value} {l : Ma} (h : MaOut w0 w v l) : v.oneCell' = true := by
  rcases h with ⟨_, rfl⟩ | ⟨g, c, rest, pbs, rfl, _⟩ <;> rfl
/-- Other types. -/
theorem ne_of_type {w : World} {g b : Nat} {c c' : Array Value} {t t' : TypeId} {z z' : Nat × Nat} (hg : w.heap[g]? = some (.cells c t z)) (hb : w.heap[b]? = some (.cells c' t' z')) (h : t' ≠ t) : b ≠ g := fun e => by
  subst e; have := hg.symm.trans hb; simp only [Option.some.injEq, Obj.cells.injEq] at this; exact h this.2.1.symm
/-- Slices of addresses of the package. -/
abbrev MasOut (w0 w : World) (v : Value) (L : List Ma) : Prop := Rows1 (fun w l v => MaOut w0 w v l) 47 w0.heap.size w v L
theorem elMs : Elem Tryz.prog 44 47 1 24 := Elem.of (z := .slice none 0 0) (by kernel_rfl) (by kernel_rfl) rfl
theorem addresses (hu : UvTo) (L : List Ma) (a : Option Addr) (cap : Nat) (w : World) (hin : AddrsIn w a (L.map plain)) (hf : ∀ l ∈ L, ∀ p ∈ l, Fine p) (hlen : L.length ≤ 1000000000) (hs : ∀ l ∈ L, l.length ≤ 1099511627776) :
    Calls Tryz.prog 24 #[.slice a L.length cap] w (fun e w1 => ∃ v, e = .returned v ∧ Ext [] w w1 ∧ MasOut w w1 v L) := by
  refine calls_of0 (args := [.slice a L.length cap]) Tryz.func24 rfl rfl rfl ?_
  refine To.runF 16 [] (fun _ _ => by kernel_rfl) fun f1 g1 l1 => ?_
  refine To.loop (fun i : OutIx => L.length - i.1) (fun i => ([(3, outV (L.take i.1).length i.2), (6, .slice a L.length cap), (7, .int .i64 (Int.ofNat L.length)), (8, .int .i64 (Int.ofNat i.1))], outB 47 i.2))
    (fun i w1 => i.1 ≤ L.length ∧ OutInv (fun w' l v => MaOut w w' v l) 47 w.heap.size (L.take i.1) i.2 w1) (0, none) [] (by kernel_rfl) (by kernel_rfl) (by kernel_rfl) rfl (fun _ _ => ⟨Nat.zero_le _, rfl⟩) ?_
  rintro ⟨k, _ | ⟨g, c, rest, vs⟩⟩ w1 ⟨hk, hinv⟩ hx1 back
  · have hk : k ≤ L.length := hk
    have hnil : L.take k = [] := hinv
    refine To.runF 5 [] (fun _ _ => by kernel_rfl) fun f2 g2 l2 => ?_
    by_cases hlt : k < L.length
    · obtain ⟨y, hp⟩ : ∃ y, L[k]? = some y := ⟨L[k], by simp [hlt]⟩
      have hst : L.take (k + 1) = L.take k ++ [y] := by rw [List.take_add_one, hp]; rfl
      obtain ⟨ad, b0, c0, ha, hsp, hc0, hc⟩ := hin.at_ k (plain y) (by simp [hp])
      have e0 : (plain y).length = y.length := by simp [plain]
      rw [e0] at hc0
      refine To.testT (decide (Int.ofNat k < Int.ofNat L.length)) (by kernel_rfl) (decide_eq_true (Int.ofNat_lt.2 hlt)) ?_
      refine To.runF 5 [] (fun _ _ => by kernel_rfl) fun f3 g3 l3 => ?_
      refine To.indexAt elA a ad L.length cap k (by kernel_rfl) ha hlt ?_
      refine To.loadOne uComps rfl (ad.add (k * 1)) (.slice b0 y.length c0) (by kernel_rfl) (fun w2 hw2 => hw2.ext.cell hc0 (by simp)) ?_
      refine To.runF 5 [] (fun _ _ => by kernel_rfl) fun f4 g4 l4 => ?_
      refine To.callN 25 #[.slice b0 y.length c0] (by kernel_rfl) (fun _ => by kernel_rfl) (fun w2 hw2 => address hu y b0 c0 w2 (hc.later hw2.ext) (hf y (List.mem_of_getElem? hp)) (hs y (List.mem_of_getElem? hp))) (fun w2 v2 w3 hw2 hx2 hv2 hnew2 hwi2 => ?_)
      have q2 : w2.heap.size ≤ w3.heap.size := hx2.size
      have q3 : w.heap.size ≤ w2.heap.size := hwi2
      obtain ⟨va, vc, rfl, _⟩ := hv2.min
      refine To.runF 1 [] (fun _ _ => by kernel_rfl) fun f5 g5 l5 => ?_
      refine To.append0 (ty := 44) elMs ⟨f5 0, 0, none⟩ 1 1 [.slice va y.length vc] (by kernel_rfl) rfl
        (fun w hw j u hj => hw.cellAt0 (j := 0) (b := f5 0) (l := [.slice va y.length vc]) (e := 47) (f := (0, 0)) (q := true) (by kernel_rfl) hj) (by decide) (by decide) (by decide) ?_
      intro g' c' r' hl' hc' hm' hg'
      refine To.runF 7 [] (fun _ _ => by kernel_rfl) fun f6 g6 l6 => ?_
      refine To.slotE 8 (.int .i64 (IntKind.i64.wrap (Int.ofNat k + 1))) (.int .i64 (Int.ofNat (k + 1))) (by kernel_rfl) (by rw [wrap_succ k (by omega)]) ?_
      have hst : L.take (k + 1) = [y] := by rw [hst, hnil]; rfl
      refine To.slotE 3 (.slice (some ⟨g', 0, none⟩) 1 c') (.slice (some ⟨g', 0, none⟩) (L.take (k + 1)).length c') (by kernel_rfl) (by rw [hst]; rfl) ?_
      have q5 : w3.heap.size ≤ f5 0 := l5 0
      have q6 : w3.heap.size ≤ g' := hg'
      refine back _ _ (k + 1, some (g', c', r', [.slice va y.length vc])) [1] (by simp only; omega) ⟨by kernel_rfl, by kernel_rfl, by kernel_rfl, by kernel_rfl, by kernel_rfl, rfl⟩ (fun w7 hw7 => ⟨hlt, ?_⟩)
      show Row1 _ _ _ _ _ _ _ _ (L.take (k + 1))
      rw [hst]
      exact Row1.one y _ (hw7.blk (j := 1) (b := g') (o := .cells ⟨[.slice va y.length vc] ++ r'⟩ 47 (0, 0)) (q := true) (by kernel_rfl)) hl' hc' hm' (by omega)
        ((hv2.since q3).kept (Q := fun b => b < w3.heap.size) (hw7.fr.kept (l := [some (f5 0), some g']) (by kernel_rfl) ⟨by omega, by omega, trivial⟩) (fun b c t z _ hb _ => at_lt hb))
    · have hk1 : k = L.length := by omega
      subst hk1
      refine To.testF (decide (Int.ofNat L.length < Int.ofNat L.length)) (by kernel_rfl) (by simp) ?_
      refine To.runF 6 [] (fun _ _ => by kernel_rfl) fun f3 g3 l3 => ?_
      exact To.ret [] (.slice none 0 0) (by kernel_rfl) (by kernel_rfl) fun w4 hw4 => by
        rw [List.take_length] at hnil
        rw [hnil]
        exact ⟨_, rfl, hw4.ext, .inl ⟨rfl, rfl⟩⟩
  · have hk : k ≤ L.length := hk
    have hrow : Row1 (fun w' l v => MaOut w w' v l) 47 w.heap.size w1 g c rest vs (L.take k) := hinv
    have hul : (L.take k).length ≤ 1000000000 := by rw [List.length_take]; omega
    refine To.runF 5 [] (fun _ _ => by kernel_rfl) fun f2 g2 l2 => ?_
    by_cases hlt : k < L.length
    · obtain ⟨y, hp⟩ : ∃ y, L[k]? = some y := ⟨L[k], by simp [hlt]⟩
      have hst : L.take (k + 1) = L.take k ++ [y] := by rw [List.take_add_one, hp]; rfl
      obtain ⟨ad, b0, c0, ha, hsp, hc0, hc⟩ := hin.at_ k (plain y) (by simp [hp])
      have e0 : (plain y).length = y.length := by simp [plain]
      rw [e0] at hc0
      refine To.testT (decide (Int.ofNat k < Int.ofNat L.length)) (by kernel_rfl) (decide_eq_true (Int.ofNat_lt.2 hlt)) ?_
      refine To.runF 5 [] (fun _ _ => by kernel_rfl) fun f3 g3 l3 => ?_
      refine To.indexAt elA a ad L.length cap k (by kernel_rfl) ha hlt ?_
      refine To.loadOne uComps rfl (ad.add (k * 1)) (.slice b0 y.length c0) (by kernel_rfl) (fun w2 hw2 => hw2.ext.cell hc0 (by simp)) ?_
      refine To.runF 5 [] (fun _ _ => by kernel_rfl) fun f4 g4 l4 => ?_
      refine To.callN 25 #[.slice b0 y.length c0] (by kernel_rfl) (fun _ => by kernel_rfl) (fun w2 hw2 => address hu y b0 c0 w2 (hc.later hw2.ext) (hf y (List.mem_of_getElem? hp)) (hs y (List.mem_of_getElem? hp))) (fun w2 v2 w3 hw2 hx2 hv2 hnew2 hwi2 => ?_)
      have q2 : w2.heap.size ≤ w3.heap.size := hx2.size
      have q3 : w.heap.size ≤ w2.heap.size := hwi2
      obtain ⟨va, vc, rfl, _⟩ := hv2.min
      refine To.runF 1 [] (fun _ _ => by kernel_rfl) fun f5 g5 l5 => ?_
      have q0 : g < w2.heap.size := hw2.lt (j := 0) (b := ⟨g, .cells ⟨vs ++ rest⟩ 47 (0, 0), true⟩) (by kernel_rfl)
      refine To.appendE (ty := 44) elMs 0 g (L.take k).length c vs rest (some ⟨f5 0, 0, none⟩) 1 1 [.slice va y.length vc] ((L.take k).length + 1) (vs ++ [.slice va y.length vc])
        (by kernel_rfl) (by kernel_rfl) rfl rfl (by rw [hrow.len, Nat.mul_one]) hrow.room hrow.le hrow.cap rfl
        (fun w hw j u hj => ⟨_, rfl, hw.cellAt0 (j := 1) (b := f5 0) (l := [.slice va y.length vc]) (e := 47) (f := (0, 0)) (q := true) (by kernel_rfl) hj⟩) (fun h => by cases h)
        (by intro u hu; simp only [List.mem_cons, List.not_mem_nil, or_false] at hu; rw [hu]; exact hv2.one) (by simp only [maxLen]; omega) (by omega) (held_nil (by kernel_rfl)) ?_
      intro w5 w6 g' c' r' hw5 hg5 ho5 hl5 hc5 hm5
      refine To.runF 7 [] (fun _ _ => by kernel_rfl) fun f6 g6 l6 => ?_
      refine To.slotE 8 (.int .i64 (IntKind.i64.wrap (Int.ofNat k + 1))) (.int .i64 (Int.ofNat (k + 1))) (by kernel_rfl) (by rw [wrap_succ k (by omega)]) ?_
      refine To.slotE 3 (.slice (some ⟨g', 0, none⟩) ((L.take k).length + 1) c') (.slice (some ⟨g', 0, none⟩) (L.take (k + 1)).length c') (by kernel_rfl) (by rw [hst, List.length_append]; rfl) ?_
      have q1 := hrow.lo
      have q4 : w1.heap.size ≤ w2.heap.size := hw2.fr.size
      have q5 : w3.heap.size ≤ f5 0 := l5 0
      have q6 : w3.heap.size ≤ w5.heap.size := hw5.fr.size
      refine back _ _ (k + 1, some (g', c', r', vs ++ [.slice va y.length vc])) [2] (by simp only; omega) ⟨by kernel_rfl, by kernel_rfl, by kernel_rfl, by kernel_rfl, by kernel_rfl, rfl⟩ (fun w7 hw7 => ⟨hlt, ?_⟩)
      show Row1 _ _ _ _ _ _ _ _ (L.take (k + 1))
      rw [hst]
      have hg7 : w3.heap.size ≤ g' ∨ g' = g := by rcases ho5 with h | h; exact .inr h; exact .inl (by omega)
      have hkeep : ∀ Q : Nat → Prop, (∀ b, Q b → b ≠ g ∧ b < w3.heap.size) → Kept Q w3 w7 := fun Q hQ =>
        ((hw5.fr.kept (l := [some g, some (f5 0)]) (by kernel_rfl) ⟨fun h => (hQ _ h).1 rfl, fun h => by have := (hQ _ h).2; omega, trivial⟩).trans
          (grown_kept hg5 (fun b hb h => by cases hb; exact (hQ _ h).1 rfl))).trans
          (hw7.fr.kept (l := [none, some (f5 0), some g']) (by kernel_rfl) ⟨fun h => by have := (hQ _ h).2; omega, fun h => by have := hQ _ h; omega, trivial⟩)
      have hkp : Kept (fun b => b ≠ g ∧ b < w1.heap.size) w1 w7 :=
        ((hw2.fr.kept (l := [some g]) (by kernel_rfl) ⟨fun h => h.1 rfl, trivial⟩).trans hx2.kept).trans (hkeep _ (fun b h => ⟨h.1, by omega⟩))
      exact hrow.snoc y _ (hw7.blk (j := 2) (b := g') (o := .cells ⟨vs ++ [.slice va y.length vc] ++ r'⟩ 47 (0, 0)) (q := true) (by kernel_rfl)) hl5 hc5 hm5 (by omega)
        ((hv2.kept (Q := fun b => b ≠ g ∧ b < w3.heap.size) (hkeep _ (fun b h => h)) (fun b c t z hlo hb _ => ⟨by omega, at_lt hb⟩)).since q3)
        (fun l u _ hI => hI.kept hkp (fun b c t z hlo hb ht => ⟨ne_of_type hrow.blk hb (by rcases ht with rfl | rfl | rfl <;> decide), at_lt hb⟩))
    · have hk1 : k = L.length := by omega
      subst hk1
      refine To.testF (decide (Int.ofNat L.length < Int.ofNat L.length)) (by kernel_rfl) (by simp) ?_
      refine To.runF 6 [] (fun _ _ => by kernel_rfl) fun f3 g3 l3 => ?_
      exact To.ret [0] (.slice (some ⟨g, 0, none⟩) (L.take L.length).length c) (by kernel_rfl) (by kernel_rfl) fun w4 hw4 => by
        have hkp : Kept (fun b => b ≠ g) w1 w4 := hw4.fr.kept (l := [some g]) (by kernel_rfl) ⟨fun h => h rfl, trivial⟩
        have h1 := hrow.kept ((hw4.blk (j := 0) (b := g) (o := .cells ⟨vs ++ rest⟩ 47 (0, 0)) (q := true) (by kernel_rfl)).trans hrow.blk.symm)
          (fun l u _ hI => hI.kept hkp (fun b c t z hlo hb ht => ne_of_type hrow.blk hb (by rcases ht with rfl | rfl | rfl <;> decide)))
        rw [List.take_length] at h1 ⊢
        exact ⟨_, rfl, hw4.ext, .inr ⟨g, c, rest, vs, rfl, h1⟩⟩
end Go.Proofs.YtegcplghgnafjaaGreatDoor
/- Whether a list of addresses of the package has one. Conditions: as each says. -/
namespace Go.Proofs.YtegcplghgnafjaaGreatDoor
open Go Go.SX
set_option maxHeartbeats 8000000
set_option maxRecDepth 100000
/-- Where no block is known, nothing was turned. -/
theorem frx {hp : List (Option Blk)} {w w' : World} (h : Fr hp w w') (hn : nums hp = []) : Ext [] w w' :=
  ⟨h.os, h.tape, h.output, h.size, fun k hk _ => h.block k hk (fun j b hj _ => (nums_all (Q := fun _ => False) hn trivial j b hj).elim)⟩
/-- A slice holds these addresses of the package. -/
structure MasIn (w : World) (a : Option Addr) (L : List Ma) : Prop where
  at_ : ∀ (j : Nat) (x : Ma), L[j]? = some x → ∃ ad b cap, a = some ad ∧ ad.spot = none ∧ w.cell? (ad.add (j * 1)) = some (.slice b x.length cap) ∧ MIn w b x
theorem MasIn.later {w w' : World} {a : Option Addr} {L : List Ma} (h : MasIn w a L) (hx : Ext [] w w') : MasIn w' a L :=
  ⟨fun j x hj => let ⟨ad, b, cap, h1, h2, h3, h4⟩ := h.at_ j x hj; ⟨ad, b, cap, h1, h2, hx.cell h3 (by simp), h4.later hx⟩⟩
theorem MasOut.min {w0 w : World} {v : Value} {L : List Ma} (h : MasOut w0 w v L) : ∃ a c, v = .slice a L.length c ∧ MasIn w a L := by
  rcases h with ⟨rfl, rfl⟩ | ⟨g, c, rest, vs, rfl, hr⟩
  · exact ⟨none, 0, rfl, ⟨fun j x hj => by cases hj⟩⟩
  · refine ⟨_, _, rfl, ⟨fun j x hj => ?_⟩⟩
    obtain ⟨v, h1, h2, h3⟩ := hr.get hj
    obtain ⟨b, cap, rfl, h4⟩ := h3.min
    exact ⟨_, b, cap, rfl, rfl, hr.cell h2, h4⟩
theorem uMa : Tryz.prog.underlying 47 = some (.slice 54) := by kernel_rfl
/-- Whether one of them has the same bytes. -/
def hasMa (x : Ma) (L : List Ma) : Bool := L.any fun y => decide (blist x = blist y)
theorem contains (L : List Ma) (x : Ma) (a b : Option Addr) (ca cb : Nat) (w : World) (hin : MasIn w a L) (hb : MIn w b x) (hlen : L.length ≤ 1152921504606846976) (hx : x.length ≤ 1152921504606846976) (hs : ∀ x ∈ L, x.length ≤ 1152921504606846976) :
    Calls Tryz.prog 23 #[.slice a L.length ca, .slice b x.length cb] w (fun e w1 => ∃ v, e = .returned v ∧ Ext [] w w1 ∧ v = .bool (hasMa x L)) := by
  refine calls_of0 (args := [.slice a L.length ca, .slice b x.length cb]) Tryz.func23 rfl rfl rfl ?_
  refine To.runF 12 [] (fun _ _ => by kernel_rfl) fun f1 g1 l1 => ?_
  refine To.loop (fun k : Nat => L.length - k) (fun k => ([(1, .slice b x.length cb), (7, .slice a L.length ca), (8, .int .i64 (Int.ofNat L.length)), (9, .int .i64 (Int.ofNat k))], [])) (fun k _ => k ≤ L.length ∧ hasMa x (L.take k) = false) 0 [] (by kernel_rfl) (by kernel_rfl) (by kernel_rfl) rfl (fun _ _ => ⟨Nat.zero_le _, rfl⟩) ?_
  rintro k w1 ⟨hk, hall⟩ hx1 back
  refine To.runF 5 [] (fun _ _ => by kernel_rfl) fun f2 g2 l2 => ?_
  by_cases hlt : k < L.length
  · obtain ⟨y, hp⟩ : ∃ y, L[k]? = some y := ⟨L[k], by simp [hlt]⟩
    obtain ⟨ad, b0, c0, ha, hsp, hc0, hc⟩ := hin.at_ k y hp
    refine To.testT (decide (Int.ofNat k < Int.ofNat L.length)) (by kernel_rfl) (decide_eq_true (Int.ofNat_lt.2 hlt)) ?_
    refine To.runF 5 [] (fun _ _ => by kernel_rfl) fun f3 g3 l3 => ?_
    refine To.indexAt elMs a ad L.length ca k (by kernel_rfl) ha hlt ?_
    refine To.loadOne uMa rfl (ad.add (k * 1)) (.slice b0 y.length c0) (by kernel_rfl) (fun w2 hw2 => hw2.ext.cell hc0 (by simp)) ?_
    refine To.runF 6 [] (fun _ _ => by kernel_rfl) fun f4 g4 l4 => ?_
    refine To.callN 37 #[.slice b x.length cb, .slice b0 y.length c0] (by kernel_rfl) (fun _ => by kernel_rfl) (fun w2 hw2 => maEqual x y b b0 cb c0 w2 (hb.later hw2.ext) (hc.later hw2.ext) hx (hs y (List.mem_of_getElem? hp))) (fun w2 v2 w3 hw2 hx2 hv2 hnew2 hwi2 => ?_)
    subst hv2
    refine To.runF 1 [] (fun _ _ => by kernel_rfl) fun f5 g5 l5 => ?_
    refine To.test (decide (blist x = blist y)) (by kernel_rfl) (fun h2 => ?_) (fun h2 => ?_)
    · refine To.runF 4 [] (fun _ _ => by kernel_rfl) fun f6 g6 l6 => ?_
      exact To.ret [] (.bool true) (by kernel_rfl) (by kernel_rfl) fun w4 hw4 => ⟨_, rfl, hw4.ext, by
        congr 1
        exact (List.any_eq_true.2 ⟨y, List.mem_of_getElem? hp, h2⟩).symm⟩
    refine To.runF 6 [] (fun _ _ => by kernel_rfl) fun f6 g6 l6 => ?_
    refine To.slotE 9 (.int .i64 (IntKind.i64.wrap (Int.ofNat k + 1))) (.int .i64 (Int.ofNat (k + 1))) (by kernel_rfl) (by rw [wrap_succ k (by omega)]) ?_
    exact back _ _ (k + 1) [] (by omega) ⟨by kernel_rfl, by kernel_rfl, by kernel_rfl, by kernel_rfl, by kernel_rfl, rfl⟩ (fun w7 hw7 => ⟨hlt, by
      unfold hasMa at hall ⊢
      rw [List.take_add_one, hp, List.any_append, hall]
      simpa using h2⟩)
  · have hk1 : k = L.length := by omega
    subst hk1
    refine To.testF (decide (Int.ofNat L.length < Int.ofNat L.length)) (by kernel_rfl) (by simp) ?_
    refine To.runF 5 [] (fun _ _ => by kernel_rfl) fun f3 g3 l3 => ?_
    exact To.ret [] (.bool false) (by kernel_rfl) (by kernel_rfl) fun w4 hw4 => ⟨_, rfl, hw4.ext, by
      rw [List.take_length] at hall
      rw [hall]⟩
theorem implContains (hu : UvTo) (L : List Ma) (x : Ma) (a b : Option Addr) (ca cb : Nat) (w : World) (hin : AddrsIn w a (L.map plain)) (hb : CompsIn w b (plain x)) (hf : ∀ l ∈ L, ∀ p ∈ l, Fine p) (hfx : ∀ p ∈ x, Fine p)
    (hlen : L.length ≤ 1000000000) (hs : ∀ l ∈ L, l.length ≤ 1099511627776) (hx : x.length ≤ 1099511627776) :
    Calls Tryz.prog 9 #[.slice a L.length ca, .slice b x.length cb] w (fun e w1 => ∃ v, e = .returned v ∧ Ext [] w w1 ∧ v = .bool (hasMa x L)) := by
  refine calls_of0 (args := [.slice a L.length ca, .slice b x.length cb]) Tryz.func9 rfl rfl rfl ?_
  refine To.runF 7 [] (fun _ _ => by kernel_rfl) fun f1 g1 l1 => ?_
  refine To.callN 24 #[.slice a L.length ca] (by kernel_rfl) (fun _ => by kernel_rfl) (fun w2 hw2 => addresses hu L a ca w2 (hin.later hw2.ext) hf hlen hs) (fun w2 v2 w3 hw2 hx2 hv2 hnew2 hwi2 => ?_)
  obtain ⟨a2, c2, rfl, hm2⟩ := hv2.min
  refine To.runF 1 [] (fun _ _ => by kernel_rfl) fun f2 g2 l2 => ?_
  refine To.callN 25 #[.slice b x.length cb] (by kernel_rfl) (fun _ => by kernel_rfl) (fun w4 hw4 => address hu x b cb w4 (hb.later hw4.ext) hfx hx) (fun w4 v4 w5 hw4 hx4 hv4 hnew4 hwi4 => ?_)
  obtain ⟨a4, c4, rfl, hm4⟩ := hv4.min
  refine To.callN 23 #[.slice a2 L.length c2, .slice a4 x.length c4] (by kernel_rfl) (fun _ => by kernel_rfl) (fun w6 hw6 => contains L x a2 a4 c2 c4 w6 (((hm2.later (frx hw4.fr (by kernel_rfl))).later hx4).later (frx hw6.fr (by kernel_rfl))) (hm4.later (frx hw6.fr (by kernel_rfl))) (by omega) (by omega) (fun l hl => by have := hs l hl; omega)) (fun w6 v6 w7 hw6 hx6 hv6 hnew6 hwi6 => ?_)
  subst hv6
  refine To.runF 2 [] (fun _ _ => by kernel_rfl) fun f3 g3 l3 => ?_
  exact To.ret [] (.bool (hasMa x L)) (by kernel_rfl) (by kernel_rfl) fun w8 hw8 => ⟨_, rfl, hw8.ext, rfl⟩
theorem implEqual (hu : UvTo) (x y : Ma) (a b : Option Addr) (ca cb : Nat) (w : World) (ha : CompsIn w a (plain x)) (hb : CompsIn w b (plain y)) (hfx : ∀ p ∈ x, Fine p) (hfy : ∀ p ∈ y, Fine p)
    (hx : x.length ≤ 1099511627776) (hy : y.length ≤ 1099511627776) :
    Calls Tryz.prog 22 #[.slice a x.length ca, .slice b y.length cb] w (fun e w1 => ∃ v, e = .returned v ∧ Ext [] w w1 ∧ v = .bool (decide (blist x = blist y))) := by
  refine calls_of0 (args := [.slice a x.length ca, .slice b y.length cb]) Tryz.func22 rfl rfl rfl ?_
  refine To.runF 7 [] (fun _ _ => by kernel_rfl) fun f1 g1 l1 => ?_
  refine To.callN 25 #[.slice a x.length ca] (by kernel_rfl) (fun _ => by kernel_rfl) (fun w2 hw2 => address hu x a ca w2 (ha.later hw2.ext) hfx hx) (fun w2 v2 w3 hw2 hx2 hv2 hnew2 hwi2 => ?_)
  obtain ⟨a2, c2, rfl, hm2⟩ := hv2.min
  refine To.runF 1 [] (fun _ _ => by kernel_rfl) fun f2 g2 l2 => ?_
  refine To.callN 25 #[.slice b y.length cb] (by kernel_rfl) (fun _ => by kernel_rfl) (fun w4 hw4 => address hu y b cb w4 (hb.later hw4.ext) hfy hy) (fun w4 v4 w5 hw4 hx4 hv4 hnew4 hwi4 => ?_)
  obtain ⟨a4, c4, rfl, hm4⟩ := hv4.min
  refine To.callN 37 #[.slice a2 x.length c2, .slice a4 y.length c4] (by kernel_rfl) (fun _ => by kernel_rfl) (fun w6 hw6 => maEqual x y a2 a4 c2 c4 w6 (((hm2.later (frx hw4.fr (by kernel_rfl))).later hx4).later (frx hw6.fr (by kernel_rfl))) (hm4.later (frx hw6.fr (by kernel_rfl))) (by omega) (by omega)) (fun w6 v6 w7 hw6 hx6 hv6 hnew6 hwi6 => ?_)
  subst hv6
  refine To.runF 2 [] (fun _ _ => by kernel_rfl) fun f3 g3 l3 => ?_
  exact To.ret [] (.bool (decide (blist x = blist y))) (by kernel_rfl) (by kernel_rfl) fun w8 hw8 => ⟨_, rfl, hw8.ext, rfl⟩
end Go.Proofs.YtegcplghgnafjaaGreatDoor
/- The components that an address of the package is. Conditions: as each says. -/
namespace Go.Proofs.YtegcplghgnafjaaGreatDoor
open Go Go.SX
set_option maxHeartbeats 8000000
set_option maxRecDepth 100000
/-- Cells of a component whose value lies in a block of its own. -/
def CompC (lo : Nat) (w : World) (p : Row × List UInt8) (cs : List Value) : Prop :=
  ∃ vg cap rest z, cs = [.int .i64 p.1.code, .slice (some ⟨vg, 0, none⟩) p.2.length cap] ∧ w.heap[vg]? = some (.cells ⟨ucells p.2 ++ rest⟩ 5 z) ∧ lo ≤ vg
theorem CompC.kept {Q : Nat → Prop} {lo : Nat} {w w' : World} {p : Row × List UInt8} {cs : List Value} (h : CompC lo w p cs) (hk : Kept Q w w') (hq : ∀ b c z, lo ≤ b → w.heap[b]? = some (.cells c 5 z) → Q b) : CompC lo w' p cs := by
  obtain ⟨vg, cap, rest, z, h1, h2, h3⟩ := h
  exact ⟨vg, cap, rest, z, h1, hk _ _ (hq _ _ _ h3 h2) h2, h3⟩
theorem CompC.since {lo lo' : Nat} {w : World} {p : Row × List UInt8} {cs : List Value} (h : CompC lo w p cs) (hl : lo' ≤ lo) : CompC lo' w p cs := by
  obtain ⟨vg, cap, rest, z, h1, h2, h3⟩ := h
  exact ⟨vg, cap, rest, z, h1, h2, Nat.le_trans hl h3⟩
/-- A slice of components that are new. -/
abbrev CompsOut (lo : Nat) (w : World) (v : Value) (l : Ma) : Prop := RowsN (CompC lo) 2 37 lo w v l
theorem CompsOut.kept {Q : Nat → Prop} {lo : Nat} {w w' : World} {v : Value} {l : Ma} (h : CompsOut lo w v l) (hk : Kept Q w w')
    (hq : ∀ b c t z, lo ≤ b → w.heap[b]? = some (.cells c t z) → (t = 37 ∨ t = 5) → Q b) : CompsOut lo w' v l := by
  rcases h with h | ⟨g, c, rest, css, h1, h2⟩
  · exact .inl h
  · exact .inr ⟨g, c, rest, css, h1, h2.kept ((hk _ _ (hq _ _ _ _ h2.lo h2.blk (.inl rfl)) h2.blk).trans h2.blk.symm) (fun y u _ hI => hI.kept hk (fun b c z hlo hb => hq b c _ z hlo hb (.inr rfl)))⟩
theorem CompsOut.since {lo lo' : Nat} {w : World} {v : Value} {l : Ma} (h : CompsOut lo w v l) (hl : lo' ≤ lo) : CompsOut lo' w v l := by
  rcases h with h | ⟨g, c, rest, css, h1, h2⟩
  · exact .inl h
  · exact .inr ⟨g, c, rest, css, h1, ⟨h2.blk, h2.len, h2.each, h2.room, h2.le, h2.cap, Nat.le_trans hl h2.lo, fun j cs x hj hx => (h2.all j cs x hj hx).since hl⟩⟩
theorem ucells_cell {w : World} {g : Nat} {l : List UInt8} {rest : List Value} {t : TypeId} {z : Nat × Nat} (h : w.heap[g]? = some (.cells ⟨ucells l ++ rest⟩ t z)) {j : Nat} {u : UInt8} (hj : l[j]? = some u) :
    w.cell? ((⟨g, 0, none⟩ : Addr).add j) = some (.int .u8 (u.toNat : Int)) := by
  rw [add0]
  rw [cell_of_row w g _ _ t z h]
  simp only [List.getElem?_toArray]
  exact ucells_get_app hj
theorem CompsOut.min {lo : Nat} {w : World} {v : Value} {l : Ma} (h : CompsOut lo w v l) : ∃ a c, v = .slice a l.length c ∧ CompsIn w a (plain l) := by
  rcases h with ⟨rfl, rfl⟩ | ⟨g, c, rest, css, rfl, h2⟩
  · exact ⟨none, 0, rfl, ⟨fun j c v hj => by cases hj⟩⟩
  · refine ⟨_, _, rfl, ⟨fun j cd val hj => ?_⟩⟩
    obtain ⟨p, hp, he⟩ : ∃ p, l[j]? = some p ∧ (p.1.code, p.2) = (cd, val) := by
      simp only [plain, List.getElem?_map, Option.map_eq_some_iff] at hj
      exact hj
    cases he
    obtain ⟨cs, h3, ⟨vg, cap, r2, z, rfl, h4, _⟩, h5⟩ := h2.get hp
    exact ⟨_, some ⟨vg, 0, none⟩, cap, rfl, rfl, h5 0 _ rfl, h5 1 _ rfl, ⟨fun i u hi => ⟨_, rfl, ucells_cell h4 hi⟩, fun h => by cases h⟩⟩
theorem val_extract (r : Row) (val : List UInt8) : (bytesOf r.vc r.size val).extract (headOf r.vc r.size val.length).length (bytesOf r.vc r.size val).size = ⟨⟨val⟩⟩ := by
  apply ByteArray.ext
  simp only [ByteArray.data_extract]
  apply Array.ext'
  simp [bytesOf, ByteArray.size]
theorem head_le (r : Row) (val : List UInt8) : (headOf r.vc r.size val.length).length ≤ (bytesOf r.vc r.size val).size := by
  simp [bytesOf, ByteArray.size]
theorem elC2 : Elem Tryz.prog 23 37 2 32 := elC
/-- The state of a loop that fills a row of elements of several cells. -/
abbrev OutIxN := Nat × Option (Nat × Nat × List Value × List (List Value))
def outVN (n : Nat) : Option (Nat × Nat × List Value × List (List Value)) → Value
  | none => .slice none 0 0
  | some (g, c, _, _) => .slice (some ⟨g, 0, none⟩) n c
def outBN (ty : TypeId) : Option (Nat × Nat × List Value × List (List Value)) → List (Option Blk)
  | none => []
  | some (g, _, rest, css) => [some ⟨g, .cells ⟨css.flatten ++ rest⟩ ty (0, 0), true⟩]
def OutInvN {α : Type} (I : World → α → List Value → Prop) (sz : Nat) (ty : TypeId) (lo : Nat) (L : List α) : Option (Nat × Nat × List Value × List (List Value)) → World → Prop
  | none, _ => L = []
  | some (g, c, rest, css), w1 => RowN I sz ty lo w1 g c rest css L
abbrev CompsPost (l : Ma) (w : World) (e : Ending) (w1 : World) : Prop := ∃ v, e = .returned v ∧ Ext [] w w1 ∧ CompsOut w.heap.size w1 v l
theorem components (l : Ma) (a : Option Addr) (cap : Nat) (w : World) (hin : MIn w a l) (hlen : l.length ≤ 1000000000) :
    Calls Tryz.prog 35 #[.slice a l.length cap] w (CompsPost l w) := by
  refine calls_of0 (args := [.slice a l.length cap]) Tryz.func35 rfl rfl rfl ?_
  refine To.runF 16 [] (fun _ _ => by kernel_rfl) fun f1 g1 l1 => ?_
  refine To.loop (fun i : OutIxN => l.length - i.1) (fun i => ([(3, outVN (l.take i.1).length i.2), (6, .slice a l.length cap), (7, .int .i64 (Int.ofNat l.length)), (8, .int .i64 (Int.ofNat i.1))], outBN 37 i.2))
    (fun i w1 => i.1 ≤ l.length ∧ OutInvN (CompC w.heap.size) 2 37 w.heap.size (l.take i.1) i.2 w1) (0, none) [] (by kernel_rfl) (by kernel_rfl) (by kernel_rfl) rfl (fun _ _ => ⟨Nat.zero_le _, rfl⟩) ?_
  rintro ⟨k, _ | ⟨g, c, rest, css⟩⟩ w1 ⟨hk, hinv⟩ hx1 back
  · have hk : k ≤ l.length := hk
    have hnil : l.take k = [] := hinv
    refine To.runF 5 [] (fun _ _ => by kernel_rfl) fun f2 g2 l2 => ?_
    by_cases hlt : k < l.length
    · obtain ⟨p, hp⟩ : ∃ p, l[k]? = some p := ⟨l[k], by simp [hlt]⟩
      have hst : l.take (k + 1) = l.take k ++ [p] := by rw [List.take_add_one, hp]; rfl
      obtain ⟨ad, pb, vb, ha0, hsp, hc0, hc1, hc2, hr⟩ := hin.at_ k p hp
      refine To.testT (decide (Int.ofNat k < Int.ofNat l.length)) (by kernel_rfl) (decide_eq_true (Int.ofNat_lt.2 hlt)) ?_
      refine To.runF 5 [] (fun _ _ => by kernel_rfl) fun f3 g3 l3 => ?_
      refine To.indexAt elM a ad l.length cap k (by kernel_rfl) ha0 hlt ?_
      refine To.loadAgg (t := 54) (by kernel_rfl) 3 (by kernel_rfl) (ad.add (k * 3)) [.string (bytesOf p.1.vc p.1.size p.2), .pointer (some ⟨pb, 0, none⟩), .int .i64 (Int.ofNat (headOf p.1.vc p.1.size p.2.length).length)] rfl (by kernel_rfl) (fun w2 hw2 j v hj => by
        rw [add_add hsp]
        rcases j with _ | _ | _ | j
        · cases hj; exact hw2.ext.cell hc0 (by simp)
        · cases hj; exact hw2.ext.cell hc1 (by simp)
        · cases hj; exact hw2.ext.cell hc2 (by simp)
        · cases hj) ?_
      refine To.runF 41 [0, 0, 0, 0, 0] (fun _ _ => by kernel_rfl) fun f4 g4 l4 => ?_
      have hr1 := hr.later hx1
      have q1 := hr1.lt
      have q4 : w1.heap.size ≤ f4 0 := l4 0
      have q5 : w1.heap.size ≤ f4 1 := l4 1
      refine To.withAt pb (.cells ⟨rowCells p.1 vb⟩ 71 (0, 0)) false hr1.row (nums_all (Q := fun n => n ≠ pb) (l := [some (f4 0), some (f4 1)]) (by kernel_rfl) ⟨by omega, by omega, trivial⟩) (by simp) ?_
      refine To.runF 28 [2, 1, 0, 0, 1, 2, 3, 0, 0] (fun _ _ => by kernel_rfl) fun f5 g5 l5 => ?_
      refine To.sliceStrFrom uString (bytesOf p.1.vc p.1.size p.2) (headOf p.1.vc p.1.size p.2.length).length (head_le p.1 p.2) (by kernel_rfl) ?_
      refine To.slotE 13 (.string ((bytesOf p.1.vc p.1.size p.2).extract (headOf p.1.vc p.1.size p.2.length).length (bytesOf p.1.vc p.1.size p.2).size)) (.string ⟨⟨p.2⟩⟩) (by kernel_rfl) (by rw [val_extract]) ?_
      refine To.bytesOf ⟨⟨p.2⟩⟩ uString uBytes uU8 (by kernel_rfl) ?_
      intro vg cv rv hv1 hv2 hv3
      refine To.runF 8 [1, 1, 1, 1] (fun _ _ => by kernel_rfl) fun f6 g6 l6 => ?_
      have q0 : w.heap.size ≤ w1.heap.size := hx1.size
      have q6 : w1.heap.size ≤ vg := hv3
      refine To.append0 (ty := 23) elC ⟨f6 0, 0, none⟩ 1 1 [.int .i64 p.1.code, .slice (some ⟨vg, 0, none⟩) p.2.length cv] (by kernel_rfl) rfl
        (fun w hw j u hj => hw.cellAt0 (j := 4) (b := f6 0) (l := [.int .i64 p.1.code, .slice (some ⟨vg, 0, none⟩) p.2.length cv]) (e := 37) (f := (0, 0)) (q := true) (by kernel_rfl) hj) (by decide) (by decide) (by decide) ?_
      intro g' c' r' hl' hc' hm' hg'
      refine To.runF 7 [] (fun _ _ => by kernel_rfl) fun f7 g7 l7 => ?_
      refine To.slotE 8 (.int .i64 (IntKind.i64.wrap (Int.ofNat k + 1))) (.int .i64 (Int.ofNat (k + 1))) (by kernel_rfl) (by rw [wrap_succ k (by omega)]) ?_
      have hst : l.take (k + 1) = [p] := by rw [hst, hnil]; rfl
      refine To.slotE 3 (.slice (some ⟨g', 0, none⟩) 1 c') (.slice (some ⟨g', 0, none⟩) (l.take (k + 1)).length c') (by kernel_rfl) (by rw [hst]; rfl) ?_
      have q7 : w1.heap.size ≤ g' := hg'
      refine back _ _ (k + 1, some (g', c', r', [[.int .i64 p.1.code, .slice (some ⟨vg, 0, none⟩) p.2.length cv]])) [5] (by simp only; omega) ⟨by kernel_rfl, by kernel_rfl, by kernel_rfl, by kernel_rfl, by kernel_rfl, rfl⟩ (fun w7 hw7 => ⟨hlt, ?_⟩)
      show RowN _ _ _ _ _ _ _ _ _ (l.take (k + 1))
      rw [hst]
      exact RowN.one p _ rfl (hw7.blk (j := 5) (b := g') (o := .cells ⟨[.int .i64 p.1.code, .slice (some ⟨vg, 0, none⟩) p.2.length cv] ++ r'⟩ 37 (0, 0)) (q := true) (by kernel_rfl)) hl' hc' hm' (by omega)
        ⟨vg, cv, rv, (cv, cv + 1), rfl, hw7.blk (j := 3) (b := vg) (o := .cells ⟨ucells p.2 ++ rv⟩ 5 (cv, cv + 1)) (q := true) (by kernel_rfl), by omega⟩
    · have hk1 : k = l.length := by omega
      subst hk1
      refine To.testF (decide (Int.ofNat l.length < Int.ofNat l.length)) (by kernel_rfl) (by simp) ?_
      refine To.runF 6 [] (fun _ _ => by kernel_rfl) fun f3 g3 l3 => ?_
      exact To.ret [] (.slice none 0 0) (by kernel_rfl) (by kernel_rfl) fun w4 hw4 => by
        rw [List.take_length] at hnil
        rw [hnil]
        exact ⟨_, rfl, hw4.ext, .inl ⟨rfl, rfl⟩⟩
  · have hk : k ≤ l.length := hk
    have hrow : RowN (CompC w.heap.size) 2 37 w.heap.size w1 g c rest css (l.take k) := hinv
    have hul : (l.take k).length ≤ 1000000000 := by rw [List.length_take]; omega
    refine To.runF 5 [] (fun _ _ => by kernel_rfl) fun f2 g2 l2 => ?_
    by_cases hlt : k < l.length
    · obtain ⟨p, hp⟩ : ∃ p, l[k]? = some p := ⟨l[k], by simp [hlt]⟩
      have hst : l.take (k + 1) = l.take k ++ [p] := by rw [List.take_add_one, hp]; rfl
      obtain ⟨ad, pb, vb, ha0, hsp, hc0, hc1, hc2, hr⟩ := hin.at_ k p hp
      refine To.testT (decide (Int.ofNat k < Int.ofNat l.length)) (by kernel_rfl) (decide_eq_true (Int.ofNat_lt.2 hlt)) ?_
      refine To.runF 5 [] (fun _ _ => by kernel_rfl) fun f3 g3 l3 => ?_
      refine To.indexAt elM a ad l.length cap k (by kernel_rfl) ha0 hlt ?_
      refine To.loadAgg (t := 54) (by kernel_rfl) 3 (by kernel_rfl) (ad.add (k * 3)) [.string (bytesOf p.1.vc p.1.size p.2), .pointer (some ⟨pb, 0, none⟩), .int .i64 (Int.ofNat (headOf p.1.vc p.1.size p.2.length).length)] rfl (by kernel_rfl) (fun w2 hw2 j v hj => by
        rw [add_add hsp]
        rcases j with _ | _ | _ | j
        · cases hj; exact hw2.ext.cell hc0 (by simp)
        · cases hj; exact hw2.ext.cell hc1 (by simp)
        · cases hj; exact hw2.ext.cell hc2 (by simp)
        · cases hj) ?_
      refine To.runF 41 [1, 1, 1, 1, 1] (fun _ _ => by kernel_rfl) fun f4 g4 l4 => ?_
      have hr1 := hr.later hx1
      have q1 := hr1.lt
      have q4 : w1.heap.size ≤ f4 0 := l4 0
      have q5 : w1.heap.size ≤ f4 1 := l4 1
      have qg := (hr1.ne hrow.blk (by decide) (by decide)).1
      refine To.withAt pb (.cells ⟨rowCells p.1 vb⟩ 71 (0, 0)) false hr1.row (nums_all (Q := fun n => n ≠ pb) (l := [some g, some (f4 0), some (f4 1)]) (by kernel_rfl) ⟨qg, by omega, by omega, trivial⟩) (by simp) ?_
      refine To.runF 28 [3, 1, 1, 0, 1, 2, 3, 0, 1] (fun _ _ => by kernel_rfl) fun f5 g5 l5 => ?_
      refine To.sliceStrFrom uString (bytesOf p.1.vc p.1.size p.2) (headOf p.1.vc p.1.size p.2.length).length (head_le p.1 p.2) (by kernel_rfl) ?_
      refine To.slotE 13 (.string ((bytesOf p.1.vc p.1.size p.2).extract (headOf p.1.vc p.1.size p.2.length).length (bytesOf p.1.vc p.1.size p.2).size)) (.string ⟨⟨p.2⟩⟩) (by kernel_rfl) (by rw [val_extract]) ?_
      refine To.bytesOf ⟨⟨p.2⟩⟩ uString uBytes uU8 (by kernel_rfl) ?_
      intro vg cv rv hv1 hv2 hv3
      refine To.runF 8 [2, 2, 2, 2] (fun _ _ => by kernel_rfl) fun f6 g6 l6 => ?_
      have q0 : w.heap.size ≤ w1.heap.size := hx1.size
      have q6 : w1.heap.size ≤ vg := hv3
      refine To.appendE (ty := 23) elC 0 g (l.take k).length c css.flatten rest (some ⟨f6 0, 0, none⟩) 1 1 [.int .i64 p.1.code, .slice (some ⟨vg, 0, none⟩) p.2.length cv] ((l.take k).length + 1) (css.flatten ++ [.int .i64 p.1.code, .slice (some ⟨vg, 0, none⟩) p.2.length cv])
        (by kernel_rfl) (by kernel_rfl) rfl rfl (by rw [flat_length hrow.each, hrow.len]) hrow.room hrow.le hrow.cap rfl
        (fun w hw j u hj => ⟨_, rfl, hw.cellAt0 (j := 5) (b := f6 0) (l := [.int .i64 p.1.code, .slice (some ⟨vg, 0, none⟩) p.2.length cv]) (e := 37) (f := (0, 0)) (q := true) (by kernel_rfl) hj⟩) (fun h => by cases h)
        (by intro u hu; simp only [List.mem_cons, List.not_mem_nil, or_false] at hu; rcases hu with rfl | rfl <;> rfl) (by simp only [maxLen]; omega) (by omega) (held_nil (by kernel_rfl)) ?_
      intro w5 w6 g' c' r' hw5 hg5 ho5 hl5 hc5 hm5
      refine To.runF 7 [] (fun _ _ => by kernel_rfl) fun f7 g7 l7 => ?_
      refine To.slotE 8 (.int .i64 (IntKind.i64.wrap (Int.ofNat k + 1))) (.int .i64 (Int.ofNat (k + 1))) (by kernel_rfl) (by rw [wrap_succ k (by omega)]) ?_
      refine To.slotE 3 (.slice (some ⟨g', 0, none⟩) ((l.take k).length + 1) c') (.slice (some ⟨g', 0, none⟩) (l.take (k + 1)).length c') (by kernel_rfl) (by rw [hst, List.length_append]; rfl) ?_
      have q2 := hrow.lo
      have q7 : w1.heap.size ≤ w5.heap.size := hw5.fr.size
      have q8 : w1.heap.size ≤ f6 0 := l6 0
      refine back _ _ (k + 1, some (g', c', r', css ++ [[.int .i64 p.1.code, .slice (some ⟨vg, 0, none⟩) p.2.length cv]])) [6] (by simp only; omega) ⟨by kernel_rfl, by kernel_rfl, by kernel_rfl, by kernel_rfl, by simp only [outBN, List.flatten_append, List.flatten_cons, List.flatten_nil, List.append_nil]; kernel_rfl, rfl⟩ (fun w7 hw7 => ⟨hlt, ?_⟩)
      show RowN _ _ _ _ _ _ _ _ _ (l.take (k + 1))
      rw [hst]
      have hg7 : w5.heap.size ≤ g' ∨ g' = g := by rcases ho5 with h | h; exact .inr h; exact .inl (by omega)
      have hkp : Kept (fun b => (b ≠ g ∧ b ≠ pb) ∧ b < w1.heap.size) w1 w7 :=
        ((hw5.fr.kept (l := [some g, some (f4 0), some (f4 1), some pb, some vg, some (f6 0)]) (by kernel_rfl) ⟨fun h => h.1.1 rfl, fun h => by have := h.2; omega, fun h => by have := h.2; omega, fun h => h.1.2 rfl, fun h => by have := h.2; omega, fun h => by have := h.2; omega, trivial⟩).trans
          (grown_kept hg5 (fun b hb h => by cases hb; exact h.1.1 rfl))).trans
          (hw7.fr.kept (l := [none, some (f4 0), some (f4 1), some pb, some vg, some (f6 0), some g']) (by kernel_rfl) ⟨fun h => by have := h.2; omega, fun h => by have := h.2; omega, fun h => h.1.2 rfl, fun h => by have := h.2; omega, fun h => by have := h.2; omega, fun h => by have := h.1.1; have := h.2; omega, trivial⟩)
      exact hrow.snoc p _ rfl (hw7.blk (j := 6) (b := g') (o := .cells ⟨css.flatten ++ [.int .i64 p.1.code, .slice (some ⟨vg, 0, none⟩) p.2.length cv] ++ r'⟩ 37 (0, 0)) (q := true) (by kernel_rfl)) hl5 hc5 hm5 (by omega)
        ⟨vg, cv, rv, (cv, cv + 1), rfl, hw7.blk (j := 4) (b := vg) (o := .cells ⟨ucells p.2 ++ rv⟩ 5 (cv, cv + 1)) (q := true) (by kernel_rfl), by omega⟩
        (fun x u _ hI => hI.kept hkp (fun b c z hlo hb => ⟨⟨ne_of_type hrow.blk hb (by decide), ne_of_type hr1.row hb (by decide)⟩, at_lt hb⟩))
    · have hk1 : k = l.length := by omega
      subst hk1
      refine To.testF (decide (Int.ofNat l.length < Int.ofNat l.length)) (by kernel_rfl) (by simp) ?_
      refine To.runF 6 [] (fun _ _ => by kernel_rfl) fun f3 g3 l3 => ?_
      exact To.ret [0] (.slice (some ⟨g, 0, none⟩) (l.take l.length).length c) (by kernel_rfl) (by kernel_rfl) fun w4 hw4 => by
        have hkp : Kept (fun b => b ≠ g) w1 w4 := hw4.fr.kept (l := [some g]) (by kernel_rfl) ⟨fun h => h rfl, trivial⟩
        have h1 := hrow.kept ((hw4.blk (j := 0) (b := g) (o := .cells ⟨css.flatten ++ rest⟩ 37 (0, 0)) (q := true) (by kernel_rfl)).trans hrow.blk.symm)
          (fun x u _ hI => hI.kept hkp (fun b c z hlo hb => ne_of_type hrow.blk hb (by decide)))
        rw [List.take_length] at h1 ⊢
        exact ⟨_, rfl, hw4.ext, .inr ⟨g, c, rest, css, rfl, h1⟩⟩
end Go.Proofs.YtegcplghgnafjaaGreatDoor
/- The lists of components that addresses of the package are. Conditions: as each says. -/
namespace Go.Proofs.YtegcplghgnafjaaGreatDoor
open Go Go.SX
set_option maxHeartbeats 8000000
set_option maxRecDepth 100000
theorem CompsOut.one {lo : Nat} {w : World} {v : Value} {l : Ma} (h : CompsOut lo w v l) : v.oneCell' = true := by
  rcases h with ⟨_, rfl⟩ | ⟨g, c, rest, css, rfl, _⟩ <;> rfl
/-- Slices of lists of components that are new. -/
abbrev ListsOut (lo : Nat) (w : World) (v : Value) (L : List Ma) : Prop := Rows1 (fun w l v => CompsOut lo w v l) 23 lo w v L
theorem ListsOut.min {lo : Nat} {w : World} {v : Value} {L : List Ma} (h : ListsOut lo w v L) : ∃ a c, v = .slice a L.length c ∧ AddrsIn w a (L.map plain) := by
  rcases h with ⟨rfl, rfl⟩ | ⟨g, c, rest, vs, rfl, hr⟩
  · exact ⟨none, 0, rfl, ⟨fun j x hj => by cases hj⟩⟩
  · refine ⟨_, _, rfl, ⟨fun j x hj => ?_⟩⟩
    obtain ⟨l, hl, rfl⟩ : ∃ l, L[j]? = some l ∧ plain l = x := by
      simp only [List.getElem?_map, Option.map_eq_some_iff] at hj
      exact hj
    obtain ⟨v, h1, h2, h3⟩ := hr.get hl
    obtain ⟨b, cap, rfl, h4⟩ := h3.min
    exact ⟨_, b, cap, rfl, rfl, by rw [show (plain l).length = l.length by simp [plain]]; exact hr.cell h2, h4⟩
theorem lists (L : List Ma) (a : Option Addr) (cap : Nat) (w : World) (hin : MasIn w a L) (hlen : L.length ≤ 1000000000) (hs : ∀ l ∈ L, l.length ≤ 1000000000) :
    Calls Tryz.prog 26 #[.slice a L.length cap] w (fun e w1 => ∃ v, e = .returned v ∧ Ext [] w w1 ∧ ListsOut w.heap.size w1 v L) := by
  refine calls_of0 (args := [.slice a L.length cap]) Tryz.func26 rfl rfl rfl ?_
  refine To.runF 16 [] (fun _ _ => by kernel_rfl) fun f1 g1 l1 => ?_
  refine To.loop (fun i : OutIx => L.length - i.1) (fun i => ([(3, outV (L.take i.1).length i.2), (6, .slice a L.length cap), (7, .int .i64 (Int.ofNat L.length)), (8, .int .i64 (Int.ofNat i.1))], outB 23 i.2))
    (fun i w1 => i.1 ≤ L.length ∧ OutInv (fun w' l v => CompsOut w.heap.size w' v l) 23 w.heap.size (L.take i.1) i.2 w1) (0, none) [] (by kernel_rfl) (by kernel_rfl) (by kernel_rfl) rfl (fun _ _ => ⟨Nat.zero_le _, rfl⟩) ?_
  rintro ⟨k, _ | ⟨g, c, rest, vs⟩⟩ w1 ⟨hk, hinv⟩ hx1 back
  · have hk : k ≤ L.length := hk
    have hnil : L.take k = [] := hinv
    refine To.runF 5 [] (fun _ _ => by kernel_rfl) fun f2 g2 l2 => ?_
    by_cases hlt : k < L.length
    · obtain ⟨y, hp⟩ : ∃ y, L[k]? = some y := ⟨L[k], by simp [hlt]⟩
      have hst : L.take (k + 1) = L.take k ++ [y] := by rw [List.take_add_one, hp]; rfl
      obtain ⟨ad, b0, c0, ha, hsp, hc0, hc⟩ := hin.at_ k y hp
      refine To.testT (decide (Int.ofNat k < Int.ofNat L.length)) (by kernel_rfl) (decide_eq_true (Int.ofNat_lt.2 hlt)) ?_
      refine To.runF 5 [] (fun _ _ => by kernel_rfl) fun f3 g3 l3 => ?_
      refine To.indexAt elMs a ad L.length cap k (by kernel_rfl) ha hlt ?_
      refine To.loadOne uMa rfl (ad.add (k * 1)) (.slice b0 y.length c0) (by kernel_rfl) (fun w2 hw2 => hw2.ext.cell hc0 (by simp)) ?_
      refine To.runF 5 [] (fun _ _ => by kernel_rfl) fun f4 g4 l4 => ?_
      refine To.callN 35 #[.slice b0 y.length c0] (by kernel_rfl) (fun _ => by kernel_rfl) (fun w2 hw2 => components y b0 c0 w2 (hc.later hw2.ext) (hs y (List.mem_of_getElem? hp))) (fun w2 v2 w3 hw2 hx2 hv2 hnew2 hwi2 => ?_)
      have q2 : w2.heap.size ≤ w3.heap.size := hx2.size
      have q3 : w.heap.size ≤ w2.heap.size := hwi2
      obtain ⟨va, vc, rfl, _⟩ := hv2.min
      refine To.runF 1 [] (fun _ _ => by kernel_rfl) fun f5 g5 l5 => ?_
      refine To.append0 (ty := 22) elA ⟨f5 0, 0, none⟩ 1 1 [.slice va y.length vc] (by kernel_rfl) rfl
        (fun w hw j u hj => hw.cellAt0 (j := 0) (b := f5 0) (l := [.slice va y.length vc]) (e := 23) (f := (0, 0)) (q := true) (by kernel_rfl) hj) (by decide) (by decide) (by decide) ?_
      intro g' c' r' hl' hc' hm' hg'
      refine To.runF 7 [] (fun _ _ => by kernel_rfl) fun f6 g6 l6 => ?_
      refine To.slotE 8 (.int .i64 (IntKind.i64.wrap (Int.ofNat k + 1))) (.int .i64 (Int.ofNat (k + 1))) (by kernel_rfl) (by rw [wrap_succ k (by omega)]) ?_
      have hst : L.take (k + 1) = [y] := by rw [hst, hnil]; rfl
      refine To.slotE 3 (.slice (some ⟨g', 0, none⟩) 1 c') (.slice (some ⟨g', 0, none⟩) (L.take (k + 1)).length c') (by kernel_rfl) (by rw [hst]; rfl) ?_
      have q5 : w3.heap.size ≤ f5 0 := l5 0
      have q6 : w3.heap.size ≤ g' := hg'
      refine back _ _ (k + 1, some (g', c', r', [.slice va y.length vc])) [1] (by simp only; omega) ⟨by kernel_rfl, by kernel_rfl, by kernel_rfl, by kernel_rfl, by kernel_rfl, rfl⟩ (fun w7 hw7 => ⟨hlt, ?_⟩)
      show Row1 _ _ _ _ _ _ _ _ (L.take (k + 1))
      rw [hst]
      exact Row1.one y _ (hw7.blk (j := 1) (b := g') (o := .cells ⟨[.slice va y.length vc] ++ r'⟩ 23 (0, 0)) (q := true) (by kernel_rfl)) hl' hc' hm' (by omega)
        ((hv2.since q3).kept (Q := fun b => b < w3.heap.size) (hw7.fr.kept (l := [some (f5 0), some g']) (by kernel_rfl) ⟨by omega, by omega, trivial⟩) (fun b c t z _ hb _ => at_lt hb))
    · have hk1 : k = L.length := by omega
      subst hk1
      refine To.testF (decide (Int.ofNat L.length < Int.ofNat L.length)) (by kernel_rfl) (by simp) ?_
      refine To.runF 6 [] (fun _ _ => by kernel_rfl) fun f3 g3 l3 => ?_
      exact To.ret [] (.slice none 0 0) (by kernel_rfl) (by kernel_rfl) fun w4 hw4 => by
        rw [List.take_length] at hnil
        rw [hnil]
        exact ⟨_, rfl, hw4.ext, .inl ⟨rfl, rfl⟩⟩
  · have hk : k ≤ L.length := hk
    have hrow : Row1 (fun w' l v => CompsOut w.heap.size w' v l) 23 w.heap.size w1 g c rest vs (L.take k) := hinv
    have hul : (L.take k).length ≤ 1000000000 := by rw [List.length_take]; omega
    refine To.runF 5 [] (fun _ _ => by kernel_rfl) fun f2 g2 l2 => ?_
    by_cases hlt : k < L.length
    · obtain ⟨y, hp⟩ : ∃ y, L[k]? = some y := ⟨L[k], by simp [hlt]⟩
      have hst : L.take (k + 1) = L.take k ++ [y] := by rw [List.take_add_one, hp]; rfl
      obtain ⟨ad, b0, c0, ha, hsp, hc0, hc⟩ := hin.at_ k y hp
      refine To.testT (decide (Int.ofNat k < Int.ofNat L.length)) (by kernel_rfl) (decide_eq_true (Int.ofNat_lt.2 hlt)) ?_
      refine To.runF 5 [] (fun _ _ => by kernel_rfl) fun f3 g3 l3 => ?_
      refine To.indexAt elMs a ad L.length cap k (by kernel_rfl) ha hlt ?_
      refine To.loadOne uMa rfl (ad.add (k * 1)) (.slice b0 y.length c0) (by kernel_rfl) (fun w2 hw2 => hw2.ext.cell hc0 (by simp)) ?_
      refine To.runF 5 [] (fun _ _ => by kernel_rfl) fun f4 g4 l4 => ?_
      refine To.callN 35 #[.slice b0 y.length c0] (by kernel_rfl) (fun _ => by kernel_rfl) (fun w2 hw2 => components y b0 c0 w2 (hc.later hw2.ext) (hs y (List.mem_of_getElem? hp))) (fun w2 v2 w3 hw2 hx2 hv2 hnew2 hwi2 => ?_)
      have q2 : w2.heap.size ≤ w3.heap.size := hx2.size
      have q3 : w.heap.size ≤ w2.heap.size := hwi2
      obtain ⟨va, vc, rfl, _⟩ := hv2.min
      refine To.runF 1 [] (fun _ _ => by kernel_rfl) fun f5 g5 l5 => ?_
      have q0 : g < w2.heap.size := hw2.lt (j := 0) (b := ⟨g, .cells ⟨vs ++ rest⟩ 23 (0, 0), true⟩) (by kernel_rfl)
      refine To.appendE (ty := 22) elA 0 g (L.take k).length c vs rest (some ⟨f5 0, 0, none⟩) 1 1 [.slice va y.length vc] ((L.take k).length + 1) (vs ++ [.slice va y.length vc])
        (by kernel_rfl) (by kernel_rfl) rfl rfl (by rw [hrow.len, Nat.mul_one]) hrow.room hrow.le hrow.cap rfl
        (fun w hw j u hj => ⟨_, rfl, hw.cellAt0 (j := 1) (b := f5 0) (l := [.slice va y.length vc]) (e := 23) (f := (0, 0)) (q := true) (by kernel_rfl) hj⟩) (fun h => by cases h)
        (by intro u hu; simp only [List.mem_cons, List.not_mem_nil, or_false] at hu; rw [hu]; exact hv2.one) (by simp only [maxLen]; omega) (by omega) (held_nil (by kernel_rfl)) ?_
      intro w5 w6 g' c' r' hw5 hg5 ho5 hl5 hc5 hm5
      refine To.runF 7 [] (fun _ _ => by kernel_rfl) fun f6 g6 l6 => ?_
      refine To.slotE 8 (.int .i64 (IntKind.i64.wrap (Int.ofNat k + 1))) (.int .i64 (Int.ofNat (k + 1))) (by kernel_rfl) (by rw [wrap_succ k (by omega)]) ?_
      refine To.slotE 3 (.slice (some ⟨g', 0, none⟩) ((L.take k).length + 1) c') (.slice (some ⟨g', 0, none⟩) (L.take (k + 1)).length c') (by kernel_rfl) (by rw [hst, List.length_append]; rfl) ?_
      have q1 := hrow.lo
      have q4 : w1.heap.size ≤ w2.heap.size := hw2.fr.size
      have q5 : w3.heap.size ≤ f5 0 := l5 0
      have q6 : w3.heap.size ≤ w5.heap.size := hw5.fr.size
      refine back _ _ (k + 1, some (g', c', r', vs ++ [.slice va y.length vc])) [2] (by simp only; omega) ⟨by kernel_rfl, by kernel_rfl, by kernel_rfl, by kernel_rfl, by kernel_rfl, rfl⟩ (fun w7 hw7 => ⟨hlt, ?_⟩)
      show Row1 _ _ _ _ _ _ _ _ (L.take (k + 1))
      rw [hst]
      have hg7 : w3.heap.size ≤ g' ∨ g' = g := by rcases ho5 with h | h; exact .inr h; exact .inl (by omega)
      have hkeep : ∀ Q : Nat → Prop, (∀ b, Q b → b ≠ g ∧ b < w3.heap.size) → Kept Q w3 w7 := fun Q hQ =>
        ((hw5.fr.kept (l := [some g, some (f5 0)]) (by kernel_rfl) ⟨fun h => (hQ _ h).1 rfl, fun h => by have := (hQ _ h).2; omega, trivial⟩).trans
          (grown_kept hg5 (fun b hb h => by cases hb; exact (hQ _ h).1 rfl))).trans
          (hw7.fr.kept (l := [none, some (f5 0), some g']) (by kernel_rfl) ⟨fun h => by have := (hQ _ h).2; omega, fun h => by have := hQ _ h; omega, trivial⟩)
      have hkp : Kept (fun b => b ≠ g ∧ b < w1.heap.size) w1 w7 :=
        ((hw2.fr.kept (l := [some g]) (by kernel_rfl) ⟨fun h => h.1 rfl, trivial⟩).trans hx2.kept).trans (hkeep _ (fun b h => ⟨h.1, by omega⟩))
      exact hrow.snoc y _ (hw7.blk (j := 2) (b := g') (o := .cells ⟨vs ++ [.slice va y.length vc] ++ r'⟩ 23 (0, 0)) (q := true) (by kernel_rfl)) hl5 hc5 hm5 (by omega)
        ((hv2.kept (Q := fun b => b ≠ g ∧ b < w3.heap.size) (hkeep _ (fun b h => h)) (fun b c t z hlo hb _ => ⟨by omega, at_lt hb⟩)).since q3)
        (fun l u _ hI => hI.kept hkp (fun b c t z hlo hb ht => ⟨ne_of_type hrow.blk hb (by rcases ht with rfl | rfl <;> decide), at_lt hb⟩))
    · have hk1 : k = L.length := by omega
      subst hk1
      refine To.testF (decide (Int.ofNat L.length < Int.ofNat L.length)) (by kernel_rfl) (by simp) ?_
      refine To.runF 6 [] (fun _ _ => by kernel_rfl) fun f3 g3 l3 => ?_
      exact To.ret [0] (.slice (some ⟨g, 0, none⟩) (L.take L.length).length c) (by kernel_rfl) (by kernel_rfl) fun w4 hw4 => by
        have hkp : Kept (fun b => b ≠ g) w1 w4 := hw4.fr.kept (l := [some g]) (by kernel_rfl) ⟨fun h => h rfl, trivial⟩
        have h1 := hrow.kept ((hw4.blk (j := 0) (b := g) (o := .cells ⟨vs ++ rest⟩ 23 (0, 0)) (q := true) (by kernel_rfl)).trans hrow.blk.symm)
          (fun l u _ hI => hI.kept hkp (fun b c t z hlo hb ht => ne_of_type hrow.blk hb (by rcases ht with rfl | rfl <;> decide)))
        rw [List.take_length] at h1 ⊢
        exact ⟨_, rfl, hw4.ext, .inr ⟨g, c, rest, vs, rfl, h1⟩⟩
end Go.Proofs.YtegcplghgnafjaaGreatDoor
/- A filter of addresses, made of a list of codes. Conditions: as each says. -/
namespace Go.Proofs.YtegcplghgnafjaaGreatDoor
open Go Go.SX
set_option maxHeartbeats 8000000
set_option maxRecDepth 100000
theorem implHas (l : List Int) (c : Int) (a : Option Addr) (ca : Nat) (w : World) (hin : IntsIn w a l) (hlen : l.length ≤ 1152921504606846976) :
    Calls Tryz.prog 29 #[.slice a l.length ca, .int .i64 c] w (fun e w1 => ∃ v, e = .returned v ∧ Ext [] w w1 ∧ v = .bool (decide (c ∈ l))) := by
  refine calls_of0 (args := [.slice a l.length ca, .int .i64 c]) Tryz.func29 rfl rfl rfl ?_
  refine To.runF 12 [] (fun _ _ => by kernel_rfl) fun f1 g1 l1 => ?_
  refine To.loop (fun k : Nat => l.length - k) (fun k => ([(1, .int .i64 c), (7, .slice a l.length ca), (8, .int .i64 (Int.ofNat l.length)), (9, .int .i64 (Int.ofNat k))], [])) (fun k _ => k ≤ l.length ∧ c ∉ l.take k) 0 [] (by kernel_rfl) (by kernel_rfl) (by kernel_rfl) rfl (fun _ _ => ⟨Nat.zero_le _, by simp⟩) ?_
  rintro k w1 ⟨hk, hall⟩ hx1 back
  refine To.runF 5 [] (fun _ _ => by kernel_rfl) fun f2 g2 l2 => ?_
  by_cases hlt : k < l.length
  · obtain ⟨y, hp⟩ : ∃ y, l[k]? = some y := ⟨l[k], by simp [hlt]⟩
    obtain ⟨ad, ha, hsp, hc0⟩ := hin.at_ k y hp
    refine To.testT (decide (Int.ofNat k < Int.ofNat l.length)) (by kernel_rfl) (decide_eq_true (Int.ofNat_lt.2 hlt)) ?_
    refine To.runF 5 [] (fun _ _ => by kernel_rfl) fun f3 g3 l3 => ?_
    refine To.indexAt elI a ad l.length ca k (by kernel_rfl) ha hlt ?_
    refine To.loadOne uInt rfl (ad.add (k * 1)) (.int .i64 y) (by kernel_rfl) (fun w2 hw2 => hw2.ext.cell hc0 (by simp)) ?_
    refine To.runF 8 [] (fun _ _ => by kernel_rfl) fun f4 g4 l4 => ?_
    refine To.test (y == c) (by kernel_rfl) (fun h2 => ?_) (fun h2 => ?_)
    · refine To.runF 4 [] (fun _ _ => by kernel_rfl) fun f5 g5 l5 => ?_
      exact To.ret [] (.bool true) (by kernel_rfl) (by kernel_rfl) fun w4 hw4 => ⟨_, rfl, hw4.ext, by
        rw [decide_eq_true]
        rw [← eq_of_beq h2]; exact List.mem_of_getElem? hp⟩
    refine To.runF 6 [] (fun _ _ => by kernel_rfl) fun f5 g5 l5 => ?_
    refine To.slotE 9 (.int .i64 (IntKind.i64.wrap (Int.ofNat k + 1))) (.int .i64 (Int.ofNat (k + 1))) (by kernel_rfl) (by rw [wrap_succ k (by omega)]) ?_
    exact back _ _ (k + 1) [] (by omega) ⟨by kernel_rfl, by kernel_rfl, by kernel_rfl, by kernel_rfl, by kernel_rfl, rfl⟩ (fun w7 hw7 => ⟨hlt, not_mem_take hall hp (fun he => by rw [he] at h2; simp at h2)⟩)
  · have hk1 : k = l.length := by omega
    subst hk1
    refine To.testF (decide (Int.ofNat l.length < Int.ofNat l.length)) (by kernel_rfl) (by simp) ?_
    refine To.runF 5 [] (fun _ _ => by kernel_rfl) fun f3 g3 l3 => ?_
    exact To.ret [] (.bool false) (by kernel_rfl) (by kernel_rfl) fun w4 hw4 => ⟨_, rfl, hw4.ext, by
      rw [List.take_length] at hall
      rw [decide_eq_false hall]⟩
theorem anyOf_take {l : Ma} {z : List Int} {k : Nat} {p : Row × List UInt8} (hp : l[k]? = some p) : anyOf (plain (l.take (k + 1))) z = (anyOf (plain (l.take k)) z || decide (p.1.code ∈ z)) := by
  unfold anyOf plain
  rw [List.take_add_one, hp, List.map_append, List.any_append]
  simp
theorem filter1 (l : Ma) (z : List Int) (a b : Option Addr) (ca cb kb : Nat) (w : World) (hin : MIn w a l) (hz : IntsIn w b z) (hkb : w.heap[kb]? = some (.cells ⟨[.slice b z.length cb]⟩ 39 (0, 0))) (hlen : l.length ≤ 1000000000) (hlz : z.length ≤ 1152921504606846976) :
    Calls Tryz.prog 28 #[.slice a l.length ca, .pointer (some ⟨kb, 0, none⟩)] w (fun e w1 => ∃ v, e = .returned v ∧ Ext [] w w1 ∧ v = .bool (anyOf (plain l) z)) := by
  refine calls_of0 (args := [.slice a l.length ca, .pointer (some ⟨kb, 0, none⟩)]) Tryz.func28 rfl rfl rfl ?_
  refine To.runF 12 [] (fun _ _ => by kernel_rfl) fun f1 g1 l1 => ?_
  refine To.loop (fun i : Nat => l.length - i) (fun i => ([(1, .pointer (some ⟨kb, 0, none⟩)), (6, .slice a l.length ca), (7, .int .i64 (Int.ofNat l.length)), (8, .int .i64 (Int.ofNat i))], []))
    (fun i w1 => i ≤ l.length ∧ anyOf (plain (l.take i)) z = false) 0 [] (by kernel_rfl) (by kernel_rfl) (by kernel_rfl) rfl (fun _ _ => ⟨Nat.zero_le _, rfl⟩) ?_
  rintro k w1 ⟨hk, hall⟩ hx1 back
  refine To.runF 5 [] (fun _ _ => by kernel_rfl) fun f2 g2 l2 => ?_
  by_cases hlt : k < l.length
  · obtain ⟨p, hp⟩ : ∃ p, l[k]? = some p := ⟨l[k], by simp [hlt]⟩
    obtain ⟨ad, pb, vb, ha0, hsp, hc0, hc1, hc2, hr⟩ := hin.at_ k p hp
    refine To.testT (decide (Int.ofNat k < Int.ofNat l.length)) (by kernel_rfl) (decide_eq_true (Int.ofNat_lt.2 hlt)) ?_
    refine To.runF 5 [] (fun _ _ => by kernel_rfl) fun f3 g3 l3 => ?_
    refine To.indexAt elM a ad l.length ca k (by kernel_rfl) ha0 hlt ?_
    refine To.loadAgg (t := 54) (by kernel_rfl) 3 (by kernel_rfl) (ad.add (k * 3)) [.string (bytesOf p.1.vc p.1.size p.2), .pointer (some ⟨pb, 0, none⟩), .int .i64 (Int.ofNat (headOf p.1.vc p.1.size p.2.length).length)] rfl (by kernel_rfl) (fun w2 hw2 j v hj => by
      rw [add_add hsp]
      rcases j with _ | _ | _ | j
      · cases hj; exact hw2.ext.cell hc0 (by simp)
      · cases hj; exact hw2.ext.cell hc1 (by simp)
      · cases hj; exact hw2.ext.cell hc2 (by simp)
      · cases hj) ?_
    have hr1 := hr.later hx1
    have hkb1 := hx1.at hkb (by simp)
    refine To.withAt kb (.cells ⟨[.slice b z.length cb]⟩ 39 (0, 0)) false hkb1 (nums_all (Q := fun n => n ≠ kb) (l := []) (by kernel_rfl) trivial) (by simp) ?_
    refine To.withAt pb (.cells ⟨rowCells p.1 vb⟩ 71 (0, 0)) false hr1.row (nums_all (Q := fun n => n ≠ pb) (l := [some kb]) (by kernel_rfl) ⟨(hr1.ne hkb1 (by decide) (by decide)).1, trivial⟩) (by simp) ?_
    refine To.runF 38 [2, 2, 2, 1, 0, 0, 0, 2, 2, 1] (fun _ _ => by kernel_rfl) fun f4 g4 l4 => ?_
    refine To.callN 29 #[.slice b z.length cb, .int .i64 p.1.code] (by kernel_rfl) (fun _ => by kernel_rfl) (fun w2 hw2 => implHas z p.1.code b cb w2 (hz.later hw2.ext) hlz) (fun w2 v2 w3 hw2 hx2 hv2 hnew2 hwi2 => ?_)
    subst hv2
    refine To.runF 1 [] (fun _ _ => by kernel_rfl) fun f5 g5 l5 => ?_
    refine To.test (decide (p.1.code ∈ z)) (by kernel_rfl) (fun h2 => ?_) (fun h2 => ?_)
    · refine To.runF 4 [] (fun _ _ => by kernel_rfl) fun f6 g6 l6 => ?_
      exact To.ret [] (.bool true) (by kernel_rfl) (by kernel_rfl) fun w4 hw4 => ⟨_, rfl, hw4.ext, by
        congr 1
        exact (List.any_eq_true.2 ⟨(p.1.code, p.2), List.mem_map.2 ⟨p, List.mem_of_getElem? hp, rfl⟩, h2⟩).symm⟩
    refine To.runF 6 [] (fun _ _ => by kernel_rfl) fun f6 g6 l6 => ?_
    refine To.slotE 8 (.int .i64 (IntKind.i64.wrap (Int.ofNat k + 1))) (.int .i64 (Int.ofNat (k + 1))) (by kernel_rfl) (by rw [wrap_succ k (by omega)]) ?_
    exact back _ _ (k + 1) [] (by omega) ⟨by kernel_rfl, by kernel_rfl, by kernel_rfl, by kernel_rfl, by kernel_rfl, rfl⟩ (fun w7 hw7 => ⟨hlt, by rw [anyOf_take hp, hall, h2]; rfl⟩)
  · have hk1 : k = l.length := by omega
    subst hk1
    refine To.testF (decide (Int.ofNat l.length < Int.ofNat l.length)) (by kernel_rfl) (by simp) ?_
    refine To.runF 5 [] (fun _ _ => by kernel_rfl) fun f3 g3 l3 => ?_
    exact To.ret [] (.bool false) (by kernel_rfl) (by kernel_rfl) fun w4 hw4 => ⟨_, rfl, hw4.ext, by
      rw [List.take_length] at hall
      rw [hall]⟩
end Go.Proofs.YtegcplghgnafjaaGreatDoor
/- The addresses that all filters keep. Conditions: as each says. -/
namespace Go.Proofs.YtegcplghgnafjaaGreatDoor
open Go Go.SX
set_option maxHeartbeats 8000000
set_option maxRecDepth 100000
/-- A filter made of a list of codes: what was captured lies in a block of its own, as it lay in this world. -/
def FilterV (w : World) (z : List Int) (v : Value) : Prop :=
  ∃ kb b cap, v = .func (.func 28) #[] #[.pointer (some ⟨kb, 0, none⟩)] ∧ w.heap[kb]? = some (.cells ⟨[.slice b z.length cap]⟩ 39 (0, 0)) ∧ IntsIn w b z
/-- A slice holds these filters. -/
structure FsIn (w : World) (a : Option Addr) (K : List (List Int)) : Prop where
  at_ : ∀ (j : Nat) (z : List Int), K[j]? = some z → ∃ ad v, a = some ad ∧ ad.spot = none ∧ w.cell? (ad.add (j * 1)) = some v ∧ FilterV w z v
theorem elF : Elem Tryz.prog 51 57 1 8 := Elem.of (z := .nilFunc) (by kernel_rfl) (by kernel_rfl) rfl
theorem uFn : Tryz.prog.underlying 57 = some (.func #[47] #[4] false) := by kernel_rfl
def MaV (w : World) (y : Ma) (v : Value) : Prop := ∃ b cap, v = .slice b y.length cap ∧ MIn w b y
theorem row_masIn {w0 w : World} {ty : TypeId} {lo g c : Nat} {rest vs : List Value} {L : List Ma} (h : Row1 (fun _ => MaV w0) ty lo w g c rest vs L) (hx : Ext [] w0 w) : MasIn w (some ⟨g, 0, none⟩) L :=
  ⟨fun j x hj => by
    obtain ⟨v, h1, h2, b, cap, rfl, h3⟩ := h.get hj
    exact ⟨_, b, cap, rfl, rfl, h.cell h2, h3.later hx⟩⟩
def keptMa (K : List (List Int)) (y : Ma) : Bool := keptBy K (plain y)
theorem filterAddrs (L : List Ma) (K : List (List Int)) (a b : Option Addr) (cap cb : Nat) (w : World) (hin : MasIn w a L) (hK : FsIn w b K) (hlen : L.length ≤ 1000000000) (hlK : K.length ≤ 1152921504606846976) (hs : ∀ x ∈ L, x.length ≤ 1000000000) (ht : ∀ c ∈ K, c.length ≤ 1152921504606846976) :
    Calls Tryz.prog 31 #[.slice a L.length cap, .slice b K.length cb] w (fun e w1 => ∃ v, e = .returned v ∧ Ext [] w w1 ∧ ∃ a' c', v = .slice a' (L.filter (keptMa K)).length c' ∧ MasIn w1 a' (L.filter (keptMa K))) := by
  refine calls_of0 (args := [.slice a L.length cap, .slice b K.length cb]) Tryz.func31 rfl rfl rfl ?_
  refine To.runF 9 [] (fun _ _ => by kernel_rfl) fun f1 g1 l1 => ?_
  refine To.makeRow elMs L.length (by kernel_rfl) (by omega) (by simp only [maxLen]; omega) ?_
  intro g0 rest0 hr0 hg0
  refine To.runF 12 [] (fun _ _ => by kernel_rfl) fun f2 g2 l2 => ?_
  refine To.loop (fun i : Nat × Nat × Nat × List Value × List Value => L.length - i.1) (fun i => ([(1, .slice b K.length cb), (5, .slice (some ⟨i.2.1, 0, none⟩) ((L.take i.1).filter (keptMa K)).length i.2.2.1), (13, .slice a L.length cap), (14, .int .i64 (Int.ofNat L.length)), (15, .int .i64 (Int.ofNat i.1))], [some ⟨i.2.1, .cells ⟨i.2.2.2.2 ++ i.2.2.2.1⟩ 47 (0, 0), true⟩]))
    (fun i w1 => i.1 ≤ L.length ∧ Row1 (fun _ => MaV w) 47 w.heap.size w1 i.2.1 i.2.2.1 i.2.2.2.1 i.2.2.2.2 ((L.take i.1).filter (keptMa K))) (0, g0, L.length, rest0, []) [0] (by kernel_rfl) (by kernel_rfl) (by kernel_rfl) rfl
    (fun w1 hw1 => ⟨Nat.zero_le _, ⟨hw1.blk (j := 0) (b := g0) (o := .cells ⟨[] ++ rest0⟩ 47 (0, 0)) (q := true) (by kernel_rfl), rfl, by simpa using hr0, by simp, by simp only [maxLen]; omega, hg0, fun j v x hj => by cases hj⟩⟩) ?_
  rintro ⟨k, g, c, rest, vs⟩ w1 ⟨hk, hinv⟩ hx1 back
  have hk : k ≤ L.length := hk
  have hrow : Row1 (fun _ => MaV w) 47 w.heap.size w1 g c rest vs ((L.take k).filter (keptMa K)) := hinv
  have hul : ((L.take k).filter (keptMa K)).length ≤ k := by have := List.length_filter_le (keptMa K) (L.take k); rw [List.length_take] at this; omega
  refine To.runF 5 [] (fun _ _ => by kernel_rfl) fun f3 g3 l3 => ?_
  by_cases hlt : k < L.length
  · obtain ⟨y, hp⟩ : ∃ y, L[k]? = some y := ⟨L[k], by simp [hlt]⟩
    obtain ⟨ad, b0, c0, ha, hsp, hc0, hc⟩ := hin.at_ k y hp
    have hst : (L.take (k + 1)).filter (keptMa K) = (L.take k).filter (keptMa K) ++ (if keptMa K y then [y] else []) := filter_take _ hp
    refine To.testT (decide (Int.ofNat k < Int.ofNat L.length)) (by kernel_rfl) (decide_eq_true (Int.ofNat_lt.2 hlt)) ?_
    refine To.runF 5 [] (fun _ _ => by kernel_rfl) fun f4 g4 l4 => ?_
    refine To.indexAt elMs a ad L.length cap k (by kernel_rfl) ha hlt ?_
    refine To.loadOne uMa rfl (ad.add (k * 1)) (.slice b0 y.length c0) (by kernel_rfl) (fun w2 hw2 => hw2.ext.cell hc0 (by simp)) ?_
    refine To.runF 10 [] (fun _ _ => by kernel_rfl) fun f5 g5 l5 => ?_
    refine To.loop (fun m : Nat => K.length - m) (fun m => ([(1, .slice b K.length cb), (5, (.slice (some ⟨g, 0, none⟩) ((L.take k).filter (keptMa K)).length c)), (7, .slice b0 y.length c0), (13, .slice a L.length cap), (14, .int .i64 (Int.ofNat L.length)), (15, .int .i64 (Int.ofNat k)), (19, .slice b K.length cb), (20, .int .i64 (Int.ofNat K.length)), (21, .int .i64 (Int.ofNat m))], [some ⟨g, .cells ⟨vs ++ rest⟩ 47 (0, 0), true⟩]))
      (fun m _ => m ≤ K.length ∧ (K.take m).all (anyOf (plain y)) = true) 0 [0] (by kernel_rfl) (by kernel_rfl) (by kernel_rfl) rfl (fun _ _ => ⟨Nat.zero_le _, rfl⟩) ?_
    rintro m w2 ⟨hm, hallm⟩ hx2 back2
    refine To.runF 5 [] (fun _ _ => by kernel_rfl) fun f6 g6 l6 => ?_
    by_cases hmt : m < K.length
    · obtain ⟨z, hz⟩ : ∃ z, K[m]? = some z := ⟨K[m], by simp [hmt]⟩
      obtain ⟨bd, fv, hbb, hbs, hd0, kb, b1, c1, rfl, hkb, hzi⟩ := hK.at_ m z hz
      refine To.testT (decide (Int.ofNat m < Int.ofNat K.length)) (by kernel_rfl) (decide_eq_true (Int.ofNat_lt.2 hmt)) ?_
      refine To.runF 5 [] (fun _ _ => by kernel_rfl) fun f7 g7 l7 => ?_
      refine To.indexAt elF b bd K.length cb m (by kernel_rfl) hbb hmt ?_
      refine To.loadOne uFn rfl (bd.add (m * 1)) (.func (.func 28) #[] #[.pointer (some ⟨kb, 0, none⟩)]) (by kernel_rfl) (fun w3 hw3 => hw3.ext.cell hd0 (by simp)) ?_
      refine To.runF 6 [] (fun _ _ => by kernel_rfl) fun f8 g8 l8 => ?_
      refine To.callN 28 #[.slice b0 y.length c0, .pointer (some ⟨kb, 0, none⟩)] (by kernel_rfl) (fun _ => by kernel_rfl) (fun w3 hw3 => filter1 y z b0 b1 c0 c1 kb w3 (hc.later hw3.ext) ⟨fun j n hj => let ⟨ad', h1, h2, h3⟩ := hzi.at_ j n hj; ⟨ad', h1, h2, hw3.ext.cell h3 (by simp)⟩⟩ (hw3.ext.at hkb (by simp)) (hs y (List.mem_of_getElem? hp)) (ht z (List.mem_of_getElem? hz))) (fun w3 v3 w4 hw3 hx3 hv3 hnew3 hwi3 => ?_)
      subst hv3
      refine To.runF 2 [] (fun _ _ => by kernel_rfl) fun f9 g9 l9 => ?_
      refine To.test (!anyOf (plain y) z) (by kernel_rfl) (fun h2 => ?_) (fun h2 => ?_)
      · have h3 : anyOf (plain y) z = false := by simpa using h2
        have hno : keptMa K y = false := by
          unfold keptMa keptBy
          rw [Bool.eq_false_iff]
          intro hall
          rw [List.all_eq_true.1 hall z (List.mem_of_getElem? hz)] at h3
          cases h3
        have hst : (L.take (k + 1)).filter (keptMa K) = (L.take k).filter (keptMa K) := by rw [hst, hno]; simp
        refine To.runF 5 [] (fun _ _ => by kernel_rfl) fun f10 g10 l10 => ?_
        refine To.slotE 15 (.int .i64 (IntKind.i64.wrap (Int.ofNat k + 1))) (.int .i64 (Int.ofNat (k + 1))) (by kernel_rfl) (by rw [wrap_succ k (by omega)]) ?_
        refine To.slotE 5 (.slice (some ⟨g, 0, none⟩) ((L.take k).filter (keptMa K)).length c) (.slice (some ⟨g, 0, none⟩) ((L.take (k + 1)).filter (keptMa K)).length c) (by kernel_rfl) (by rw [hst]) ?_
        refine back _ _ (k + 1, g, c, rest, vs) [0] (by simp only; omega) ⟨by kernel_rfl, by kernel_rfl, by kernel_rfl, by kernel_rfl, by kernel_rfl, rfl⟩ (fun w7 hw7 => ⟨hlt, ?_⟩)
        show Row1 _ _ _ _ _ _ _ _ ((L.take (k + 1)).filter (keptMa K))
        rw [hst]
        exact hrow.kept ((hw7.blk (j := 0) (b := g) (o := .cells ⟨vs ++ rest⟩ 47 (0, 0)) (q := true) (by kernel_rfl)).trans hrow.blk.symm) (fun _ _ _ h => h)
      · have h3 : anyOf (plain y) z = true := by simpa using h2
        refine To.runF 6 [] (fun _ _ => by kernel_rfl) fun f10 g10 l10 => ?_
        refine To.slotE 21 (.int .i64 (IntKind.i64.wrap (Int.ofNat m + 1))) (.int .i64 (Int.ofNat (m + 1))) (by kernel_rfl) (by rw [wrap_succ m (by omega)]) ?_
        exact back2 _ _ (m + 1) [0] (by omega) ⟨by kernel_rfl, by kernel_rfl, by kernel_rfl, by kernel_rfl, by kernel_rfl, rfl⟩ (fun w7 hw7 => ⟨hmt, by rw [all_take _ hz, hallm, h3]; rfl⟩)
    · have hm1 : m = K.length := by omega
      subst hm1
      rw [List.take_length] at hallm
      have hst : (L.take (k + 1)).filter (keptMa K) = (L.take k).filter (keptMa K) ++ [y] := by rw [hst, if_pos (show keptMa K y = true from hallm)]
      refine To.testF (decide (Int.ofNat K.length < Int.ofNat K.length)) (by kernel_rfl) (by simp) ?_
      refine To.runF 5 [] (fun _ _ => by kernel_rfl) fun f7 g7 l7 => ?_
      refine To.appendE (ty := 44) elMs 0 g ((L.take k).filter (keptMa K)).length c vs rest (some ⟨f7 0, 0, none⟩) 1 1 [.slice b0 y.length c0] (((L.take k).filter (keptMa K)).length + 1) (vs ++ [.slice b0 y.length c0])
        (by kernel_rfl) (by kernel_rfl) rfl rfl (by rw [hrow.len, Nat.mul_one]) hrow.room hrow.le hrow.cap rfl
        (fun w hw j u hj => ⟨_, rfl, hw.cellAt0 (j := 1) (b := f7 0) (l := [.slice b0 y.length c0]) (e := 47) (f := (0, 0)) (q := true) (by kernel_rfl) hj⟩) (fun h => by cases h)
        (by intro u hu; simp only [List.mem_cons, List.not_mem_nil, or_false] at hu; rw [hu]; rfl) (by simp only [maxLen]; omega) (by omega) (held_nil (by kernel_rfl)) ?_
      intro w5 w6 g' c' r' hw5 hg5 ho5 hl5 hc5 hm5
      refine To.runF 7 [] (fun _ _ => by kernel_rfl) fun f8 g8 l8 => ?_
      refine To.slotE 15 (.int .i64 (IntKind.i64.wrap (Int.ofNat k + 1))) (.int .i64 (Int.ofNat (k + 1))) (by kernel_rfl) (by rw [wrap_succ k (by omega)]) ?_
      refine To.slotE 5 (.slice (some ⟨g', 0, none⟩) (((L.take k).filter (keptMa K)).length + 1) c') (.slice (some ⟨g', 0, none⟩) ((L.take (k + 1)).filter (keptMa K)).length c') (by kernel_rfl) (by rw [hst, List.length_append]; rfl) ?_
      have q0 := hrow.lo
      have q2 : w.heap.size ≤ w2.heap.size := hx2.size
      have q6 : w2.heap.size ≤ w5.heap.size := hw5.fr.size
      have hlo : w.heap.size ≤ g' := by rcases ho5 with h | h; rw [h]; exact q0; rw [h]; exact Nat.le_trans q2 q6
      refine back _ _ (k + 1, g', c', r', vs ++ [.slice b0 y.length c0]) [2] (by simp only; omega) ⟨by kernel_rfl, by kernel_rfl, by kernel_rfl, by kernel_rfl, by kernel_rfl, rfl⟩ (fun w7 hw7 => ⟨hlt, ?_⟩)
      show Row1 _ _ _ _ _ _ _ _ ((L.take (k + 1)).filter (keptMa K))
      rw [hst]
      exact hrow.snoc y _ (hw7.blk (j := 2) (b := g') (o := .cells ⟨vs ++ [.slice b0 y.length c0] ++ r'⟩ 47 (0, 0)) (q := true) (by kernel_rfl)) hl5 hc5 hm5 hlo ⟨b0, c0, rfl, hc⟩ (fun _ _ _ h => h)
  · have hk1 : k = L.length := by omega
    subst hk1
    refine To.testF (decide (Int.ofNat L.length < Int.ofNat L.length)) (by kernel_rfl) (by simp) ?_
    refine To.runF 6 [] (fun _ _ => by kernel_rfl) fun f4 g4 l4 => ?_
    exact To.ret [0] (.slice (some ⟨g, 0, none⟩) ((L.take L.length).filter (keptMa K)).length c) (by kernel_rfl) (by kernel_rfl) fun w4 hw4 => by
      have h1 := hrow.kept ((hw4.blk (j := 0) (b := g) (o := .cells ⟨vs ++ rest⟩ 47 (0, 0)) (q := true) (by kernel_rfl)).trans hrow.blk.symm) (fun _ _ _ h => h)
      rw [List.take_length] at h1 ⊢
      exact ⟨_, rfl, hw4.ext, some ⟨g, 0, none⟩, c, rfl, row_masIn h1 hw4.ext⟩
end Go.Proofs.YtegcplghgnafjaaGreatDoor
/- impl.MaFilter: filters of lists of codes, and what they keep. Conditions: as each says. -/
namespace Go.Proofs.YtegcplghgnafjaaGreatDoor
open Go Go.SX
set_option maxHeartbeats 8000000
set_option maxRecDepth 100000
def FilterN (lo : Nat) (w0 w : World) (z : List Int) (v : Value) : Prop :=
  ∃ kb b cap, v = .func (.func 28) #[] #[.pointer (some ⟨kb, 0, none⟩)] ∧ w.heap[kb]? = some (.cells ⟨[.slice b z.length cap]⟩ 39 (0, 0)) ∧ lo ≤ kb ∧ IntsIn w0 b z
theorem FilterN.kept {Q : Nat → Prop} {lo : Nat} {w0 w w' : World} {z : List Int} {v : Value} (h : FilterN lo w0 w z v) (hk : Kept Q w w') (hq : ∀ b c z, lo ≤ b → w.heap[b]? = some (.cells c 39 z) → Q b) : FilterN lo w0 w' z v := by
  obtain ⟨kb, b, cap, h1, h2, h3, h4⟩ := h
  exact ⟨kb, b, cap, h1, hk _ _ (hq _ _ _ h3 h2) h2, h3, h4⟩
theorem row_fsIn {w0 w : World} {ty : TypeId} {lo g c : Nat} {rest vs : List Value} {K : List (List Int)} (h : Row1 (fun w' z v => FilterN lo w0 w' z v) ty lo w g c rest vs K) (hx : Ext [] w0 w) : FsIn w (some ⟨g, 0, none⟩) K :=
  ⟨fun j z hj => by
    obtain ⟨v, h1, h2, kb, b, cap, h3, h4, _, h5⟩ := h.get hj
    exact ⟨_, v, rfl, rfl, h.cell h2, kb, b, cap, h3, h4, h5.later hx⟩⟩
theorem FsIn.later {w w' : World} {a : Option Addr} {K : List (List Int)} (h : FsIn w a K) (hx : Ext [] w w') : FsIn w' a K :=
  ⟨fun j z hj => let ⟨ad, v, h1, h2, h3, kb, b, cap, h4, h5, h6⟩ := h.at_ j z hj; ⟨ad, v, h1, h2, hx.cell h3 (by simp), kb, b, cap, h4, hx.at h5 (by simp), h6.later hx⟩⟩
/-- Where one block is known, and as it was, nothing was turned. -/
theorem frx1 {hp : List (Option Blk)} {w w' : World} {g : Nat} {o : Obj} (h : Fr hp w w') (hn : nums hp = [some g]) (h1 : w.heap[g]? = some o) (h2 : w'.heap[g]? = some o) : Ext [] w w' :=
  ⟨h.os, h.tape, h.output, h.size, fun k hk _ => by
    by_cases hkg : k = g
    · subst hkg; rw [h1, h2]
    · exact h.block k hk (fun j b hj _ => nums_all (Q := fun n => n ≠ k) hn ⟨fun e => hkg e.symm, trivial⟩ j b hj)⟩
theorem implFilter (hu : UvTo) (L : List Ma) (K : List (List Int)) (a b : Option Addr) (cap cb : Nat) (w : World) (hin : AddrsIn w a (L.map plain)) (hK : CodesIn w b K) (hf : ∀ l ∈ L, ∀ p ∈ l, Fine p) (hlen : L.length ≤ 1000000000) (hlK : K.length ≤ 1000000000) (hs : ∀ l ∈ L, l.length ≤ 1000000000) (ht : ∀ c ∈ K, c.length ≤ 1152921504606846976) :
    Calls Tryz.prog 15 #[.slice a L.length cap, .slice b K.length cb] w (fun e w1 => ∃ v, e = .returned v ∧ Ext [] w w1 ∧ ∃ a' c', v = .slice a' (L.filter (keptMa K)).length c' ∧ AddrsIn w1 a' ((L.filter (keptMa K)).map plain)) := by
  refine calls_of0 (args := [.slice a L.length cap, .slice b K.length cb]) Tryz.func15 rfl rfl rfl ?_
  refine To.runF 16 [] (fun _ _ => by kernel_rfl) fun f1 g1 l1 => ?_
  refine To.loop (fun i : OutIx => K.length - i.1) (fun i => ([(0, .slice a L.length cap), (5, outV (K.take i.1).length i.2), (8, .slice b K.length cb), (9, .int .i64 (Int.ofNat K.length)), (10, .int .i64 (Int.ofNat i.1))], outB 57 i.2))
    (fun i w1 => i.1 ≤ K.length ∧ OutInv (fun w' z v => FilterN w.heap.size w w' z v) 57 w.heap.size (K.take i.1) i.2 w1) (0, none) [] (by kernel_rfl) (by kernel_rfl) (by kernel_rfl) rfl (fun _ _ => ⟨Nat.zero_le _, rfl⟩) ?_
  rintro ⟨k, _ | ⟨g, c, rest, vs⟩⟩ w1 ⟨hk, hinv⟩ hx1 back
  · have hk : k ≤ K.length := hk
    have hnil : K.take k = [] := hinv
    refine To.runF 5 [] (fun _ _ => by kernel_rfl) fun f2 g2 l2 => ?_
    by_cases hlt : k < K.length
    · obtain ⟨y, hp⟩ : ∃ y, K[k]? = some y := ⟨K[k], by simp [hlt]⟩
      have hst : K.take (k + 1) = K.take k ++ [y] := by rw [List.take_add_one, hp]; rfl
      obtain ⟨ad, b0, c0, ha, hsp, hc0, hc⟩ := hK.at_ k y hp
      refine To.testT (decide (Int.ofNat k < Int.ofNat K.length)) (by kernel_rfl) (decide_eq_true (Int.ofNat_lt.2 hlt)) ?_
      refine To.runF 5 [] (fun _ _ => by kernel_rfl) fun f3 g3 l3 => ?_
      refine To.indexAt elL b ad K.length cb k (by kernel_rfl) ha hlt ?_
      refine To.loadOne uInts rfl (ad.add (k * 1)) (.slice b0 y.length c0) (by kernel_rfl) (fun w2 hw2 => hw2.ext.cell hc0 (by simp)) ?_
      refine To.runF 7 [0] (fun _ _ => by kernel_rfl) fun f4 g4 l4 => ?_
      have q3 : w.heap.size ≤ w1.heap.size := hx1.size
      have q4 : w1.heap.size ≤ f4 0 := l4 0
      have q5 : w1.heap.size ≤ f4 1 := l4 1
      refine To.append0 (ty := 51) elF ⟨f4 1, 0, none⟩ 1 1 [.func (.func 28) #[] #[.pointer (some ⟨f4 0, 0, none⟩)]] (by kernel_rfl) rfl
        (fun w hw j u hj => hw.cellAt0 (j := 1) (b := f4 1) (l := [.func (.func 28) #[] #[.pointer (some ⟨f4 0, 0, none⟩)]]) (e := 57) (f := (0, 0)) (q := true) (by kernel_rfl) hj) (by decide) (by decide) (by decide) ?_
      intro g' c' r' hl' hc' hm' hg'
      refine To.runF 7 [] (fun _ _ => by kernel_rfl) fun f5 g5 l5 => ?_
      refine To.slotE 10 (.int .i64 (IntKind.i64.wrap (Int.ofNat k + 1))) (.int .i64 (Int.ofNat (k + 1))) (by kernel_rfl) (by rw [wrap_succ k (by omega)]) ?_
      have hst : K.take (k + 1) = [y] := by rw [hst, hnil]; rfl
      refine To.slotE 5 (.slice (some ⟨g', 0, none⟩) 1 c') (.slice (some ⟨g', 0, none⟩) (K.take (k + 1)).length c') (by kernel_rfl) (by rw [hst]; rfl) ?_
      have q6 : w1.heap.size ≤ g' := hg'
      refine back _ _ (k + 1, some (g', c', r', [.func (.func 28) #[] #[.pointer (some ⟨f4 0, 0, none⟩)]])) [2] (by simp only; omega) ⟨by kernel_rfl, by kernel_rfl, by kernel_rfl, by kernel_rfl, by kernel_rfl, rfl⟩ (fun w7 hw7 => ⟨hlt, ?_⟩)
      show Row1 _ _ _ _ _ _ _ _ (K.take (k + 1))
      rw [hst]
      exact Row1.one y _ (hw7.blk (j := 2) (b := g') (o := .cells ⟨[.func (.func 28) #[] #[.pointer (some ⟨f4 0, 0, none⟩)]] ++ r'⟩ 57 (0, 0)) (q := true) (by kernel_rfl)) hl' hc' hm' (by omega)
        ⟨f4 0, b0, c0, rfl, hw7.blk (j := 0) (b := f4 0) (o := .cells ⟨[.slice b0 y.length c0]⟩ 39 (0, 0)) (q := true) (by kernel_rfl), by omega, hc⟩
    · have hk1 : k = K.length := by omega
      subst hk1
      refine To.testF (decide (Int.ofNat K.length < Int.ofNat K.length)) (by kernel_rfl) (by simp) ?_
      refine To.runF 4 [] (fun _ _ => by kernel_rfl) fun f3 g3 l3 => ?_
      refine To.callN 24 #[.slice a L.length cap] (by kernel_rfl) (fun _ => by kernel_rfl) (fun w2 hw2 => addresses hu L a cap w2 (hin.later hw2.ext) hf hlen (fun l hl => by have := hs l hl; omega)) (fun w2 v2 w3 hw2 hx2 hv2 hnew2 hwi2 => ?_)
      obtain ⟨a2, c2, rfl, hm2⟩ := hv2.min
      refine To.runF 1 [] (fun _ _ => by kernel_rfl) fun f4 g4 l4 => ?_
      have hK0 : K = [] := by rw [List.take_length] at hnil; exact hnil
      subst hK0
      refine To.callN 31 #[.slice a2 L.length c2, .slice none 0 0] (by kernel_rfl) (fun _ => by kernel_rfl) (fun w4 hw4 => filterAddrs L [] a2 none c2 0 w4 (hm2.later (frx hw4.fr (by kernel_rfl))) ⟨fun j z hj => by cases hj⟩ hlen (by simp) hs (fun _ h => by cases h)) (fun w4 v4 w5 hw4 hx4 hv4 hnew4 hwi4 => ?_)
      obtain ⟨a4, c4, rfl, hm4⟩ := hv4
      refine To.callN 26 #[.slice a4 (L.filter (keptMa [])).length c4] (by kernel_rfl) (fun _ => by kernel_rfl) (fun w6 hw6 => lists (L.filter (keptMa [])) a4 c4 w6 (hm4.later (frx hw6.fr (by kernel_rfl))) (Nat.le_trans (List.length_filter_le _ _) hlen) (fun l hl => hs l (List.mem_filter.1 hl).1)) (fun w6 v6 w7 hw6 hx6 hv6 hnew6 hwi6 => ?_)
      obtain ⟨a6, c6, rfl, hm6⟩ := hv6.min
      refine To.runF 2 [] (fun _ _ => by kernel_rfl) fun f5 g5 l5 => ?_
      exact To.ret [] (.slice a6 (L.filter (keptMa [])).length c6) (by kernel_rfl) (by kernel_rfl) fun w8 hw8 => ⟨_, rfl, hw8.ext, a6, c6, rfl, hm6.later (frx hw8.fr (by kernel_rfl))⟩
  · have hk : k ≤ K.length := hk
    have hrow : Row1 (fun w' z v => FilterN w.heap.size w w' z v) 57 w.heap.size w1 g c rest vs (K.take k) := hinv
    have hul : (K.take k).length ≤ 1000000000 := by rw [List.length_take]; omega
    refine To.runF 5 [] (fun _ _ => by kernel_rfl) fun f2 g2 l2 => ?_
    by_cases hlt : k < K.length
    · obtain ⟨y, hp⟩ : ∃ y, K[k]? = some y := ⟨K[k], by simp [hlt]⟩
      have hst : K.take (k + 1) = K.take k ++ [y] := by rw [List.take_add_one, hp]; rfl
      obtain ⟨ad, b0, c0, ha, hsp, hc0, hc⟩ := hK.at_ k y hp
      refine To.testT (decide (Int.ofNat k < Int.ofNat K.length)) (by kernel_rfl) (decide_eq_true (Int.ofNat_lt.2 hlt)) ?_
      refine To.runF 5 [] (fun _ _ => by kernel_rfl) fun f3 g3 l3 => ?_
      refine To.indexAt elL b ad K.length cb k (by kernel_rfl) ha hlt ?_
      refine To.loadOne uInts rfl (ad.add (k * 1)) (.slice b0 y.length c0) (by kernel_rfl) (fun w2 hw2 => hw2.ext.cell hc0 (by simp)) ?_
      refine To.runF 7 [1] (fun _ _ => by kernel_rfl) fun f4 g4 l4 => ?_
      have q3 : w.heap.size ≤ w1.heap.size := hx1.size
      have q4 : w1.heap.size ≤ f4 0 := l4 0
      have q5 : w1.heap.size ≤ f4 1 := l4 1
      refine To.appendE (ty := 51) elF 0 g (K.take k).length c vs rest (some ⟨f4 1, 0, none⟩) 1 1 [.func (.func 28) #[] #[.pointer (some ⟨f4 0, 0, none⟩)]] ((K.take k).length + 1) (vs ++ [.func (.func 28) #[] #[.pointer (some ⟨f4 0, 0, none⟩)]])
        (by kernel_rfl) (by kernel_rfl) rfl rfl (by rw [hrow.len, Nat.mul_one]) hrow.room hrow.le hrow.cap rfl
        (fun w hw j u hj => ⟨_, rfl, hw.cellAt0 (j := 2) (b := f4 1) (l := [.func (.func 28) #[] #[.pointer (some ⟨f4 0, 0, none⟩)]]) (e := 57) (f := (0, 0)) (q := true) (by kernel_rfl) hj⟩) (fun h => by cases h)
        (by intro u hu; simp only [List.mem_cons, List.not_mem_nil, or_false] at hu; rw [hu]; rfl) (by simp only [maxLen]; omega) (by omega) (held_nil (by kernel_rfl)) ?_
      intro w5 w6 g' c' r' hw5 hg5 ho5 hl5 hc5 hm5
      refine To.runF 7 [] (fun _ _ => by kernel_rfl) fun f5 g5 l5 => ?_
      refine To.slotE 10 (.int .i64 (IntKind.i64.wrap (Int.ofNat k + 1))) (.int .i64 (Int.ofNat (k + 1))) (by kernel_rfl) (by rw [wrap_succ k (by omega)]) ?_
      refine To.slotE 5 (.slice (some ⟨g', 0, none⟩) ((K.take k).length + 1) c') (.slice (some ⟨g', 0, none⟩) (K.take (k + 1)).length c') (by kernel_rfl) (by rw [hst, List.length_append]; rfl) ?_
      have q1 := hrow.lo
      have q6 : w1.heap.size ≤ w5.heap.size := hw5.fr.size
      have hlo : w.heap.size ≤ g' := by rcases ho5 with h | h; rw [h]; exact q1; rw [h]; exact Nat.le_trans q3 q6
      have hg7 : w5.heap.size ≤ g' ∨ g' = g := by rcases ho5 with h | h; exact .inr h; exact .inl (by omega)
      refine back _ _ (k + 1, some (g', c', r', vs ++ [.func (.func 28) #[] #[.pointer (some ⟨f4 0, 0, none⟩)]])) [3] (by simp only; omega) ⟨by kernel_rfl, by kernel_rfl, by kernel_rfl, by kernel_rfl, by kernel_rfl, rfl⟩ (fun w7 hw7 => ⟨hlt, ?_⟩)
      show Row1 _ _ _ _ _ _ _ _ (K.take (k + 1))
      rw [hst]
      have hkp : Kept (fun b => b ≠ g ∧ b < w1.heap.size) w1 w7 :=
        ((hw5.fr.kept (l := [some g, some (f4 0), some (f4 1)]) (by kernel_rfl) ⟨fun h => h.1 rfl, fun h => by have := h.2; omega, fun h => by have := h.2; omega, trivial⟩).trans
          (grown_kept hg5 (fun b hb h => by cases hb; exact h.1 rfl))).trans
          (hw7.fr.kept (l := [none, some (f4 0), some (f4 1), some g']) (by kernel_rfl) ⟨fun h => by have := h.2; omega, fun h => by have := h.2; omega, fun h => by have := h.1; have := h.2; omega, trivial⟩)
      exact hrow.snoc y _ (hw7.blk (j := 3) (b := g') (o := .cells ⟨vs ++ [.func (.func 28) #[] #[.pointer (some ⟨f4 0, 0, none⟩)]] ++ r'⟩ 57 (0, 0)) (q := true) (by kernel_rfl)) hl5 hc5 hm5 hlo
        ⟨f4 0, b0, c0, rfl, hw7.blk (j := 1) (b := f4 0) (o := .cells ⟨[.slice b0 y.length c0]⟩ 39 (0, 0)) (q := true) (by kernel_rfl), by omega, hc⟩
        (fun z u _ hI => hI.kept hkp (fun b c z hlo hb => ⟨ne_of_type hrow.blk hb (by decide), at_lt hb⟩))
    · have hk1 : k = K.length := by omega
      subst hk1
      refine To.testF (decide (Int.ofNat K.length < Int.ofNat K.length)) (by kernel_rfl) (by simp) ?_
      refine To.runF 4 [] (fun _ _ => by kernel_rfl) fun f3 g3 l3 => ?_
      refine To.callN 24 #[.slice a L.length cap] (by kernel_rfl) (fun _ => by kernel_rfl) (fun w2 hw2 => addresses hu L a cap w2 (hin.later hw2.ext) hf hlen (fun l hl => by have := hs l hl; omega)) (fun w2 v2 w3 hw2 hx2 hv2 hnew2 hwi2 => ?_)
      obtain ⟨a2, c2, rfl, hm2⟩ := hv2.min
      refine To.runF 1 [] (fun _ _ => by kernel_rfl) fun f4 g4 l4 => ?_
      rw [List.take_length] at hrow
      refine To.slotE 21 (.slice (some ⟨g, 0, none⟩) (K.take K.length).length c) (.slice (some ⟨g, 0, none⟩) K.length c) (by kernel_rfl) (by rw [List.take_length]) ?_
      have hb2 := hw2.blk (j := 0) (b := g) (o := .cells ⟨vs ++ rest⟩ 57 (0, 0)) (q := true) (by kernel_rfl)
      have hx12 : Ext [] w1 w2 := frx1 hw2.fr (by kernel_rfl) hrow.blk hb2
      have hb3 := hx2.at hb2 (by simp)
      refine To.callN 31 #[.slice a2 L.length c2, .slice (some ⟨g, 0, none⟩) K.length c] (by kernel_rfl) (fun _ => by kernel_rfl) (fun w4 hw4 => 
        have hb4 := hw4.blk (j := 0) (b := g) (o := .cells ⟨vs ++ rest⟩ 57 (0, 0)) (q := true) (by kernel_rfl)
        have hx34 : Ext [] w3 w4 := frx1 hw4.fr (by kernel_rfl) hb3 hb4
        filterAddrs L K a2 (some ⟨g, 0, none⟩) c2 c w4 (hm2.later hx34)
          (row_fsIn (hrow.kept (hb4.trans hrow.blk.symm) (fun z u _ hI => hI.kept (Q := fun _ => True) ((hx12.kept.trans hx2.kept).trans hx34.kept) (fun _ _ _ _ _ => trivial))) hw4.ext) hlen (by omega) hs ht) (fun w4 v4 w5 hw4 hx4 hv4 hnew4 hwi4 => ?_)
      obtain ⟨a4, c4, rfl, hm4⟩ := hv4
      have hb5 := hx4.at (hw4.blk (j := 0) (b := g) (o := .cells ⟨vs ++ rest⟩ 57 (0, 0)) (q := true) (by kernel_rfl)) (by simp)
      refine To.callN 26 #[.slice a4 (L.filter (keptMa K)).length c4] (by kernel_rfl) (fun _ => by kernel_rfl) (fun w6 hw6 => lists (L.filter (keptMa K)) a4 c4 w6 (hm4.later (frx1 hw6.fr (by kernel_rfl) hb5 (hw6.blk (j := 0) (b := g) (o := .cells ⟨vs ++ rest⟩ 57 (0, 0)) (q := true) (by kernel_rfl)))) (Nat.le_trans (List.length_filter_le _ _) hlen) (fun l hl => hs l (List.mem_filter.1 hl).1)) (fun w6 v6 w7 hw6 hx6 hv6 hnew6 hwi6 => ?_)
      obtain ⟨a6, c6, rfl, hm6⟩ := hv6.min
      refine To.runF 2 [] (fun _ _ => by kernel_rfl) fun f5 g5 l5 => ?_
      exact To.ret [] (.slice a6 (L.filter (keptMa K)).length c6) (by kernel_rfl) (by kernel_rfl) fun w8 hw8 => ⟨_, rfl, hw8.ext, a6, c6, rfl, hm6.later (frx1 hw8.fr (by kernel_rfl) (hx6.at (hw6.blk (j := 0) (b := g) (o := .cells ⟨vs ++ rest⟩ 57 (0, 0)) (q := true) (by kernel_rfl)) (by simp)) (hw8.blk (j := 0) (b := g) (o := .cells ⟨vs ++ rest⟩ 57 (0, 0)) (q := true) (by kernel_rfl)))⟩
end Go.Proofs.YtegcplghgnafjaaGreatDoor
