/- The text of a simple address is parsed to its bytes. Conditions: a simple address. -/
import Derived.Test.YtgodhbgnhapemaaGreatDoorJMulti
set_option linter.unusedVariables false
set_option linter.unusedSimpArgs false
/- The text of a simple address is parsed to its bytes. Conditions: as each says. -/
namespace Go.Proofs.YtgodhbgnhapemaaGreatDoor
open Go Go.SX Go.IpText
set_option maxHeartbeats 8000000
set_option maxRecDepth 100000
/-- The place of what is behind the first element. -/
def nextO (o c : Nat) : Nat := if c = 1 then o else o + 1
theorem onA1 (b o c : Nat) : onA (some ⟨b, o, none⟩) 1 1 c = some ⟨b, nextO o c, none⟩ := by
  unfold onA nextO
  by_cases h : c = 1
  · rw [if_pos h, if_pos h]
  · rw [if_neg h, if_neg h]; rfl
/-- From the place o on these cells hold these texts. -/
def TextsAt (cells : List Value) (o : Nat) (l : List (List UInt8)) : Prop := ∀ (j : Nat) (p : List UInt8), l[j]? = some p → cells[o + j]? = some (.string ⟨⟨p⟩⟩)
theorem TextsAt.tail {cells : List Value} {o c : Nat} {p : List UInt8} {l : List (List UInt8)} (h : TextsAt cells o (p :: l)) (hc : (p :: l).length ≤ c) : TextsAt cells (nextO o c) l := fun j q hj => by
  unfold nextO
  by_cases h1 : c = 1
  · subst h1
    have : l = [] := List.eq_nil_of_length_eq_zero (by simp only [List.length_cons] at hc; omega)
    rw [this] at hj; simp at hj
  · rw [if_neg h1]
    have := h (j + 1) q (by simpa using hj)
    rw [show o + 1 + j = o + (j + 1) by omega]; exact this
theorem TextsAt.head {cells : List Value} {o : Nat} {p : List UInt8} {l : List (List UInt8)} (h : TextsAt cells o (p :: l)) : cells[o]? = some (.string ⟨⟨p⟩⟩) := h 0 p rfl
/-- What parsing gives. -/
def StPost (l : Comps) (w : World) (e : Ending) (w1 : World) : Prop :=
  ∃ v, e = .returned v ∧ Ext [] w w1 ∧ ∃ g c rest, v = .tuple #[.slice (some ⟨g, 0, none⟩) (bytesA l).length c, .nilIface] ∧ w1.heap[g]? = some (.cells ⟨ucells (bytesA l) ++ rest⟩ 5 (0, 0)) ∧ (bytesA l).length ≤ c ∧ w.heap.size ≤ g
theorem pieces_head (p : Int × List UInt8) (l : Comps) : ∃ more, allPieces (p :: l) = nameOf p.1 :: more := by
  rw [allPieces_cons]; unfold piecesOf
  split
  · exact ⟨_, rfl⟩
  · split
    · exact ⟨_, rfl⟩
    · exact ⟨_, rfl⟩
theorem numO_some {ob : Option Blk} {m : Nat} (h : numO ob = some m) : ∃ x, ob = some x ∧ x.b = m := by
  cases ob with
  | none => cases h
  | some x => exact ⟨x, rfl, by simpa [numO] using h⟩
theorem joinAt (g o c : Nat) (l : List (List UInt8)) (cells : List Value) (z : Nat × Nat) (w : World) (hg : w.heap[g]? = some (.cells ⟨cells⟩ 9 z)) (ht : TextsAt cells o l) (hc : l.length ≤ c) (hl1 : l.length ≤ 140737488355328) (hlen : (Lib.join l [47]).length ≤ 140737488355328) :
    Calls Tryz.prog 36 #[.slice (some ⟨g, o, none⟩) l.length c, .string slash] w (fun e w1 => ∃ v, e = .returned v ∧ Ext [] w w1 ∧ v = .string ⟨⟨Lib.join l [47]⟩⟩) := by
  have hm : (l.map fun p => (⟨⟨p⟩⟩ : ByteArray)).map (·.data.toList) = l := by rw [List.map_map]; exact List.map_id l
  have h := Any.strings_Join Tryz.lays156 Tryz.extra g o c (l.map fun p => (⟨⟨p⟩⟩ : ByteArray)) slash w (fun j x hj => by
    rw [List.getElem?_map] at hj
    cases hp : l[j]? with
    | none => rw [hp] at hj; cases hj
    | some p =>
      rw [hp] at hj
      simp only [Option.map_some, Option.some.injEq] at hj
      subst hj
      rw [cell_of_row w g (o + j) _ _ z hg]
      simpa using ht j p hp) (at_lt hg) (by simpa using hl1) (by simpa using hc) (by rw [hm]; exact hlen)
  rw [hm, List.length_map] at h
  exact h.mono fun e w1 ⟨h1, h2⟩ => ⟨_, h1, ⟨h2.os, h2.tape, h2.output, h2.size, fun k hk _ => h2.block k hk⟩, rfl⟩
theorem cutS_len (s : List UInt8) : (cutS s).length ≤ s.length + 1 := by
  induction s with
  | nil => simp [cutS]
  | cons x r ih =>
    rw [cutS]
    split
    · simp only [List.length_cons]; omega
    · cases hc : cutS r with
      | nil => simp
      | cons q qs => rw [hc] at ih; simp only [List.length_cons] at ih ⊢; omega
theorem BytesIn.lt {w : World} {ad : Addr} {l : List UInt8} (h : BytesIn w (some ad) l) (hl : 1 ≤ l.length) : ad.block < w.heap.size := by
  obtain ⟨ad', h1, h2⟩ := h.one 0 hl
  cases h1
  obtain ⟨c, e, z, h3, _, _⟩ := block_of_cell h2
  have := at_lt h3
  rw [add_block] at this; exact this
theorem bytesA_ne {l : Comps} (h : l ≠ []) : bytesA l ≠ [] := fun e => by
  match l, h with
  | q :: k, _ =>
    rw [bytesA_cons] at e
    have h1 := (List.append_eq_nil_iff.1 e).1
    unfold compBytes at h1
    have h2 := (List.append_eq_nil_iff.1 h1).1
    have : 0 < (Lib.uvarint q.1.toNat).length := by rw [Lib.uvarint]; split <;> simp
    rw [h2] at this; simp at this
theorem row_some {oa : Option Addr} {on oc : Nat} {oob : Option Blk} {l : List UInt8} (hO : ORow 1 5 oa on oc oob (ones l)) (hl : l ≠ []) :
    ∃ g rst, oa = some ⟨g, 0, none⟩ ∧ oob = some ⟨g, .cells ⟨ucells l ++ rst⟩ 5 (0, 0), true⟩ ∧ on = l.length ∧ on ≤ oc := by
  rcases hO.is with ⟨_, _, _, _, h1⟩ | ⟨g, rst, h1, h2, h3, h4, h5, h6, h7⟩
  · exact absurd (by simpa [ones] using h1) hl
  · rw [ones_len] at h3
    rw [ones_flat] at h2
    exact ⟨g, rst, h1, h2, h3.symm, h6⟩
theorem strToBytes (l : Comps) (hs : SimpleA l) (hn : l ≠ []) (h12 : l.length ≤ 12) (hv : ∀ p ∈ l, p.2.length ≤ 2147483647) (w : World) (ht : Tab w) :
    Calls Tryz.prog 25 #[.string ⟨⟨textOf l⟩⟩] w (StPost l w) := by
  refine calls_of0 (args := [.string ⟨⟨textOf l⟩⟩]) Tryz.func25 rfl rfl rfl ?_
  have htl := textOf_len l hs.all hv
  have hbl := bytesA_le hs.all hv
  obtain ⟨hne, hlast⟩ := textOf_last hs hn
  have hcut := cut_all hs hn
  refine To.runF 8 [] (fun _ _ => by kernel_rfl) fun f1 g1 l1 => ?_
  refine To.callN 32 #[.string ⟨⟨textOf l⟩⟩, .string slash] (by kernel_rfl) (fun _ => by kernel_rfl) (fun w2 hw2 => trimRight (textOf l) w2 (by omega) hne hlast) (fun w2 v2 w3 hw2 hx2 hv2 hnew2 hwi2 => ?_)
  subst hv2
  refine To.runF 9 [] (fun _ _ => by kernel_rfl) fun f2 g2 l2 => ?_
  refine To.callN 33 #[.string ⟨⟨textOf l⟩⟩, .string slash] (by kernel_rfl) (fun _ => by kernel_rfl) (fun w4 hw4 => split (textOf l) w4 (by omega)) (fun w4 v4 w5 hw4 hx4 hv4 hnew4 hwi4 => ?_)
  rw [hcut] at hv4
  obtain ⟨sg, sc, srest, rfl, hsg, hsn, hsc⟩ := hv4
  obtain ⟨cells, hcells⟩ : ∃ cells, cells = ([] :: allPieces l).map (fun p => Value.string ⟨⟨p⟩⟩) ++ srest := ⟨_, rfl⟩
  have hta : TextsAt cells 0 ([] :: allPieces l) := fun j q hj => by
    rw [hcells, Nat.zero_add, List.getElem?_append_left (by rw [List.length_map]; exact (List.getElem?_eq_some_iff.1 hj).1), List.getElem?_map, hj]; rfl
  rw [← hcells] at hsg
  have hpl : 1 ≤ (allPieces l).length := by
    match l, hn with
    | p :: k, _ => rw [allPieces_cons, List.length_append]; unfold piecesOf; split; simp; split <;> simp <;> omega
  refine To.withAt sg (.cells ⟨cells⟩ 9 (0, 0)) true hsg (hnew4 sg hsn) (fun _ => .inl (Nat.le_trans hwi4 hsn)) ?_
  refine To.runF 6 [] (fun _ _ => by kernel_rfl) fun f3 g3 l3 => ?_
  refine To.indexAt elS (some ⟨sg, 0, none⟩) ⟨sg, 0, none⟩ ([] :: allPieces l).length sc 0 (by kernel_rfl) rfl (by simp) ?_
  refine To.loadOne uStr rfl ((⟨sg, 0, none⟩ : Addr).add (0 * 1)) (.string ⟨⟨[]⟩⟩) (by kernel_rfl) (fun w8 hw8 => hw8.cellAt0 (j := 1) (b := sg) (l := cells) (e := 9) (f := (0, 0)) (q := true) (by kernel_rfl) hta.head) ?_
  refine To.runF 7 [] (fun _ _ => by kernel_rfl) fun f4 g4 l4 => ?_
  refine To.sliceFrom elS (some ⟨sg, 0, none⟩) ([] :: allPieces l).length 1 sc (by simp) hsc (by kernel_rfl) ?_
  refine To.runF 9 [] (fun _ _ => by kernel_rfl) fun f5 g5 l5 => ?_
  refine To.testF (((([] :: allPieces l).length - 1 : Nat) : Int) == 0) (by kernel_rfl) (beq_eq_false_iff_ne.2 (by simp only [List.length_cons]; omega)) ?_
  refine To.slotE 5 (.slice (onA (some ⟨sg, 0, none⟩) 1 1 sc) (([] :: allPieces l).length - 1) (sc - 1)) (.slice (some ⟨sg, nextO 0 sc, none⟩) (allPieces l).length (sc - 1)) (by kernel_rfl) (by rw [onA1]; rfl) ?_
  refine To.runF 3 [] (fun _ _ => by kernel_rfl) fun f6 g6 l6 => ?_
  refine To.loop (ι := Comps × Comps × OR × Nat × Nat × Nat × List Value × (Nat × Nat)) (fun i => i.1.length) (fun i => ([(4, .pointer (some ⟨f2 0, 0, none⟩)), (5, .slice (some ⟨i.2.2.2.1, i.2.2.2.2.1, none⟩) (allPieces i.1).length i.2.2.2.2.2.1)], [some ⟨f2 0, .cells ⟨[.slice i.2.2.1.a i.2.2.1.n i.2.2.1.c, .int .i64 0, .int .i8 0]⟩ 73 (0, 0), true⟩, i.2.2.1.ob, some ⟨i.2.2.2.1, .cells ⟨i.2.2.2.2.2.2.1⟩ 9 i.2.2.2.2.2.2.2, true⟩]))
    (fun i w1 => i.2.1 ++ i.1 = l ∧ ORow 1 5 i.2.2.1.a i.2.2.1.n i.2.2.1.c i.2.2.1.ob i.2.2.1.css ∧ i.2.2.1.css = ones (bytesA i.2.1) ∧ TextsAt i.2.2.2.2.2.2.1 i.2.2.2.2.1 (allPieces i.1) ∧ (allPieces i.1).length ≤ i.2.2.2.2.2.1 ∧ (bytesA i.2.1 = [] → i.2.2.1.ob = none))
    (l, [], ⟨none, 0, 0, none, []⟩, sg, nextO 0 sc, sc - 1, cells, (0, 0)) [0, 9, 1] (by kernel_rfl) (by kernel_rfl) (by kernel_rfl) rfl (fun wz hwz => ⟨rfl, ORow.nil _ _, rfl, hta.tail hsc, by simp only [List.length_cons] at hsc; simp only; omega, fun _ => rfl⟩) ?_
  rintro ⟨rest, pre, ⟨oa, on, oc, oob, css⟩, spb, off, spc, cells, z⟩ w1 ⟨hpr, hO, hcss, hta, hspc, hob0⟩ hx1 back
  have hpr : pre ++ rest = l := hpr
  have hO : ORow 1 5 oa on oc oob css := hO
  have hcss : css = ones (bytesA pre) := hcss
  have hta : TextsAt cells off (allPieces rest) := hta
  have hspc : (allPieces rest).length ≤ spc := hspc
  have hob0 : bytesA pre = [] → oob = none := hob0
  subst hcss
  have hO : ORow 1 5 oa on oc oob (ones (bytesA pre)) := hO
  rcases rest with _ | ⟨p, rest⟩
  · have hpl : pre = l := by rw [List.append_nil] at hpr; exact hpr
    have hbne : bytesA pre ≠ [] := by rw [hpl]; exact bytesA_ne hn
    obtain ⟨g, rst, h1, h2, h3, h6⟩ := row_some hO hbne
    have h1 : oa = some ⟨g, 0, none⟩ := h1
    have h2 : oob = some ⟨g, .cells ⟨ucells (bytesA pre) ++ rst⟩ 5 (0, 0), true⟩ := h2
    have h3 : on = (bytesA pre).length := h3
    have h6 : on ≤ oc := h6
    refine To.runF 33 [1, 0, 0, 0, 1, 2, 3, 0, 0] (fun _ _ => by kernel_rfl) fun f7 g7 l7 => ?_
    refine To.slotE 2 (.slice (if oc = 0 then oa else oa.map (fun x => x.add 0)) (on - 0) oc) (.slice (some ⟨g, 0, none⟩) (bytesA l).length oc) (by kernel_rfl) (by rw [h1, h3, hpl]; split <;> rfl) ?_
    exact To.ret [] (.tuple #[.slice (some ⟨g, 0, none⟩) (bytesA l).length oc, .nilIface]) (by kernel_rfl) (by kernel_rfl) fun w9 hw9 => ⟨_, rfl, hw9.ext, g, oc, rst, rfl, by
      have h8 := (OTrue.of hw9 (j := 1) (ob := oob) (by kernel_rfl)) _ h2
      rw [← hpl]; exact h8, by rw [← hpl, ← h3]; exact h6, by
      rcases hw9.own 1 ⟨g, .cells ⟨ucells (bytesA pre) ++ rst⟩ 5 (0, 0), true⟩ ((show nth _ 1 = oob by kernel_rfl).trans h2) rfl with h | h
      · exact h
      · cases h⟩
  · have hpm : p ∈ l := by rw [← hpr]; simp
    have hps := hs.all p hpm
    have hpre : (bytesA pre).length + (bytesA (p :: rest)).length = (bytesA l).length := by rw [← hpr, bytesA_append, List.length_append]
    have hcb : (bytesA (p :: rest)).length = (compBytes p).length + (bytesA rest).length := by rw [bytesA_cons, List.length_append]
    have hpv := hv p hpm
    obtain ⟨r, hr⟩ := rowFor hps hpv
    obtain ⟨more, hmore⟩ := pieces_head p rest
    rw [hmore] at hta hspc
    have hml : (allPieces (p :: rest)).length = more.length + 1 := by rw [hmore]; rfl
    obtain ⟨nm, cd, sz, ph, tr, vc⟩ := r
    have hcd : cd = p.1 := hr.code
    have hsm := hr.small
    have hsz : sz = szOf p.1 := hr.size
    have hvc : vc = Lib.uvarint p.1.toNat := hr.vc
    have hvl : 1 ≤ vc.length := by rw [hvc, Lib.uvarint]; split <;> simp
    have hvl9 : vc.length ≤ 10 := by rw [hvc]; exact Lib.uvarint_length64 (by omega)
    have hnm : nm = ⟨⟨nameOf p.1⟩⟩ := hr.name
    have hm1 : szOf p.1 ≠ 0 → 1 ≤ more.length := fun h0 => by
      by_cases h4 : p.1 = 400
      · have hl0 : rest = [] := by
          have := hs.last pre.length p (by rw [← hpr]; simp) h4
          rw [← hpr] at this
          simp only [List.length_append, List.length_cons] at this
          exact List.eq_nil_of_length_eq_zero (by omega)
        have h := pieces4 (l := rest) h4 hl0
        rw [hmore] at h
        rw [(List.cons.inj h).2]
        exact List.length_pos_iff.2 (cutS_ne _)
      · have h := pieces1 (l := rest) h0 h4
        rw [hmore] at h
        rw [(List.cons.inj h).2]; simp
    by_cases h0 : szOf p.1 = 0
    · have htr : tr = none := hr.tr0 h0
      subst htr
      refine To.runF 7 [] (fun _ _ => by kernel_rfl) fun f7 g7 l7 => ?_
      refine To.testT (decide (((allPieces (p :: rest)).length : Int) > 0)) (by kernel_rfl) (decide_eq_true (by omega)) ?_
      refine To.runF 5 [] (fun _ _ => by kernel_rfl) fun f8 g8 l8 => ?_
      refine To.indexAt elS (some ⟨spb, off, none⟩) ⟨spb, off, none⟩ (allPieces (p :: rest)).length spc 0 (by kernel_rfl) rfl (by omega) ?_
      refine To.loadOne uStr rfl ((⟨spb, off, none⟩ : Addr).add (0 * 1)) (.string nm) (by kernel_rfl) (fun w8 hw8 => by rw [hnm]; exact hw8.cellAt (j := 2) (b := spb) (l := cells) (e := 9) (f := z) (q := true) (by kernel_rfl) hta.head) ?_
      refine To.runF 13 [] (fun _ _ => by kernel_rfl) fun f9 g9 l9 => ?_
      refine To.callN 45 #[.string nm] (by kernel_rfl) (fun _ => by kernel_rfl) (fun w2 hw2 => hr.named w2) (fun w2 v2 w3 hw2 hx2 hv2 hnew2 hwi2 => ?_)
      obtain ⟨vb, rfl, hvb, hvn⟩ := hv2
      refine To.withAt vb (.cells ⟨ucells vc⟩ 5 (0, 0)) true hvb (hnew2 vb hvn) (fun _ => .inl (Nat.le_trans hwi2 hvn)) ?_
      refine To.runF 13 [3, 3, 3, 3, 3, 3, 3, 3, 3, 3, 3, 3, 5, 5, 5, 5, 5, 5, 5] (fun _ _ => by kernel_rfl) fun f10 g10 l10 => ?_
      refine To.testF (cd == 0) (by kernel_rfl) (beq_eq_false_iff_ne.2 (by omega)) ?_
      refine To.runF 5 [5] (fun _ _ => by kernel_rfl) fun f11 g11 l11 => ?_
      refine To.bufWrite rfl 0 1 (f2 0) oa on oc oob (bytesA pre) vc ⟨vb, 0, none⟩ vc.length (by kernel_rfl) (fun _ => by kernel_rfl) (by kernel_rfl) (by kernel_rfl) hO (by kernel_rfl)
        (fun w4 hw4 => bytesOfZ (rest := []) (by rw [List.append_nil]; exact hw4.blk (j := 4) (b := vb) (o := .cells ⟨ucells vc⟩ 5 (0, 0)) (q := true) (by kernel_rfl))) hvl hob0 (fun _ => by omega) (by omega)
        (fun e => hnew2 vb hvn 0 ⟨f2 0, .cells ⟨[.slice oa on oc, .int .i64 0, .int .i8 0]⟩ 73 (0, 0), true⟩ (by kernel_rfl) e.symm)
        (fun m hm e => by obtain ⟨y, hy, hyb⟩ := numO_some hm; exact hnew2 vb hvn 1 y ((show nth _ 1 = oob by kernel_rfl).trans hy) (hyb.trans e.symm)) ?_
      have hm0 : more = allPieces rest := by have h := pieces0 (l := rest) h0; rw [hmore] at h; exact (List.cons.inj h).2
      subst hm0
      intro w4 w5 g1 c1 n1 css1 cells1 hw4 hx4 hcss1 hO1 hg1
      refine To.runF 7 [] (fun _ _ => by kernel_rfl) fun f12 g12 l12 => ?_
      refine To.sliceFrom elS (some ⟨spb, off, none⟩) (allPieces (p :: rest)).length 1 spc (by omega) (by rw [hmore]; exact hspc) (by kernel_rfl) ?_
      refine To.slotE 44 (.slice (onA (some ⟨spb, off, none⟩) 1 1 spc) ((allPieces (p :: rest)).length - 1) (spc - 1)) (.slice (some ⟨spb, nextO off spc, none⟩) (allPieces rest).length (spc - 1)) (by kernel_rfl) (by rw [onA1, hmore]; rfl) ?_
      refine To.runF 9 [5] (fun _ _ => by kernel_rfl) fun f13 g13 l13 => ?_
      refine To.testT (sz == 0) (by kernel_rfl) (beq_iff_eq.2 (by omega)) ?_
      refine To.runF 1 [] (fun _ _ => by kernel_rfl) fun f14 g14 l14 => ?_
      have hp2 : p.2 = [] := by
        have h1 := (hps.simple.fixed (by omega)).1
        rw [h0] at h1
        exact List.eq_nil_of_length_eq_zero (by rw [h1]; rfl)
      have hcb2 : bytesA (pre ++ [p]) = bytesA pre ++ vc := by
        rw [bytesA_snoc]; unfold compBytes; rw [if_neg (by omega), hp2, ← hvc]; simp
      exact back _ _ (rest, pre ++ [p], ⟨some ⟨g1, 0, none⟩, n1, c1, some ⟨g1, .cells ⟨cells1⟩ 5 (0, 0), true⟩, css1⟩, spb, nextO off spc, spc - 1, cells, z) [6, 7, 2] (by simp) ⟨by kernel_rfl, by kernel_rfl, by kernel_rfl, by kernel_rfl, by kernel_rfl, rfl⟩ (fun w7 hw7 => ⟨by rw [← hpr]; simp, hO1, by simp only; rw [hcss1, hcb2], hta.tail hspc, by simp only [List.length_cons] at hspc; simp only; omega, fun e => absurd e (bytesA_ne (by simp))⟩)
    · obtain ⟨x, htr, hT⟩ := hr.tr1 h0
      have htr : tr = some (126, x) := htr
      subst htr
      refine To.runF 7 [] (fun _ _ => by kernel_rfl) fun f7 g7 l7 => ?_
      refine To.testT (decide (((allPieces (p :: rest)).length : Int) > 0)) (by kernel_rfl) (decide_eq_true (by omega)) ?_
      refine To.runF 5 [] (fun _ _ => by kernel_rfl) fun f8 g8 l8 => ?_
      refine To.indexAt elS (some ⟨spb, off, none⟩) ⟨spb, off, none⟩ (allPieces (p :: rest)).length spc 0 (by kernel_rfl) rfl (by omega) ?_
      refine To.loadOne uStr rfl ((⟨spb, off, none⟩ : Addr).add (0 * 1)) (.string nm) (by kernel_rfl) (fun w8 hw8 => by rw [hnm]; exact hw8.cellAt (j := 2) (b := spb) (l := cells) (e := 9) (f := z) (q := true) (by kernel_rfl) hta.head) ?_
      refine To.runF 13 [] (fun _ _ => by kernel_rfl) fun f9 g9 l9 => ?_
      refine To.callN 45 #[.string nm] (by kernel_rfl) (fun _ => by kernel_rfl) (fun w2 hw2 => hr.named w2) (fun w2 v2 w3 hw2 hx2 hv2 hnew2 hwi2 => ?_)
      obtain ⟨vb, rfl, hvb, hvn⟩ := hv2
      refine To.withAt vb (.cells ⟨ucells vc⟩ 5 (0, 0)) true hvb (hnew2 vb hvn) (fun _ => .inl (Nat.le_trans hwi2 hvn)) ?_
      refine To.runF 13 [3, 3, 3, 3, 3, 3, 3, 3, 3, 3, 3, 3, 5, 5, 5, 5, 5, 5, 5] (fun _ _ => by kernel_rfl) fun f10 g10 l10 => ?_
      refine To.testF (cd == 0) (by kernel_rfl) (beq_eq_false_iff_ne.2 (by omega)) ?_
      refine To.runF 5 [5] (fun _ _ => by kernel_rfl) fun f11 g11 l11 => ?_
      refine To.bufWrite rfl 0 1 (f2 0) oa on oc oob (bytesA pre) vc ⟨vb, 0, none⟩ vc.length (by kernel_rfl) (fun _ => by kernel_rfl) (by kernel_rfl) (by kernel_rfl) hO (by kernel_rfl)
        (fun w4 hw4 => bytesOfZ (rest := []) (by rw [List.append_nil]; exact hw4.blk (j := 4) (b := vb) (o := .cells ⟨ucells vc⟩ 5 (0, 0)) (q := true) (by kernel_rfl))) hvl hob0 (fun _ => by omega) (by omega)
        (fun e => hnew2 vb hvn 0 ⟨f2 0, .cells ⟨[.slice oa on oc, .int .i64 0, .int .i8 0]⟩ 73 (0, 0), true⟩ (by kernel_rfl) e.symm)
        (fun m hm e => by obtain ⟨y, hy, hyb⟩ := numO_some hm; exact hnew2 vb hvn 1 y ((show nth _ 1 = oob by kernel_rfl).trans hy) (hyb.trans e.symm)) ?_
      intro w4 w5 g1 c1 n1 css1 cells1 hw4 hx4 hcss1 hO1 hg1
      refine To.runF 7 [] (fun _ _ => by kernel_rfl) fun f12 g12 l12 => ?_
      refine To.sliceFrom elS (some ⟨spb, off, none⟩) (allPieces (p :: rest)).length 1 spc (by omega) (by rw [hmore]; exact hspc) (by kernel_rfl) ?_
      refine To.slotE 44 (.slice (onA (some ⟨spb, off, none⟩) 1 1 spc) ((allPieces (p :: rest)).length - 1) (spc - 1)) (.slice (some ⟨spb, nextO off spc, none⟩) more.length (spc - 1)) (by kernel_rfl) (by rw [onA1, hmore]; rfl) ?_
      refine To.runF 9 [5] (fun _ _ => by kernel_rfl) fun f13 g13 l13 => ?_
      refine To.testF (sz == 0) (by kernel_rfl) (beq_eq_false_iff_ne.2 (by omega)) ?_
      refine To.runF 8 [] (fun _ _ => by kernel_rfl) fun f14 g14 l14 => ?_
      have hm1 := hm1 h0
      refine To.testF (decide ((more.length : Int) < 1)) (by kernel_rfl) (decide_eq_false (by omega)) ?_
      refine To.runF 7 [5] (fun _ _ => by kernel_rfl) fun f15 g15 l15 => ?_
      refine To.meet 1 (ι := Nat × Nat × Nat × List Value × (Nat × Nat)) (fun i => ([(4, .pointer (some ⟨f2 0, 0, none⟩)), (5, .slice (some ⟨i.1, i.2.1, none⟩) ((allPieces rest).length + 1) i.2.2.1), (7, .pointer (some ⟨f10 0, 0, none⟩))], [some ⟨f2 0, .cells ⟨[.slice (some ⟨g1, 0, none⟩) n1 c1, .int .i64 0, .int .i8 0]⟩ 73 (0, 0), true⟩, some ⟨g1, .cells ⟨cells1⟩ 5 (0, 0), true⟩, some ⟨f10 0, .cells ⟨rowCells ⟨nm, cd, sz, ph, some (126, x), vc⟩ vb⟩ 79 (0, 0), true⟩, some ⟨i.1, .cells ⟨i.2.2.2.1⟩ 9 i.2.2.2.2, true⟩]))
        (fun i _ => i.2.2.2.1[i.2.1]? = some (.string ⟨⟨valText p.1 p.2⟩⟩) ∧ TextsAt i.2.2.2.1 (nextO i.2.1 i.2.2.1) (allPieces rest) ∧ (allPieces rest).length + 1 ≤ i.2.2.1) (fun join => ?_) ?_
      · have hph : ph = decide (p.1 = 400) := hr.path
        by_cases h4 : p.1 = 400
        · refine To.testT ph (by kernel_rfl) (by rw [hph]; exact decide_eq_true h4) ?_
          have hl0 : rest = [] := by
            have := hs.last pre.length p (by rw [← hpr]; simp) h4
            rw [← hpr] at this
            simp only [List.length_append, List.length_cons] at this
            exact List.eq_nil_of_length_eq_zero (by omega)
          have hmv : more = cutS (p.2.drop 1) := by
            have h := pieces4 (l := rest) h4 hl0
            rw [hmore] at h
            exact (List.cons.inj h).2
          have hpj := path_join (hps.path h4)
          have hvt : valText p.1 p.2 = p.2 := by
            unfold valText
            rw [if_neg h0, if_neg (by rw [h4]; decide), if_neg (by rw [h4]; decide), if_neg (by rw [h4]; decide)]
          have hjl : (Lib.join more [47]).length + 1 = p.2.length := by
            rw [← hpj, hmv, List.length_append]; simp only [List.length_cons, List.length_nil]; omega
          have hml2 : more.length ≤ p.2.length := by rw [hmv]; exact Nat.le_trans (cutS_len _) (by rw [List.length_drop]; have := val_pos hps h0; omega)
          refine To.runF 2 [] (fun _ _ => by kernel_rfl) fun f16 g16 l16 => ?_
          refine To.callN 36 #[.slice (some ⟨spb, nextO off spc, none⟩) more.length (spc - 1), .string slash] (by kernel_rfl) (fun _ => by kernel_rfl) (fun w8 hw8 => joinAt spb (nextO off spc) (spc - 1) more cells z w8 (hw8.blk (j := 2) (b := spb) (o := .cells ⟨cells⟩ 9 z) (q := true) (by kernel_rfl)) (hta.tail hspc) (by simp only [List.length_cons] at hspc; omega) (by omega) (by omega)) (fun w8 v8 w9 hw8 hx8 hv8 hnew8 hwi8 => ?_)
          subst hv8
          refine To.addText (t := 9) [47] (Lib.join more [47]) slash ⟨⟨Lib.join more [47]⟩⟩ rfl rfl (by kernel_rfl) (by simp only [List.length_cons, List.length_nil]; omega) ?_
          refine To.slotE 56 (.string ⟨⟨[47] ++ Lib.join more [47]⟩⟩) (.string ⟨⟨p.2⟩⟩) (by kernel_rfl) (by rw [hmv, hpj]) ?_
          refine To.runF 3 [] (fun _ _ => by kernel_rfl) fun f17 g17 l17 => ?_
          refine To.slotE 5 (.slice (some ⟨f17 0, 0, none⟩) 1 1) (.slice (some ⟨f17 0, 0, none⟩) ((allPieces rest).length + 1) 1) (by kernel_rfl) (by rw [hl0]; rfl) ?_
          exact join _ _ (f17 0, 0, 1, [.string ⟨⟨p.2⟩⟩], (0, 0)) [6, 7, 5, 8] ⟨by kernel_rfl, by kernel_rfl, by kernel_rfl, by kernel_rfl, by kernel_rfl, rfl⟩ (fun _ _ => ⟨by simp only; rw [hvt]; rfl, fun j q hj => by rw [hl0] at hj; simp [allPieces] at hj, by simp only; rw [hl0]; exact Nat.le_refl _⟩)
        · refine To.testF ph (by kernel_rfl) (by rw [hph]; exact decide_eq_false h4) ?_
          have hmv : more = valText p.1 p.2 :: allPieces rest := by
            have h := pieces1 (l := rest) h0 h4
            rw [hmore] at h
            exact (List.cons.inj h).2
          have hta1 := hta.tail hspc
          refine To.runF 1 [] (fun _ _ => by kernel_rfl) fun f16 g16 l16 => ?_
          refine To.slotE 5 (.slice (some ⟨spb, nextO off spc, none⟩) more.length (spc - 1)) (.slice (some ⟨spb, nextO off spc, none⟩) ((allPieces rest).length + 1) (spc - 1)) (by kernel_rfl) (by rw [hmv]; rfl) ?_
          rw [hmv] at hta1
          simp only [List.length_cons] at hspc
          have hmv2 : more.length = (allPieces rest).length + 1 := by rw [hmv]; rfl
          exact join _ _ (spb, nextO off spc, spc - 1, cells, z) [6, 7, 5, 2] ⟨by kernel_rfl, by kernel_rfl, by kernel_rfl, by kernel_rfl, by kernel_rfl, rfl⟩ (fun _ _ => ⟨hta1.head, hta1.tail (by simp only [List.length_cons]; omega), by simp only; omega⟩)
      rintro ⟨spb, off, spc, cells, z⟩ w6 ⟨hh, hta, hspc⟩ hx6
      have hh : cells[off]? = some (.string ⟨⟨valText p.1 p.2⟩⟩) := hh
      have hta : TextsAt cells (nextO off spc) (allPieces rest) := hta
      have hspc : (allPieces rest).length + 1 ≤ spc := hspc
      refine To.runF 7 [1, 2, 0, 0, 1, 0, 2, 5, 6] (fun _ _ => by kernel_rfl) fun f16 g16 l16 => ?_
      refine To.indexAt elS (some ⟨spb, off, none⟩) ⟨spb, off, none⟩ ((allPieces rest).length + 1) spc 0 (by kernel_rfl) rfl (by omega) ?_
      refine To.loadOne uStr rfl ((⟨spb, off, none⟩ : Addr).add (0 * 1)) (.string ⟨⟨valText p.1 p.2⟩⟩) (by kernel_rfl) (fun w8 hw8 => hw8.cellAt (j := 3) (b := spb) (l := cells) (e := 9) (f := z) (q := true) (by kernel_rfl) hh) ?_
      refine To.callN 356 #[x, .string ⟨⟨valText p.1 p.2⟩⟩] (by kernel_rfl) (fun _ => by kernel_rfl) (fun w8 hw8 => hT.stb w8 (ht.later hw8.ext)) (fun w8 v8 w9 hw8 hx8 hv8 hnew8 hwi8 => ?_)
      obtain ⟨ad, ac, rfl, hin9, hac, hadn⟩ := hv8
      refine To.runF 19 [9, 10, 2] (fun _ _ => by kernel_rfl) fun f17 g17 l17 => ?_
      have hvp := val_pos hps h0
      have had0 : f2 0 ≠ ad.block := hnew8 ad.block hadn 0 ⟨f2 0, .cells ⟨[.slice (some ⟨g1, 0, none⟩) n1 c1, .int .i64 0, .int .i8 0]⟩ 73 (0, 0), true⟩ (by kernel_rfl)
      have had1 : g1 ≠ ad.block := hnew8 ad.block hadn 1 ⟨g1, .cells ⟨cells1⟩ 5 (0, 0), true⟩ (by kernel_rfl)
      have hadN : NumsAll (fun n => ¬ n = ad.block) [some (f2 0), some g1, some (f10 0), some spb] := nums_of (by kernel_rfl) (hnew8 ad.block hadn)
      refine To.callN 357 #[x, .slice (some ad) p.2.length ac] (by kernel_rfl) (fun _ => by kernel_rfl) (fun w10 hw10 => hT.ok w10 (some ad) ac (ht.later hw10.ext) (hin9.kept (hw10.fr.kept (Q := fun n => n = ad.block) (l := [some (f2 0), some g1, some (f10 0), some spb]) (by kernel_rfl) hadN)) hac) (fun w10 v10 w11 hw10 hx10 hv10 hnew10 hwi10 => ?_)
      have hin11 : BytesIn w11 (some ad) p.2 := (hin9.kept (hw10.fr.kept (Q := fun n => n = ad.block) (l := [some (f2 0), some g1, some (f10 0), some spb]) (by kernel_rfl) hadN)).later hx10
      subst hv10
      refine To.runF 17 [2] (fun _ _ => by kernel_rfl) fun f18 g18 l18 => ?_
      obtain ⟨md, hmd⟩ : ∃ md, md = (if sz < 0 then Lib.uvarint p.2.length else []) := ⟨_, rfl⟩
      have hml10 : md.length ≤ 10 := by rw [hmd]; split; exact Lib.uvarint_length64 (by omega); exact Nat.zero_le _
      have hcb3 : bytesA (pre ++ [p]) = bytesA pre ++ vc ++ md ++ p.2 := by
        rw [bytesA_snoc]; unfold compBytes; rw [hmd, hsz, ← hvc]; simp
      have hcl3 : (compBytes p).length = vc.length + md.length + p.2.length := by
        unfold compBytes; rw [hmd, hsz, ← hvc]; simp only [List.length_append]; omega
      refine To.meet 1 (ι := Nat × Nat × Nat × List Value × List (List Value)) (fun i => ([(4, .pointer (some ⟨f2 0, 0, none⟩)), (5, .slice (some ⟨spb, off, none⟩) ((allPieces rest).length + 1) spc), (8, .slice (some ad) p.2.length ac)], [some ⟨f2 0, .cells ⟨[.slice (some ⟨i.1, 0, none⟩) i.2.1 i.2.2.1, .int .i64 0, .int .i8 0]⟩ 73 (0, 0), true⟩, some ⟨i.1, .cells ⟨i.2.2.2.1⟩ 5 (0, 0), true⟩, some ⟨spb, .cells ⟨cells⟩ 9 z, true⟩]))
        (fun i wz => ORow 1 5 (some ⟨i.1, 0, none⟩) i.2.1 i.2.2.1 (some ⟨i.1, .cells ⟨i.2.2.2.1⟩ 5 (0, 0), true⟩) i.2.2.2.2 ∧ i.2.2.2.2 = ones (bytesA pre ++ vc ++ md) ∧ BytesIn wz (some ad) p.2 ∧ i.1 ≠ ad.block) (fun join => ?_) ?_
      · by_cases hneg : sz < 0
        · rw [if_pos hneg] at hmd
          refine To.testT (decide (sz < 0)) (by kernel_rfl) (decide_eq_true hneg) ?_
          refine To.runF 4 [] (fun _ _ => by kernel_rfl) fun f19 g19 l19 => ?_
          refine To.slotE 85 (.int .u64 (IntKind.u64.wrap (p.2.length : Int))) (.int .u64 (p.2.length : Int)) (by kernel_rfl) (by rw [IntWalk.u64_in _ ⟨by omega, by omega⟩]) ?_
          refine To.callN 37 #[.int .u64 (p.2.length : Int)] (by kernel_rfl) (fun _ => by kernel_rfl) (fun w12 hw12 => uvTo p.2.length w12 (by omega)) (fun w12 v12 w13 hw12 hx12 hv12 hnew12 hwi12 => ?_)
          obtain ⟨ub, uc, rfl, hub, hun⟩ := hv12
          have hin12 : BytesIn w12 (some ad) p.2 := hin11.kept (hw12.fr.kept (Q := fun n => n = ad.block) (l := [some (f2 0), some g1, some (f10 0), some spb]) (by kernel_rfl) hadN)
          have hadlt := hin12.lt hvp
          have hin13 := hin12.later hx12
          have huvl : 1 ≤ (Lib.uvarint p.2.length).length := by rw [Lib.uvarint]; split <;> simp
          have hnil : ∀ {q : Prop}, bytesA pre ++ vc = [] → q := fun e => by
            have := (List.append_eq_nil_iff.1 e).2
            rw [this] at hvl; simp at hvl
          have hO1' := hO1
          rw [hcss1] at hO1'
          refine To.withAt ub (.cells ⟨ucells (Lib.uvarint p.2.length)⟩ 5 (0, 0)) true hub (hnew12 ub hun) (fun _ => .inl (Nat.le_trans hwi12 hun)) ?_
          refine To.bufWrite rfl 0 1 (f2 0) (some ⟨g1, 0, none⟩) n1 c1 (some ⟨g1, .cells ⟨cells1⟩ 5 (0, 0), true⟩) (bytesA pre ++ vc) (Lib.uvarint p.2.length) ⟨ub, 0, none⟩ uc (by kernel_rfl) (fun _ => by kernel_rfl) (by kernel_rfl) (by kernel_rfl) hO1' (by kernel_rfl)
            (fun w14 hw14 => bytesOfZ (rest := []) (by rw [List.append_nil]; exact hw14.blk (j := 4) (b := ub) (o := .cells ⟨ucells (Lib.uvarint p.2.length)⟩ 5 (0, 0)) (q := true) (by kernel_rfl))) huvl hnil hnil (by rw [List.length_append, ← hmd]; omega)
            (fun e => hnew12 ub hun 0 ⟨f2 0, .cells ⟨[.slice (some ⟨g1, 0, none⟩) n1 c1, .int .i64 0, .int .i8 0]⟩ 73 (0, 0), true⟩ (by kernel_rfl) e.symm)
            (fun m hm e => by cases hm; exact hnew12 ub hun 1 ⟨g1, .cells ⟨cells1⟩ 5 (0, 0), true⟩ (by kernel_rfl) e.symm) ?_
          intro w14 w15 g2 c2 n2 css2 cells2 hw14 hx14 hcss2 hO2 hg2
          have hub2 : ¬ ub = ad.block := fun e => by omega
          have hin14 : BytesIn w14 (some ad) p.2 := hin13.kept (hw14.fr.kept (Q := fun n => n = ad.block) (l := [some (f2 0), some g1, some (f10 0), some spb, some ub]) (by kernel_rfl) ⟨hadN.1, hadN.2.1, hadN.2.2.1, hadN.2.2.2.1, hub2, trivial⟩)
          have hin15 : BytesIn w15 (some ad) p.2 := hin14.kept (hx14.keptS (fun b hb e => by
            rcases List.mem_cons.1 hb with h | h
            · exact had0 (h.symm.trans e)
            · have h : b ∈ [g1] := h
              exact had1 ((List.mem_singleton.1 h).symm.trans e)))
          have hg2n : g2 ≠ ad.block := by
            rcases hg2 with h | h
            · cases h; exact had1
            · have := hin14.lt hvp; intro e; omega
          refine To.runF 4 [] (fun _ _ => by kernel_rfl) fun f20 g20 l20 => ?_
          exact join _ _ (g2, n2, c2, cells2, css2) [5, 6, 3] ⟨by kernel_rfl, by kernel_rfl, by kernel_rfl, by kernel_rfl, by kernel_rfl, rfl⟩ (fun wz hwz => ⟨hO2, by simp only; rw [hcss2, hmd], hin15.kept (hwz.fr.kept (Q := fun n => n = ad.block) (l := [none, none, some (f10 0), some spb, some ub, some (f2 0), some g2]) (by kernel_rfl) ⟨hadN.2.2.1, hadN.2.2.2.1, hub2, hadN.1, hg2n, trivial⟩), hg2n⟩)
        · rw [if_neg hneg] at hmd
          refine To.testF (decide (sz < 0)) (by kernel_rfl) (decide_eq_false hneg) ?_
          refine To.runF 1 [] (fun _ _ => by kernel_rfl) fun f19 g19 l19 => ?_
          exact join _ _ (g1, n1, c1, cells1, css1) [0, 1, 3] ⟨by kernel_rfl, by kernel_rfl, by kernel_rfl, by kernel_rfl, by kernel_rfl, rfl⟩ (fun wz hwz => ⟨hO1, by simp only; rw [hcss1, hmd, List.append_nil], hin11.kept (hwz.fr.kept (Q := fun n => n = ad.block) (l := [some (f2 0), some g1, some (f10 0), some spb]) (by kernel_rfl) hadN), had1⟩)
      rintro ⟨g3, n3, c3, cells3, css3⟩ w12 ⟨hO3, hcss3, hin12, had3⟩ hx12
      have hO3 : ORow 1 5 (some ⟨g3, 0, none⟩) n3 c3 (some ⟨g3, .cells ⟨cells3⟩ 5 (0, 0), true⟩) css3 := hO3
      have hcss3 : css3 = ones (bytesA pre ++ vc ++ md) := hcss3
      have had3 : g3 ≠ ad.block := had3
      rw [hcss3] at hO3
      have hin12 : BytesIn w12 (some ad) p.2 := hin12
      have hnil : ∀ {q : Prop}, bytesA pre ++ vc ++ md = [] → q := fun e => by
        have := (List.append_eq_nil_iff.1 (List.append_eq_nil_iff.1 e).1).2
        rw [this] at hvl; simp at hvl
      refine To.runF 3 [] (fun _ _ => by kernel_rfl) fun f19 g19 l19 => ?_
      refine To.bufWrite rfl 0 1 (f2 0) (some ⟨g3, 0, none⟩) n3 c3 (some ⟨g3, .cells ⟨cells3⟩ 5 (0, 0), true⟩) (bytesA pre ++ vc ++ md) p.2 ad ac (by kernel_rfl) (fun _ => by kernel_rfl) (by kernel_rfl) (by kernel_rfl) hO3 (by kernel_rfl)
        (fun w14 hw14 => hin12.kept (hw14.fr.kept (Q := fun n => n = ad.block) (l := [some (f2 0), some g3, some spb]) (by kernel_rfl) ⟨hadN.1, had3, hadN.2.2.2.1, trivial⟩)) hvp hnil hnil (by simp only [List.length_append]; omega)
        (fun e => had0 e.symm) (fun m hm e => by cases hm; exact had3 e.symm) ?_
      intro w16 w17 g4 c4 n4 css4 cells4 hw16 hx16 hcss4 hO4 hg4
      refine To.runF 3 [] (fun _ _ => by kernel_rfl) fun f20 g20 l20 => ?_
      refine To.sliceFrom elS (some ⟨spb, off, none⟩) ((allPieces rest).length + 1) 1 spc (by omega) hspc (by kernel_rfl) ?_
      refine To.runF 3 [] (fun _ _ => by kernel_rfl) fun f21 g21 l21 => ?_
      refine To.slotE 5 (.slice (onA (some ⟨spb, off, none⟩) 1 1 spc) ((allPieces rest).length + 1 - 1) (spc - 1)) (.slice (some ⟨spb, nextO off spc, none⟩) (allPieces rest).length (spc - 1)) (by kernel_rfl) (by rw [onA1]; rfl) ?_
      exact back _ _ (rest, pre ++ [p], ⟨some ⟨g4, 0, none⟩, n4, c4, some ⟨g4, .cells ⟨cells4⟩ 5 (0, 0), true⟩, css4⟩, spb, nextO off spc, spc - 1, cells, z) [3, 4, 2] (by simp) ⟨by kernel_rfl, by kernel_rfl, by kernel_rfl, by kernel_rfl, by kernel_rfl, rfl⟩ (fun w7 hw7 => ⟨by rw [← hpr]; simp, hO4, by simp only; rw [hcss4, hcb3], hta, by simp only; omega, fun e => absurd e (bytesA_ne (by simp))⟩)
end Go.Proofs.YtgodhbgnhapemaaGreatDoor
