/- The package's order, the library's sort of at most twelve addresses, and Unique. Conditions: at most twelve addresses. -/
import Derived.Test.YtegcplghgnafjaaGreatDoorJImpl
import Derived.Lib.Bytealg
import Derived.Test.YtegcplghgnafjaaGreatDoorSxB
/- How components, and addresses, of the package are compared. Conditions: as each says. -/
namespace Go.Proofs.YtegcplghgnafjaaGreatDoor
open Go Go.SX
set_option maxHeartbeats 8000000
set_option maxRecDepth 100000
theorem componentCompare (ad bd : Addr) (s t : ByteArray) (w : World) (hc0 : w.cell? ad = some (.string s)) (hd0 : w.cell? bd = some (.string t)) :
    Calls Tryz.prog 54 #[.pointer (some ad), .pointer (some bd)] w (fun e w1 => ∃ v, e = .returned v ∧ Ext [] w w1 ∧ v = .int .i64 (Extern.BytealgCompare.cmp s t)) := by
  refine calls_of0 (args := [.pointer (some ad), .pointer (some bd)]) Tryz.func54 rfl rfl rfl ?_
  obtain ⟨c1, e1, z1, hB1, hsp, hP0⟩ := block_of_cell hc0
  obtain ⟨c2, e2, z2, hB2, hsq, hQ0⟩ := block_of_cell hd0
  by_cases hbb : ad.block = bd.block
  · have hB3 := hB2
    rw [← hbb, hB1] at hB3
    simp only [Option.some.injEq, Obj.cells.injEq] at hB3
    obtain ⟨rfl, rfl, rfl⟩ := hB3
    refine To.withAt ad.block (.cells c1 e1 z1) false hB1 (nums_all (Q := fun n => n ≠ ad.block) (l := []) (by kernel_rfl) trivial) (by simp) ?_
    refine To.runF 40 [1, 0, 0, 1, 2, 4, 5, 6] (fun _ _ => by kernel_rfl) fun f1 g1 l1 => ?_
    refine To.loadOneE 3 uStr rfl ad (.string s) (by kernel_rfl) (fun w2 hw2 => SH.cell (j := 0) (b := ad.block) (c := c1) (e := e1) (z := z1) (q := false) hw2 (by kernel_rfl) rfl hsp hP0) ?_
    refine To.loadOneE 7 uStr rfl bd (.string t) (by kernel_rfl) (fun w2 hw2 => SH.cell (j := 0) (b := ad.block) (c := c1) (e := e1) (z := z1) (q := false) hw2 (by kernel_rfl) hbb.symm hsq hQ0) ?_
    refine To.runF 27 [] (fun _ _ => by kernel_rfl) fun f2 g2 l2 => ?_
    exact To.ret [] (.int .i64 (Extern.BytealgCompare.cmp s t)) (by kernel_rfl) (by kernel_rfl) fun w4 hw4 => ⟨_, rfl, hw4.ext, rfl⟩
  · refine To.withAt ad.block (.cells c1 e1 z1) false hB1 (nums_all (Q := fun n => n ≠ ad.block) (l := []) (by kernel_rfl) trivial) (by simp) ?_
    refine To.withAt bd.block (.cells c2 e2 z2) false hB2 (nums_all (Q := fun n => n ≠ bd.block) (l := [some ad.block]) (by kernel_rfl) ⟨hbb, trivial⟩) (by simp) ?_
    refine To.runF 40 [2, 0, 1, 0, 1, 2, 4, 5, 6] (fun _ _ => by kernel_rfl) fun f1 g1 l1 => ?_
    refine To.loadOneE 3 uStr rfl ad (.string s) (by kernel_rfl) (fun w2 hw2 => SH.cell (j := 0) (b := ad.block) (c := c1) (e := e1) (z := z1) (q := false) hw2 (by kernel_rfl) rfl hsp hP0) ?_
    refine To.loadOneE 7 uStr rfl bd (.string t) (by kernel_rfl) (fun w2 hw2 => SH.cell (j := 1) (b := bd.block) (c := c2) (e := e2) (z := z2) (q := false) hw2 (by kernel_rfl) rfl hsq hQ0) ?_
    refine To.runF 27 [] (fun _ _ => by kernel_rfl) fun f2 g2 l2 => ?_
    exact To.ret [] (.int .i64 (Extern.BytealgCompare.cmp s t)) (by kernel_rfl) (by kernel_rfl) fun w4 hw4 => ⟨_, rfl, hw4.ext, rfl⟩
/-- How two addresses are compared. -/
def cmpA : List ByteArray → List ByteArray → Int
  | [], [] => 0
  | [], _ :: _ => -1
  | _ :: _, [] => 1
  | s :: x, t :: y => if Extern.BytealgCompare.cmp s t = 0 then cmpA x y else Extern.BytealgCompare.cmp s t
def sgn (i j : Int) : Int := if i < j then -1 else if i > j then 1 else 0
theorem cmpInt (i j : Int) (w : World) : Calls Tryz.prog 55 #[.int .i64 i, .int .i64 j] w (fun e w1 => ∃ v, e = .returned v ∧ Ext [] w w1 ∧ v = .int .i64 (sgn i j)) := by
  refine calls_of0 (args := [.int .i64 i, .int .i64 j]) Tryz.func55 rfl rfl rfl ?_
  refine To.runF 45 [] (fun _ _ => by kernel_rfl) fun f1 g1 l1 => ?_
  refine To.testF (i != i) (by kernel_rfl) (by simp) ?_
  refine To.runF 6 [] (fun _ _ => by kernel_rfl) fun f2 g2 l2 => ?_
  refine To.testF (j != j) (by kernel_rfl) (by simp) ?_
  refine To.runF 8 [] (fun _ _ => by kernel_rfl) fun f3 g3 l3 => ?_
  refine To.test (decide (i < j)) (by kernel_rfl) (fun h => ?_) (fun h => ?_)
  · refine To.runF 4 [] (fun _ _ => by kernel_rfl) fun f4 g4 l4 => ?_
    exact To.ret [] (.int .i64 (-1)) (by kernel_rfl) (by kernel_rfl) fun w4 hw4 => ⟨_, rfl, hw4.ext, by rw [sgn, if_pos (of_decide_eq_true h)]⟩
  refine To.runF 8 [] (fun _ _ => by kernel_rfl) fun f4 g4 l4 => ?_
  refine To.test (decide (i > j)) (by kernel_rfl) (fun h2 => ?_) (fun h2 => ?_)
  · refine To.runF 4 [] (fun _ _ => by kernel_rfl) fun f5 g5 l5 => ?_
    exact To.ret [] (.int .i64 1) (by kernel_rfl) (by kernel_rfl) fun w4 hw4 => ⟨_, rfl, hw4.ext, by rw [sgn, if_neg (of_decide_eq_false h), if_pos (of_decide_eq_true h2)]⟩
  refine To.runF 5 [] (fun _ _ => by kernel_rfl) fun f5 g5 l5 => ?_
  exact To.ret [] (.int .i64 0) (by kernel_rfl) (by kernel_rfl) fun w4 hw4 => ⟨_, rfl, hw4.ext, by rw [sgn, if_neg (of_decide_eq_false h), if_neg (of_decide_eq_false h2)]⟩
theorem cmpA_end (x y : Ma) (k : Nat) (hx : k ≤ x.length) (hy : k ≤ y.length) (h : k = x.length ∨ k = y.length) : cmpA ((blist x).drop k) ((blist y).drop k) = sgn (Int.ofNat x.length) (Int.ofNat y.length) := by
  have lx : (blist x).length = x.length := by simp [blist]
  have ly : (blist y).length = y.length := by simp [blist]
  have e1 : ((blist x).drop k).length = x.length - k := by rw [List.length_drop, lx]
  have e2 : ((blist y).drop k).length = y.length - k := by rw [List.length_drop, ly]
  unfold sgn
  simp only [Int.ofNat_eq_natCast]
  generalize (blist x).drop k = u at e1
  generalize (blist y).drop k = v at e2
  cases u with
  | nil =>
    cases v with
    | nil =>
      have : x.length = y.length := by simp only [List.length_nil] at e1 e2; omega
      rw [this]; simp [cmpA]
    | cons t v =>
      have : x.length < y.length := by simp only [List.length_nil, List.length_cons] at e1 e2; omega
      rw [if_pos (by omega)]; rfl
  | cons s u =>
    cases v with
    | nil =>
      have : y.length < x.length := by simp only [List.length_nil, List.length_cons] at e1 e2; omega
      rw [if_neg (by omega), if_pos (by omega)]; rfl
    | cons t v =>
      exfalso
      simp only [List.length_cons] at e1 e2; omega
theorem maCompare (x y : Ma) (a b : Option Addr) (ca cb : Nat) (w : World) (ha : MIn w a x) (hb : MIn w b y) (hx : x.length ≤ 1152921504606846976) (hy : y.length ≤ 1152921504606846976) :
    Calls Tryz.prog 41 #[.slice a x.length ca, .slice b y.length cb] w (fun e w1 => ∃ v, e = .returned v ∧ Ext [] w w1 ∧ v = .int .i64 (cmpA (blist x) (blist y))) := by
  refine calls_of0 (args := [.slice a x.length ca, .slice b y.length cb]) Tryz.func41 rfl rfl rfl ?_
  refine To.runF 10 [] (fun _ _ => by kernel_rfl) fun f1 g1 l1 => ?_
  refine To.loop (fun k : Nat => x.length - k) (fun k => ([(0, .slice a x.length ca), (1, .slice b y.length cb), (5, .int .i64 (Int.ofNat k))], [])) (fun k _ => k ≤ x.length ∧ k ≤ y.length ∧ cmpA (blist x) (blist y) = cmpA ((blist x).drop k) ((blist y).drop k)) 0 [] (by kernel_rfl) (by kernel_rfl) (by kernel_rfl) rfl (fun _ _ => ⟨Nat.zero_le _, Nat.zero_le _, rfl⟩) ?_
  rintro k w1 ⟨hk, hk2, hall⟩ hx1 back
  refine To.runF 8 [] (fun _ _ => by kernel_rfl) fun f2 g2 l2 => ?_
  by_cases h1 : k < x.length
  · refine To.slotT 11 (decide (Int.ofNat k < Int.ofNat x.length)) (by kernel_rfl) (decide_eq_true (Int.ofNat_lt.2 h1)) ?_
    refine To.runF 6 [] (fun _ _ => by kernel_rfl) fun f3 g3 l3 => ?_
    by_cases h2 : k < y.length
    · refine To.testT (decide (Int.ofNat k < Int.ofNat y.length)) (by kernel_rfl) (decide_eq_true (Int.ofNat_lt.2 h2)) ?_
      obtain ⟨p, hp⟩ : ∃ p, x[k]? = some p := ⟨x[k], by simp [h1]⟩
      obtain ⟨q, hq⟩ : ∃ q, y[k]? = some q := ⟨y[k], by simp [h2]⟩
      obtain ⟨ad, pb, vb, ha0, hsp, hc0, hc1, hc2, hr⟩ := ha.at_ k p hp
      obtain ⟨bd, qb, ub, hb0, hsq, hd0, hd1, hd2, hs⟩ := hb.at_ k q hq
      refine To.runF 9 [0, 0, 1, 3, 4] (fun _ _ => by kernel_rfl) fun f4 g4 l4 => ?_
      refine To.indexAtE 2 elM a ad x.length ca k (by kernel_rfl) ha0 h1 ?_
      refine To.indexAtE 5 elM b bd y.length cb k (by kernel_rfl) hb0 h2 ?_
      refine To.callN 54 #[.pointer (some (ad.add (k * 3))), .pointer (some (bd.add (k * 3)))] (by kernel_rfl) (fun _ => by kernel_rfl)
        (fun w2 hw2 => componentCompare _ _ (bytesOf p.1.vc p.1.size p.2) (bytesOf q.1.vc q.1.size q.2) w2 (hw2.ext.cell hc0 (by simp)) (hw2.ext.cell hd0 (by simp))) (fun w2 v2 w3 hw2 hx2 hv2 hnew2 hwi2 => ?_)
      subst hv2
      refine To.runF 7 [] (fun _ _ => by kernel_rfl) fun f5 g5 l5 => ?_
      have e1 : (blist x).drop k = bytesOf p.1.vc p.1.size p.2 :: (blist x).drop (k + 1) := by
        have : (blist x)[k]? = some (bytesOf p.1.vc p.1.size p.2) := by simp [blist, hp]
        rw [List.drop_eq_getElem_cons (List.getElem?_eq_some_iff.1 this).1, (List.getElem?_eq_some_iff.1 this).2]
      have e2 : (blist y).drop k = bytesOf q.1.vc q.1.size q.2 :: (blist y).drop (k + 1) := by
        have : (blist y)[k]? = some (bytesOf q.1.vc q.1.size q.2) := by simp [blist, hq]
        rw [List.drop_eq_getElem_cons (List.getElem?_eq_some_iff.1 this).1, (List.getElem?_eq_some_iff.1 this).2]
      refine To.test (Extern.BytealgCompare.cmp (bytesOf p.1.vc p.1.size p.2) (bytesOf q.1.vc q.1.size q.2) != 0) (by kernel_rfl) (fun h3 => ?_) (fun h3 => ?_)
      · have h4 : ¬ Extern.BytealgCompare.cmp (bytesOf p.1.vc p.1.size p.2) (bytesOf q.1.vc q.1.size q.2) = 0 := by simpa using h3
        refine To.runF 5 [] (fun _ _ => by kernel_rfl) fun f6 g6 l6 => ?_
        exact To.ret [] (.int .i64 (Extern.BytealgCompare.cmp (bytesOf p.1.vc p.1.size p.2) (bytesOf q.1.vc q.1.size q.2))) (by kernel_rfl) (by kernel_rfl) fun w4 hw4 => ⟨_, rfl, hw4.ext, by
          rw [hall, e1, e2, cmpA, if_neg h4]⟩
      have h4 : Extern.BytealgCompare.cmp (bytesOf p.1.vc p.1.size p.2) (bytesOf q.1.vc q.1.size q.2) = 0 := by simpa using h3
      refine To.runF 7 [] (fun _ _ => by kernel_rfl) fun f6 g6 l6 => ?_
      refine To.slotE 5 (.int .i64 (IntKind.i64.wrap (Int.ofNat k + 1))) (.int .i64 (Int.ofNat (k + 1))) (by kernel_rfl) (by rw [wrap_succ k (by omega)]) ?_
      exact back _ _ (k + 1) [] (by omega) ⟨by kernel_rfl, by kernel_rfl, by kernel_rfl, by kernel_rfl, by kernel_rfl, rfl⟩ (fun w7 hw7 => ⟨h1, h2, by rw [hall, e1, e2, cmpA, if_pos h4]⟩)
    · refine To.testF (decide (Int.ofNat k < Int.ofNat y.length)) (by kernel_rfl) (decide_eq_false (fun h => h2 (Int.ofNat_lt.1 h))) ?_
      refine To.runF 7 [] (fun _ _ => by kernel_rfl) fun f4 g4 l4 => ?_
      refine To.callN 55 #[.int .i64 (Int.ofNat x.length), .int .i64 (Int.ofNat y.length)] (by kernel_rfl) (fun _ => by kernel_rfl) (fun w2 hw2 => cmpInt (Int.ofNat x.length) (Int.ofNat y.length) w2) (fun w2 v2 w3 hw2 hx2 hv2 hnew2 hwi2 => ?_)
      subst hv2
      refine To.runF 2 [] (fun _ _ => by kernel_rfl) fun f5 g5 l5 => ?_
      exact To.ret [] (.int .i64 (sgn (Int.ofNat x.length) (Int.ofNat y.length))) (by kernel_rfl) (by kernel_rfl) fun w4 hw4 => ⟨_, rfl, hw4.ext, by
        congr 1
        rw [hall]
        exact (cmpA_end x y k hk hk2 (by omega)).symm⟩
  · refine To.slotF 11 (decide (Int.ofNat k < Int.ofNat x.length)) (by kernel_rfl) (decide_eq_false (fun h => h1 (Int.ofNat_lt.1 h))) ?_
    refine To.runF 14 [] (fun _ _ => by kernel_rfl) fun f3 g3 l3 => ?_
    refine To.callN 55 #[.int .i64 (Int.ofNat x.length), .int .i64 (Int.ofNat y.length)] (by kernel_rfl) (fun _ => by kernel_rfl) (fun w2 hw2 => cmpInt (Int.ofNat x.length) (Int.ofNat y.length) w2) (fun w2 v2 w3 hw2 hx2 hv2 hnew2 hwi2 => ?_)
    subst hv2
    refine To.runF 2 [] (fun _ _ => by kernel_rfl) fun f4 g4 l4 => ?_
    exact To.ret [] (.int .i64 (sgn (Int.ofNat x.length) (Int.ofNat y.length))) (by kernel_rfl) (by kernel_rfl) fun w4 hw4 => ⟨_, rfl, hw4.ext, by
      congr 1
      rw [hall]
      exact (cmpA_end x y k hk hk2 (by omega)).symm⟩
end Go.Proofs.YtegcplghgnafjaaGreatDoor
/- The order of addresses of the package, and what an insertion keeps. Plain Lean. Conditions: none. -/
namespace Go.Proofs.YtegcplghgnafjaaGreatDoor
open Go Go.SX
theorem cb_swap (a : List UInt8) : ∀ b, Lib.compareBytes b a = - Lib.compareBytes a b := by
  induction a with
  | nil => intro b; cases b <;> rfl
  | cons x a ih =>
    intro b
    cases b with
    | nil => rfl
    | cons y b =>
      simp only [Lib.compareBytes, UInt8.lt_iff_toNat_lt]
      by_cases h1 : x.toNat < y.toNat
      · rw [if_pos h1, if_neg (by omega), if_pos h1]; rfl
      · by_cases h2 : y.toNat < x.toNat
        · rw [if_pos h2, if_neg h1, if_pos h2]
        · rw [if_neg h2, if_neg h1, if_neg h1, if_neg h2]; exact ih b
theorem cb_eq (a : List UInt8) : ∀ b, Lib.compareBytes a b = 0 → a = b := by
  induction a with
  | nil => intro b h; cases b with
    | nil => rfl
    | cons _ _ => simp [Lib.compareBytes] at h
  | cons x a ih =>
    intro b h
    cases b with
    | nil => simp [Lib.compareBytes] at h
    | cons y b =>
      simp only [Lib.compareBytes, UInt8.lt_iff_toNat_lt] at h
      by_cases h1 : x.toNat < y.toNat
      · rw [if_pos h1] at h; simp at h
      · by_cases h2 : y.toNat < x.toNat
        · rw [if_neg h1, if_pos h2] at h; simp at h
        · rw [if_neg h1, if_neg h2] at h
          have hxy : x = y := UInt8.toNat_inj.1 (by omega)
          rw [hxy, ih b h]
theorem cb_refl (a : List UInt8) : Lib.compareBytes a a = 0 := by
  induction a with
  | nil => rfl
  | cons x a ih => simp only [Lib.compareBytes, UInt8.lt_iff_toNat_lt, Nat.lt_irrefl, if_false]; exact ih
theorem cb_trans (a : List UInt8) : ∀ b c, Lib.compareBytes a b ≤ 0 → Lib.compareBytes b c ≤ 0 → Lib.compareBytes a c ≤ 0 := by
  induction a with
  | nil => intro b c _ _; cases c <;> simp [Lib.compareBytes]
  | cons x a ih =>
    intro b c h1 h2
    cases b with
    | nil => simp [Lib.compareBytes] at h1
    | cons y b =>
      cases c with
      | nil => simp [Lib.compareBytes] at h2
      | cons z c =>
        simp only [Lib.compareBytes, UInt8.lt_iff_toNat_lt] at h1 h2 ⊢
        by_cases a1 : x.toNat < y.toNat
        · by_cases b1 : y.toNat < z.toNat
          · rw [if_pos (by omega)]; decide
          · by_cases b2 : z.toNat < y.toNat
            · rw [if_neg b1, if_pos b2] at h2; exact absurd h2 (by decide)
            · rw [if_pos (by omega)]; decide
        · by_cases a2 : y.toNat < x.toNat
          · rw [if_neg a1, if_pos a2] at h1; exact absurd h1 (by decide)
          · rw [if_neg a1, if_neg a2] at h1
            by_cases b1 : y.toNat < z.toNat
            · rw [if_pos (by omega)]; decide
            · by_cases b2 : z.toNat < y.toNat
              · rw [if_neg b1, if_pos b2] at h2; exact absurd h2 (by decide)
              · rw [if_neg b1, if_neg b2] at h2
                rw [if_neg (by omega), if_neg (by omega)]
                exact ih b c h1 h2
theorem cmp_swap (s t : ByteArray) : Extern.BytealgCompare.cmp t s = - Extern.BytealgCompare.cmp s t := by rw [Lib.cmp_eq, Lib.cmp_eq]; exact cb_swap _ _
theorem cmp_zero {s t : ByteArray} (h : Extern.BytealgCompare.cmp s t = 0) : s = t := by
  rw [Lib.cmp_eq] at h
  have h1 := cb_eq _ _ h
  exact ByteArray.ext (Array.toList_inj.1 h1)
theorem cmp_refl (s : ByteArray) : Extern.BytealgCompare.cmp s s = 0 := by rw [Lib.cmp_eq]; exact cb_refl _
theorem cmp_trans {s t u : ByteArray} (h1 : Extern.BytealgCompare.cmp s t ≤ 0) (h2 : Extern.BytealgCompare.cmp t u ≤ 0) : Extern.BytealgCompare.cmp s u ≤ 0 := by
  rw [Lib.cmp_eq] at h1 h2 ⊢; exact cb_trans _ _ _ h1 h2
theorem ca_swap (x : List ByteArray) : ∀ y, cmpA y x = - cmpA x y := by
  induction x with
  | nil => intro y; cases y <;> rfl
  | cons s x ih =>
    intro y
    cases y with
    | nil => rfl
    | cons t y =>
      simp only [cmpA]
      rw [cmp_swap s t]
      by_cases h : Extern.BytealgCompare.cmp s t = 0
      · rw [if_pos (by omega), if_pos h]; exact ih y
      · rw [if_neg (by omega), if_neg h]
theorem ca_eq (x : List ByteArray) : ∀ y, cmpA x y = 0 → x = y := by
  induction x with
  | nil => intro y h; cases y with
    | nil => rfl
    | cons _ _ => simp [cmpA] at h
  | cons s x ih =>
    intro y h
    cases y with
    | nil => simp [cmpA] at h
    | cons t y =>
      simp only [cmpA] at h
      by_cases h1 : Extern.BytealgCompare.cmp s t = 0
      · rw [if_pos h1] at h; rw [cmp_zero h1, ih y h]
      · rw [if_neg h1] at h; exact absurd h h1
theorem ca_trans (x : List ByteArray) : ∀ y z, cmpA x y ≤ 0 → cmpA y z ≤ 0 → cmpA x z ≤ 0 := by
  induction x with
  | nil => intro y z _ _; cases z <;> simp [cmpA]
  | cons s x ih =>
    intro y z h1 h2
    cases y with
    | nil => simp [cmpA] at h1
    | cons t y =>
      cases z with
      | nil => simp [cmpA] at h2
      | cons u z =>
        simp only [cmpA] at h1 h2 ⊢
        by_cases a1 : Extern.BytealgCompare.cmp s t = 0
        · rw [if_pos a1] at h1
          have := cmp_zero a1
          subst this
          by_cases b1 : Extern.BytealgCompare.cmp s u = 0
          · rw [if_pos b1] at h2 ⊢; exact ih y z h1 h2
          · rw [if_neg b1] at h2 ⊢; exact h2
        · rw [if_neg a1] at h1
          by_cases b1 : Extern.BytealgCompare.cmp t u = 0
          · have := cmp_zero b1
            subst this
            rw [if_neg a1]; exact h1
          · rw [if_neg b1] at h2
            have h3 := cmp_trans h1 h2
            by_cases c1 : Extern.BytealgCompare.cmp s u = 0
            · have := cmp_zero c1
              subst this
              have := cmp_swap s t
              omega
            · rw [if_neg c1]; exact h3
/-- Not greater. -/
def Mle (x y : Ma) : Prop := cmpA (blist x) (blist y) ≤ 0
theorem Mle.trans {x y z : Ma} (h : Mle x y) (k : Mle y z) : Mle x z := ca_trans _ _ _ h k
def SortedTo (k : Nat) (L : List Ma) : Prop := ∀ p q x y, p < q → q < k → L[p]? = some x → L[q]? = some y → Mle x y
/-- All but the one at j are in order, and those behind it are not smaller. -/
structure Inserting (k j : Nat) (L : List Ma) : Prop where
  but : ∀ p q x y, p < q → q ≤ k → p ≠ j → q ≠ j → L[p]? = some x → L[q]? = some y → Mle x y
  up : ∀ q x y, j < q → q ≤ k → L[j]? = some x → L[q]? = some y → Mle x y
theorem Inserting.start {k : Nat} {L : List Ma} (h : SortedTo k L) : Inserting k k L :=
  ⟨fun p q x y hpq hq _ hqk hx hy => h p q x y hpq (by omega) hx hy, fun q x y h1 h2 => by omega⟩
theorem Inserting.end0 {k : Nat} {L : List Ma} (h : Inserting k 0 L) : SortedTo (k + 1) L := fun p q x y hpq hq hx hy => by
  by_cases hp : p = 0
  · subst hp; exact h.up q x y hpq (by omega) hx hy
  · exact h.but p q x y hpq (by omega) hp (by omega) hx hy
theorem Inserting.finish {k j : Nat} {L : List Ma} {x y : Ma} (h : Inserting k j L) (hj : 0 < j) (hjk : j ≤ k) (hx : L[j]? = some x) (hy : L[j - 1]? = some y) (hle : Mle y x) : SortedTo (k + 1) L := fun p q a b hpq hq ha hb => by
  by_cases hp : p = j
  · subst hp; exact h.up q a b hpq (by omega) ha hb
  · by_cases hqj : q = j
    · subst hqj
      rw [hx] at hb; cases hb
      by_cases hp1 : p = q - 1
      · subst hp1; rw [hy] at ha; cases ha; exact hle
      · exact (h.but p (q - 1) a y (by omega) (by omega) hp (by omega) ha hy).trans hle
    · exact h.but p q a b hpq (by omega) hp hqj ha hb
theorem swap_get {L : List Ma} {j : Nat} {x y : Ma} (hj : 0 < j) (hx : L[j]? = some x) (hy : L[j - 1]? = some y) (i : Nat) :
    ((L.set j y).set (j - 1) x)[i]? = if i = j - 1 then some x else if i = j then some y else L[i]? := by
  have h1 := (List.getElem?_eq_some_iff.1 hx).1
  rw [List.getElem?_set, List.getElem?_set, List.length_set]
  by_cases hi : j - 1 = i
  · subst hi; simp; omega
  · rw [if_neg hi, if_neg (Ne.symm hi)]
    by_cases hi2 : j = i
    · subst hi2; simp [h1]
    · rw [if_neg hi2, if_neg (Ne.symm hi2)]
theorem Inserting.swap {k j : Nat} {L : List Ma} {x y : Ma} (h : Inserting k j L) (hj : 0 < j) (hjk : j ≤ k) (hx : L[j]? = some x) (hy : L[j - 1]? = some y) (hle : Mle x y) : Inserting k (j - 1) ((L.set j y).set (j - 1) x) := by
  refine ⟨fun p q a b hpq hq hp hqj ha hb => ?_, fun q a b hjq hq ha hb => ?_⟩
  · rw [swap_get hj hx hy, if_neg hp] at ha
    rw [swap_get hj hx hy, if_neg hqj] at hb
    by_cases h1 : p = j
    · rw [if_pos h1] at ha; cases ha
      rw [if_neg (by omega)] at hb
      exact h.but (j - 1) q y b (by omega) hq (by omega) (by omega) hy hb
    · rw [if_neg h1] at ha
      by_cases h2 : q = j
      · rw [if_pos h2] at hb; cases hb
        exact h.but p (j - 1) a y (by omega) (by omega) h1 (by omega) ha hy
      · rw [if_neg h2] at hb
        exact h.but p q a b hpq hq h1 h2 ha hb
  · rw [swap_get hj hx hy, if_pos rfl] at ha; cases ha
    rw [swap_get hj hx hy, if_neg (by omega)] at hb
    by_cases h2 : q = j
    · rw [if_pos h2] at hb; cases hb; exact hle
    · rw [if_neg h2] at hb
      exact h.up q x b (by omega) hq hx hb
theorem swap_perm {L : List Ma} {j : Nat} {x y : Ma} (hj : 0 < j) (hx : L[j]? = some x) (hy : L[j - 1]? = some y) : ((L.set j y).set (j - 1) x).Perm L := by
  obtain ⟨h1, e1⟩ := List.getElem?_eq_some_iff.1 hx
  obtain ⟨h2, e2⟩ := List.getElem?_eq_some_iff.1 hy
  have := List.set_set_perm h1 h2
  rw [e1, e2] at this
  exact this
end Go.Proofs.YtegcplghgnafjaaGreatDoor
/- Sorting addresses of the package. Conditions: as each says. -/
namespace Go.Proofs.YtegcplghgnafjaaGreatDoor
open Go Go.SX
set_option maxHeartbeats 8000000
set_option maxRecDepth 100000
/-- A row of addresses of the package. -/
abbrev MaRow (w0 w : World) (g c : Nat) (rest vs : List Value) (L : List Ma) : Prop := Row1 (fun w l v => MaOut w0 w v l) 47 w0.heap.size w g c rest vs L
theorem wrap_pred (j : Nat) (h : 0 < j) (hb : j < 9223372036854775807) : IntKind.i64.wrap (Int.ofNat j - 1) = Int.ofNat (j - 1) := by
  simp only [Int.ofNat_eq_natCast]
  rw [show (j : Int) - 1 = ((j - 1 : Nat) : Int) by omega, IntWalk.i64_in _ ⟨by omega, by omega⟩]
theorem held_none {r : SX.Fin} {g : Nat} (h : r.heldC = []) : ∀ i x, nth r.heldC i = some x → x.b ≠ g := fun i x hx => by rw [h] at hx; cases i <;> cases hx
theorem maRow_swap {w0 w w' : World} {g c : Nat} {rest vs : List Value} {L : List Ma} {j : Nat} {x y : Ma} {vx vy : Value} (h : MaRow w0 w g c rest vs L) (hj : 0 < j) (hx : L[j]? = some x) (hy : L[j - 1]? = some y) (hvx : vs[j]? = some vx) (hvy : vs[j - 1]? = some vy)
    (hb : w'.heap[g]? = some (.cells ⟨(vs.set j vy).set (j - 1) vx ++ rest⟩ 47 (0, 0))) (hk : Kept (fun b => b ≠ g) w w') : MaRow w0 w' g c rest ((vs.set j vy).set (j - 1) vx) ((L.set j y).set (j - 1) x) := by
  have hp : ∀ l u, MaOut w0 w u l → MaOut w0 w' u l := fun l u hI => hI.kept hk (fun b c t z hlo hb ht => ne_of_type h.blk hb (by rcases ht with rfl | rfl | rfl <;> decide))
  refine ⟨hb, by simp [h.len], ?_, by simpa using h.le, h.cap, h.lo, fun i v l hv hl => ?_⟩
  · have := h.room
    simp only [List.length_append, List.length_set] at this ⊢
    exact this
  · rw [swap_get hj hx hy] at hl
    have hv' : ((vs.set j vy).set (j - 1) vx)[i]? = if i = j - 1 then some vx else if i = j then some vy else vs[i]? := by
      have h1 := (List.getElem?_eq_some_iff.1 hvx).1
      rw [List.getElem?_set, List.getElem?_set, List.length_set]
      by_cases hi : j - 1 = i
      · subst hi; simp; omega
      · rw [if_neg hi, if_neg (Ne.symm hi)]
        by_cases hi2 : j = i
        · subst hi2; simp [h1]
        · rw [if_neg hi2, if_neg (Ne.symm hi2)]
    rw [hv'] at hv
    by_cases hi : i = j - 1
    · rw [if_pos hi] at hl hv; cases hl; cases hv; exact hp _ _ (h.all j vx x hvx hx)
    · rw [if_neg hi] at hl hv
      by_cases hi2 : i = j
      · rw [if_pos hi2] at hl hv; cases hl; cases hv; exact hp _ _ (h.all (j - 1) vy y hvy hy)
      · rw [if_neg hi2] at hl hv; exact hp _ _ (h.all i v l hv hl)
theorem maRow_same {w0 w w' : World} {g c : Nat} {rest vs : List Value} {L : List Ma} (h : MaRow w0 w g c rest vs L) (hb : w'.heap[g]? = some (.cells ⟨vs ++ rest⟩ 47 (0, 0))) (hk : Kept (fun b => b ≠ g) w w') : MaRow w0 w' g c rest vs L :=
  h.kept (hb.trans h.blk.symm) (fun l u _ hI => hI.kept hk (fun b c t z hlo hb ht => ne_of_type h.blk hb (by rcases ht with rfl | rfl | rfl <;> decide)))
theorem insertionSort (w0 : World) (L : List Ma) (g c : Nat) (rest vs : List Value) (w : World) (hrow : MaRow w0 w g c rest vs L) (hlen : L.length ≤ 1000000000) (hs : ∀ l ∈ L, l.length ≤ 1000000000) :
    Calls Tryz.prog 60 #[.slice (some ⟨g, 0, none⟩) L.length c, .int .i64 0, .int .i64 (Int.ofNat L.length), .func (.func 40) #[] #[]] w
      (fun e w1 => ∃ v, e = .returned v ∧ w.grownBy w1 (some g) ∧ ∃ vs' L', MaRow w0 w1 g c rest vs' L' ∧ L'.Perm L ∧ SortedTo L.length L') := by
  refine calls_of1 (args := [.slice (some ⟨g, 0, none⟩) L.length c, .int .i64 0, .int .i64 (Int.ofNat L.length), .func (.func 40) #[] #[]]) g (.cells ⟨vs ++ rest⟩ 47 (0, 0)) hrow.blk Tryz.func60 rfl rfl rfl ?_
  refine To.runF 7 [] (fun _ _ => by kernel_rfl) fun f1 g1 l1 => ?_
  refine To.loop (fun i : Nat × List Value × List Ma => L.length - i.1) (fun i => ([(0, .slice (some ⟨g, 0, none⟩) L.length c), (1, .int .i64 0), (2, .int .i64 (Int.ofNat L.length)), (3, .func (.func 40) #[] #[]), (8, .int .i64 (Int.ofNat i.1))], [some ⟨g, .cells ⟨i.2.1 ++ rest⟩ 47 (0, 0), true⟩]))
    (fun i w1 => MaRow w0 w1 g c rest i.2.1 i.2.2 ∧ i.2.2.Perm L ∧ 1 ≤ i.1 ∧ SortedTo i.1 i.2.2) (1, vs, L) [0] (by kernel_rfl) (by kernel_rfl) (by kernel_rfl) rfl (fun w1 hw1 => ⟨maRow_same hrow (hw1.blk (j := 0) (b := g) (o := .cells ⟨vs ++ rest⟩ 47 (0, 0)) (q := true) (by kernel_rfl)) (hw1.fr.kept (l := [some g]) (by kernel_rfl) ⟨fun h => h rfl, trivial⟩), List.Perm.refl _, Nat.le_refl _, fun p q x y h1 h2 => by omega⟩) ?_
  rintro ⟨k, vs1, L1⟩ w1 ⟨hrow1, hperm1, hk1, hsort1⟩ hx1 back
  have hrow1 : MaRow w0 w1 g c rest vs1 L1 := hrow1
  have hperm1 : L1.Perm L := hperm1
  have hk1 : 1 ≤ k := hk1
  have hsort1 : SortedTo k L1 := hsort1
  have hl1 : L1.length = L.length := hperm1.length_eq
  refine To.runF 7 [] (fun _ _ => by kernel_rfl) fun f2 g2 l2 => ?_
  by_cases hlt : k < L.length
  · refine To.testT (decide (Int.ofNat k < Int.ofNat L.length)) (by kernel_rfl) (decide_eq_true (Int.ofNat_lt.2 hlt)) ?_
    refine To.runF 9 [] (fun _ _ => by kernel_rfl) fun f3 g3 l3 => ?_
    refine To.loop (fun i : Nat × List Value × List Ma => i.1) (fun i => ([(0, .slice (some ⟨g, 0, none⟩) L.length c), (1, .int .i64 0), (2, .int .i64 (Int.ofNat L.length)), (3, .func (.func 40) #[] #[]), (8, .int .i64 (Int.ofNat k)), (9, .int .i64 (Int.ofNat i.1))], [some ⟨g, .cells ⟨i.2.1 ++ rest⟩ 47 (0, 0), true⟩]))
      (fun i w2 => MaRow w0 w2 g c rest i.2.1 i.2.2 ∧ i.2.2.Perm L ∧ i.1 ≤ k ∧ Inserting k i.1 i.2.2) (k, vs1, L1) [0] (by kernel_rfl) (by kernel_rfl) (by kernel_rfl) rfl (fun w2 hw2 => ⟨maRow_same hrow1 (hw2.blk (j := 0) (b := g) (o := .cells ⟨vs1 ++ rest⟩ 47 (0, 0)) (q := true) (by kernel_rfl)) (hw2.fr.kept (l := [some g]) (by kernel_rfl) ⟨fun h => h rfl, trivial⟩), hperm1, Nat.le_refl _, .start hsort1⟩) ?_
    rintro ⟨j, vs2, L2⟩ w2 ⟨hrow2, hperm2, hj, hins⟩ hx2 back2
    have hrow2 : MaRow w0 w2 g c rest vs2 L2 := hrow2
    have hperm2 : L2.Perm L := hperm2
    have hj : j ≤ k := hj
    have hins : Inserting k j L2 := hins
    have hl2 : L2.length = L.length := hperm2.length_eq
    refine To.runF 7 [1, 0, 0] (fun _ _ => by kernel_rfl) fun f4 g4 l4 => ?_
    by_cases hj0 : 0 < j
    · refine To.slotT 21 (decide (Int.ofNat j > 0)) (by kernel_rfl) (decide_eq_true (by simp only [Int.ofNat_eq_natCast]; omega)) ?_
      refine To.runF 6 [4, 5, 6, 9, 10, 11] (fun _ _ => by kernel_rfl) fun f5 g5 l5 => ?_
      obtain ⟨x, hx⟩ : ∃ x, L2[j]? = some x := ⟨L2[j]'(by rw [hl2]; omega), by simp⟩
      obtain ⟨y, hy⟩ : ∃ y, L2[j - 1]? = some y := ⟨L2[j - 1]'(by rw [hl2]; omega), by simp⟩
      obtain ⟨v1, hv1, hu1, hI1⟩ := hrow2.get hx
      obtain ⟨v2, hv2, hu2, hI2⟩ := hrow2.get hy
      have hjv : j < vs2.length := by rw [hrow2.len, hl2]; omega
      obtain ⟨b1, c1, rfl, hm1⟩ := hI1.min
      obtain ⟨b2, c2, rfl, hm2⟩ := hI2.min
      refine To.slotE 29 (.int .i64 (IntKind.i64.wrap (Int.ofNat j - 1))) (.int .i64 (Int.ofNat (j - 1))) (by kernel_rfl) (by rw [wrap_pred j hj0 (by omega)]) ?_
      refine To.indexAtE 7 elMs (some ⟨g, 0, none⟩) ⟨g, 0, none⟩ L.length c j (by kernel_rfl) rfl (by omega) ?_
      refine To.indexAtE 12 elMs (some ⟨g, 0, none⟩) ⟨g, 0, none⟩ L.length c (j - 1) (by kernel_rfl) rfl (by omega) ?_
      refine To.loadOneE 8 uMa rfl ((⟨g, 0, none⟩ : Addr).add (j * 1)) (.slice b1 x.length c1) (by kernel_rfl) (fun w3 hw3 => SH.cell (j := 0) (b := g) (c := ⟨vs2 ++ rest⟩) (e := 47) (z := (0, 0)) (q := true) hw3 (by kernel_rfl) (add_block _ _) (spot_add rfl _) (by rw [add0, Nat.mul_one]; simpa using hv1)) ?_
      refine To.loadOneE 13 uMa rfl ((⟨g, 0, none⟩ : Addr).add ((j - 1) * 1)) (.slice b2 y.length c2) (by kernel_rfl) (fun w3 hw3 => SH.cell (j := 0) (b := g) (c := ⟨vs2 ++ rest⟩) (e := 47) (z := (0, 0)) (q := true) hw3 (by kernel_rfl) (add_block _ _) (spot_add rfl _) (by rw [add0, Nat.mul_one]; simpa using hv2)) ?_
      refine To.runF 9 [] (fun _ _ => by kernel_rfl) fun f6 g6 l6 => ?_
      refine To.callN 41 #[.slice b1 x.length c1, .slice b2 y.length c2] (by kernel_rfl) (fun _ => by kernel_rfl) (fun w3 hw3 => maCompare x y b1 b2 c1 c2 w3 (hm1.later (frx1 hw3.fr (by kernel_rfl) hrow2.blk (hw3.blk (j := 0) (b := g) (o := .cells ⟨vs2 ++ rest⟩ 47 (0, 0)) (q := true) (by kernel_rfl)))) (hm2.later (frx1 hw3.fr (by kernel_rfl) hrow2.blk (hw3.blk (j := 0) (b := g) (o := .cells ⟨vs2 ++ rest⟩ 47 (0, 0)) (q := true) (by kernel_rfl)))) (by have := hs x (hperm2.subset (List.mem_of_getElem? hx)); omega) (by have := hs y (hperm2.subset (List.mem_of_getElem? hy)); omega)) (fun w3 v3 w4 hw3 hx3 hv3 hnew3 hwi3 => ?_)
      subst hv3
      refine To.runF 6 [] (fun _ _ => by kernel_rfl) fun f7 g7 l7 => ?_
      by_cases hlt2 : cmpA (blist x) (blist y) < 0
      · refine To.testT (decide (cmpA (blist x) (blist y) < 0)) (by kernel_rfl) (decide_eq_true hlt2) ?_
        refine To.runF 14 [0, 0, 1, 2, 3, 4, 5, 6, 7, 10, 11] (fun _ _ => by kernel_rfl) fun f8 g8 l8 => ?_
        have hwp := wrap_pred j hj0 (by omega)
        refine To.slotE 44 (.int .i64 (IntKind.i64.wrap (Int.ofNat j - 1))) (.int .i64 (Int.ofNat (j - 1))) (by kernel_rfl) (by rw [hwp]) ?_
        refine To.slotE 41 (.int .i64 (IntKind.i64.wrap (Int.ofNat j - 1))) (.int .i64 (Int.ofNat (j - 1))) (by kernel_rfl) (by rw [hwp]) ?_
        refine To.indexAtE 8 elMs (some ⟨g, 0, none⟩) ⟨g, 0, none⟩ L.length c (j - 1) (by kernel_rfl) rfl (by omega) ?_
        refine To.indexAtE 12 elMs (some ⟨g, 0, none⟩) ⟨g, 0, none⟩ L.length c j (by kernel_rfl) rfl (by omega) ?_
        refine To.pick 1 (by kernel_rfl) ⟨⟨trivial, ?_⟩, ?_⟩
        · refine To.loadOne uMa rfl ((⟨g, 0, none⟩ : Addr).add ((j - 1) * 1)) (.slice b2 y.length c2) (by kernel_rfl) (fun w3 hw3 => hw3.cellAt0 (j := 0) (b := g) (l := vs2 ++ rest) (e := 47) (f := (0, 0)) (q := true) (by kernel_rfl) (by rw [Nat.mul_one]; exact hv2)) ?_
          refine To.loadOne uMa rfl ((⟨g, 0, none⟩ : Addr).add (j * 1)) (.slice b1 x.length c1) (by kernel_rfl) (fun w3 hw3 => hw3.cellAt0 (j := 0) (b := g) (l := vs2 ++ rest) (e := 47) (f := (0, 0)) (q := true) (by kernel_rfl) (by rw [Nat.mul_one]; exact hv1)) ?_
          refine To.indexAt elMs (some ⟨g, 0, none⟩) ⟨g, 0, none⟩ L.length c j (by kernel_rfl) rfl (by omega) ?_
          refine To.storeOne 0 (t := 47) (e := 47) (by kernel_rfl) g j (vs2 ++ rest) (vs2.set j (.slice b2 y.length c2) ++ rest) (.slice b2 y.length c2) (by kernel_rfl) (by kernel_rfl) (by rw [List.length_append]; omega) (by rw [List.set_append_left _ _ hjv]) rfl rfl (held_none (by kernel_rfl)) ?_
          refine To.indexAt elMs (some ⟨g, 0, none⟩) ⟨g, 0, none⟩ L.length c (j - 1) (by kernel_rfl) rfl (by omega) ?_
          refine To.storeOne 0 (t := 47) (e := 47) (by kernel_rfl) g (j - 1) (vs2.set j (.slice b2 y.length c2) ++ rest) ((vs2.set j (.slice b2 y.length c2)).set (j - 1) (.slice b1 x.length c1) ++ rest) (.slice b1 x.length c1) (by kernel_rfl) (by kernel_rfl) (by rw [List.length_append, List.length_set]; omega) (by rw [List.set_append_left _ _ (by rw [List.length_set]; omega)]) rfl rfl (held_none (by kernel_rfl)) ?_
          refine To.runF 7 [] (fun _ _ => by kernel_rfl) fun f9 g9 l9 => ?_
          refine To.slotE 9 (.int .i64 (IntKind.i64.wrap (Int.ofNat j - 1))) (.int .i64 (Int.ofNat (j - 1))) (by kernel_rfl) (by rw [hwp]) ?_
          exact back2 _ _ (j - 1, (vs2.set j (.slice b2 y.length c2)).set (j - 1) (.slice b1 x.length c1), (L2.set j y).set (j - 1) x) [0] (by simp only; omega) ⟨by kernel_rfl, by kernel_rfl, by kernel_rfl, by kernel_rfl, by kernel_rfl, rfl⟩
            (fun w7 hw7 => ⟨maRow_swap hrow2 hj0 hx hy hu1 hu2 (hw7.blk (j := 0) (b := g) (o := .cells ⟨(vs2.set j (.slice b2 y.length c2)).set (j - 1) (.slice b1 x.length c1) ++ rest⟩ 47 (0, 0)) (q := true) (by kernel_rfl)) (((hw3.fr.kept (l := [some g]) (by kernel_rfl) ⟨fun h => h rfl, trivial⟩).trans hx3.kept).trans (hw7.fr.kept (l := [some g]) (by kernel_rfl) ⟨fun h => h rfl, trivial⟩)), (swap_perm hj0 hx hy).trans hperm2, by simp only; omega, hins.swap hj0 hj hx hy (show cmpA (blist x) (blist y) ≤ 0 by omega)⟩)
        · refine To.loadOne uMa rfl ((⟨g, 0, none⟩ : Addr).add (j * 1)) (.slice b1 x.length c1) (by kernel_rfl) (fun w3 hw3 => hw3.cellAt0 (j := 0) (b := g) (l := vs2 ++ rest) (e := 47) (f := (0, 0)) (q := true) (by kernel_rfl) (by rw [Nat.mul_one]; exact hv1)) ?_
          refine To.loadOne uMa rfl ((⟨g, 0, none⟩ : Addr).add ((j - 1) * 1)) (.slice b2 y.length c2) (by kernel_rfl) (fun w3 hw3 => hw3.cellAt0 (j := 0) (b := g) (l := vs2 ++ rest) (e := 47) (f := (0, 0)) (q := true) (by kernel_rfl) (by rw [Nat.mul_one]; exact hv2)) ?_
          refine To.indexAt elMs (some ⟨g, 0, none⟩) ⟨g, 0, none⟩ L.length c j (by kernel_rfl) rfl (by omega) ?_
          refine To.storeOne 0 (t := 47) (e := 47) (by kernel_rfl) g j (vs2 ++ rest) (vs2.set j (.slice b2 y.length c2) ++ rest) (.slice b2 y.length c2) (by kernel_rfl) (by kernel_rfl) (by rw [List.length_append]; omega) (by rw [List.set_append_left _ _ hjv]) rfl rfl (held_none (by kernel_rfl)) ?_
          refine To.indexAt elMs (some ⟨g, 0, none⟩) ⟨g, 0, none⟩ L.length c (j - 1) (by kernel_rfl) rfl (by omega) ?_
          refine To.storeOne 0 (t := 47) (e := 47) (by kernel_rfl) g (j - 1) (vs2.set j (.slice b2 y.length c2) ++ rest) ((vs2.set j (.slice b2 y.length c2)).set (j - 1) (.slice b1 x.length c1) ++ rest) (.slice b1 x.length c1) (by kernel_rfl) (by kernel_rfl) (by rw [List.length_append, List.length_set]; omega) (by rw [List.set_append_left _ _ (by rw [List.length_set]; omega)]) rfl rfl (held_none (by kernel_rfl)) ?_
          refine To.runF 7 [] (fun _ _ => by kernel_rfl) fun f9 g9 l9 => ?_
          refine To.slotE 9 (.int .i64 (IntKind.i64.wrap (Int.ofNat j - 1))) (.int .i64 (Int.ofNat (j - 1))) (by kernel_rfl) (by rw [hwp]) ?_
          exact back2 _ _ (j - 1, (vs2.set j (.slice b2 y.length c2)).set (j - 1) (.slice b1 x.length c1), (L2.set j y).set (j - 1) x) [0] (by simp only; omega) ⟨by kernel_rfl, by kernel_rfl, by kernel_rfl, by kernel_rfl, by kernel_rfl, rfl⟩
            (fun w7 hw7 => ⟨maRow_swap hrow2 hj0 hx hy hu1 hu2 (hw7.blk (j := 0) (b := g) (o := .cells ⟨(vs2.set j (.slice b2 y.length c2)).set (j - 1) (.slice b1 x.length c1) ++ rest⟩ 47 (0, 0)) (q := true) (by kernel_rfl)) (((hw3.fr.kept (l := [some g]) (by kernel_rfl) ⟨fun h => h rfl, trivial⟩).trans hx3.kept).trans (hw7.fr.kept (l := [some g]) (by kernel_rfl) ⟨fun h => h rfl, trivial⟩)), (swap_perm hj0 hx hy).trans hperm2, by simp only; omega, hins.swap hj0 hj hx hy (show cmpA (blist x) (blist y) ≤ 0 by omega)⟩)
      · refine To.testF (decide (cmpA (blist x) (blist y) < 0)) (by kernel_rfl) (decide_eq_false hlt2) ?_
        refine To.runF 7 [] (fun _ _ => by kernel_rfl) fun f8 g8 l8 => ?_
        have hle : Mle y x := by have := ca_swap (blist x) (blist y); unfold Mle; omega
        refine To.slotE 8 (.int .i64 (IntKind.i64.wrap (Int.ofNat k + 1))) (.int .i64 (Int.ofNat (k + 1))) (by kernel_rfl) (by rw [wrap_succ k (by omega)]) ?_
        exact back _ _ (k + 1, vs2, L2) [0] (by simp only; omega) ⟨by kernel_rfl, by kernel_rfl, by kernel_rfl, by kernel_rfl, by kernel_rfl, rfl⟩
          (fun w7 hw7 => ⟨maRow_same hrow2 (hw7.blk (j := 0) (b := g) (o := .cells ⟨vs2 ++ rest⟩ 47 (0, 0)) (q := true) (by kernel_rfl)) (((hw3.fr.kept (l := [some g]) (by kernel_rfl) ⟨fun h => h rfl, trivial⟩).trans hx3.kept).trans (hw7.fr.kept (l := [some g]) (by kernel_rfl) ⟨fun h => h rfl, trivial⟩)), hperm2, by simp only; omega, hins.finish hj0 hj hx hy hle⟩)
    · refine To.slotF 21 (decide (Int.ofNat j > 0)) (by kernel_rfl) (decide_eq_false (by simp only [Int.ofNat_eq_natCast]; omega)) ?_
      have hj1 : j = 0 := by omega
      subst hj1
      refine To.runF 22 [4, 5, 6, 7, 8, 9] (fun _ _ => by kernel_rfl) fun f5 g5 l5 => ?_
      refine To.slotE 8 (.int .i64 (IntKind.i64.wrap (Int.ofNat k + 1))) (.int .i64 (Int.ofNat (k + 1))) (by kernel_rfl) (by rw [wrap_succ k (by omega)]) ?_
      exact back _ _ (k + 1, vs2, L2) [0] (by simp only; omega) ⟨by kernel_rfl, by kernel_rfl, by kernel_rfl, by kernel_rfl, by kernel_rfl, rfl⟩
        (fun w7 hw7 => ⟨maRow_same hrow2 (hw7.blk (j := 0) (b := g) (o := .cells ⟨vs2 ++ rest⟩ 47 (0, 0)) (q := true) (by kernel_rfl)) (hw7.fr.kept (l := [some g]) (by kernel_rfl) ⟨fun h => h rfl, trivial⟩), hperm2, by simp only; omega, hins.end0⟩)
  · refine To.testF (decide (Int.ofNat k < Int.ofNat L.length)) (by kernel_rfl) (decide_eq_false (fun h => hlt (Int.ofNat_lt.1 h))) ?_
    refine To.runF 1 [] (fun _ _ => by kernel_rfl) fun f3 g3 l3 => ?_
    exact To.ret [0] (.tuple #[]) (by kernel_rfl) (by kernel_rfl) fun w4 hw4 => ⟨_, rfl, hw4.ext.grown1, vs1, L1, maRow_same hrow1 (hw4.blk (j := 0) (b := g) (o := .cells ⟨vs1 ++ rest⟩ 47 (0, 0)) (q := true) (by kernel_rfl)) (hw4.fr.kept (l := [some g]) (by kernel_rfl) ⟨fun h => h rfl, trivial⟩), hperm1, fun p q a b h1 h2 ha hb => hsort1 p q a b h1 (by omega) ha hb⟩
end Go.Proofs.YtegcplghgnafjaaGreatDoor
/- Sorting at most twelve addresses. Conditions: as each says. -/
namespace Go.Proofs.YtegcplghgnafjaaGreatDoor
open Go Go.SX
set_option maxHeartbeats 8000000
set_option maxRecDepth 100000
theorem held_none2 {r : SX.Fin} {g : Nat} (h : r.heldC = []) : ∀ i x, nth r.heldC i = some x → some x.b ≠ some g := fun i x hx => by rw [h] at hx; cases i <;> cases hx
theorem pdqsort (w0 : World) (L : List Ma) (g c : Nat) (lim : Int) (rest vs : List Value) (w : World) (hrow : MaRow w0 w g c rest vs L) (hlen : L.length ≤ 12) (hs : ∀ l ∈ L, l.length ≤ 1000000000) :
    Calls Tryz.prog 52 #[.slice (some ⟨g, 0, none⟩) L.length c, .int .i64 0, .int .i64 (Int.ofNat L.length), .int .i64 lim, .func (.func 40) #[] #[]] w
      (fun e w1 => ∃ v, e = .returned v ∧ w.grownBy w1 (some g) ∧ ∃ vs' L', MaRow w0 w1 g c rest vs' L' ∧ L'.Perm L ∧ SortedTo L.length L') := by
  refine calls_of1 (args := [.slice (some ⟨g, 0, none⟩) L.length c, .int .i64 0, .int .i64 (Int.ofNat L.length), .int .i64 lim, .func (.func 40) #[] #[]]) g (.cells ⟨vs ++ rest⟩ 47 (0, 0)) hrow.blk Tryz.func52 rfl rfl rfl ?_
  refine To.runF 9 [] (fun _ _ => by kernel_rfl) fun f1 g1 l1 => ?_
  refine To.loop (fun _ : Unit => 0) (fun _ => ([(0, .slice (some ⟨g, 0, none⟩) L.length c), (1, .int .i64 0), (2, .int .i64 (Int.ofNat L.length)), (3, .int .i64 lim), (4, .func (.func 40) #[] #[])], [some ⟨g, .cells ⟨vs ++ rest⟩ 47 (0, 0), true⟩]))
    (fun _ w1 => MaRow w0 w1 g c rest vs L) () [0] (by kernel_rfl) (by kernel_rfl) (by kernel_rfl) rfl (fun w1 hw1 => maRow_same hrow (hw1.blk (j := 0) (b := g) (o := .cells ⟨vs ++ rest⟩ 47 (0, 0)) (q := true) (by kernel_rfl)) (hw1.fr.kept (l := [some g]) (by kernel_rfl) ⟨fun h => h rfl, trivial⟩)) ?_
  rintro ⟨⟩ w1 hrow1 hx1 back
  refine To.runF 14 [] (fun _ _ => by kernel_rfl) fun f2 g2 l2 => ?_
  refine To.testT (decide (IntKind.i64.wrap (Int.ofNat L.length - 0) ≤ 12)) (by kernel_rfl) (decide_eq_true (by rw [Int.sub_zero]; simp only [Int.ofNat_eq_natCast]; rw [IntWalk.i64_in _ ⟨by omega, by omega⟩]; omega)) ?_
  refine To.runF 6 [] (fun _ _ => by kernel_rfl) fun f3 g3 l3 => ?_
  refine To.callGC 60 #[.slice (some ⟨g, 0, none⟩) L.length c, .int .i64 0, .int .i64 (Int.ofNat L.length), .func (.func 40) #[] #[]] (some g) (some 0) (Φ := fun _ _ w1 => ∃ vs' L', MaRow w0 w1 g c rest vs' L' ∧ L'.Perm L ∧ SortedTo L.length L') (by kernel_rfl) (fun _ => by kernel_rfl)
    (fun w2 hw2 => insertionSort w0 L g c rest vs w2 (maRow_same hrow1 (hw2.blk (j := 0) (b := g) (o := .cells ⟨vs ++ rest⟩ 47 (0, 0)) (q := true) (by kernel_rfl)) (hw2.fr.kept (l := [some g]) (by kernel_rfl) ⟨fun h => h rfl, trivial⟩)) (by omega) hs) (fun w _ i x hx => nums_all (Q := fun n => some n ≠ some g) (l := [none]) (by kernel_rfl) trivial i x hx) (fun w _ b hb => .inr (by cases hb; simp)) (fun w _ => held_none2 (by kernel_rfl)) (fun w2 v2 w3 hw2 hg2 hΦ => ?_)
  obtain ⟨vs', L', h1, h2, h3⟩ := hΦ
  refine To.runF 1 [] (fun _ _ => by kernel_rfl) fun f4 g4 l4 => ?_
  exact To.ret [] (.tuple #[]) (by kernel_rfl) (by kernel_rfl) fun w9 hw9 => by
    have hk : Kept (fun _ => True) w3 w9 := hw9.fr.kept (l := [none]) (by kernel_rfl) trivial
    exact ⟨_, rfl, hw9.ext.grown1, vs', L', maRow_same h1 (hk _ _ trivial h1.blk) (hk.mono (fun _ _ => trivial)), h2, h3⟩
theorem bitsLen1 (w : World) : Calls Tryz.prog 53 #[.int .u64 1] w (fun e w1 => ∃ v, e = .returned v ∧ Ext [] w w1 ∧ ∃ lim, v = .int .i64 lim) := by
  refine calls_of0 (args := [.int .u64 1]) Tryz.func53 rfl rfl rfl ?_
  refine To.runF 52 [] (fun _ _ => by kernel_rfl) fun f1 g1 l1 => ?_
  exact To.ret [] (.int .i64 1) (by kernel_rfl) (by kernel_rfl) fun w4 hw4 => ⟨_, rfl, hw4.ext, _, rfl⟩
theorem bitsLen2 (w : World) : Calls Tryz.prog 53 #[.int .u64 2] w (fun e w1 => ∃ v, e = .returned v ∧ Ext [] w w1 ∧ ∃ lim, v = .int .i64 lim) := by
  refine calls_of0 (args := [.int .u64 2]) Tryz.func53 rfl rfl rfl ?_
  refine To.runF 52 [] (fun _ _ => by kernel_rfl) fun f1 g1 l1 => ?_
  exact To.ret [] (.int .i64 2) (by kernel_rfl) (by kernel_rfl) fun w4 hw4 => ⟨_, rfl, hw4.ext, _, rfl⟩
theorem bitsLen3 (w : World) : Calls Tryz.prog 53 #[.int .u64 3] w (fun e w1 => ∃ v, e = .returned v ∧ Ext [] w w1 ∧ ∃ lim, v = .int .i64 lim) := by
  refine calls_of0 (args := [.int .u64 3]) Tryz.func53 rfl rfl rfl ?_
  refine To.runF 52 [] (fun _ _ => by kernel_rfl) fun f1 g1 l1 => ?_
  exact To.ret [] (.int .i64 2) (by kernel_rfl) (by kernel_rfl) fun w4 hw4 => ⟨_, rfl, hw4.ext, _, rfl⟩
theorem bitsLen4 (w : World) : Calls Tryz.prog 53 #[.int .u64 4] w (fun e w1 => ∃ v, e = .returned v ∧ Ext [] w w1 ∧ ∃ lim, v = .int .i64 lim) := by
  refine calls_of0 (args := [.int .u64 4]) Tryz.func53 rfl rfl rfl ?_
  refine To.runF 52 [] (fun _ _ => by kernel_rfl) fun f1 g1 l1 => ?_
  exact To.ret [] (.int .i64 3) (by kernel_rfl) (by kernel_rfl) fun w4 hw4 => ⟨_, rfl, hw4.ext, _, rfl⟩
theorem bitsLen5 (w : World) : Calls Tryz.prog 53 #[.int .u64 5] w (fun e w1 => ∃ v, e = .returned v ∧ Ext [] w w1 ∧ ∃ lim, v = .int .i64 lim) := by
  refine calls_of0 (args := [.int .u64 5]) Tryz.func53 rfl rfl rfl ?_
  refine To.runF 52 [] (fun _ _ => by kernel_rfl) fun f1 g1 l1 => ?_
  exact To.ret [] (.int .i64 3) (by kernel_rfl) (by kernel_rfl) fun w4 hw4 => ⟨_, rfl, hw4.ext, _, rfl⟩
theorem bitsLen6 (w : World) : Calls Tryz.prog 53 #[.int .u64 6] w (fun e w1 => ∃ v, e = .returned v ∧ Ext [] w w1 ∧ ∃ lim, v = .int .i64 lim) := by
  refine calls_of0 (args := [.int .u64 6]) Tryz.func53 rfl rfl rfl ?_
  refine To.runF 52 [] (fun _ _ => by kernel_rfl) fun f1 g1 l1 => ?_
  exact To.ret [] (.int .i64 3) (by kernel_rfl) (by kernel_rfl) fun w4 hw4 => ⟨_, rfl, hw4.ext, _, rfl⟩
theorem bitsLen7 (w : World) : Calls Tryz.prog 53 #[.int .u64 7] w (fun e w1 => ∃ v, e = .returned v ∧ Ext [] w w1 ∧ ∃ lim, v = .int .i64 lim) := by
  refine calls_of0 (args := [.int .u64 7]) Tryz.func53 rfl rfl rfl ?_
  refine To.runF 52 [] (fun _ _ => by kernel_rfl) fun f1 g1 l1 => ?_
  exact To.ret [] (.int .i64 3) (by kernel_rfl) (by kernel_rfl) fun w4 hw4 => ⟨_, rfl, hw4.ext, _, rfl⟩
theorem bitsLen8 (w : World) : Calls Tryz.prog 53 #[.int .u64 8] w (fun e w1 => ∃ v, e = .returned v ∧ Ext [] w w1 ∧ ∃ lim, v = .int .i64 lim) := by
  refine calls_of0 (args := [.int .u64 8]) Tryz.func53 rfl rfl rfl ?_
  refine To.runF 52 [] (fun _ _ => by kernel_rfl) fun f1 g1 l1 => ?_
  exact To.ret [] (.int .i64 4) (by kernel_rfl) (by kernel_rfl) fun w4 hw4 => ⟨_, rfl, hw4.ext, _, rfl⟩
theorem bitsLen9 (w : World) : Calls Tryz.prog 53 #[.int .u64 9] w (fun e w1 => ∃ v, e = .returned v ∧ Ext [] w w1 ∧ ∃ lim, v = .int .i64 lim) := by
  refine calls_of0 (args := [.int .u64 9]) Tryz.func53 rfl rfl rfl ?_
  refine To.runF 52 [] (fun _ _ => by kernel_rfl) fun f1 g1 l1 => ?_
  exact To.ret [] (.int .i64 4) (by kernel_rfl) (by kernel_rfl) fun w4 hw4 => ⟨_, rfl, hw4.ext, _, rfl⟩
theorem bitsLen10 (w : World) : Calls Tryz.prog 53 #[.int .u64 10] w (fun e w1 => ∃ v, e = .returned v ∧ Ext [] w w1 ∧ ∃ lim, v = .int .i64 lim) := by
  refine calls_of0 (args := [.int .u64 10]) Tryz.func53 rfl rfl rfl ?_
  refine To.runF 52 [] (fun _ _ => by kernel_rfl) fun f1 g1 l1 => ?_
  exact To.ret [] (.int .i64 4) (by kernel_rfl) (by kernel_rfl) fun w4 hw4 => ⟨_, rfl, hw4.ext, _, rfl⟩
theorem bitsLen11 (w : World) : Calls Tryz.prog 53 #[.int .u64 11] w (fun e w1 => ∃ v, e = .returned v ∧ Ext [] w w1 ∧ ∃ lim, v = .int .i64 lim) := by
  refine calls_of0 (args := [.int .u64 11]) Tryz.func53 rfl rfl rfl ?_
  refine To.runF 52 [] (fun _ _ => by kernel_rfl) fun f1 g1 l1 => ?_
  exact To.ret [] (.int .i64 4) (by kernel_rfl) (by kernel_rfl) fun w4 hw4 => ⟨_, rfl, hw4.ext, _, rfl⟩
theorem bitsLen12 (w : World) : Calls Tryz.prog 53 #[.int .u64 12] w (fun e w1 => ∃ v, e = .returned v ∧ Ext [] w w1 ∧ ∃ lim, v = .int .i64 lim) := by
  refine calls_of0 (args := [.int .u64 12]) Tryz.func53 rfl rfl rfl ?_
  refine To.runF 52 [] (fun _ _ => by kernel_rfl) fun f1 g1 l1 => ?_
  exact To.ret [] (.int .i64 4) (by kernel_rfl) (by kernel_rfl) fun w4 hw4 => ⟨_, rfl, hw4.ext, _, rfl⟩
theorem bitsLen (n : Nat) (h : n ≤ 12) (h0 : 0 < n) (w : World) : Calls Tryz.prog 53 #[.int .u64 (Int.ofNat n)] w (fun e w1 => ∃ v, e = .returned v ∧ Ext [] w w1 ∧ ∃ lim, v = .int .i64 lim) := by
  obtain rfl | rfl | rfl | rfl | rfl | rfl | rfl | rfl | rfl | rfl | rfl | rfl : n = 1 ∨ n = 2 ∨ n = 3 ∨ n = 4 ∨ n = 5 ∨ n = 6 ∨ n = 7 ∨ n = 8 ∨ n = 9 ∨ n = 10 ∨ n = 11 ∨ n = 12 := by omega
  · exact bitsLen1 w
  · exact bitsLen2 w
  · exact bitsLen3 w
  · exact bitsLen4 w
  · exact bitsLen5 w
  · exact bitsLen6 w
  · exact bitsLen7 w
  · exact bitsLen8 w
  · exact bitsLen9 w
  · exact bitsLen10 w
  · exact bitsLen11 w
  · exact bitsLen12 w
theorem sortFunc (w0 : World) (L : List Ma) (g c : Nat) (rest vs : List Value) (w : World) (hrow : MaRow w0 w g c rest vs L) (hlen : L.length ≤ 12) (h0 : 0 < L.length) (hs : ∀ l ∈ L, l.length ≤ 1000000000) :
    Calls Tryz.prog 39 #[.slice (some ⟨g, 0, none⟩) L.length c, .func (.func 40) #[] #[]] w
      (fun e w1 => ∃ v, e = .returned v ∧ w.grownBy w1 (some g) ∧ ∃ vs' L', MaRow w0 w1 g c rest vs' L' ∧ L'.Perm L ∧ SortedTo L.length L') := by
  refine calls_of1 (args := [.slice (some ⟨g, 0, none⟩) L.length c, .func (.func 40) #[] #[]]) g (.cells ⟨vs ++ rest⟩ 47 (0, 0)) hrow.blk Tryz.func39 rfl rfl rfl ?_
  refine To.runF 11 [] (fun _ _ => by kernel_rfl) fun f1 g1 l1 => ?_
  refine To.callN 53 #[.int .u64 (IntKind.u64.wrap (Int.ofNat L.length))] (by kernel_rfl) (fun _ => by kernel_rfl) (fun w2 hw2 => by rw [show IntKind.u64.wrap (Int.ofNat L.length) = Int.ofNat L.length from IntWalk.u64_in _ ⟨Int.natCast_nonneg _, by simp only [Int.ofNat_eq_natCast]; omega⟩]; exact bitsLen L.length hlen h0 w2) (fun w2 v2 w3 hw2 hx2 hv2 hnew2 hwi2 => ?_)
  obtain ⟨lim, rfl⟩ := hv2
  refine To.runF 1 [] (fun _ _ => by kernel_rfl) fun f2 g2 l2 => ?_
  refine To.callGC 52 #[.slice (some ⟨g, 0, none⟩) L.length c, .int .i64 0, .int .i64 (Int.ofNat L.length), .int .i64 lim, .func (.func 40) #[] #[]] (some g) (some 0) (Φ := fun _ _ w1 => ∃ vs' L', MaRow w0 w1 g c rest vs' L' ∧ L'.Perm L ∧ SortedTo L.length L') (by kernel_rfl) (fun _ => by kernel_rfl)
    (fun w4 hw4 => pdqsort w0 L g c lim rest vs w4 (maRow_same hrow (hw4.blk (j := 0) (b := g) (o := .cells ⟨vs ++ rest⟩ 47 (0, 0)) (q := true) (by kernel_rfl)) (((hw2.fr.kept (l := [some g]) (by kernel_rfl) ⟨fun h => h rfl, trivial⟩).trans hx2.kept).trans (hw4.fr.kept (l := [some g]) (by kernel_rfl) ⟨fun h => h rfl, trivial⟩))) hlen hs) (fun w _ i x hx => nums_all (Q := fun n => some n ≠ some g) (l := [none]) (by kernel_rfl) trivial i x hx) (fun w _ b hb => .inr (by cases hb; simp)) (fun w _ => held_none2 (by kernel_rfl)) (fun w4 v4 w5 hw4 hg4 hΦ => ?_)
  obtain ⟨vs', L', h1, h2, h3⟩ := hΦ
  refine To.runF 1 [] (fun _ _ => by kernel_rfl) fun f3 g3 l3 => ?_
  exact To.ret [] (.tuple #[]) (by kernel_rfl) (by kernel_rfl) fun w9 hw9 => by
    have hk : Kept (fun _ => True) w5 w9 := hw9.fr.kept (l := [none]) (by kernel_rfl) trivial
    exact ⟨_, rfl, hw9.ext.grown1, vs', L', maRow_same h1 (hk _ _ trivial h1.blk) (hk.mono (fun _ _ => trivial)), h2, h3⟩
end Go.Proofs.YtegcplghgnafjaaGreatDoor
/- multiaddr.Unique of at most twelve addresses. Conditions: as each says. -/
namespace Go.Proofs.YtegcplghgnafjaaGreatDoor
open Go Go.SX
set_option maxHeartbeats 8000000
set_option maxRecDepth 100000
/-- The state of dropping doubles: i of the sorted list S are looked at, n of the row L are kept. -/
structure Dropped (S : List Ma) (i n : Nat) (L : List Ma) : Prop where
  len : L.length = S.length
  le : n ≤ i
  pos : 1 ≤ n
  top : i ≤ S.length
  tail : ∀ p, i ≤ p + 1 → L[p]? = S[p]?
  nodup : ((L.take n).map blist).Nodup
  mem : ∀ s, s ∈ (L.take n).map blist ↔ s ∈ (S.take i).map blist
  sub : ∀ x ∈ L, x ∈ S
theorem Dropped.start {S : List Ma} (h : 0 < S.length) : Dropped S 1 1 S := by
  refine ⟨rfl, Nat.le_refl _, Nat.le_refl _, h, fun _ _ => rfl, ?_, fun _ => Iff.rfl, fun _ h => h⟩
  cases S with
  | nil => cases h
  | cons x S => simp
theorem Dropped.same {S L : List Ma} {i n : Nat} {x y : Ma} (h : Dropped S i n L) (hx : L[i - 1]? = some x) (hy : L[i]? = some y) (he : blist x = blist y) : Dropped S (i + 1) n L := by
  have hp := h.pos
  have hle := h.le
  have sx : S[i - 1]? = some x := by rw [← h.tail (i - 1) (by omega)]; exact hx
  have sy : S[i]? = some y := by rw [← h.tail i (by omega)]; exact hy
  have hi := (List.getElem?_eq_some_iff.1 sy).1
  refine ⟨h.len, by omega, hp, hi, fun p hp => h.tail p (by omega), h.nodup, fun s => ?_, h.sub⟩
  rw [h.mem s, List.take_add_one, sy, List.map_append, List.mem_append]
  constructor
  · exact .inl
  · rintro (hs | hs)
    · exact hs
    · simp only [Option.toList_some, List.map_cons, List.map_nil, List.mem_singleton] at hs
      rw [hs, ← he]
      exact List.mem_map.2 ⟨x, List.mem_of_getElem? (i := i - 1) (by rw [List.getElem?_take, if_pos (by omega)]; exact sx), rfl⟩
theorem Dropped.next {S L : List Ma} {i n k : Nat} {x y : Ma} (h : Dropped S i n L) (hk : S.length = k) (hsort : SortedTo k S) (hx : L[i - 1]? = some x) (hy : L[i]? = some y) (he : blist x ≠ blist y) : Dropped S (i + 1) (n + 1) (L.set n y) := by
  subst hk
  have hp := h.pos
  have hle := h.le
  have sx : S[i - 1]? = some x := by rw [← h.tail (i - 1) (by omega)]; exact hx
  have sy : S[i]? = some y := by rw [← h.tail i (by omega)]; exact hy
  have hi := (List.getElem?_eq_some_iff.1 sy).1
  have hnl : n < L.length := by rw [h.len]; omega
  have ht : (L.set n y).take (n + 1) = L.take n ++ [y] := by
    rw [List.take_add_one, List.take_set_of_le (Nat.le_refl _), List.getElem?_set]
    simp [hnl]
  have hnew : blist y ∉ (L.take n).map blist := by
    rw [h.mem, List.mem_map]
    rintro ⟨z, hz, hzy⟩
    obtain ⟨q, hq⟩ := List.mem_iff_getElem?.1 hz
    rw [List.getElem?_take] at hq
    split at hq
    · rename_i hqi
      by_cases hq1 : q = i - 1
      · subst hq1; rw [sx] at hq; cases hq; exact he hzy
      · have h1 := hsort q (i - 1) z x (by omega) (by omega) hq sx
        have h2 := hsort (i - 1) i x y (by omega) hi sx sy
        unfold Mle at h1 h2
        rw [hzy] at h1
        have h3 := ca_swap (blist x) (blist y)
        exact he (ca_eq _ _ (by omega))
    · cases hq
  refine ⟨by rw [List.length_set, h.len], by omega, by omega, hi, fun p hp => ?_, ?_, fun s => ?_, fun z hz => ?_⟩
  · rw [List.getElem?_set]
    by_cases hnp : n = p
    · subst hnp
      have : n = i := by omega
      subst this
      rw [if_pos rfl, if_pos hnl, sy]
    · rw [if_neg hnp]; exact h.tail p (by omega)
  · rw [ht, List.map_append, List.nodup_append]
    refine ⟨h.nodup, by simp, fun a ha b hb hab => ?_⟩
    simp only [List.map_cons, List.map_nil, List.mem_singleton] at hb
    subst hb; subst hab
    exact hnew ha
  · rw [ht, List.take_add_one, sy, List.map_append, List.map_append, List.mem_append, List.mem_append, h.mem s]
    rfl
  · rcases List.mem_or_eq_of_mem_set hz with hz | rfl
    · exact h.sub z hz
    · exact List.mem_of_getElem? sy
theorem maRow_set {w0 w w' : World} {g c : Nat} {rest vs : List Value} {L : List Ma} {n i : Nat} {y : Ma} {vy : Value} (h : MaRow w0 w g c rest vs L) (hy : L[i]? = some y) (hvy : vs[i]? = some vy) (hn : n < vs.length)
    (hb : w'.heap[g]? = some (.cells ⟨vs.set n vy ++ rest⟩ 47 (0, 0))) (hk : Kept (fun b => b ≠ g) w w') : MaRow w0 w' g c rest (vs.set n vy) (L.set n y) := by
  have hp : ∀ l u, MaOut w0 w u l → MaOut w0 w' u l := fun l u hI => hI.kept hk (fun b c t z hlo hb ht => ne_of_type h.blk hb (by rcases ht with rfl | rfl | rfl <;> decide))
  have hnl : n < L.length := by rw [← h.len]; exact hn
  refine ⟨hb, by simp [h.len], ?_, by simpa using h.le, h.cap, h.lo, fun k v l hv hl => ?_⟩
  · have := h.room
    simp only [List.length_append, List.length_set] at this ⊢
    exact this
  · rw [List.getElem?_set] at hl hv
    by_cases hk : n = k
    · subst hk
      rw [if_pos rfl, if_pos hn] at hv
      rw [if_pos rfl, if_pos hnl] at hl
      cases hv; cases hl
      exact hp _ _ (h.all i vy y hvy hy)
    · rw [if_neg hk] at hl hv
      exact hp _ _ (h.all k v l hv hl)
theorem unique (w0 : World) (L : List Ma) (g c : Nat) (rest vs : List Value) (w : World) (hrow : MaRow w0 w g c rest vs L) (hlen : L.length ≤ 12) (h0 : 0 < L.length) (hs : ∀ l ∈ L, l.length ≤ 1000000000) :
    Calls Tryz.prog 27 #[.slice (some ⟨g, 0, none⟩) L.length c] w
      (fun e w1 => ∃ v, e = .returned v ∧ w.grownBy w1 (some g) ∧ ∃ U vs' rest', v = .slice (some ⟨g, 0, none⟩) U.length c ∧ MaRow w0 w1 g c rest' vs' U ∧ (U.map blist).Nodup ∧ (∀ s, s ∈ U.map blist ↔ s ∈ L.map blist) ∧ ∀ x ∈ U, x ∈ L) := by
  refine calls_of1 (args := [.slice (some ⟨g, 0, none⟩) L.length c]) g (.cells ⟨vs ++ rest⟩ 47 (0, 0)) hrow.blk Tryz.func27 rfl rfl rfl ?_
  refine To.runF 11 [] (fun _ _ => by kernel_rfl) fun f1 g1 l1 => ?_
  refine To.testF (Int.ofNat L.length == 0) (by kernel_rfl) (by simp only [Int.ofNat_eq_natCast, beq_eq_false_iff_ne, ne_eq]; omega) ?_
  refine To.runF 4 [] (fun _ _ => by kernel_rfl) fun f2 g2 l2 => ?_
  refine To.callGC 39 #[.slice (some ⟨g, 0, none⟩) L.length c, .func (.func 40) #[] #[]] (some g) (some 0) (Φ := fun _ _ w1 => ∃ vs' L', MaRow w0 w1 g c rest vs' L' ∧ L'.Perm L ∧ SortedTo L.length L') (by kernel_rfl) (fun _ => by kernel_rfl)
    (fun w2 hw2 => sortFunc w0 L g c rest vs w2 (maRow_same hrow (hw2.blk (j := 0) (b := g) (o := .cells ⟨vs ++ rest⟩ 47 (0, 0)) (q := true) (by kernel_rfl)) (hw2.fr.kept (l := [some g]) (by kernel_rfl) ⟨fun h => h rfl, trivial⟩)) hlen h0 hs)
    (fun w _ i x hx => nums_all (Q := fun n => some n ≠ some g) (l := [none]) (by kernel_rfl) trivial i x hx) (fun w _ b hb => .inr (by cases hb; simp)) (fun w _ => held_none2 (by kernel_rfl)) (fun w2 v2 w3 hw2 hg2 hΦ => ?_)
  obtain ⟨vs1, S, hrow1, hperm, hsort⟩ := hΦ
  have hl1 : S.length = L.length := hperm.length_eq
  refine To.withAt g (.cells ⟨vs1 ++ rest⟩ 47 (0, 0)) true hrow1.blk (nums_all (Q := fun n => n ≠ g) (l := [none]) (by kernel_rfl) trivial) (fun _ => .inr (by simp)) ?_
  refine To.runF 11 [] (fun _ _ => by kernel_rfl) fun f3 g3 l3 => ?_
  refine To.loop (fun i : Nat × Nat × List Value × List Ma => L.length - i.1) (fun i => ([(0, .slice (some ⟨g, 0, none⟩) L.length c), (3, .int .i64 (Int.ofNat i.2.1)), (4, .int .i64 (Int.ofNat i.1))], [some ⟨g, .cells ⟨i.2.2.1 ++ rest⟩ 47 (0, 0), true⟩]))
    (fun i w1 => MaRow w0 w1 g c rest i.2.2.1 i.2.2.2 ∧ Dropped S i.1 i.2.1 i.2.2.2) (1, 1, vs1, S) [1] (by kernel_rfl) (by kernel_rfl) (by kernel_rfl) rfl (fun w4 hw4 => ⟨maRow_same hrow1 (hw4.blk (j := 1) (b := g) (o := .cells ⟨vs1 ++ rest⟩ 47 (0, 0)) (q := true) (by kernel_rfl)) (hw4.fr.kept (l := [none, some g]) (by kernel_rfl) ⟨fun h => h rfl, trivial⟩), Dropped.start (by omega)⟩) ?_
  rintro ⟨i, n, vs2, L2⟩ w4 ⟨hrow2, hd⟩ hx4 back
  have hrow2 : MaRow w0 w4 g c rest vs2 L2 := hrow2
  have hd : Dropped S i n L2 := hd
  have hl2 : L2.length = L.length := hd.len.trans hl1
  refine To.runF 8 [] (fun _ _ => by kernel_rfl) fun f4 g4 l4 => ?_
  by_cases hlt : i < L.length
  · refine To.testT (decide (Int.ofNat i < Int.ofNat L.length)) (by kernel_rfl) (decide_eq_true (Int.ofNat_lt.2 hlt)) ?_
    refine To.runF 10 [1, 0, 0, 1, 2, 5, 6] (fun _ _ => by kernel_rfl) fun f5 g5 l5 => ?_
    have hi1 : 1 ≤ i := Nat.le_trans hd.pos hd.le
    have hni : n ≤ i := hd.le
    obtain ⟨x, hx⟩ : ∃ x, L2[i - 1]? = some x := ⟨L2[i - 1]'(by rw [hl2]; omega), by simp⟩
    obtain ⟨y, hy⟩ : ∃ y, L2[i]? = some y := ⟨L2[i]'(by rw [hl2]; omega), by simp⟩
    obtain ⟨v1, hv1, hu1, hI1⟩ := hrow2.get hx
    obtain ⟨v3, hv3, hu3, hI3⟩ := hrow2.get hy
    obtain ⟨b1, c1, rfl, hm1⟩ := hI1.min
    obtain ⟨b3, c3, rfl, hm3⟩ := hI3.min
    have hnv : n < vs2.length := by rw [hrow2.len, hl2]; omega
    refine To.slotE 20 (.int .i64 (IntKind.i64.wrap (Int.ofNat i - 1))) (.int .i64 (Int.ofNat (i - 1))) (by kernel_rfl) (by rw [wrap_pred i (by omega) (by omega)]) ?_
    refine To.indexAtE 3 elMs (some ⟨g, 0, none⟩) ⟨g, 0, none⟩ L.length c (i - 1) (by kernel_rfl) rfl (by omega) ?_
    refine To.indexAtE 7 elMs (some ⟨g, 0, none⟩) ⟨g, 0, none⟩ L.length c i (by kernel_rfl) rfl (by omega) ?_
    refine To.loadOneE 4 uMa rfl ((⟨g, 0, none⟩ : Addr).add ((i - 1) * 1)) (.slice b1 x.length c1) (by kernel_rfl) (fun w3 hw3 => SH.cell (j := 0) (b := g) (c := ⟨vs2 ++ rest⟩) (e := 47) (z := (0, 0)) (q := true) hw3 (by kernel_rfl) (add_block _ _) (spot_add rfl _) (by rw [add0, Nat.mul_one]; simpa using hv1)) ?_
    refine To.loadOneE 8 uMa rfl ((⟨g, 0, none⟩ : Addr).add (i * 1)) (.slice b3 y.length c3) (by kernel_rfl) (fun w3 hw3 => SH.cell (j := 0) (b := g) (c := ⟨vs2 ++ rest⟩) (e := 47) (z := (0, 0)) (q := true) hw3 (by kernel_rfl) (add_block _ _) (spot_add rfl _) (by rw [add0, Nat.mul_one]; simpa using hv3)) ?_
    refine To.callN 37 #[.slice b1 x.length c1, .slice b3 y.length c3] (by kernel_rfl) (fun _ => by kernel_rfl) (fun w5 hw5 => maEqual x y b1 b3 c1 c3 w5 (hm1.later (frx1 hw5.fr (by kernel_rfl) hrow2.blk (hw5.blk (j := 0) (b := g) (o := .cells ⟨vs2 ++ rest⟩ 47 (0, 0)) (q := true) (by kernel_rfl)))) (hm3.later (frx1 hw5.fr (by kernel_rfl) hrow2.blk (hw5.blk (j := 0) (b := g) (o := .cells ⟨vs2 ++ rest⟩ 47 (0, 0)) (q := true) (by kernel_rfl)))) (by have := hs x (hperm.subset (hd.sub x (List.mem_of_getElem? hx))); omega) (by have := hs y (hperm.subset (hd.sub y (List.mem_of_getElem? hy))); omega)) (fun w5 v5 w6 hw5 hx5 hv5 hnew5 hwi5 => ?_)
    subst hv5
    refine To.runF 2 [] (fun _ _ => by kernel_rfl) fun f6 g6 l6 => ?_
    refine To.test (!decide (blist x = blist y)) (by kernel_rfl) (fun h2 => ?_) (fun h2 => ?_)
    · have hne : blist x ≠ blist y := by simpa using h2
      refine To.runF 6 [] (fun _ _ => by kernel_rfl) fun f7 g7 l7 => ?_
      refine To.indexAt elMs (some ⟨g, 0, none⟩) ⟨g, 0, none⟩ L.length c i (by kernel_rfl) rfl (by omega) ?_
      refine To.loadOne uMa rfl ((⟨g, 0, none⟩ : Addr).add (i * 1)) (.slice b3 y.length c3) (by kernel_rfl) (fun w3 hw3 => hw3.cellAt0 (j := 0) (b := g) (l := vs2 ++ rest) (e := 47) (f := (0, 0)) (q := true) (by kernel_rfl) (by rw [Nat.mul_one]; exact hv3)) ?_
      refine To.indexAt elMs (some ⟨g, 0, none⟩) ⟨g, 0, none⟩ L.length c n (by kernel_rfl) rfl (by omega) ?_
      refine To.storeOne 0 (t := 47) (e := 47) (by kernel_rfl) g n (vs2 ++ rest) (vs2.set n (.slice b3 y.length c3) ++ rest) (.slice b3 y.length c3) (by kernel_rfl) (by kernel_rfl) (by rw [List.length_append]; omega) (by rw [List.set_append_left _ _ hnv]) rfl rfl (held_none (by kernel_rfl)) ?_
      refine To.runF 12 [] (fun _ _ => by kernel_rfl) fun f8 g8 l8 => ?_
      refine To.slotE 4 (.int .i64 (IntKind.i64.wrap (Int.ofNat i + 1))) (.int .i64 (Int.ofNat (i + 1))) (by kernel_rfl) (by rw [wrap_succ i (by omega)]) ?_
      refine To.slotE 3 (.int .i64 (IntKind.i64.wrap (Int.ofNat n + 1))) (.int .i64 (Int.ofNat (n + 1))) (by kernel_rfl) (by rw [wrap_succ n (by omega)]) ?_
      exact back _ _ (i + 1, n + 1, vs2.set n (.slice b3 y.length c3), L2.set n y) [0] (by simp only; omega) ⟨by kernel_rfl, by kernel_rfl, by kernel_rfl, by kernel_rfl, by kernel_rfl, rfl⟩
        (fun w7 hw7 => ⟨maRow_set hrow2 hy hu3 hnv (hw7.blk (j := 0) (b := g) (o := .cells ⟨vs2.set n (.slice b3 y.length c3) ++ rest⟩ 47 (0, 0)) (q := true) (by kernel_rfl)) (((hw5.fr.kept (l := [some g]) (by kernel_rfl) ⟨fun h => h rfl, trivial⟩).trans hx5.kept).trans (hw7.fr.kept (l := [some g]) (by kernel_rfl) ⟨fun h => h rfl, trivial⟩)), hd.next hl1 hsort hx hy hne⟩)
    · have heq : blist x = blist y := by simpa using h2
      refine To.runF 7 [] (fun _ _ => by kernel_rfl) fun f7 g7 l7 => ?_
      refine To.slotE 4 (.int .i64 (IntKind.i64.wrap (Int.ofNat i + 1))) (.int .i64 (Int.ofNat (i + 1))) (by kernel_rfl) (by rw [wrap_succ i (by omega)]) ?_
      exact back _ _ (i + 1, n, vs2, L2) [0] (by simp only; omega) ⟨by kernel_rfl, by kernel_rfl, by kernel_rfl, by kernel_rfl, by kernel_rfl, rfl⟩
        (fun w7 hw7 => ⟨maRow_same hrow2 (hw7.blk (j := 0) (b := g) (o := .cells ⟨vs2 ++ rest⟩ 47 (0, 0)) (q := true) (by kernel_rfl)) (((hw5.fr.kept (l := [some g]) (by kernel_rfl) ⟨fun h => h rfl, trivial⟩).trans hx5.kept).trans (hw7.fr.kept (l := [some g]) (by kernel_rfl) ⟨fun h => h rfl, trivial⟩)), hd.same hx hy heq⟩)
  · refine To.testF (decide (Int.ofNat i < Int.ofNat L.length)) (by kernel_rfl) (decide_eq_false (fun h => hlt (Int.ofNat_lt.1 h))) ?_
    have hil : i = L.length := by have := hd.top; omega
    subst hil
    have hni : n ≤ L.length := hd.le
    refine To.runF 8 [] (fun _ _ => by kernel_rfl) fun f5 g5 l5 => ?_
    refine To.loop (fun i : Nat × List Value => L.length - i.1) (fun i => ([(0, .slice (some ⟨g, 0, none⟩) L.length c), (3, .int .i64 (Int.ofNat n)), (5, .int .i64 (Int.ofNat i.1))], [some ⟨g, .cells ⟨i.2 ++ rest⟩ 47 (0, 0), true⟩]))
      (fun i w5 => i.2.length = L.length ∧ i.2.take n = vs2.take n ∧ n ≤ i.1 ∧ Kept (fun b => b ≠ g) w4 w5) (n, vs2) [0] (by kernel_rfl) (by kernel_rfl) (by kernel_rfl) rfl (fun w5 hw5 => ⟨by rw [hrow2.len, hl2], rfl, Nat.le_refl _, (hw5.fr.kept (l := [some g]) (by kernel_rfl) ⟨fun h => h rfl, trivial⟩)⟩) ?_
    rintro ⟨j, vs3⟩ w5 ⟨hl3, htk, hnj, hk5⟩ hx5 back3
    have hl3 : vs3.length = L.length := hl3
    have htk : vs3.take n = vs2.take n := htk
    have hnj : n ≤ j := hnj
    refine To.runF 8 [] (fun _ _ => by kernel_rfl) fun f6 g6 l6 => ?_
    by_cases hlt3 : j < L.length
    · refine To.testT (decide (Int.ofNat j < Int.ofNat L.length)) (by kernel_rfl) (decide_eq_true (Int.ofNat_lt.2 hlt3)) ?_
      refine To.runF 6 [] (fun _ _ => by kernel_rfl) fun f7 g7 l7 => ?_
      refine To.indexAt elMs (some ⟨g, 0, none⟩) ⟨g, 0, none⟩ L.length c j (by kernel_rfl) rfl (by omega) ?_
      refine To.storeOne 0 (t := 47) (e := 47) (by kernel_rfl) g j (vs3 ++ rest) (vs3.set j (.slice none 0 0) ++ rest) (.slice none 0 0) (by kernel_rfl) (by kernel_rfl) (by rw [List.length_append]; omega) (by rw [List.set_append_left _ _ (by omega)]) rfl rfl (held_none (by kernel_rfl)) ?_
      refine To.runF 7 [] (fun _ _ => by kernel_rfl) fun f8 g8 l8 => ?_
      refine To.slotE 5 (.int .i64 (IntKind.i64.wrap (Int.ofNat j + 1))) (.int .i64 (Int.ofNat (j + 1))) (by kernel_rfl) (by rw [wrap_succ j (by omega)]) ?_
      exact back3 _ _ (j + 1, vs3.set j (.slice none 0 0)) [0] (by simp only; omega) ⟨by kernel_rfl, by kernel_rfl, by kernel_rfl, by kernel_rfl, by kernel_rfl, rfl⟩
        (fun w7 hw7 => ⟨by simpa using hl3, by rw [List.take_set_of_le hnj]; exact htk, by simp only; omega, hk5.trans (hw7.fr.kept (l := [some g]) (by kernel_rfl) ⟨fun h => h rfl, trivial⟩)⟩)
    · refine To.testF (decide (Int.ofNat j < Int.ofNat L.length)) (by kernel_rfl) (decide_eq_false (fun h => hlt3 (Int.ofNat_lt.1 h))) ?_
      refine To.runF 5 [] (fun _ _ => by kernel_rfl) fun f7 g7 l7 => ?_
      have hnc : n ≤ c := by have h1 : L2.length ≤ c := hrow2.le; rw [hl2] at h1; exact Nat.le_trans hni h1
      refine To.sliceTo elMs g L.length n c hnc (by kernel_rfl) ?_
      refine To.runF 2 [] (fun _ _ => by kernel_rfl) fun f8 g8 l8 => ?_
      exact To.ret [0] (.slice (some ⟨g, 0, none⟩) n c) (by kernel_rfl) (by kernel_rfl) fun w9 hw9 => by
        have hlu : (L2.take n).length = n := by rw [List.length_take, hl2]; omega
        have hk9 : Kept (fun b => b ≠ g) w4 w9 := hk5.trans (hw9.fr.kept (l := [some g]) (by kernel_rfl) ⟨fun h => h rfl, trivial⟩)
        have hb9 := hw9.blk (j := 0) (b := g) (o := .cells ⟨vs3 ++ rest⟩ 47 (0, 0)) (q := true) (by kernel_rfl)
        have hsplit : vs3 ++ rest = vs2.take n ++ (vs3.drop n ++ rest) := by rw [← htk, ← List.append_assoc, List.take_append_drop]
        rw [hsplit] at hb9
        refine ⟨_, rfl, hw9.ext.grown1, L2.take n, vs2.take n, vs3.drop n ++ rest, by rw [hlu], ⟨hb9, ?_, ?_, by rw [hlu]; exact hnc, hrow2.cap, hrow2.lo, fun k v l hv hl => ?_⟩, hd.nodup, fun s => ?_, fun z hz => hperm.subset (hd.sub z (List.mem_of_mem_take hz))⟩
        · rw [hlu, List.length_take, hrow2.len, hl2]; omega
        · have h1 := hrow2.room
          rw [← hsplit, List.length_append, hl3]
          rw [List.length_append, hrow2.len, hl2] at h1
          exact h1
        · rw [List.getElem?_take] at hv hl
          split at hv
          · rename_i hkn
            rw [if_pos hkn] at hl
            exact (hrow2.all k v l hv hl).kept hk9 (fun b c t z hlo hb ht => ne_of_type hrow2.blk hb (by rcases ht with rfl | rfl | rfl <;> decide))
          · cases hv
        · rw [hd.mem s, ← hl1, List.take_length]
          exact (hperm.map blist).mem_iff
end Go.Proofs.YtegcplghgnafjaaGreatDoor
/- impl.MaUnique of at most twelve addresses. Conditions: as each says. -/
namespace Go.Proofs.YtegcplghgnafjaaGreatDoor
open Go Go.SX
set_option maxHeartbeats 8000000
set_option maxRecDepth 100000
theorem maRow_in {w0 w : World} {g c : Nat} {rest vs : List Value} {L : List Ma} (h : MaRow w0 w g c rest vs L) : MasIn w (some ⟨g, 0, none⟩) L :=
  ⟨fun j x hj => by
    obtain ⟨v, h1, h2, h3⟩ := h.get hj
    obtain ⟨b, cap, rfl, h4⟩ := h3.min
    exact ⟨_, b, cap, rfl, rfl, h.cell h2, h4⟩⟩
theorem MIn.kept {w w' : World} {a : Option Addr} {l : Ma} (h : MIn w a l) (hk : Kept (fun _ => True) w w') : MIn w' a l :=
  ⟨fun j p hj => let ⟨ad, pb, vb, h1, h2, h3, h4, h5, h6⟩ := h.at_ j p hj; ⟨ad, pb, vb, h1, h2, hk.cell trivial h3, hk.cell trivial h4, hk.cell trivial h5, h6.kept hk trivial trivial⟩⟩
theorem MasIn.kept {w w' : World} {a : Option Addr} {L : List Ma} (h : MasIn w a L) (hk : Kept (fun _ => True) w w') : MasIn w' a L :=
  ⟨fun j x hj => let ⟨ad, b, cap, h1, h2, h3, h4⟩ := h.at_ j x hj; ⟨ad, b, cap, h1, h2, hk.cell trivial h3, h4.kept hk⟩⟩
theorem BytesIn.kept {w w' : World} {a : Option Addr} {l : List UInt8} (h : BytesIn w a l) (hk : Kept (fun _ => True) w w') : BytesIn w' a l :=
  ⟨fun j u hj => let ⟨ad, h1, h2⟩ := h.at_ j u hj; ⟨ad, h1, hk.cell trivial h2⟩, h.none⟩
theorem CompsIn.kept {w w' : World} {a : Option Addr} {l : Comps} (h : CompsIn w a l) (hk : Kept (fun _ => True) w w') : CompsIn w' a l :=
  ⟨fun j c val hj => let ⟨ad, va, cv, h1, h2, h3, h4, h5⟩ := h.at_ j c val hj; ⟨ad, va, cv, h1, h2, hk.cell trivial h3, hk.cell trivial h4, h5.kept hk⟩⟩
theorem AddrsIn.kept {w w' : World} {a : Option Addr} {L : List Comps} (h : AddrsIn w a L) (hk : Kept (fun _ => True) w w') : AddrsIn w' a L :=
  ⟨fun j x hj => let ⟨ad, b, cap, h1, h2, h3, h4⟩ := h.at_ j x hj; ⟨ad, b, cap, h1, h2, hk.cell trivial h3, h4.kept hk⟩⟩
theorem uniqueZero (a : Option Addr) (c : Nat) (w : World) : Calls Tryz.prog 27 #[.slice a 0 c] w (fun e w1 => ∃ v, e = .returned v ∧ Ext [] w w1 ∧ v = .slice a 0 c) := by
  refine calls_of0 (args := [.slice a 0 c]) Tryz.func27 rfl rfl rfl ?_
  refine To.runF 17 [] (fun _ _ => by kernel_rfl) fun f1 g1 l1 => ?_
  exact To.ret [] (.slice a 0 c) (by kernel_rfl) (by kernel_rfl) fun w4 hw4 => ⟨_, rfl, hw4.ext, rfl⟩
abbrev UniPost (L : List Ma) (w : World) (e : Ending) (w1 : World) : Prop := ∃ v, e = .returned v ∧ Ext [] w w1 ∧ ∃ (U : List Ma) (a' : Option Addr) (c' : Nat), v = .slice a' U.length c' ∧ AddrsIn w1 a' (U.map plain) ∧ (U.map blist).Nodup ∧ (∀ s, s ∈ U.map blist ↔ s ∈ L.map blist) ∧ ∀ x ∈ U, x ∈ L
theorem implUnique (hu : UvTo) (L : List Ma) (a : Option Addr) (ca : Nat) (w : World) (hin : AddrsIn w a (L.map plain)) (hf : ∀ l ∈ L, ∀ p ∈ l, Fine p) (hlen : L.length ≤ 12) (hs : ∀ l ∈ L, l.length ≤ 1000000000) :
    Calls Tryz.prog 12 #[.slice a L.length ca] w (UniPost L w) := by
  refine calls_of0 (args := [.slice a L.length ca]) Tryz.func12 rfl rfl rfl ?_
  refine To.runF 7 [] (fun _ _ => by kernel_rfl) fun f1 g1 l1 => ?_
  refine To.callN 24 #[.slice a L.length ca] (by kernel_rfl) (fun _ => by kernel_rfl) (fun w2 hw2 => addresses hu L a ca w2 (hin.later hw2.ext) hf (by omega) (fun l hl => by have := hs l hl; omega)) (fun w2 v2 w3 hw2 hx2 hv2 hnew2 hwi2 => ?_)
  rcases hv2 with ⟨rfl, rfl⟩ | ⟨g, c, rest, vs, rfl, hrow⟩
  · skip
    refine To.callN 27 #[.slice none 0 0] (by kernel_rfl) (fun _ => by kernel_rfl) (fun w4 hw4 => uniqueZero none 0 w4) (fun w4 v4 w5 hw4 hx4 hv4 hnew4 hwi4 => ?_)
    subst hv4
    refine To.callN 26 #[.slice none 0 0] (by kernel_rfl) (fun _ => by kernel_rfl) (fun w6 hw6 => lists [] none 0 w6 ⟨fun j x hj => by cases hj⟩ (by simp) (fun _ h => by cases h)) (fun w6 v6 w7 hw6 hx6 hv6 hnew6 hwi6 => ?_)
    obtain ⟨a6, c6, rfl, hm6⟩ := hv6.min
    refine To.runF 2 [] (fun _ _ => by kernel_rfl) fun f2 g2 l2 => ?_
    exact To.ret [] (.slice a6 0 c6) (by kernel_rfl) (by kernel_rfl) fun w8 hw8 => ⟨_, rfl, hw8.ext, [], a6, c6, rfl, hm6.later (frx hw8.fr (by kernel_rfl)), by simp, fun _ => Iff.rfl, fun _ h => by cases h⟩
  · have hgw : w.heap.size ≤ g := Nat.le_trans hwi2 hrow.lo
    by_cases h0 : L.length = 0
    · have hL : L = [] := List.eq_nil_of_length_eq_zero h0
      subst hL
      refine To.callN 27 #[.slice (some ⟨g, 0, none⟩) 0 c] (by kernel_rfl) (fun _ => by kernel_rfl) (fun w4 hw4 => uniqueZero (some ⟨g, 0, none⟩) c w4) (fun w4 v4 w5 hw4 hx4 hv4 hnew4 hwi4 => ?_)
      subst hv4
      refine To.callN 26 #[.slice (some ⟨g, 0, none⟩) 0 c] (by kernel_rfl) (fun _ => by kernel_rfl) (fun w6 hw6 => lists [] (some ⟨g, 0, none⟩) c w6 ⟨fun j x hj => by cases hj⟩ (by simp) (fun _ h => by cases h)) (fun w6 v6 w7 hw6 hx6 hv6 hnew6 hwi6 => ?_)
      obtain ⟨a6, c6, rfl, hm6⟩ := hv6.min
      refine To.runF 2 [] (fun _ _ => by kernel_rfl) fun f2 g2 l2 => ?_
      exact To.ret [] (.slice a6 0 c6) (by kernel_rfl) (by kernel_rfl) fun w8 hw8 => ⟨_, rfl, hw8.ext, [], a6, c6, rfl, hm6.later (frx hw8.fr (by kernel_rfl)), by simp, fun _ => Iff.rfl, fun _ h => by cases h⟩
    refine To.withAt g (.cells ⟨vs ++ rest⟩ 47 (0, 0)) true hrow.blk (nums_all (Q := fun n => n ≠ g) (l := []) (by kernel_rfl) trivial) (fun _ => .inl hgw) ?_
    refine To.callGC 27 #[.slice (some ⟨g, 0, none⟩) L.length c] (some g) (some 0) (Φ := fun _ v w1 => ∃ U vs' rest', v = .slice (some ⟨g, 0, none⟩) U.length c ∧ MaRow w2 w1 g c rest' vs' U ∧ (U.map blist).Nodup ∧ (∀ s, s ∈ U.map blist ↔ s ∈ L.map blist) ∧ ∀ x ∈ U, x ∈ L) (by kernel_rfl) (fun _ => by kernel_rfl)
      (fun w4 hw4 => unique w2 L g c rest vs w4 (maRow_same hrow (hw4.blk (j := 0) (b := g) (o := .cells ⟨vs ++ rest⟩ 47 (0, 0)) (q := true) (by kernel_rfl)) (hw4.fr.kept (l := [some g]) (by kernel_rfl) ⟨fun h => h rfl, trivial⟩)) hlen (by omega) hs)
      (fun w _ i x hx => nums_all (Q := fun n => some n ≠ some g) (l := [none]) (by kernel_rfl) trivial i x hx) (fun w _ b hb => .inl (by cases hb; exact hgw)) (fun w _ => held_none2 (by kernel_rfl)) (fun w4 v4 w5 hw4 hg4 hΦ => ?_)
    obtain ⟨U, vs', rest', rfl, hrow5, hnd, hmem, hsub⟩ := hΦ
    refine To.callN 26 #[.slice (some ⟨g, 0, none⟩) U.length c] (by kernel_rfl) (fun _ => by kernel_rfl) (fun w6 hw6 => lists U (some ⟨g, 0, none⟩) c w6 ((maRow_in hrow5).kept (hw6.fr.kept (Q := fun _ => True) (l := [none]) (by kernel_rfl) trivial)) (by
      have h1 : (U.map blist).length ≤ (L.map blist).length := hnd.length_le_of_subset (fun s hs => (hmem s).1 hs)
      simp only [List.length_map] at h1
      omega) (fun l hl => hs l (hsub l hl))) (fun w6 v6 w7 hw6 hx6 hv6 hnew6 hwi6 => ?_)
    obtain ⟨a6, c6, rfl, hm6⟩ := hv6.min
    refine To.runF 2 [] (fun _ _ => by kernel_rfl) fun f2 g2 l2 => ?_
    exact To.ret [] (.slice a6 U.length c6) (by kernel_rfl) (by kernel_rfl) fun w8 hw8 => ⟨_, rfl, hw8.ext, U, a6, c6, rfl, hm6.kept (hw8.fr.kept (Q := fun _ => True) (l := [none]) (by kernel_rfl) trivial), hnd, hmem, hsub⟩
end Go.Proofs.YtegcplghgnafjaaGreatDoor
