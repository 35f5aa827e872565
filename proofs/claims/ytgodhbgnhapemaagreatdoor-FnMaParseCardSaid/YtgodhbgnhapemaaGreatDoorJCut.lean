/- The package's loops over slashes, and what a transcoder does: unix, ip6zone. Conditions: as each says. -/
import Derived.Test.YtgodhbgnhapemaaGreatDoorJRef
import Derived.Test.YtgodhbgnhapemaaGreatDoorJPieces
import Derived.Test.YtgodhbgnhapemaaGreatDoorJSix
set_option linter.unusedVariables false
set_option linter.unusedSimpArgs false
/- The package's loops over slashes: nothing to trim, the first slash, the pieces. Conditions: as each says. -/
namespace Go.Proofs.YtgodhbgnhapemaaGreatDoor
open Go Go.SX Go.IpText
set_option maxHeartbeats 8000000
set_option maxRecDepth 100000
def slash : ByteArray := ⟨#[47]⟩
theorem exB (s : List UInt8) (i j : Nat) : (ByteArray.mk ⟨s⟩).extract i j = ⟨⟨(s.take j).drop i⟩⟩ := by
  have h := exL ⟨⟨s⟩⟩ i j
  cases hx : (ByteArray.mk ⟨s⟩).extract i j with
  | mk d =>
    cases d with
    | mk dl =>
      rw [hx] at h
      have h : dl = (s.take j).drop i := h
      rw [h]
theorem trimRight (s : List UInt8) (w : World) (hl : s.length ≤ 1152921504606846976) (hn : s ≠ []) (hs : s.getLast? ≠ some 47) :
    Calls Tryz.prog 32 #[.string ⟨⟨s⟩⟩, .string slash] w (fun e w1 => ∃ v, e = .returned v ∧ Ext [] w w1 ∧ v = .string ⟨⟨s⟩⟩) := by
  refine calls_of0 (args := [.string ⟨⟨s⟩⟩, .string slash]) Tryz.func32 rfl rfl rfl ?_
  have hsz : (ByteArray.mk ⟨s⟩).size = s.length := rfl
  have h0 : 0 < s.length := List.length_pos_iff.2 hn
  refine To.runF 19 [] (fun _ _ => by kernel_rfl) fun f1 g1 l1 => ?_
  refine To.testT (decide (((ByteArray.mk ⟨s⟩).size : Int) > 0)) (by kernel_rfl) (decide_eq_true (by rw [hsz]; omega)) ?_
  refine To.runF 33 [0, 0, 0, 1, 2, 3] (fun _ _ => by kernel_rfl) fun f2 g2 l2 => ?_
  have hlast : s[s.length - 1]? = s.getLast? := List.getLast?_eq_getElem?.symm
  have hw1 : IntKind.i64.wrap (((ByteArray.mk ⟨s⟩).size : Int) - 1) = Int.ofNat (s.length - 1) := by
    rw [hsz, IntWalk.i64_in _ ⟨by omega, by omega⟩]; simp only [Int.ofNat_eq_natCast]; omega
  have hne : s[s.length - 1]'(by omega) ≠ 47 := fun e => hs (by rw [← hlast, List.getElem?_eq_getElem (by omega), e])
  refine To.slotE 23 (.int .i64 (IntKind.i64.wrap (((ByteArray.mk ⟨s⟩).size : Int) - 1))) (.int .i64 (Int.ofNat (s.length - 1))) (by kernel_rfl) (by rw [hw1]) ?_
  refine To.indexStr uStr ⟨⟨s⟩⟩ (s.length - 1) (by rw [hsz]; omega) (by kernel_rfl) ?_
  refine To.runF 2 [] (fun _ _ => by kernel_rfl) fun f3 g3 l3 => ?_
  refine To.testF (47 == Int.ofNat (UInt8.toNat ((ByteArray.mk ⟨s⟩)[s.length - 1]'(by rw [hsz]; omega)))) (by kernel_rfl) (beq_eq_false_iff_ne.2 fun e => hne (by
    have e2 : (UInt8.toNat ((ByteArray.mk ⟨s⟩)[s.length - 1]'(by rw [hsz]; omega))) = 47 := (Int.ofNat.inj e).symm
    exact UInt8.toNat_inj.1 e2)) ?_
  refine To.runF 30 [] (fun _ _ => by kernel_rfl) fun f4 g4 l4 => ?_
  refine To.slotE 31 (.int .i64 ((ByteArray.mk ⟨s⟩).size : Int)) (.int .i64 (Int.ofNat s.length)) (by kernel_rfl) rfl ?_
  refine To.sliceStrTo (t := 9) uStr ⟨⟨s⟩⟩ s.length (Nat.le_refl _) (by kernel_rfl) ?_
  refine To.slotE 32 (.string ((ByteArray.mk ⟨s⟩).extract 0 s.length)) (.string ⟨⟨s⟩⟩) (by kernel_rfl) (by rw [exB, List.take_length, List.drop_zero]) ?_
  refine To.runF 2 [] (fun _ _ => by kernel_rfl) fun f5 g5 l5 => ?_
  exact To.ret [] (.string ⟨⟨s⟩⟩) (by kernel_rfl) (by kernel_rfl) fun w4 hw4 => ⟨_, rfl, hw4.ext, rfl⟩
theorem indexSlash (s : List UInt8) (w : World) (hl : s.length ≤ 1152921504606846976) :
    Calls Tryz.prog 44 #[.string ⟨⟨s⟩⟩, .string slash] w (fun e w1 => ∃ v, e = .returned v ∧ Ext [] w w1 ∧
      ((∃ i, v = .int .i64 (Int.ofNat i) ∧ s[i]? = some 47 ∧ ∀ j, j < i → s[j]? ≠ some 47) ∨ (v = .int .i64 (-1) ∧ ∀ j, j < s.length → s[j]? ≠ some 47))) := by
  refine calls_of0 (args := [.string ⟨⟨s⟩⟩, .string slash]) Tryz.func44 rfl rfl rfl ?_
  have hsz : (ByteArray.mk ⟨s⟩).size = s.length := rfl
  refine To.runF 10 [] (fun _ _ => by kernel_rfl) fun f1 g1 l1 => ?_
  refine To.loop (fun k : Nat => s.length - k) (fun k => ([(0, .string ⟨⟨s⟩⟩), (1, .string slash), (5, .int .i64 (Int.ofNat k))], [])) (fun k _ => k ≤ s.length ∧ ∀ j, j < k → s[j]? ≠ some 47) 0 [] (by kernel_rfl) (by kernel_rfl) (by kernel_rfl) rfl (fun _ _ => ⟨Nat.zero_le _, fun j h => absurd h (Nat.not_lt_zero _)⟩) ?_
  rintro k w1 ⟨hk, hno⟩ hx1 back
  refine To.runF 11 [] (fun _ _ => by kernel_rfl) fun f2 g2 l2 => ?_
  have hw1 : IntKind.i64.wrap (Int.ofNat k + 1) = Int.ofNat (k + 1) := wrap_succ k (by omega)
  by_cases hlt : k < s.length
  · refine To.testT (decide (IntKind.i64.wrap (Int.ofNat k + 1) ≤ ((ByteArray.mk ⟨s⟩).size : Int))) (by kernel_rfl) (decide_eq_true (by rw [hw1, hsz]; simp only [Int.ofNat_eq_natCast]; omega)) ?_
    refine To.runF 11 [] (fun _ _ => by kernel_rfl) fun f3 g3 l3 => ?_
    refine To.slotE 20 (.int .i64 (IntKind.i64.wrap (Int.ofNat k + 1))) (.int .i64 (Int.ofNat (k + 1))) (by kernel_rfl) (by rw [hw1]) ?_
    refine To.sliceStr uStr ⟨⟨s⟩⟩ k (k + 1) (by omega) (by rw [hsz]; omega) (by kernel_rfl) ?_
    have hex : (ByteArray.mk ⟨s⟩).extract k (k + 1) = ⟨⟨[s[k]]⟩⟩ := by
      rw [exB, List.take_add_one, List.getElem?_eq_getElem hlt]
      congr 2
      rw [List.drop_append_of_le_length (by rw [List.length_take]; omega), List.drop_of_length_le (by rw [List.length_take]; omega)]; rfl
    refine To.slotE 21 (.string ((ByteArray.mk ⟨s⟩).extract k (k + 1))) (.string ⟨⟨[s[k]]⟩⟩) (by kernel_rfl) (by rw [hex]) ?_
    refine To.runF 3 [] (fun _ _ => by kernel_rfl) fun f4 g4 l4 => ?_
    have hcmp : ((ByteArray.mk ⟨[s[k]]⟩).toList == ByteArray.toList slash) = decide (s[k] = 47) := by
      rw [strEq]
      show decide ([s[k]] = [47]) = decide (s[k] = 47)
      exact decide_eq_decide.2 (by simp)
    by_cases he : s[k] = 47
    · refine To.testT ((ByteArray.mk ⟨[s[k]]⟩).toList == ByteArray.toList slash) (by kernel_rfl) (by rw [hcmp]; exact decide_eq_true he) ?_
      refine To.runF 5 [] (fun _ _ => by kernel_rfl) fun f5 g5 l5 => ?_
      exact To.ret [] (.int .i64 (Int.ofNat k)) (by kernel_rfl) (by kernel_rfl) fun w4 hw4 => ⟨_, rfl, hw4.ext, .inl ⟨k, rfl, by rw [List.getElem?_eq_getElem hlt, he], hno⟩⟩
    · refine To.testF ((ByteArray.mk ⟨[s[k]]⟩).toList == ByteArray.toList slash) (by kernel_rfl) (by rw [hcmp]; exact decide_eq_false he) ?_
      refine To.runF 7 [] (fun _ _ => by kernel_rfl) fun f5 g5 l5 => ?_
      refine To.slotE 5 (.int .i64 (IntKind.i64.wrap (Int.ofNat k + 1))) (.int .i64 (Int.ofNat (k + 1))) (by kernel_rfl) (by rw [hw1]) ?_
      exact back _ _ (k + 1) [] (by omega) ⟨by kernel_rfl, by kernel_rfl, by kernel_rfl, by kernel_rfl, by kernel_rfl, rfl⟩ (fun w7 hw7 => ⟨hlt, fun j hj => by
        by_cases hjk : j = k
        · subst hjk; rw [List.getElem?_eq_getElem hlt]; intro e; exact he (Option.some.inj e)
        · exact hno j (by omega)⟩)
  · refine To.testF (decide (IntKind.i64.wrap (Int.ofNat k + 1) ≤ ((ByteArray.mk ⟨s⟩).size : Int))) (by kernel_rfl) (decide_eq_false (by rw [hw1, hsz]; simp only [Int.ofNat_eq_natCast]; omega)) ?_
    refine To.runF 5 [] (fun _ _ => by kernel_rfl) fun f3 g3 l3 => ?_
    exact To.ret [] (.int .i64 (-1)) (by kernel_rfl) (by kernel_rfl) fun w4 hw4 => ⟨_, rfl, hw4.ext, .inr ⟨rfl, fun j hj => hno j (by omega)⟩⟩
/-- One text a cell. -/
def strs (l : List (List UInt8)) : List (List Value) := l.map fun p => [Value.string ⟨⟨p⟩⟩]
theorem strs_flat (l : List (List UInt8)) : (strs l).flatten = l.map (fun p => Value.string ⟨⟨p⟩⟩) := by
  unfold strs
  induction l with
  | nil => rfl
  | cons x l ih => simp only [List.map_cons, List.flatten_cons, ih]; rfl
theorem elS : Elem Tryz.prog 74 9 1 16 := Elem.of (z := .string ⟨#[]⟩) (by kernel_rfl) (by kernel_rfl) rfl
theorem split (s : List UInt8) (w : World) (hl : s.length ≤ 100000000000) :
    Calls Tryz.prog 33 #[.string ⟨⟨s⟩⟩, .string slash] w (fun e w1 => ∃ v, e = .returned v ∧ Ext [] w w1 ∧ ∃ g c rest, v = .slice (some ⟨g, 0, none⟩) (cutS s).length c ∧
      w1.heap[g]? = some (.cells ⟨(cutS s).map (fun p => Value.string ⟨⟨p⟩⟩) ++ rest⟩ 9 (0, 0)) ∧ w.heap.size ≤ g ∧ (cutS s).length ≤ c) := by
  refine calls_of0 (args := [.string ⟨⟨s⟩⟩, .string slash]) Tryz.func33 rfl rfl rfl ?_
  refine To.runF 9 [] (fun _ _ => by kernel_rfl) fun f1 g1 l1 => ?_
  refine To.loop (ι := List UInt8 × OR × List (List UInt8)) (fun i => i.1.length) (fun i => ([(0, .string ⟨⟨i.1⟩⟩), (1, .string slash), (5, .slice i.2.1.a i.2.1.n i.2.1.c)], [i.2.1.ob])) (fun i w1 => ORow 1 9 i.2.1.a i.2.1.n i.2.1.c i.2.1.ob i.2.1.css ∧ i.1.length ≤ s.length ∧ i.2.1.css = strs i.2.2 ∧ cutS s = i.2.2 ++ cutS i.1 ∧ i.2.2.length + i.1.length ≤ s.length ∧ ∀ g, i.2.1.a = some ⟨g, 0, none⟩ → w.heap.size ≤ g) (s, ⟨none, 0, 0, none, []⟩, []) [9] (by kernel_rfl) (by kernel_rfl) (by kernel_rfl) rfl (fun _ _ => ⟨ORow.nil _ _, Nat.le_refl _, rfl, rfl, by simp, fun g h => by cases h⟩) ?_
  rintro ⟨r, ⟨oa, on, oc, oob, css⟩, pre⟩ w1 ⟨hO, hrl, hcss, hcut, hpl, hog⟩ hx1 back
  have hO : ORow 1 9 oa on oc oob css := hO
  have hrl : r.length ≤ s.length := hrl
  have hcss : css = strs pre := hcss
  have hcut : cutS s = pre ++ cutS r := hcut
  have hpl : pre.length + r.length ≤ s.length := hpl
  have hog : ∀ g, oa = some ⟨g, 0, none⟩ → w.heap.size ≤ g := hog
  refine To.runF 5 [] (fun _ _ => by kernel_rfl) fun f2 g2 l2 => ?_
  refine To.callN 44 #[.string ⟨⟨r⟩⟩, .string slash] (by kernel_rfl) (fun _ => by kernel_rfl) (fun w2 hw2 => indexSlash r w2 (by omega)) (fun w2 v2 w3 hw2 hx2 hv2 hnew2 hwi2 => ?_)
  have hon : on = pre.length := by rw [← hO.len, hcss]; simp [strs]
  rcases hv2 with ⟨i, rfl, hi, hno⟩ | ⟨rfl, hno⟩
  · have hir : i < r.length := (List.getElem?_eq_some_iff.1 hi).1
    refine To.runF 15 [] (fun _ _ => by kernel_rfl) fun f3 g3 l3 => ?_
    refine To.sliceStrTo (t := 9) uStr ⟨⟨r⟩⟩ i (Nat.le_of_lt hir) (by kernel_rfl) ?_
    refine To.slotE 19 (.string ((ByteArray.mk ⟨r⟩).extract 0 i)) (.string ⟨⟨r.take i⟩⟩) (by kernel_rfl) (by rw [exB, List.drop_zero]) ?_
    refine To.runF 1 [] (fun _ _ => by kernel_rfl) fun f4 g4 l4 => ?_
    refine To.appendAny (ty := 74) elS 0 oa on oc oob css hO ⟨f4 0, 0, none⟩ 1 [.string ⟨⟨r.take i⟩⟩] (on + 1) (by kernel_rfl) (by kernel_rfl) rfl rfl
      (fun w8 hw8 j u hj => hw8.cellAt0 (j := 1) (b := f4 0) (l := [.string ⟨⟨r.take i⟩⟩]) (e := 9) (f := (0, 0)) (q := true) (by kernel_rfl) hj)
      (fun u hu => by simp only [List.mem_singleton] at hu; rw [hu]; rfl) (by simp only [maxLen]; omega) (by omega) (held_nilO (by kernel_rfl)) ?_
    intro w8 g' c' rest' hfr ho' hO'
    refine To.runF 8 [] (fun _ _ => by kernel_rfl) fun f5 g5 l5 => ?_
    refine To.slotE 26 (.int .i64 (IntKind.i64.wrap (Int.ofNat i + 1))) (.int .i64 (Int.ofNat (i + 1))) (by kernel_rfl) (by rw [wrap_succ i (by omega)]) ?_
    refine To.sliceStrFrom (t := 9) uStr ⟨⟨r⟩⟩ (i + 1) (by show i + 1 ≤ r.length; omega) (by kernel_rfl) ?_
    refine To.slotE 27 (.string ((ByteArray.mk ⟨r⟩).extract (i + 1) (ByteArray.mk ⟨r⟩).size)) (.string ⟨⟨r.drop (i + 1)⟩⟩) (by kernel_rfl) (by rw [exB, show (ByteArray.mk ⟨r⟩).size = r.length from rfl, List.take_length]) ?_
    refine To.runF 3 [] (fun _ _ => by kernel_rfl) fun f6 g6 l6 => ?_
    exact back _ _ (r.drop (i + 1), ⟨some ⟨g', 0, none⟩, on + 1, c', some ⟨g', .cells ⟨(css ++ [[Value.string ⟨⟨r.take i⟩⟩]]).flatten ++ rest'⟩ 9 (0, 0), true⟩, css ++ [[Value.string ⟨⟨r.take i⟩⟩]]⟩, pre ++ [r.take i]) [2] (by simp only [List.length_drop]; omega) ⟨by kernel_rfl, by kernel_rfl, by kernel_rfl, by kernel_rfl, by kernel_rfl, rfl⟩ (fun w7 hw7 => ⟨hO', by simp only [List.length_drop]; omega, by
      simp only
      rw [hcss]; simp [strs], by
      simp only
      rw [hcut, cutS_at hi hno, List.append_assoc]; rfl, by simp only [List.length_append, List.length_drop, List.length_cons, List.length_nil]; omega, fun g hg => by
      cases hg
      rcases ho' with h | h
      · exact hog _ h
      · exact Nat.le_trans (Nat.le_trans hwi2 hx2.size) h⟩)
  · refine To.runF 14 [] (fun _ _ => by kernel_rfl) fun f3 g3 l3 => ?_
    refine To.appendAny (ty := 74) elS 0 oa on oc oob css hO ⟨f3 0, 0, none⟩ 1 [.string ⟨⟨r⟩⟩] (on + 1) (by kernel_rfl) (by kernel_rfl) rfl rfl
      (fun w8 hw8 j u hj => hw8.cellAt0 (j := 1) (b := f3 0) (l := [.string ⟨⟨r⟩⟩]) (e := 9) (f := (0, 0)) (q := true) (by kernel_rfl) hj)
      (fun u hu => by simp only [List.mem_singleton] at hu; rw [hu]; rfl) (by simp only [maxLen]; omega) (by omega) (held_nilO (by kernel_rfl)) ?_
    intro w8 g' c' rest' hfr ho' hO'
    refine To.runF 2 [] (fun _ _ => by kernel_rfl) fun f4 g4 l4 => ?_
    have hall : (css ++ [[Value.string ⟨⟨r⟩⟩]]).flatten = (cutS s).map (fun p => Value.string ⟨⟨p⟩⟩) := by
      rw [hcss, hcut, cutS_none hno, ← strs_flat]; simp [strs]
    have hlen : on + 1 = (cutS s).length := by rw [hon, hcut, cutS_none hno, List.length_append]; rfl
    exact To.ret [] (.slice (some ⟨g', 0, none⟩) (on + 1) c') (by kernel_rfl) (by kernel_rfl) fun w9 hw9 => ⟨_, rfl, hw9.ext, g', c', rest', by rw [hlen],
      by rw [← hall]; exact hw9.blk (j := 2) (b := g') (o := .cells ⟨(css ++ [[Value.string ⟨⟨r⟩⟩]]).flatten ++ rest'⟩ 9 (0, 0)) (q := true) (by kernel_rfl), by
      rcases ho' with h | h
      · exact hog _ h
      · exact Nat.le_trans (Nat.le_trans hwi2 hx2.size) h, by rw [← hlen]; exact hO'.le⟩
end Go.Proofs.YtgodhbgnhapemaaGreatDoor
/- What a transcoder does with a text and the bytes that it stands for: unix, ip6zone. Conditions: as each says. -/
namespace Go.Proofs.YtgodhbgnhapemaaGreatDoor
open Go Go.SX Go.IpText
set_option maxHeartbeats 8000000
set_option maxRecDepth 100000
/-- A transcoder that takes this text for these bytes, has a text for these bytes, and accepts them. -/
structure Tr1 (x : Value) (val text : List UInt8) : Prop where
  stb : ∀ w, Tab w → Calls Tryz.prog 356 #[x, .string ⟨⟨text⟩⟩] w (fun e w1 => ∃ v, e = .returned v ∧ Ext [] w w1 ∧ ∃ ad c, v = .tuple #[.slice (some ad) val.length c, .nilIface] ∧ BytesIn w1 (some ad) val ∧ val.length ≤ c ∧ w.heap.size ≤ ad.block)
  bts : ∀ w a ca, Tab w → BytesIn w a val → val.length ≤ ca → Calls Tryz.prog 355 #[x, .slice a val.length ca] w (fun e w1 => ∃ v, e = .returned v ∧ Ext [] w w1 ∧ ∃ t, v = .tuple #[.string t, .nilIface])
  ok : ∀ w a ca, Tab w → BytesIn w a val → val.length ≤ ca → Calls Tryz.prog 357 #[x, .slice a val.length ca] w (fun e w1 => ∃ v, e = .returned v ∧ Ext [] w w1 ∧ v = .nilIface)
theorem indexNo (s : List UInt8) (w : World) (hl : s.length ≤ 1152921504606846976) (hno : ∀ x ∈ s, x ≠ 47) :
    Calls Tryz.prog 44 #[.string ⟨⟨s⟩⟩, .string slash] w (fun e w1 => ∃ v, e = .returned v ∧ Ext [] w w1 ∧ v = .int .i64 (-1)) :=
  (indexSlash s w hl).mono fun e w1 ⟨v, h1, h2, h3⟩ => ⟨v, h1, h2, by
    rcases h3 with ⟨i, _, hi, _⟩ | ⟨h3, _⟩
    · exact absurd rfl (hno 47 (List.mem_of_getElem? hi))
    · exact h3⟩
def xUnix : Value := .agg #[.func (.func 162) #[] #[], .func (.func 163) #[] #[], .func (.func 164) #[] #[]]
theorem trUnix (val : List UInt8) (h : PathL val) (hl : val.length ≤ 2147483647) : Tr1 xUnix val val := by
  refine ⟨fun w ht => ?_, fun w a ca ht hin hca => ?_, fun w a ca ht hin hca => ?_⟩
  · refine calls_of0 (args := [xUnix, .string ⟨⟨val⟩⟩]) Tryz.func356 rfl rfl rfl ?_
    refine To.runF 20 [0] (fun _ _ => by kernel_rfl) fun f1 g1 l1 => ?_
    refine To.bytesOf (src := 9) (dst := 28) (e := 5) ⟨⟨val⟩⟩ uString uBytes uU8 (by kernel_rfl) ?_
    intro gx cx rx hcx hrx hgx
    refine To.runF 9 [] (fun _ _ => by kernel_rfl) fun f2 g2 l2 => ?_
    exact To.ret [] (.tuple #[.slice (some ⟨gx, 0, none⟩) val.length cx, .nilIface]) (by kernel_rfl) (by kernel_rfl) fun w9 hw9 => ⟨_, rfl, hw9.ext, ⟨gx, 0, none⟩, cx, rfl, bytesOfZ (hw9.blk (j := 1) (b := gx) (o := .cells ⟨ucells val ++ rx⟩ 5 (cx, cx + 1)) (q := true) (by kernel_rfl)), hcx, by first | exact hgx | exact Nat.le_trans hwi2 (Nat.le_trans hx2.size hgx)⟩
  · refine calls_of0 (args := [xUnix, .slice a val.length ca]) Tryz.func355 rfl rfl rfl ?_
    refine To.runF 20 [0] (fun _ _ => by kernel_rfl) fun f1 g1 l1 => ?_
    refine To.textOf (src := 28) (dst := 9) (e := 5) a val.length ca val rfl uBytes uString uU8 (by kernel_rfl) (fun w8 hw8 j u hj => (hin.later hw8.ext).at_ j u hj) hin.none ?_
    refine To.runF 9 [] (fun _ _ => by kernel_rfl) fun f2 g2 l2 => ?_
    exact To.ret [] (.tuple #[.string ⟨⟨val⟩⟩, .nilIface]) (by kernel_rfl) (by kernel_rfl) fun w4 hw4 => ⟨_, rfl, hw4.ext, _, rfl⟩
  · refine calls_of0 (args := [xUnix, .slice a val.length ca]) Tryz.func357 rfl rfl rfl ?_
    obtain ⟨t, ht1, ht2, ht3⟩ := h
    have hl2 : 2 ≤ val.length := by
      rw [ht1, List.length_cons]
      have := List.length_pos_iff.2 ht2
      omega
    have hlast : val[val.length - 1]'(by omega) ≠ 47 := fun e => ht3 (by
      have h1 : val.getLast? = some 47 := by rw [List.getLast?_eq_getElem?, List.getElem?_eq_getElem (by omega), e]
      rw [ht1, List.getLast?_cons] at h1
      cases hg : t.getLast? with
      | none => rw [List.getLast?_eq_none_iff] at hg; exact absurd hg ht2
      | some x => rw [hg] at h1; simpa using h1)
    have hfirst : val[0]'(by omega) = 47 := by simp [ht1]
    obtain ⟨ad, ha, hc0⟩ := hin.one 0 (by omega)
    obtain ⟨_, ha', hc1⟩ := hin.one (val.length - 1) (by omega)
    rw [ha] at ha'; cases ha'
    refine To.runF 31 [0, 0] (fun _ _ => by kernel_rfl) fun f1 g1 l1 => ?_
    refine To.testF (decide ((val.length : Int) < 2)) (by kernel_rfl) (decide_eq_false (by omega)) ?_
    refine To.runF 5 [] (fun _ _ => by kernel_rfl) fun f2 g2 l2 => ?_
    refine To.indexAt elB a ad val.length ca 0 (by kernel_rfl) ha (by omega) ?_
    refine To.loadOne uU8 rfl (ad.add (0 * 1)) (.int .u8 ((val[0]).toNat : Int)) (by kernel_rfl) (fun w2 hw2 => hw2.ext.cell hc0 (by simp)) ?_
    refine To.runF 2 [] (fun _ _ => by kernel_rfl) fun f3 g3 l3 => ?_
    refine To.testF (((val[0]).toNat : Int) != 47) (by kernel_rfl) (by rw [hfirst]; rfl) ?_
    refine To.runF 8 [] (fun _ _ => by kernel_rfl) fun f4 g4 l4 => ?_
    have hw1 : IntKind.i64.wrap ((val.length : Int) - 1) = Int.ofNat (val.length - 1) := by
      rw [IntWalk.i64_in _ ⟨by omega, by omega⟩]; simp only [Int.ofNat_eq_natCast]; omega
    refine To.slotE 15 (.int .i64 (IntKind.i64.wrap ((val.length : Int) - 1))) (.int .i64 (Int.ofNat (val.length - 1))) (by kernel_rfl) (by rw [hw1]) ?_
    refine To.indexAt elB a ad val.length ca (val.length - 1) (by kernel_rfl) ha (by omega) ?_
    refine To.loadOne uU8 rfl (ad.add ((val.length - 1) * 1)) (.int .u8 ((val[val.length - 1]).toNat : Int)) (by kernel_rfl) (fun w2 hw2 => hw2.ext.cell hc1 (by simp)) ?_
    refine To.runF 2 [] (fun _ _ => by kernel_rfl) fun f5 g5 l5 => ?_
    refine To.testF (((val[val.length - 1]).toNat : Int) == 47) (by kernel_rfl) (beq_eq_false_iff_ne.2 fun e => hlast (UInt8.toNat_inj.1 (Int.ofNat.inj e))) ?_
    refine To.runF 8 [] (fun _ _ => by kernel_rfl) fun f6 g6 l6 => ?_
    exact To.ret [] .nilIface (by kernel_rfl) (by kernel_rfl) fun w4 hw4 => ⟨_, rfl, hw4.ext, rfl⟩
theorem indexByte_no (l : List UInt8) (c : UInt8) (h : ∀ x ∈ l, x ≠ c) : Lib.indexByte l c = -1 := by
  induction l with
  | nil => rfl
  | cons x l ih =>
    rw [Lib.indexByte, if_neg (by simpa using h x (List.mem_cons_self ..)), ih fun y hy => h y (List.mem_cons_of_mem _ hy)]
    rfl
theorem noSlash (val : List UInt8) (ad : Addr) (ca : Nat) (w : World) (hin : BytesIn w (some ad) val) (hno : ∀ x ∈ val, x ≠ 47) :
    Calls Tryz.prog 175 #[.slice (some ad) val.length ca, .int .u8 47] w (fun e w1 => ∃ v, e = .returned v ∧ Ext [] w w1 ∧ v = .int .i64 (-1)) := by
  refine (Any.bytes_IndexByte_at Tryz.lays187 ad val.length ca (val.map fun u => (u.toNat : Int)) 47 w (by simp) (fun i hi => ?_)).mono fun e w1 ⟨h1, h2⟩ => ⟨_, h1, by rw [h2]; exact Ext.refl _ _, ?_⟩
  · obtain ⟨ad', h1, h2⟩ := hin.at_ i val[i] (List.getElem?_eq_getElem hi)
    cases h1
    rw [h2, List.getD_eq_getElem?_getD, List.getElem?_map, List.getElem?_eq_getElem hi]; rfl
  · rw [indexByte_no]
    intro x hx
    unfold Lib.bytesOf at hx
    simp only [List.map_map, List.mem_map, Function.comp] at hx
    obtain ⟨u, hu, hx⟩ := hx
    have hxu : x = u := by rw [← hx]; simp
    rw [hxu]
    exact fun e => hno u hu (by rw [e]; rfl)
def xZone : Value := .agg #[.func (.func 135) #[] #[], .func (.func 136) #[] #[], .func (.func 137) #[] #[]]
theorem trZone (val : List UInt8) (h0 : 0 < val.length) (hno : ∀ x ∈ val, x ≠ 47) (hl : val.length ≤ 2147483647) : Tr1 xZone val val := by
  refine ⟨fun w ht => ?_, fun w a ca ht hin hca => ?_, fun w a ca ht hin hca => ?_⟩
  · refine calls_of0 (args := [xZone, .string ⟨⟨val⟩⟩]) Tryz.func356 rfl rfl rfl ?_
    refine To.runF 24 [0] (fun _ _ => by kernel_rfl) fun f1 g1 l1 => ?_
    refine To.testF (((ByteArray.mk ⟨val⟩).size : Int) == 0) (by kernel_rfl) (beq_eq_false_iff_ne.2 (by show ((val.length : Nat) : Int) ≠ 0; omega)) ?_
    refine To.runF 14 [] (fun _ _ => by kernel_rfl) fun f2 g2 l2 => ?_
    refine To.callN 44 #[.string ⟨⟨val⟩⟩, .string slash] (by kernel_rfl) (fun _ => by kernel_rfl) (fun w2 hw2 => indexNo val w2 (by omega) hno) (fun w2 v2 w3 hw2 hx2 hv2 hnew2 hwi2 => ?_)
    subst hv2
    refine To.runF 10 [] (fun _ _ => by kernel_rfl) fun f3 g3 l3 => ?_
    refine To.bytesOf (src := 9) (dst := 28) (e := 5) ⟨⟨val⟩⟩ uString uBytes uU8 (by kernel_rfl) ?_
    intro gx cx rx hcx hrx hgx
    refine To.runF 9 [] (fun _ _ => by kernel_rfl) fun f4 g4 l4 => ?_
    exact To.ret [] (.tuple #[.slice (some ⟨gx, 0, none⟩) val.length cx, .nilIface]) (by kernel_rfl) (by kernel_rfl) fun w9 hw9 => ⟨_, rfl, hw9.ext, ⟨gx, 0, none⟩, cx, rfl, bytesOfZ (hw9.blk (j := 1) (b := gx) (o := .cells ⟨ucells val ++ rx⟩ 5 (cx, cx + 1)) (q := true) (by kernel_rfl)), hcx, by first | exact hgx | exact Nat.le_trans hwi2 (Nat.le_trans hx2.size hgx)⟩
  · refine calls_of0 (args := [xZone, .slice a val.length ca]) Tryz.func355 rfl rfl rfl ?_
    refine To.runF 11 [0] (fun _ _ => by kernel_rfl) fun f1 g1 l1 => ?_
    refine To.callN 136 #[.slice a val.length ca] (by kernel_rfl) (fun _ => by kernel_rfl) (fun w2 hw2 => ip6zoneBtS val a ca w2 (hin.later hw2.ext) h0) (fun w2 v2 w3 hw2 hx2 hv2 hnew2 hwi2 => ?_)
    subst hv2
    refine To.runF 5 [] (fun _ _ => by kernel_rfl) fun f2 g2 l2 => ?_
    exact To.ret [] (.tuple #[.string ⟨⟨val⟩⟩, .nilIface]) (by kernel_rfl) (by kernel_rfl) fun w4 hw4 => ⟨_, rfl, hw4.ext, _, rfl⟩
  · refine calls_of0 (args := [xZone, .slice a val.length ca]) Tryz.func357 rfl rfl rfl ?_
    refine To.runF 31 [0, 0] (fun _ _ => by kernel_rfl) fun f1 g1 l1 => ?_
    refine To.testF ((val.length : Int) == 0) (by kernel_rfl) (beq_eq_false_iff_ne.2 (by omega)) ?_
    refine To.runF 5 [] (fun _ _ => by kernel_rfl) fun f2 g2 l2 => ?_
    obtain ⟨ad, ha, _⟩ := hin.one 0 h0
    subst ha
    refine To.callN 175 #[.slice (some ad) val.length ca, .int .u8 47] (by kernel_rfl) (fun _ => by kernel_rfl) (fun w2 hw2 => noSlash val ad ca w2 (hin.later hw2.ext) hno) (fun w2 v2 w3 hw2 hx2 hv2 hnew2 hwi2 => ?_)
    subst hv2
    refine To.runF 11 [] (fun _ _ => by kernel_rfl) fun f3 g3 l3 => ?_
    exact To.ret [] .nilIface (by kernel_rfl) (by kernel_rfl) fun w4 hw4 => ⟨_, rfl, hw4.ext, rfl⟩
end Go.Proofs.YtgodhbgnhapemaaGreatDoor
