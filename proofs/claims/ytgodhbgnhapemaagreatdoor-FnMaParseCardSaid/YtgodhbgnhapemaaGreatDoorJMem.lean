/- Paths, and what lies in memory: bytes, components, addresses of the package. Conditions: as each says. -/
import Derived.Test.YtgodhbgnhapemaaGreatDoorProg
import Derived.WalkKit
import Derived.Laws.Strings
import Derived.Test.YtgodhbgnhapemaaGreatDoorSxB
import Derived.Test.YtgodhbgnhapemaaGreatDoorJWords
import Derived.Lib.Varint
import Derived.IntWalk
import Derived.Test.YtgodhbgnhapemaaGreatDoorSxC
set_option linter.unusedVariables false
set_option linter.unusedSimpArgs false
/- Whether a text is a plain name, or a path of plain names, and what a yes means: a plain name has 1 to 60 bytes, none a slash; a path begins with a slash, and ends with none. Conditions: none. -/
namespace Go.Proofs.YtgodhbgnhapemaaGreatDoor
open Go Go.SX
set_option maxHeartbeats 8000000
set_option maxRecDepth 100000
theorem uStr : Tryz.prog.underlying 9 = some .string := by kernel_rfl
/-- A path: a slash, something behind it, and no slash at the end. -/
def PathL (val : List UInt8) : Prop := ∃ t, val = 47 :: t ∧ t ≠ [] ∧ t.getLast? ≠ some 47
def PlainL (val : List UInt8) : Prop := (1 ≤ val.length ∧ val.length ≤ 60) ∧ ∀ x ∈ val, x ≠ 47
/-- Some answer; if it is yes, it is a plain name. -/
def PlainPost (s : ByteArray) (w : World) (e : Ending) (w' : World) : Prop := (∃ b, e = .returned (.bool b) ∧ (b = true → PlainL s.data.toList)) ∧ w' = w
theorem PlainPost.no (s : ByteArray) (w : World) : PlainPost s w (.returned (.bool false)) w := ⟨⟨false, rfl, fun h => by cases h⟩, rfl⟩
open Go.RowKit in
theorem PlainPost.dec {s : ByteArray} (w : World) (h : 1 ≤ (s.size : Int)) (hno : Hid (∀ j, j < s.size → s.data.toList[j]? ≠ some 47)) : PlainPost s w (.returned (.bool (decide ((s.size : Int) ≤ 60)))) w :=
  ⟨⟨_, rfl, fun h' => ⟨⟨by show 1 ≤ s.size; omega, by have := of_decide_eq_true h'; show s.size ≤ 60; omega⟩, fun x hx e => by
    obtain ⟨j, hj⟩ := List.mem_iff_getElem?.1 hx
    exact hno.out j (List.getElem?_eq_some_iff.1 hj).1 (by rw [hj, e])⟩⟩, rfl⟩
open Go.RowKit in
theorem maPlain_any (s : ByteArray) (w : World) (hs : s.size ≤ 9223372036854775807) :
    Calls Tryz.prog 22 #[.string s] w (PlainPost s w) := by
  go_enter Tryz.func22, Tryz.ntmps22
  go_wp2
  go_loop [3] (fun i => ∃ k : Nat, k ≤ s.size ∧ i = .int .i64 k ∧ Hid (∀ j, j < k → s.data.toList[j]? ≠ some 47)) (fun i => s.size - (intOf i).toNat)
  case atStart => exact ⟨0, Nat.zero_le _, rfl, fun j h => absurd h (Nat.not_lt_zero _)⟩
  case round =>
    obtain ⟨k, hk, rfl, hno⟩ := hrel
    by_cases hlt : k < s.size
    · go_wp2
      all_goals first
        | (go_ret; exact PlainPost.no s w)
        | (go_round
           case rel =>
             have h47 : (s[k].toNat : Int) ≠ 47 := fun e => by
               rename_i h
               rw [e] at h
               exact absurd h (by decide)
             exact ⟨k + 1, by omega, by go_num, fun j hj e => by
               by_cases hjk : j < k
               · exact hno.out j hjk e
               · have hjk : j = k := by omega
                 subst hjk
                 refine h47 ?_
                 have h1 := (List.getElem?_eq_some_iff.1 e).2
                 have h2 : s[j] = 47 := h1
                 rw [h2]; rfl⟩
           case measure => simp [intOf]; omega)
    · have hk1 : k = s.size := by omega
      subst hk1
      go_wp2
      all_goals first
        | (go_ret; exact PlainPost.no s w)
        | (go_ret; exact PlainPost.dec w (by assumption) hno)
theorem maPlainX (s : ByteArray) (w : World) (hs : s.size ≤ 9223372036854775807) :
    Calls Tryz.prog 22 #[.string s] w fun e w1 => ∃ v, e = .returned v ∧ Ext [] w w1 ∧ ∃ b, v = .bool b ∧ (b = true → PlainL s.data.toList) :=
  Calls.ext (Ψ := fun _ v _ => ∃ b, v = .bool b ∧ (b = true → PlainL s.data.toList)) (maPlain_any s w hs) fun _ _ h => by
    obtain ⟨⟨b, he, hb⟩, hw⟩ := h
    exact ⟨.bool b, he, hw, b, rfl, hb⟩
/-- t is what is left of s; where something is gone, s begins with a slash. -/
structure SufOf (s t : ByteArray) : Prop where
  le : t.size ≤ s.size
  head : t = s ∨ s.data.toList[0]? = some 47
  tail : t.data.toList = s.data.toList.drop (s.size - t.size)
theorem SufOf.refl (s : ByteArray) : SufOf s s := ⟨Nat.le_refl _, .inl rfl, by rw [Nat.sub_self]; rfl⟩
theorem exL (t : ByteArray) (n m : Nat) : (t.extract n m).data.toList = (t.data.toList.take m).drop n := by
  rw [ByteArray.data_extract, Array.toList_extract, List.extract_eq_take_drop, List.drop_take]
theorem strEq (a b : ByteArray) : (a.toList == b.toList) = decide (a.data.toList = b.data.toList) := by
  rw [Bool.eq_iff_iff, beq_iff_eq, decide_eq_true_iff]
  constructor
  · intro h; rw [ByteArray.toList_eq, ByteArray.toList_eq] at h; exact h
  · intro h; rw [ByteArray.toList_eq, ByteArray.toList_eq]; exact h
theorem SufOf.next {s t : ByteArray} (h : SufOf s t) (h0 : t.data.toList[0]? = some 47) (n : Nat) (hn : n ≤ t.size) : SufOf s (t.extract n t.size) := by
  have hl : t.data.toList.length = t.size := rfl
  have hle := h.le
  have hd : (t.extract n t.size).size = t.size - n := extract_size t n t.size hn (Nat.le_refl _)
  refine ⟨by omega, .inr ?_, ?_⟩
  · rcases h.head with e | e
    · rw [← e]; exact h0
    · exact e
  · rw [exL, List.take_of_length_le (by omega), h.tail, List.drop_drop, hd]
    congr 1
    omega
theorem path_end {s t : ByteArray} (h : SufOf s t) {n : Nat} (hn1 : 1 ≤ n) (hn : n ≤ t.size) (h0 : t.data.toList[0]? = some 47) (hb : PlainL (t.extract 1 n).data.toList)
    (he : ((t.extract n t.size).toList == ByteArray.toList ⟨#[]⟩) = true) : PathL s.data.toList := by
  have hl : t.data.toList.length = t.size := rfl
  rw [strEq, decide_eq_true_iff] at he
  have he2 : (t.extract n t.size).size = 0 := by
    have := congrArg List.length he
    exact this
  rw [extract_size t n t.size hn (Nat.le_refl _)] at he2
  have hnt : n = t.size := by omega
  rw [hnt, exL, List.take_of_length_le (by omega)] at hb
  obtain ⟨⟨hb1, _⟩, hno⟩ := hb
  have ht : t.data.toList = 47 :: t.data.toList.drop 1 := by
    cases ht : t.data.toList with
    | nil => rw [ht] at h0; cases h0
    | cons x r => rw [ht] at h0; cases h0; rfl
  have hlast : (t.data.toList.drop 1).getLast? ≠ some 47 := fun e => hno 47 (List.mem_of_getLast? e) rfl
  have hs0 : s.data.toList[0]? = some 47 := by
    rcases h.head with e | e
    · rw [← e]; exact h0
    · exact e
  obtain ⟨T, hT⟩ : ∃ T, s.data.toList = 47 :: T := by
    cases hs : s.data.toList with
    | nil => rw [hs] at hs0; cases hs0
    | cons x r => rw [hs] at hs0; cases hs0; exact ⟨r, rfl⟩
  have hls : s.data.toList.length = s.size := rfl
  refine ⟨T, hT, ?_, ?_⟩
  · intro e
    have h1 := congrArg List.length hT
    rw [e, hls] at h1
    have := h.le
    simp only [List.length_cons, List.length_nil, List.length_drop] at h1 hb1
    omega
  · have htl := h.tail
    rw [hT] at htl
    cases hd : s.size - t.size with
    | zero =>
      rw [hd, List.drop_zero] at htl
      rw [ht] at htl
      have : T = t.data.toList.drop 1 := by simpa using htl.symm
      rw [this]; exact hlast
    | succ d =>
      rw [hd, List.drop_succ_cons] at htl
      have h2 : T.getLast? = (T.drop d).getLast? := by
        rw [List.getLast?_drop, if_neg]
        have h1 := congrArg List.length htl
        rw [List.length_drop, hl] at h1
        simp only [List.length_drop] at hb1
        omega
      rw [h2, ← htl, ht, List.getLast?_cons]
      cases hg : (t.data.toList.drop 1).getLast? with
      | none =>
        rw [List.getLast?_eq_none_iff] at hg
        rw [hg] at hb1; simp at hb1
      | some x => rw [hg] at hlast; simpa using hlast
theorem maPath (s0 : ByteArray) (w : World) (hs : s0.size ≤ 1152921504606846976) : Calls Tryz.prog 21 #[.string s0] w (fun e w1 => ∃ v, e = .returned v ∧ Ext [] w w1 ∧ ∃ b, v = .bool b ∧ (b = true → PathL s0.data.toList)) := by
  refine calls_of0 (args := [.string s0]) Tryz.func21 rfl rfl rfl ?_
  refine To.runF 6 [] (fun _ _ => by kernel_rfl) fun f1 g1 l1 => ?_
  refine To.loop (fun t : ByteArray => t.size) (fun t => ([(0, .string t)], [])) (fun t _ => SufOf s0 t) s0 [] (by kernel_rfl) (by kernel_rfl) (by kernel_rfl) rfl (fun _ _ => SufOf.refl s0) ?_
  intro t w1 hsuf hx1 back
  have ht : t.size ≤ s0.size := hsuf.le
  refine To.runF 7 [] (fun _ _ => by kernel_rfl) fun f2 g2 l2 => ?_
  by_cases hp : 0 < t.size
  · refine To.testT (decide ((0 : Int) < Int.ofNat t.size)) (by kernel_rfl) (decide_eq_true (by simp only [Int.ofNat_eq_natCast]; omega)) ?_
    refine To.runF 6 [] (fun _ _ => by kernel_rfl) fun f3 g3 l3 => ?_
    refine To.indexStr uStr t 0 hp (by kernel_rfl) ?_
    refine To.runF 2 [] (fun _ _ => by kernel_rfl) fun f4 g4 l4 => ?_
    refine To.test (Int.ofNat (UInt8.toNat t[0]) != 47) (by kernel_rfl) (fun _ => ?_) (fun h0 => ?_)
    · refine To.runF 4 [] (fun _ _ => by kernel_rfl) fun f5 g5 l5 => ?_
      exact To.ret [] (.bool false) (by kernel_rfl) (by kernel_rfl) fun w4 hw4 => ⟨_, rfl, hw4.ext, _, rfl, fun h => by cases h⟩
    have h00 : t.data.toList[0]? = some 47 := by
      have e : (Int.ofNat (UInt8.toNat t[0]) : Int) = 47 := by simpa using h0
      have e2 : t[0].toNat = 47 := Int.ofNat.inj e
      have e3 : t[0] = 47 := UInt8.toNat_inj.1 e2
      rw [List.getElem?_eq_getElem hp]
      exact congrArg some e3
    refine To.runF 7 [] (fun _ _ => by kernel_rfl) fun f5 g5 l5 => ?_
    refine To.loop (fun n : Nat => t.size - n) (fun n => ([(0, .string t), (3, .int .i64 (Int.ofNat n))], [])) (fun n _ => 1 ≤ n ∧ n ≤ t.size) 1 [] (by kernel_rfl) (by kernel_rfl) (by kernel_rfl) rfl (fun _ _ => ⟨Nat.le_refl _, hp⟩) ?_
    rintro n w2 ⟨hn1, hn⟩ hx2 back2
    by_cases hlt : n < t.size
    · refine To.runF 8 [] (fun _ _ => by kernel_rfl) fun f6 g6 l6 => ?_
      refine To.slotT 14 (decide (Int.ofNat n < Int.ofNat t.size)) (by kernel_rfl) (decide_eq_true (Int.ofNat_lt.2 hlt)) ?_
      refine To.runF 2 [] (fun _ _ => by kernel_rfl) fun f7 g7 l7 => ?_
      refine To.indexStr uStr t n hlt (by kernel_rfl) ?_
      refine To.runF 3 [] (fun _ _ => by kernel_rfl) fun f8 g8 l8 => ?_
      refine To.test (Int.ofNat (UInt8.toNat t[n]) != 47) (by kernel_rfl) (fun _ => ?_) (fun _ => ?_)
      · refine To.runF 8 [] (fun _ _ => by kernel_rfl) fun f9 g9 l9 => ?_
        refine To.slotE 3 (.int .i64 (IntKind.i64.wrap (Int.ofNat n + 1))) (.int .i64 (Int.ofNat (n + 1))) (by kernel_rfl) (by rw [wrap_succ n (by omega)]) ?_
        exact back2 _ _ (n + 1) [] (by omega) ⟨by kernel_rfl, by kernel_rfl, by kernel_rfl, by kernel_rfl, by kernel_rfl, rfl⟩ (fun w7 hw7 => ⟨by omega, by omega⟩)
      · refine To.runF 6 [] (fun _ _ => by kernel_rfl) fun f9 g9 l9 => ?_
        refine To.sliceStr uStr t 1 n hn1 hn (by kernel_rfl) ?_
        refine To.callN 22 #[.string (t.extract 1 n)] (by kernel_rfl) (fun _ => by kernel_rfl) (fun w hw => maPlainX _ w (by rw [extract_size t 1 n hn1 hn]; omega)) (fun w3 v3 w4 hw3 hx3 hv3 hnew3 hwi3 => ?_)
        obtain ⟨b, rfl, hb⟩ := hv3
        refine To.runF 2 [] (fun _ _ => by kernel_rfl) fun f10 g10 l10 => ?_
        refine To.test (!b) (by kernel_rfl) (fun _ => ?_) (fun hb0 => ?_)
        · refine To.runF 4 [] (fun _ _ => by kernel_rfl) fun f11 g11 l11 => ?_
          exact To.ret [] (.bool false) (by kernel_rfl) (by kernel_rfl) fun w4 hw4 => ⟨_, rfl, hw4.ext, _, rfl, fun h => by cases h⟩
        refine To.runF 5 [] (fun _ _ => by kernel_rfl) fun f11 g11 l11 => ?_
        refine To.sliceStrFrom uStr t n hn (by kernel_rfl) ?_
        refine To.runF 7 [] (fun _ _ => by kernel_rfl) fun f12 g12 l12 => ?_
        refine To.test ((t.extract n t.size).toList == ByteArray.toList ⟨#[]⟩) (by kernel_rfl) (fun he => ?_) (fun _ => ?_)
        · refine To.runF 4 [] (fun _ _ => by kernel_rfl) fun f13 g13 l13 => ?_
          exact To.ret [] (.bool true) (by kernel_rfl) (by kernel_rfl) fun w4 hw4 => ⟨_, rfl, hw4.ext, _, rfl, fun _ => path_end hsuf hn1 hn h00 (hb (by simpa using hb0)) he⟩
        · refine To.runF 2 [] (fun _ _ => by kernel_rfl) fun f13 g13 l13 => ?_
          exact back _ _ (t.extract n t.size) [] (by rw [extract_size t n t.size hn (Nat.le_refl _)]; omega) ⟨by kernel_rfl, by kernel_rfl, by kernel_rfl, by kernel_rfl, by kernel_rfl, rfl⟩ (fun w7 hw7 => hsuf.next h00 n hn)
    · refine To.runF 8 [] (fun _ _ => by kernel_rfl) fun f6 g6 l6 => ?_
      refine To.slotF 14 (decide (Int.ofNat n < Int.ofNat t.size)) (by kernel_rfl) (decide_eq_false (by simp only [Int.ofNat_eq_natCast]; omega)) ?_
      refine To.runF 13 [] (fun _ _ => by kernel_rfl) fun f7 g7 l7 => ?_
      refine To.sliceStr uStr t 1 n hn1 hn (by kernel_rfl) ?_
      refine To.callN 22 #[.string (t.extract 1 n)] (by kernel_rfl) (fun _ => by kernel_rfl) (fun w hw => maPlainX _ w (by rw [extract_size t 1 n hn1 hn]; omega)) (fun w3 v3 w4 hw3 hx3 hv3 hnew3 hwi3 => ?_)
      obtain ⟨b, rfl, hb⟩ := hv3
      refine To.runF 2 [] (fun _ _ => by kernel_rfl) fun f8 g8 l8 => ?_
      refine To.test (!b) (by kernel_rfl) (fun _ => ?_) (fun hb0 => ?_)
      · refine To.runF 4 [] (fun _ _ => by kernel_rfl) fun f9 g9 l9 => ?_
        exact To.ret [] (.bool false) (by kernel_rfl) (by kernel_rfl) fun w4 hw4 => ⟨_, rfl, hw4.ext, _, rfl, fun h => by cases h⟩
      refine To.runF 5 [] (fun _ _ => by kernel_rfl) fun f9 g9 l9 => ?_
      refine To.sliceStrFrom uStr t n hn (by kernel_rfl) ?_
      refine To.runF 7 [] (fun _ _ => by kernel_rfl) fun f10 g10 l10 => ?_
      refine To.test ((t.extract n t.size).toList == ByteArray.toList ⟨#[]⟩) (by kernel_rfl) (fun he => ?_) (fun _ => ?_)
      · refine To.runF 4 [] (fun _ _ => by kernel_rfl) fun f11 g11 l11 => ?_
        exact To.ret [] (.bool true) (by kernel_rfl) (by kernel_rfl) fun w4 hw4 => ⟨_, rfl, hw4.ext, _, rfl, fun _ => path_end hsuf hn1 hn h00 (hb (by simpa using hb0)) he⟩
      · refine To.runF 2 [] (fun _ _ => by kernel_rfl) fun f11 g11 l11 => ?_
        exact back _ _ (t.extract n t.size) [] (by rw [extract_size t n t.size hn (Nat.le_refl _)]; omega) ⟨by kernel_rfl, by kernel_rfl, by kernel_rfl, by kernel_rfl, by kernel_rfl, rfl⟩ (fun w7 hw7 => hsuf.next h00 n hn)
  · refine To.testF (decide ((0 : Int) < Int.ofNat t.size)) (by kernel_rfl) (decide_eq_false (by simp only [Int.ofNat_eq_natCast]; omega)) ?_
    refine To.runF 5 [] (fun _ _ => by kernel_rfl) fun f3 g3 l3 => ?_
    exact To.ret [] (.bool false) (by kernel_rfl) (by kernel_rfl) fun w4 hw4 => ⟨_, rfl, hw4.ext, _, rfl, fun h => by cases h⟩
end Go.Proofs.YtgodhbgnhapemaaGreatDoor
/- What memory holds: bytes, components, components of the package. Conditions: none. -/
namespace Go.Proofs.YtgodhbgnhapemaaGreatDoor
open Go Go.SX
set_option maxHeartbeats 8000000
set_option maxRecDepth 100000
abbrev Comps := List (Int × List UInt8)
theorem elB : Elem Tryz.prog 28 5 1 1 := Elem.of (z := .int .u8 0) (by kernel_rfl) (by kernel_rfl) rfl
theorem uU8 : Tryz.prog.underlying 5 = some (.int .u8) := by kernel_rfl
theorem uBytes : Tryz.prog.underlying 28 = some (.slice 5) := by kernel_rfl
theorem uString : Tryz.prog.underlying 9 = some .string := by kernel_rfl
/-- What stands ahead of the value. -/
def headOf (vc : List UInt8) (size : Int) (n : Nat) : List UInt8 := if size < 0 then vc ++ Lib.uvarint n else vc
def bytesOf (vc : List UInt8) (size : Int) (val : List UInt8) : ByteArray := ⟨⟨headOf vc size val.length ++ val⟩⟩
/-- A slice holds these bytes. -/
structure BytesIn (w : World) (a : Option Addr) (l : List UInt8) : Prop where
  at_ : ∀ (j : Nat) (u : UInt8), l[j]? = some u → ∃ ad, a = some ad ∧ w.cell? (ad.add j) = some (.int .u8 (u.toNat : Int))
  none : a = none → l = []
theorem BytesIn.later {w w' : World} {a : Option Addr} {l : List UInt8} (h : BytesIn w a l) (hx : Ext [] w w') : BytesIn w' a l :=
  ⟨fun j u hj => let ⟨ad, h1, h2⟩ := h.at_ j u hj; ⟨ad, h1, hx.cell h2 (by simp)⟩, h.none⟩
theorem BytesIn.cells {w : World} {a : Option Addr} {l : List UInt8} (h : BytesIn w a l) (j : Nat) (u : Value) (hj : (ucells l)[j]? = some u) : ∃ ad, a = some ad ∧ w.cell? (ad.add j) = some u := by
  unfold ucells at hj
  rw [List.getElem?_map] at hj
  cases hl : l[j]? with
  | none => rw [hl] at hj; cases hj
  | some x =>
    rw [hl] at hj
    simp only [Option.map_some, Option.some.injEq] at hj
    subst hj
    exact h.at_ j x hl
theorem headOf_F {vc : List UInt8} {size : Int} {n : Nat} (h : decide (size < 0) = false) : headOf vc size n = vc := by unfold headOf; rw [if_neg (by simpa using h)]
theorem headOf_V {vc : List UInt8} {size : Int} {n : Nat} (h : decide (size < 0) = true) : headOf vc size n = vc ++ Lib.uvarint n := by unfold headOf; rw [if_pos (by simpa using h)]
/-- A slice holds these components: codes and values. -/
structure CompsIn (w : World) (a : Option Addr) (l : List (Int × List UInt8)) : Prop where
  at_ : ∀ (j : Nat) (c : Int) (val : List UInt8), l[j]? = some (c, val) → ∃ ad va cv, a = some ad ∧ ad.spot = none ∧ w.cell? (ad.add (j * 2)) = some (.int .i64 c) ∧ w.cell? (ad.add (j * 2 + 1)) = some (.slice va val.length cv) ∧ BytesIn w va val
theorem CompsIn.later {w w' : World} {a : Option Addr} {l : List (Int × List UInt8)} (h : CompsIn w a l) (hx : Ext [] w w') : CompsIn w' a l :=
  ⟨fun j c val hj => let ⟨ad, va, cv, h1, h2, h3, h4, h5⟩ := h.at_ j c val hj; ⟨ad, va, cv, h1, h2, hx.cell h3 (by simp), hx.cell h4 (by simp), h5.later hx⟩⟩
def plain (l : List (Row × List UInt8)) : List (Int × List UInt8) := l.map fun p => (p.1.code, p.2)
/-- The cells of components of the package, their protocols in these blocks. -/
def mcells : List (Row × List UInt8) → List Nat → List Value
  | (r, val) :: l, pb :: pbs => .string (bytesOf r.vc r.size val) :: .pointer (some ⟨pb, 0, none⟩) :: .int .i64 (Int.ofNat (headOf r.vc r.size val.length).length) :: mcells l pbs
  | _, _ => []
theorem mcells_snoc {l : List (Row × List UInt8)} {pbs : List Nat} (h : pbs.length = l.length) (p : Row × List UInt8) (pb : Nat) :
    mcells (l ++ [p]) (pbs ++ [pb]) = mcells l pbs ++ [.string (bytesOf p.1.vc p.1.size p.2), .pointer (some ⟨pb, 0, none⟩), .int .i64 (Int.ofNat (headOf p.1.vc p.1.size p.2.length).length)] := by
  induction l generalizing pbs with
  | nil => cases pbs with
    | nil => rfl
    | cons _ _ => cases h
  | cons q l ih => cases pbs with
    | nil => cases h
    | cons b pbs =>
      have := ih (pbs := pbs) (by simpa using h)
      obtain ⟨r, val⟩ := q
      simp only [List.cons_append, mcells, this]
theorem mcells_length {l : List (Row × List UInt8)} {pbs : List Nat} (h : pbs.length = l.length) : (mcells l pbs).length = l.length * 3 := by
  induction l generalizing pbs with
  | nil => cases pbs with
    | nil => rfl
    | cons _ _ => cases h
  | cons q l ih => cases pbs with
    | nil => cases h
    | cons b pbs =>
      have := ih (pbs := pbs) (by simpa using h)
      obtain ⟨r, val⟩ := q
      simp only [mcells, List.length_cons, this]; omega
/-- Each component's protocol lies in its block, which is new since w0. -/
def RowsAt (w0 w : World) (l : List (Row × List UInt8)) (pbs : List Nat) : Prop := ∀ (j : Nat) (p : Row × List UInt8) (pb : Nat), l[j]? = some p → pbs[j]? = some pb → ∃ vb, RowAt w pb vb p.1 ∧ w0.heap.size ≤ pb ∧ w0.heap.size ≤ vb
/-- A slice of components of the package. -/
def MaOut (w0 w : World) (v : Value) (l : List (Row × List UInt8)) : Prop :=
  (l = [] ∧ v = .slice none 0 0) ∨ ∃ g c rest pbs, v = .slice (some ⟨g, 0, none⟩) l.length c ∧ w.heap[g]? = some (.cells ⟨mcells l pbs ++ rest⟩ 59 (0, 0)) ∧ pbs.length = l.length ∧ l.length ≤ c ∧
    RowsAt w0 w l pbs ∧ w0.heap.size ≤ g
theorem elC : Elem Tryz.prog 22 34 2 32 := Elem.of (z := .agg #[.int .i64 0, .slice none 0 0]) (by kernel_rfl) (by kernel_rfl) rfl
theorem elM : Elem Tryz.prog 37 59 3 32 := Elem.of (z := .agg #[.string ⟨#[]⟩, .pointer none, .int .i64 0]) (by kernel_rfl) (by kernel_rfl) rfl

theorem addadd (a : Addr) (i j : Nat) : (a.add i).add j = a.add (i + j) := by
  unfold Addr.add
  by_cases hi : i = 0 <;> by_cases hj : j = 0 <;> simp [hi, hj, Nat.add_assoc]
theorem BytesIn.from {w : World} {a : Option Addr} {l : List UInt8} (h : BytesIn w a l) (i cap : Nat) (hc : l.length ≤ cap) : BytesIn w (onA a i 1 cap) (l.drop i) := by
  unfold onA
  by_cases hi : cap = i
  · rw [if_pos hi]
    have : l.drop i = [] := List.drop_eq_nil_of_le (by omega)
    rw [this]
    exact ⟨fun j u hj => by simp at hj, fun _ => rfl⟩
  · rw [if_neg hi]
    refine ⟨fun j u hj => ?_, fun e => ?_⟩
    · rw [List.getElem?_drop] at hj
      obtain ⟨ad, h1, h2⟩ := h.at_ (i + j) u hj
      refine ⟨ad.add i, by rw [h1]; simp, ?_⟩
      rw [addadd]; exact h2
    · cases a with
      | none => rw [h.none rfl]; simp
      | some x => simp at e
theorem BytesIn.upTo {w : World} {a : Option Addr} {l : List UInt8} (h : BytesIn w a l) (m : Nat) : BytesIn w a (l.take m) :=
  ⟨fun j u hj => h.at_ j u (by
    rw [List.getElem?_take] at hj
    split at hj
    · exact hj
    · cases hj), fun e => by simp [h.none e]⟩
theorem frx {hp : List (Option Blk)} {w w' : World} (h : Fr hp w w') (hn : nums hp = []) : Ext [] w w' :=
  ⟨h.os, h.tape, h.output, h.size, fun k hk _ => h.block k hk (fun j b hj _ => (nums_all (Q := fun _ => False) hn trivial j b hj).elim)⟩
/-- One byte of bytes that lie in memory. -/
theorem BytesIn.one {w : World} {a : Option Addr} {l : List UInt8} (h : BytesIn w a l) (k : Nat) (hk : k < l.length) : ∃ ad, a = some ad ∧ w.cell? (ad.add (k * 1)) = some (.int .u8 ((l[k]).toNat : Int)) := by
  obtain ⟨ad, h1, h2⟩ := h.at_ k l[k] (by simp)
  exact ⟨ad, h1, by rw [Nat.mul_one]; exact h2⟩
/-- Sixteen bytes that map four. -/
def mapped (l : List UInt8) : Bool := decide (l.length = 16) && (l.getD 10 0 == 255) && (l.getD 11 0 == 255) && (l.take 10).all (· == 0)
theorem ne255 (u : UInt8) : ((u.toNat : Int) != 255) = !(u == 255) := by
  by_cases h : u = 255
  · subst h; rfl
  · rw [beq_eq_false_iff_ne.2 h]
    have : (u.toNat : Int) ≠ 255 := fun e => h (UInt8.toNat_inj.1 (by show u.toNat = 255; omega))
    simpa using this
theorem ne0 (u : UInt8) : ((u.toNat : Int) != 0) = !(u == 0) := by
  by_cases h : u = 0
  · subst h; rfl
  · rw [beq_eq_false_iff_ne.2 h]
    have : (u.toNat : Int) ≠ 0 := fun e => h (UInt8.toNat_inj.1 (by show u.toNat = 0; omega))
    simpa using this
theorem spotadd {ad : Addr} (h : ad.spot = none) (i : Nat) : (ad.add i).spot = none := by unfold Addr.add; split <;> simp_all
theorem cellOfRow {w : World} {g : Nat} {l : List Value} {e : TypeId} {z : Nat × Nat} (h : w.heap[g]? = some (.cells ⟨l⟩ e z)) (j : Nat) : w.cell? ((⟨g, 0, none⟩ : Addr).add j) = l[j]? := by
  rw [show (⟨g, 0, none⟩ : Addr).add j = ⟨g, j, none⟩ by unfold Addr.add; split <;> simp_all]
  rw [cell_of_row w g j _ _ z h]; simp
theorem bytesOfRow {w : World} {g e : Nat} {l : List UInt8} (h : w.heap[g]? = some (.cells ⟨ucells l⟩ e (0, 0))) : BytesIn w (some ⟨g, 0, none⟩) l := by
  refine ⟨fun j u hj => ⟨_, rfl, ?_⟩, fun e => by cases e⟩
  have hjl := (List.getElem?_eq_some_iff.1 hj).1
  rw [show (⟨g, 0, none⟩ : Addr).add j = ⟨g, j, none⟩ by unfold Addr.add; split <;> simp_all]
  rw [cell_of_row w g j _ _ (0, 0) h]
  simp only [ucells, List.getElem?_toArray]
  simp [hj]
theorem tail_is (vc : List UInt8) (size : Int) (val : List UInt8) : (headOf vc size val.length).length ≤ (bytesOf vc size val).size ∧ (bytesOf vc size val).extract (headOf vc size val.length).length (bytesOf vc size val).size = ⟨⟨val⟩⟩ := by
  have e1 : (bytesOf vc size val).size = (headOf vc size val.length ++ val).length := rfl
  have hle : (headOf vc size val.length).length ≤ (bytesOf vc size val).size := by rw [e1, List.length_append]; omega
  refine ⟨hle, ?_⟩
  have h : ((bytesOf vc size val).extract (headOf vc size val.length).length (bytesOf vc size val).size).data = ⟨val⟩ := by
    rw [ByteArray.data_extract, e1, List.length_append]
    apply Array.ext'
    simp [bytesOf]
  cases hx : (bytesOf vc size val).extract (headOf vc size val.length).length (bytesOf vc size val).size with
  | mk dd => rw [hx] at h; simp only at h; rw [h]
theorem scells_of (val : List UInt8) : scells ⟨⟨val⟩⟩ = ucells val := by unfold scells; simp [ucells]
theorem bytesOfZ {w : World} {g e : Nat} {z : Nat × Nat} {l : List UInt8} {rest : List Value} (h : w.heap[g]? = some (.cells ⟨ucells l ++ rest⟩ e z)) : BytesIn w (some ⟨g, 0, none⟩) l := by
  refine ⟨fun j u hj => ⟨_, rfl, ?_⟩, fun e => by cases e⟩
  have hjl := (List.getElem?_eq_some_iff.1 hj).1
  rw [show (⟨g, 0, none⟩ : Addr).add j = ⟨g, j, none⟩ by unfold Addr.add; split <;> simp_all]
  rw [cell_of_row w g j _ _ z h]
  have hl : (ucells l).length = l.length := by simp [ucells]
  simp only [List.getElem?_toArray]
  rw [List.getElem?_append_left (by omega)]
  simp [ucells, hj]
abbrev Ma := List (Row × List UInt8)
/-- A slice holds these components of the package. -/
structure MIn (w : World) (a : Option Addr) (l : Ma) : Prop where
  at_ : ∀ (j : Nat) (p : Row × List UInt8), l[j]? = some p → ∃ ad pb vb, a = some ad ∧ ad.spot = none ∧ w.cell? (ad.add (j * 3)) = some (.string (bytesOf p.1.vc p.1.size p.2)) ∧ w.cell? (ad.add (j * 3 + 1)) = some (.pointer (some ⟨pb, 0, none⟩)) ∧
    w.cell? (ad.add (j * 3 + 2)) = some (.int .i64 (Int.ofNat (headOf p.1.vc p.1.size p.2.length).length)) ∧ RowAt w pb vb p.1
theorem MIn.later {w w' : World} {a : Option Addr} {l : Ma} (h : MIn w a l) (hx : Ext [] w w') : MIn w' a l :=
  ⟨fun j p hj => let ⟨ad, pb, vb, h1, h2, h3, h4, h5, h6⟩ := h.at_ j p hj; ⟨ad, pb, vb, h1, h2, hx.cell h3 (by simp), hx.cell h4 (by simp), hx.cell h5 (by simp), h6.later hx⟩⟩
theorem MIn.nil {w : World} {a : Option Addr} : MIn w a [] := ⟨fun j x hj => by cases hj⟩
theorem mcells_get {l : Ma} {pbs : List Nat} (h : pbs.length = l.length) {j : Nat} {p : Row × List UInt8} (hj : l[j]? = some p) : ∃ pb, pbs[j]? = some pb ∧ (mcells l pbs)[j * 3]? = some (.string (bytesOf p.1.vc p.1.size p.2)) ∧
    (mcells l pbs)[j * 3 + 1]? = some (.pointer (some ⟨pb, 0, none⟩)) ∧ (mcells l pbs)[j * 3 + 2]? = some (.int .i64 (Int.ofNat (headOf p.1.vc p.1.size p.2.length).length)) := by
  induction l generalizing pbs j with
  | nil => cases hj
  | cons q l ih =>
    cases pbs with
    | nil => cases h
    | cons b pbs =>
      cases j with
      | zero => cases hj; exact ⟨b, rfl, rfl, rfl, rfl⟩
      | succ j =>
        obtain ⟨pb, h1, h2, h3, h4⟩ := ih (pbs := pbs) (by simpa using h) (by simpa using hj)
        have e1 : (j + 1) * 3 = j * 3 + 1 + 1 + 1 := by omega
        refine ⟨pb, by simpa using h1, ?_, ?_, ?_⟩
        · rw [e1]; simpa [mcells] using h2
        · rw [e1]; simpa [mcells] using h3
        · rw [e1]; simpa [mcells] using h4
theorem MaOut.min {w0 w : World} {v : Value} {l : Ma} (h : MaOut w0 w v l) : ∃ a c, v = .slice a l.length c ∧ MIn w a l := by
  rcases h with ⟨rfl, rfl⟩ | ⟨g, c, rest, pbs, rfl, hg, hl, _, hr, _⟩
  · exact ⟨none, 0, rfl, MIn.nil⟩
  · refine ⟨_, _, rfl, ⟨fun j p hj => ?_⟩⟩
    obtain ⟨pb, h1, h2, h3, h4⟩ := mcells_get hl hj
    obtain ⟨vb, h5, _, _⟩ := hr j p pb hj h1
    have hc : ∀ i u, (mcells l pbs)[i]? = some u → w.cell? ((⟨g, 0, none⟩ : Addr).add i) = some u := fun i u hi => by
      rw [add0, cell_of_row w g _ _ _ (0, 0) hg]
      simp only [List.getElem?_toArray]
      rw [List.getElem?_append_left (List.getElem?_eq_some_iff.1 hi).1]; exact hi
    exact ⟨_, pb, vb, rfl, rfl, hc _ _ h2, hc _ _ h3, hc _ _ h4, h5⟩
theorem RowAt.kept {Q : Nat → Prop} {w w' : World} {pb vb : Nat} {r : Row} (h : RowAt w pb vb r) (hk : Kept Q w w') (h1 : Q pb) (h2 : Q vb) : RowAt w' pb vb r := ⟨hk _ _ h1 h.row, hk _ _ h2 h.vc⟩
theorem MaOut.kept {Q : Nat → Prop} {w0 w w' : World} {v : Value} {l : Ma} (h : MaOut w0 w v l) (hk : Kept Q w w')
    (hq : ∀ b c t z, w0.heap.size ≤ b → w.heap[b]? = some (.cells c t z) → (t = 59 ∨ t = 79 ∨ t = 5) → Q b) : MaOut w0 w' v l := by
  rcases h with h | ⟨g, c, rest, pbs, h1, hg, hl, hc, hr, hlo⟩
  · exact .inl h
  · refine .inr ⟨g, c, rest, pbs, h1, hk _ _ (hq g _ _ _ hlo hg (.inl rfl)) hg, hl, hc, fun j p pb hj hp => ?_, hlo⟩
    obtain ⟨vb, h2, h3, h4⟩ := hr j p pb hj hp
    exact ⟨vb, h2.kept hk (hq _ _ _ _ h3 h2.row (.inr (.inl rfl))) (hq _ _ _ _ h4 h2.vc (.inr (.inr rfl))), h3, h4⟩
theorem MaOut.since {w0 w0' w : World} {v : Value} {l : Ma} (h : MaOut w0 w v l) (hs : w0'.heap.size ≤ w0.heap.size) : MaOut w0' w v l := by
  rcases h with h | ⟨g, c, rest, pbs, h1, hg, hl, hc, hr, hlo⟩
  · exact .inl h
  · refine .inr ⟨g, c, rest, pbs, h1, hg, hl, hc, fun j p pb hj hp => ?_, by omega⟩
    obtain ⟨vb, h2, h3, h4⟩ := hr j p pb hj hp
    exact ⟨vb, h2, by omega, by omega⟩
theorem MaOut.later {w0 w w' : World} {v : Value} {l : Ma} (h : MaOut w0 w v l) (hx : Ext [] w w') : MaOut w0 w' v l := h.kept (Q := fun _ => True) hx.kept (fun _ _ _ _ _ _ _ => trivial)
theorem MaOut.one {w0 w : World} {v : Value} {l : Ma} (h : MaOut w0 w v l) : v.oneCell' = true := by
  rcases h with ⟨_, rfl⟩ | ⟨g, c, rest, pbs, rfl, _⟩ <;> rfl
/-- Other types. -/
theorem ne_of_type {w : World} {g b : Nat} {c c' : Array Value} {t t' : TypeId} {z z' : Nat × Nat} (hg : w.heap[g]? = some (.cells c t z)) (hb : w.heap[b]? = some (.cells c' t' z')) (h : t' ≠ t) : b ≠ g := fun e => by
  subst e; have := hg.symm.trans hb; simp only [Option.some.injEq, Obj.cells.injEq] at this; exact h this.2.1.symm
end Go.Proofs.YtgodhbgnhapemaaGreatDoor
