/- The transcoder of numbers of 64 bits, and the digits of base sixteen. Conditions: as each says. -/
import Derived.Test.YtgodhbgnhapemaaGreatDoorJTr
set_option linter.unusedVariables false
set_option linter.unusedSimpArgs false
/- The transcoder of a number of 64 bits. Conditions: as each says. -/
namespace Go.Proofs.YtgodhbgnhapemaaGreatDoor
open Go Go.SX Go.IpText Go.RowKit Go.Sort
set_option maxHeartbeats 8000000
set_option maxRecDepth 100000
theorem fmt10 (u nd g : Nat) (w : World) (hu : u < 18446744073709551616) (hnd : nd = Lib.nDigits u) (h24 : nd ≤ 24) (hg : w.heap[g]? = some (.cells ⟨ucells (List.replicate 24 0)⟩ 207 (0, 0))) :
    Calls Tryz.prog 273 #[.slice (some ⟨g, 0, none⟩) nd 24, .int .u64 (Int.ofNat u)] w (fun e w1 => ∃ v, e = .returned v ∧ w.grownBy w1 (some g) ∧ v = .tuple #[] ∧ ∃ d : List UInt8, d.length = nd ∧ BytesIn w1 (some ⟨g, 0, none⟩) d) := by
  have hH : Holds (fun (b : UInt8) => Value.int .u8 (b.toNat : Int)) w g 0 (Array.replicate nd (0 : UInt8)) := by
    intro j hj
    rw [Array.size_replicate] at hj
    refine ⟨?_, by unfold World.frozen?; simp [hg]⟩
    rw [Nat.zero_add, cell_of_row w g j _ _ (0, 0) hg]
    have h0 : (Array.replicate nd (0 : UInt8))[j]! = 0 := by rw [getElem!_pos _ _ (by rw [Array.size_replicate]; exact hj)]; exact Array.getElem_replicate ..
    simp only [List.getElem?_toArray]
    unfold ucells
    rw [List.map_replicate, List.getElem?_replicate, if_pos (by omega), h0]
    rfl
  have h := Any.internal_strconv_formatBase10 { Tryz.lays171 with } g 0 24 u (Array.replicate nd 0) w hH (by rw [Array.size_replicate, hnd]; exact Lib.lt_pow_nDigits u) hu (by rw [Array.size_replicate]; omega)
  rw [Array.size_replicate] at h
  refine h.mono fun e w1 ⟨h1, k, v', dk, h2, hF⟩ => ⟨_, h1, ?_, rfl, dk.toList, by rw [Array.length_toList]; exact hF.size, ?_⟩
  · rw [h2]
    refine ⟨rfl, rfl, rfl, by show _ ≤ (putRow _ w g 0 dk).heap.size; rw [size_putRow]; exact Nat.le_refl _, fun b hb hne => ?_⟩
    show (w.heap.modify g _)[b]? = _
    rw [Array.getElem?_modify, if_neg (fun e => hne (by rw [e]))]
  · refine ⟨fun j u hj => ⟨_, rfl, ?_⟩, fun e => by cases e⟩
    have hjl : j < dk.size := by
      have := (List.getElem?_eq_some_iff.1 hj).1
      rwa [Array.length_toList] at this
    rw [show (⟨g, 0, none⟩ : Addr).add j = ⟨g, 0 + j, none⟩ by unfold Addr.add; split <;> simp_all, h2, World.cell?_drewN, cell?_putRow (fun (b : UInt8) => Value.int .u8 (b.toNat : Int)) w g 0 _ dk hH (by rw [hF.size, Array.size_replicate]) j hjl]
    rw [Array.getElem?_toList, Array.getElem?_eq_getElem hjl] at hj
    rw [getElem!_pos dk j hjl, Option.some.inj hj]
theorem sl24 (g n : Nat) (hn : n ≤ 24) (w : World) : (Instr.sliceAt 207 (.pointer (some ⟨g, 0, none⟩)) none (some (.int .i64 (Int.ofNat n))) none).run Tryz.prog w = .ok (.slice (some ⟨g, 0, none⟩) n 24) w := by
  have hal : Program.arrayLen Tryz.prog 207 = 24 := by kernel_rfl
  have hel : Program.elem Tryz.prog 207 = 5 := by kernel_rfl
  have hsz : (sizeOf (Program.elem Tryz.prog 207)).run Tryz.prog w = .ok 1 w := by
    rw [hel]; rfl
  rw [run_sliceAt_array_h w 207 ⟨g, 0, none⟩ (by kernel_rfl) .i64 (Int.ofNat n) (by simp only [Int.ofNat_eq_natCast]; omega) (by rw [hal]; simp only [Int.ofNat_eq_natCast]; omega), hsz, hal]
  simp [slicedAt, sliced, Addr.add]
theorem formatUint64 (n : Nat) (w : World) (ht : Tab w) (hn : n < 18446744073709551616) :
    Calls Tryz.prog 208 #[.int .u64 (Int.ofNat n), .int .i64 10] w (fun e w1 => ∃ v, e = .returned v ∧ Ext [] w w1 ∧ ∃ t, v = .string t) := by
  by_cases h65 : n < 65536
  · exact (formatUint n w ht h65).mono fun e w1 ⟨v, h1, h2, h3⟩ => ⟨v, h1, h2, _, h3⟩
  refine calls_of0 (args := [.int .u64 (Int.ofNat n), .int .i64 10]) Tryz.func208 rfl rfl rfl ?_
  refine To.runF 17 [] (fun _ _ => by kernel_rfl) fun f1 g1 l1 => ?_
  refine To.testF (decide (Int.ofNat n < 100)) (by kernel_rfl) (decide_eq_false (by simp only [Int.ofNat_eq_natCast]; omega)) ?_
  refine To.runF 8 [] (fun _ _ => by kernel_rfl) fun f2 g2 l2 => ?_
  refine To.callN 272 #[.int .u64 (Int.ofNat n)] (by kernel_rfl) (fun _ => by kernel_rfl) (fun w2 hw2 => numDigitsT n w2 (ht.later hw2.ext) (by omega) (by omega)) (fun w2 v2 w3 hw2 hx2 hv2 hnew2 hwi2 => ?_)
  subst hv2
  refine To.runF 5 [] (fun _ _ => by kernel_rfl) fun f3 g3 l3 => ?_
  have hnd1 : Lib.nDigits n ≤ 20 := by have := Lib.numDigits_eq n (by omega) hn; split at this <;> omega
  refine To.lawV (Instr.sliceAt 207 (.pointer (some ⟨f2 0, 0, none⟩)) none (some (.int .i64 (Int.ofNat (Lib.nDigits n)))) none) (.slice (some ⟨f2 0, 0, none⟩) (Lib.nDigits n) 24) (by kernel_rfl) (fun w _ => sl24 (f2 0) (Lib.nDigits n) (by omega) w) ?_
  refine To.runF 1 [] (fun _ _ => by kernel_rfl) fun f4 g4 l4 => ?_
  refine To.callGC 273 #[.slice (some ⟨f2 0, 0, none⟩) (Lib.nDigits n) 24, .int .u64 (Int.ofNat n)] (some (f2 0)) (some 0) (Φ := fun _ v w1 => v = .tuple #[] ∧ ∃ d : List UInt8, d.length = Lib.nDigits n ∧ BytesIn w1 (some ⟨f2 0, 0, none⟩) d) (by kernel_rfl) (fun _ => by kernel_rfl)
    (fun w4 hw4 => fmt10 n (Lib.nDigits n) (f2 0) w4 hn rfl (by omega) (hw4.blk (j := 0) (b := f2 0) (o := .cells ⟨ucells (List.replicate 24 0)⟩ 207 (0, 0)) (q := true) (by kernel_rfl)))
    (fun w _ i x hx => nums_all (Q := fun n => some n ≠ some (f2 0)) (l := [none]) (by kernel_rfl) trivial i x hx) (fun w9 _ q hq => .inl (by cases hq; exact l2 0)) (fun w _ => held0S (by kernel_rfl)) (fun w4 v4 w5 hw4 hg4 hΦ => ?_)
  obtain ⟨rfl, d, hdl, hin5⟩ := hΦ
  refine To.runF 4 [] (fun _ _ => by kernel_rfl) fun f5 g5 l5 => ?_
  refine To.lawV (Instr.sliceAt 207 (.pointer (some ⟨f2 0, 0, none⟩)) none (some (.int .i64 (Int.ofNat (Lib.nDigits n)))) none) (.slice (some ⟨f2 0, 0, none⟩) (Lib.nDigits n) 24) (by kernel_rfl) (fun w _ => sl24 (f2 0) (Lib.nDigits n) (by omega) w) ?_
  refine To.textOf (src := 28) (dst := 9) (e := 5) (some ⟨f2 0, 0, none⟩) (Lib.nDigits n) 24 d hdl.symm uBytes uString uU8 (by kernel_rfl) (fun w8 hw8 j u hj => (hin5.kept (hw8.fr.kept (Q := fun b => b = f2 0) (l := [none]) (by kernel_rfl) trivial)).at_ j u hj) (fun e => by cases e) ?_
  refine To.runF 2 [] (fun _ _ => by kernel_rfl) fun f6 g6 l6 => ?_
  exact To.ret [] (.string ⟨⟨d⟩⟩) (by kernel_rfl) (by kernel_rfl) fun w9 hw9 => ⟨_, rfl, hw9.ext, _, rfl⟩
theorem addr_plain {w : World} {ad : Addr} {v : Value} (h : w.cell? ad = some v) : ad = ⟨ad.block, ad.off, none⟩ := by
  obtain ⟨_, _, _, _, hs, _⟩ := block_of_cell h
  cases ad
  cases hs
  rfl
theorem putBE64 (n : Nat) (hn : n < 18446744073709551616) (g c : Nat) (w : World) (hg : w.heap[g]? = some (.cells ⟨ucells (List.replicate 8 0)⟩ 5 (0, 0))) :
    Calls Tryz.prog 200 #[.agg #[], .slice (some ⟨g, 0, none⟩) 8 c, .int .u64 (Int.ofNat n)] w (fun e w1 => ∃ v, e = .returned v ∧ w.grownBy w1 (some g) ∧ v = .tuple #[] ∧ w1.heap[g]? = some (.cells ⟨ucells (Lib.beBytes 8 n)⟩ 5 (0, 0))) := by
  have hlt := at_lt hg
  have hc : ∀ j, j < 8 → w.cell? ⟨g, 0 + j, none⟩ = some (.int .u8 0) := fun j hj => by
    rw [Nat.zero_add, cell_of_row w g j _ _ (0, 0) hg]
    simp only [List.getElem?_toArray]
    unfold ucells
    rw [List.map_replicate, List.getElem?_replicate, if_pos hj]; rfl
  have hf : ∀ j, w.frozen? ⟨g, j, none⟩ = false := fun j => by unfold World.frozen?; simp [hg]
  refine (Any.binary_BE_PutUint64 Tryz.laysB43 g 0 8 c n hn _ _ _ _ _ _ _ _ w (Nat.le_refl _) (hc 0 (by decide)) (hc 1 (by decide)) (hc 2 (by decide)) (hc 3 (by decide)) (hc 4 (by decide)) (hc 5 (by decide)) (hc 6 (by decide)) (hc 7 (by decide)) (hf _) (hf _) (hf _) (hf _) (hf _) (hf _) (hf _) (hf _)).mono (fun e w1 h => ?_)
  obtain ⟨rfl, rfl⟩ := h
  have hl8 : (Lib.beBytes 8 n).length = 8 := by simp [Lib.beBytes, Lib.leBytes]
  have hg2 : (w.alloc (.cells #[] (Tryz.laysB43_ren.t 37))).heap[g]? = some (.cells ⟨ucells (List.replicate 8 0)⟩ 5 (0, 0)) := by
    show (w.heap.push _)[g]? = _
    rw [Array.getElem?_push_lt hlt, ← Array.getElem?_eq_getElem hlt, hg]
  have hlt2 := at_lt hg2
  rw [setCells_row (t := 5) (z := (0, 0)) _ 0 _ _ hg2 (by simp [Lib.byteCells, hl8, ucells])]
  refine ⟨_, rfl, ⟨rfl, rfl, rfl, by simp only [World.alloc, Array.size_setIfInBounds, Array.size_push]; omega, fun k hk hne => ?_⟩, rfl, ?_⟩
  · show ((w.heap.push _).setIfInBounds g _)[k]? = _
    rw [Array.getElem?_setIfInBounds_ne (fun e => hne (by rw [e])), Array.getElem?_push_lt hk, ← Array.getElem?_eq_getElem hk]
  · show ((w.heap.push _).setIfInBounds g _)[g]? = _
    rw [Array.getElem?_setIfInBounds, if_pos rfl, if_pos (show g < (w.heap.push _).size from hlt2)]
    have h8 : (Lib.byteCells (Lib.beBytes 8 n)).length = 8 := by simp [Lib.byteCells, hl8]
    rw [h8, List.take_zero, List.nil_append, List.drop_of_length_le (by simp [ucells]), List.append_nil]
    simp [Lib.byteCells, ucells]
theorem beU64 (val : List UInt8) (hl : val.length = 8) (ad : Addr) (ca : Nat) (w : World) (hin : BytesIn w (some ad) val) :
    Calls Tryz.prog 201 #[.agg #[], .slice (some ad) 8 ca] w (fun e w1 => ∃ v, e = .returned v ∧ Ext [] w w1 ∧ v = .int .u64 (Int.ofNat (numOf val))) := by
  obtain ⟨ad', h', hc0⟩ := hin.at_ 0 val[0] (List.getElem?_eq_getElem (by omega))
  cases h'
  have hp : ad = ⟨ad.block, ad.off, none⟩ := by
    have := addr_plain hc0
    unfold Addr.add at this
    simpa using this
  have hc : ∀ j (h : j < val.length), w.cell? ⟨ad.block, ad.off + j, none⟩ = some (.int .u8 ((val[j]).toNat : Int)) := fun j h => by
    obtain ⟨ad', h', hcj⟩ := hin.at_ j val[j] (List.getElem?_eq_getElem h)
    cases h'
    rw [hp] at hcj
    unfold Addr.add at hcj
    by_cases hj : j = 0
    · subst hj; rw [if_pos rfl] at hcj; exact hcj
    · rw [if_neg hj] at hcj; exact hcj
  rw [hp]
  obtain ⟨x0, x1, x2, x3, x4, x5, x6, x7, rfl⟩ : ∃ x0 x1 x2 x3 x4 x5 x6 x7, val = [x0, x1, x2, x3, x4, x5, x6, x7] := by
    match val, hl with
    | [x0, x1, x2, x3, x4, x5, x6, x7], _ => exact ⟨x0, x1, x2, x3, x4, x5, x6, x7, rfl⟩
  exact (Any.binary_BE_Uint64 Tryz.laysB42 ad.block ad.off 8 ca x0 x1 x2 x3 x4 x5 x6 x7 w (Nat.le_refl _) (hc 0 (Nat.le_of_ble_eq_true rfl)) (hc 1 (Nat.le_of_ble_eq_true rfl)) (hc 2 (Nat.le_of_ble_eq_true rfl)) (hc 3 (Nat.le_of_ble_eq_true rfl)) (hc 4 (Nat.le_of_ble_eq_true rfl)) (hc 5 (Nat.le_of_ble_eq_true rfl)) (hc 6 (Nat.le_of_ble_eq_true rfl)) (hc 7 (Nat.le_of_ble_eq_true rfl))).mono fun e w1 ⟨h1, h2⟩ => ⟨_, h1, extBelow h2, by rw [be_num]; rfl⟩
def xMem : Value := .agg #[.func (.func 165) #[] #[], .func (.func 166) #[] #[], .func (.func 167) #[] #[]]
theorem trMem (val : List UInt8) (hl : val.length = 8) : Tr1 xMem val (Lib.decDigits (numOf val)) := by
  have hn : numOf val < 18446744073709551616 := by have := numOf_lt val; rw [hl] at this; exact this
  refine ⟨fun w ht => ?_, fun w a ca ht hin hca => ?_, fun w a ca ht hin hca => ?_⟩
  · refine calls_of0 (args := [xMem, .string ⟨⟨Lib.decDigits (numOf val)⟩⟩]) Tryz.func356 rfl rfl rfl ?_
    refine To.runF 20 [0] (fun _ _ => by kernel_rfl) fun f1 g1 l1 => ?_
    refine To.callN 171 #[.string ⟨⟨Lib.decDigits (numOf val)⟩⟩, .int .i64 10, .int .i64 64] (by kernel_rfl) (fun _ => by kernel_rfl) (fun w2 hw2 => parse64 (numOf val) hn w2) (fun w2 v2 w3 hw2 hx2 hv2 hnew2 hwi2 => ?_)
    subst hv2
    refine To.runF 24 [] (fun _ _ => by kernel_rfl) fun f2 g2 l2 => ?_
    have hne : f1 0 ≠ f2 0 := hnew2 (f2 0) (Nat.le_trans hx2.size (l2 0)) 0 ⟨f1 0, .cells ⟨[.func (.func 165) #[] #[], .func (.func 166) #[] #[], .func (.func 167) #[] #[]]⟩ 126 (0, 0), true⟩ (by kernel_rfl)
    refine To.callGC 200 #[.agg #[], .slice (some ⟨f2 0, 0, none⟩) 8 8, .int .u64 (Int.ofNat (numOf val))] (some (f2 0)) (some 1) (Φ := fun _ v w1 => v = .tuple #[] ∧ w1.heap[f2 0]? = some (.cells ⟨ucells (Lib.beBytes 8 (numOf val))⟩ 5 (0, 0))) (by kernel_rfl) (fun _ => by kernel_rfl)
      (fun w4 hw4 => putBE64 (numOf val) hn (f2 0) 8 w4 (hw4.blk (j := 1) (b := f2 0) (o := .cells ⟨ucells (List.replicate 8 0)⟩ 5 (0, 0)) (q := true) (by kernel_rfl)))
      (fun w _ i x hx => nums_all (Q := fun n => some n ≠ some (f2 0)) (l := [some (f1 0), none]) (by kernel_rfl) ⟨fun e => hne (Option.some.inj e), trivial⟩ i x hx) (fun w9 _ q hq => .inl (by cases hq; exact Nat.le_trans hwi2 (Nat.le_trans hx2.size (l2 0)))) (fun w _ => held0S (by kernel_rfl)) (fun w4 v4 w5 hw4 hg4 hΦ => ?_)
    obtain ⟨rfl, hrow⟩ := hΦ
    refine To.withAt (f2 0) (.cells ⟨ucells (Lib.beBytes 8 (numOf val))⟩ 5 (0, 0)) true hrow (nums_all (Q := fun n => n ≠ f2 0) (l := [some (f1 0), none]) (by kernel_rfl) ⟨hne, trivial⟩) (fun _ => .inl (Nat.le_trans hwi2 (Nat.le_trans hx2.size (l2 0)))) ?_
    refine To.runF 13 [] (fun _ _ => by kernel_rfl) fun f3 g3 l3 => ?_
    have hbe : Lib.beBytes 8 (numOf val) = val := by have := be_back val; rw [hl] at this; exact this
    have hres : (.tuple #[.slice (some ⟨f2 0, 0, none⟩) 8 8, .nilIface] : Value) = .tuple #[.slice (some ⟨f2 0, 0, none⟩) val.length 8, .nilIface] := by rw [hl]
    exact To.ret [] (.tuple #[.slice (some ⟨f2 0, 0, none⟩) 8 8, .nilIface]) (by kernel_rfl) (by kernel_rfl) fun w9 hw9 => ⟨_, rfl, hw9.ext, ⟨f2 0, 0, none⟩, 8, hres, bytesOfZ (rest := []) (e := 5) (z := (0, 0)) (by
      have h := hw9.blk (j := 2) (b := f2 0) (o := .cells ⟨ucells (Lib.beBytes 8 (numOf val)) ++ []⟩ 5 (0, 0)) (q := true) (by kernel_rfl)
      rw [hbe] at h
      exact h), by omega, Nat.le_trans hwi2 (Nat.le_trans hx2.size (l2 0))⟩
  · obtain ⟨ad, ha, _⟩ := hin.one 0 (by omega)
    subst ha
    have hc8 : #[xMem, .slice (some ad) val.length ca] = #[xMem, Value.slice (some ad) 8 ca] := by rw [hl]
    rw [hc8]
    refine calls_of0 (args := [xMem, .slice (some ad) 8 ca]) Tryz.func355 rfl rfl rfl ?_
    refine To.runF 30 [0] (fun _ _ => by kernel_rfl) fun f1 g1 l1 => ?_
    refine To.callN 201 #[.agg #[], .slice (some ad) 8 ca] (by kernel_rfl) (fun _ => by kernel_rfl) (fun w2 hw2 => beU64 val hl ad ca w2 (hin.later hw2.ext)) (fun w2 v2 w3 hw2 hx2 hv2 hnew2 hwi2 => ?_)
    subst hv2
    refine To.runF 14 [] (fun _ _ => by kernel_rfl) fun f2 g2 l2 => ?_
    refine To.callN 208 #[.int .u64 (Int.ofNat (numOf val)), .int .i64 10] (by kernel_rfl) (fun _ => by kernel_rfl) (fun w4 hw4 => formatUint64 (numOf val) w4 (ht.later hw4.ext) hn) (fun w4 v4 w5 hw4 hx4 hv4 hnew4 hwi4 => ?_)
    obtain ⟨t, rfl⟩ := hv4
    refine To.runF 12 [] (fun _ _ => by kernel_rfl) fun f3 g3 l3 => ?_
    exact To.ret [] (.tuple #[.string t, .nilIface]) (by kernel_rfl) (by kernel_rfl) fun w4 hw4 => ⟨_, rfl, hw4.ext, _, rfl⟩
  · have hc8 : #[xMem, .slice a val.length ca] = #[xMem, Value.slice a 8 ca] := by rw [hl]
    rw [hc8]
    refine calls_of0 (args := [xMem, .slice a 8 ca]) Tryz.func357 rfl rfl rfl ?_
    refine To.runF 40 [0, 0] (fun _ _ => by kernel_rfl) fun f1 g1 l1 => ?_
    exact To.ret [] .nilIface (by kernel_rfl) (by kernel_rfl) fun w4 hw4 => ⟨_, rfl, hw4.ext, rfl⟩
end Go.Proofs.YtgodhbgnhapemaaGreatDoor
/- A hexadecimal digit's value. Conditions: a letter that an address's text has. -/
namespace Go.Proofs.YtgodhbgnhapemaaGreatDoor
open Go Go.SX Go.IpText
set_option maxHeartbeats 8000000
set_option maxRecDepth 100000
def digI (c : UInt8) : Int := if 48 ≤ c.toNat ∧ c.toNat ≤ 57 then (c.toNat : Int) - 48 else if 97 ≤ c.toNat ∧ c.toNat ≤ 102 then (c.toNat : Int) - 87 else -1
theorem dig48 (w : World) : Calls Tryz.prog 315 #[.int .u8 48] w (fun e w1 => ∃ v, e = .returned v ∧ Ext [] w w1 ∧ v = .int .i64 (0)) := by
  refine calls_of0 (args := [.int .u8 48]) Tryz.func315 rfl rfl rfl ?_
  refine To.runF 24 [] (fun _ _ => by kernel_rfl) fun f1 g1 l1 => ?_
  exact To.ret [] (.int .i64 (0)) (by kernel_rfl) (by kernel_rfl) fun w4 hw4 => ⟨_, rfl, hw4.ext, rfl⟩
theorem dig49 (w : World) : Calls Tryz.prog 315 #[.int .u8 49] w (fun e w1 => ∃ v, e = .returned v ∧ Ext [] w w1 ∧ v = .int .i64 (1)) := by
  refine calls_of0 (args := [.int .u8 49]) Tryz.func315 rfl rfl rfl ?_
  refine To.runF 24 [] (fun _ _ => by kernel_rfl) fun f1 g1 l1 => ?_
  exact To.ret [] (.int .i64 (1)) (by kernel_rfl) (by kernel_rfl) fun w4 hw4 => ⟨_, rfl, hw4.ext, rfl⟩
theorem dig50 (w : World) : Calls Tryz.prog 315 #[.int .u8 50] w (fun e w1 => ∃ v, e = .returned v ∧ Ext [] w w1 ∧ v = .int .i64 (2)) := by
  refine calls_of0 (args := [.int .u8 50]) Tryz.func315 rfl rfl rfl ?_
  refine To.runF 24 [] (fun _ _ => by kernel_rfl) fun f1 g1 l1 => ?_
  exact To.ret [] (.int .i64 (2)) (by kernel_rfl) (by kernel_rfl) fun w4 hw4 => ⟨_, rfl, hw4.ext, rfl⟩
theorem dig51 (w : World) : Calls Tryz.prog 315 #[.int .u8 51] w (fun e w1 => ∃ v, e = .returned v ∧ Ext [] w w1 ∧ v = .int .i64 (3)) := by
  refine calls_of0 (args := [.int .u8 51]) Tryz.func315 rfl rfl rfl ?_
  refine To.runF 24 [] (fun _ _ => by kernel_rfl) fun f1 g1 l1 => ?_
  exact To.ret [] (.int .i64 (3)) (by kernel_rfl) (by kernel_rfl) fun w4 hw4 => ⟨_, rfl, hw4.ext, rfl⟩
theorem dig52 (w : World) : Calls Tryz.prog 315 #[.int .u8 52] w (fun e w1 => ∃ v, e = .returned v ∧ Ext [] w w1 ∧ v = .int .i64 (4)) := by
  refine calls_of0 (args := [.int .u8 52]) Tryz.func315 rfl rfl rfl ?_
  refine To.runF 24 [] (fun _ _ => by kernel_rfl) fun f1 g1 l1 => ?_
  exact To.ret [] (.int .i64 (4)) (by kernel_rfl) (by kernel_rfl) fun w4 hw4 => ⟨_, rfl, hw4.ext, rfl⟩
theorem dig53 (w : World) : Calls Tryz.prog 315 #[.int .u8 53] w (fun e w1 => ∃ v, e = .returned v ∧ Ext [] w w1 ∧ v = .int .i64 (5)) := by
  refine calls_of0 (args := [.int .u8 53]) Tryz.func315 rfl rfl rfl ?_
  refine To.runF 24 [] (fun _ _ => by kernel_rfl) fun f1 g1 l1 => ?_
  exact To.ret [] (.int .i64 (5)) (by kernel_rfl) (by kernel_rfl) fun w4 hw4 => ⟨_, rfl, hw4.ext, rfl⟩
theorem dig54 (w : World) : Calls Tryz.prog 315 #[.int .u8 54] w (fun e w1 => ∃ v, e = .returned v ∧ Ext [] w w1 ∧ v = .int .i64 (6)) := by
  refine calls_of0 (args := [.int .u8 54]) Tryz.func315 rfl rfl rfl ?_
  refine To.runF 24 [] (fun _ _ => by kernel_rfl) fun f1 g1 l1 => ?_
  exact To.ret [] (.int .i64 (6)) (by kernel_rfl) (by kernel_rfl) fun w4 hw4 => ⟨_, rfl, hw4.ext, rfl⟩
theorem dig55 (w : World) : Calls Tryz.prog 315 #[.int .u8 55] w (fun e w1 => ∃ v, e = .returned v ∧ Ext [] w w1 ∧ v = .int .i64 (7)) := by
  refine calls_of0 (args := [.int .u8 55]) Tryz.func315 rfl rfl rfl ?_
  refine To.runF 24 [] (fun _ _ => by kernel_rfl) fun f1 g1 l1 => ?_
  exact To.ret [] (.int .i64 (7)) (by kernel_rfl) (by kernel_rfl) fun w4 hw4 => ⟨_, rfl, hw4.ext, rfl⟩
theorem dig56 (w : World) : Calls Tryz.prog 315 #[.int .u8 56] w (fun e w1 => ∃ v, e = .returned v ∧ Ext [] w w1 ∧ v = .int .i64 (8)) := by
  refine calls_of0 (args := [.int .u8 56]) Tryz.func315 rfl rfl rfl ?_
  refine To.runF 24 [] (fun _ _ => by kernel_rfl) fun f1 g1 l1 => ?_
  exact To.ret [] (.int .i64 (8)) (by kernel_rfl) (by kernel_rfl) fun w4 hw4 => ⟨_, rfl, hw4.ext, rfl⟩
theorem dig57 (w : World) : Calls Tryz.prog 315 #[.int .u8 57] w (fun e w1 => ∃ v, e = .returned v ∧ Ext [] w w1 ∧ v = .int .i64 (9)) := by
  refine calls_of0 (args := [.int .u8 57]) Tryz.func315 rfl rfl rfl ?_
  refine To.runF 24 [] (fun _ _ => by kernel_rfl) fun f1 g1 l1 => ?_
  exact To.ret [] (.int .i64 (9)) (by kernel_rfl) (by kernel_rfl) fun w4 hw4 => ⟨_, rfl, hw4.ext, rfl⟩
theorem dig97 (w : World) : Calls Tryz.prog 315 #[.int .u8 97] w (fun e w1 => ∃ v, e = .returned v ∧ Ext [] w w1 ∧ v = .int .i64 (10)) := by
  refine calls_of0 (args := [.int .u8 97]) Tryz.func315 rfl rfl rfl ?_
  refine To.runF 36 [] (fun _ _ => by kernel_rfl) fun f1 g1 l1 => ?_
  exact To.ret [] (.int .i64 (10)) (by kernel_rfl) (by kernel_rfl) fun w4 hw4 => ⟨_, rfl, hw4.ext, rfl⟩
theorem dig98 (w : World) : Calls Tryz.prog 315 #[.int .u8 98] w (fun e w1 => ∃ v, e = .returned v ∧ Ext [] w w1 ∧ v = .int .i64 (11)) := by
  refine calls_of0 (args := [.int .u8 98]) Tryz.func315 rfl rfl rfl ?_
  refine To.runF 36 [] (fun _ _ => by kernel_rfl) fun f1 g1 l1 => ?_
  exact To.ret [] (.int .i64 (11)) (by kernel_rfl) (by kernel_rfl) fun w4 hw4 => ⟨_, rfl, hw4.ext, rfl⟩
theorem dig99 (w : World) : Calls Tryz.prog 315 #[.int .u8 99] w (fun e w1 => ∃ v, e = .returned v ∧ Ext [] w w1 ∧ v = .int .i64 (12)) := by
  refine calls_of0 (args := [.int .u8 99]) Tryz.func315 rfl rfl rfl ?_
  refine To.runF 36 [] (fun _ _ => by kernel_rfl) fun f1 g1 l1 => ?_
  exact To.ret [] (.int .i64 (12)) (by kernel_rfl) (by kernel_rfl) fun w4 hw4 => ⟨_, rfl, hw4.ext, rfl⟩
theorem dig100 (w : World) : Calls Tryz.prog 315 #[.int .u8 100] w (fun e w1 => ∃ v, e = .returned v ∧ Ext [] w w1 ∧ v = .int .i64 (13)) := by
  refine calls_of0 (args := [.int .u8 100]) Tryz.func315 rfl rfl rfl ?_
  refine To.runF 36 [] (fun _ _ => by kernel_rfl) fun f1 g1 l1 => ?_
  exact To.ret [] (.int .i64 (13)) (by kernel_rfl) (by kernel_rfl) fun w4 hw4 => ⟨_, rfl, hw4.ext, rfl⟩
theorem dig101 (w : World) : Calls Tryz.prog 315 #[.int .u8 101] w (fun e w1 => ∃ v, e = .returned v ∧ Ext [] w w1 ∧ v = .int .i64 (14)) := by
  refine calls_of0 (args := [.int .u8 101]) Tryz.func315 rfl rfl rfl ?_
  refine To.runF 36 [] (fun _ _ => by kernel_rfl) fun f1 g1 l1 => ?_
  exact To.ret [] (.int .i64 (14)) (by kernel_rfl) (by kernel_rfl) fun w4 hw4 => ⟨_, rfl, hw4.ext, rfl⟩
theorem dig102 (w : World) : Calls Tryz.prog 315 #[.int .u8 102] w (fun e w1 => ∃ v, e = .returned v ∧ Ext [] w w1 ∧ v = .int .i64 (15)) := by
  refine calls_of0 (args := [.int .u8 102]) Tryz.func315 rfl rfl rfl ?_
  refine To.runF 36 [] (fun _ _ => by kernel_rfl) fun f1 g1 l1 => ?_
  exact To.ret [] (.int .i64 (15)) (by kernel_rfl) (by kernel_rfl) fun w4 hw4 => ⟨_, rfl, hw4.ext, rfl⟩
theorem dig58 (w : World) : Calls Tryz.prog 315 #[.int .u8 58] w (fun e w1 => ∃ v, e = .returned v ∧ Ext [] w w1 ∧ v = .int .i64 (-1)) := by
  refine calls_of0 (args := [.int .u8 58]) Tryz.func315 rfl rfl rfl ?_
  refine To.runF 45 [] (fun _ _ => by kernel_rfl) fun f1 g1 l1 => ?_
  exact To.ret [] (.int .i64 (-1)) (by kernel_rfl) (by kernel_rfl) fun w4 hw4 => ⟨_, rfl, hw4.ext, rfl⟩
theorem dig46 (w : World) : Calls Tryz.prog 315 #[.int .u8 46] w (fun e w1 => ∃ v, e = .returned v ∧ Ext [] w w1 ∧ v = .int .i64 (-1)) := by
  refine calls_of0 (args := [.int .u8 46]) Tryz.func315 rfl rfl rfl ?_
  refine To.runF 45 [] (fun _ _ => by kernel_rfl) fun f1 g1 l1 => ?_
  exact To.ret [] (.int .i64 (-1)) (by kernel_rfl) (by kernel_rfl) fun w4 hw4 => ⟨_, rfl, hw4.ext, rfl⟩
def sixLetters : List UInt8 := [48, 49, 50, 51, 52, 53, 54, 55, 56, 57, 97, 98, 99, 100, 101, 102, 58, 46]
theorem digW (c : UInt8) (w : World) (h : c ∈ sixLetters) :
    Calls Tryz.prog 315 #[.int .u8 (Int.ofNat c.toNat)] w (fun e w1 => ∃ v, e = .returned v ∧ Ext [] w w1 ∧ v = .int .i64 (digI c)) := by
  simp only [sixLetters, List.mem_cons, List.not_mem_nil, or_false] at h
  rcases h with rfl | rfl | rfl | rfl | rfl | rfl | rfl | rfl | rfl | rfl | rfl | rfl | rfl | rfl | rfl | rfl | rfl | rfl
  · exact dig48 w
  · exact dig49 w
  · exact dig50 w
  · exact dig51 w
  · exact dig52 w
  · exact dig53 w
  · exact dig54 w
  · exact dig55 w
  · exact dig56 w
  · exact dig57 w
  · exact dig97 w
  · exact dig98 w
  · exact dig99 w
  · exact dig100 w
  · exact dig101 w
  · exact dig102 w
  · exact dig58 w
  · exact dig46 w
end Go.Proofs.YtgodhbgnhapemaaGreatDoor
