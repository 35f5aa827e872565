/- Whether an address is blocked. Conditions: as each says. -/
import Derived.Test.YtkhonkejebdcgaaGreatDoorJActs
import Derived.Test.YtkhonkejebdcgaaGreatDoorJMake
/- Whether an address is blocked. Conditions: the list lies in memory; the address begins with an IP address, or with none of a zone. -/
namespace Go.Proofs.YtkhonkejebdcgaaGreatDoor
open Go Go.SX Go.IpText
set_option maxHeartbeats 8000000
set_option maxRecDepth 100000
abbrev Ma := List (Row × List UInt8)
/-- A slice holds these components of the package. -/
structure MIn (w : World) (a : Option Addr) (l : Ma) : Prop where
  at_ : ∀ (j : Nat) (p : Row × List UInt8), l[j]? = some p → ∃ ad pb vb, a = some ad ∧ ad.spot = none ∧ w.cell? (ad.add (j * 3)) = some (.string (bytesOf p.1.vc p.1.size p.2)) ∧ w.cell? (ad.add (j * 3 + 1)) = some (.pointer (some ⟨pb, 0, none⟩)) ∧
    w.cell? (ad.add (j * 3 + 2)) = some (.int .i64 (Int.ofNat (headOf p.1.vc p.1.size p.2.length).length)) ∧ RowAt w pb vb p.1
theorem MIn.later {w w' : World} {a : Option Addr} {l : Ma} (h : MIn w a l) (hx : Ext [] w w') : MIn w' a l :=
  ⟨fun j p hj => let ⟨ad, pb, vb, h1, h2, h3, h4, h5, h6⟩ := h.at_ j p hj; ⟨ad, pb, vb, h1, h2, hx.cell h3 (by simp), hx.cell h4 (by simp), hx.cell h5 (by simp), h6.later hx⟩⟩
theorem MIn.nil {w : World} {a : Option Addr} : MIn w a [] := ⟨fun j x hj => by cases hj⟩
theorem mcells_get {l : Ma} {pbs : List Nat} (h : pbs.length = l.length) {j : Nat} {p : Row × List UInt8} (hj : l[j]? = some p) : ∃ pb, pbs[j]? = some pb ∧ (mcells l pbs)[j * 3]? = some (.string (bytesOf p.1.vc p.1.size p.2)) ∧
    (mcells l pbs)[j * 3 + 1]? = some (.pointer (some ⟨pb, 0, none⟩)) ∧ (mcells l pbs)[j * 3 + 2]? = some (.int .i64 (Int.ofNat (headOf p.1.vc p.1.size p.2.length).length)) := by
  induction l generalizing pbs j with
  | nil => cases hj
  | cons q l ih =>
    cases pbs with
    | nil => cases h
    | cons b pbs =>
      cases j with
      | zero => cases hj; exact ⟨b, rfl, rfl, rfl, rfl⟩
      | succ j =>
        obtain ⟨pb, h1, h2, h3, h4⟩ := ih (pbs := pbs) (by simpa using h) (by simpa using hj)
        have e1 : (j + 1) * 3 = j * 3 + 1 + 1 + 1 := by omega
        refine ⟨pb, by simpa using h1, ?_, ?_, ?_⟩
        · rw [e1]; simpa [mcells] using h2
        · rw [e1]; simpa [mcells] using h3
        · rw [e1]; simpa [mcells] using h4
theorem MaOut.min {w0 w : World} {v : Value} {l : Ma} (h : MaOut w0 w v l) : ∃ a c, v = .slice a l.length c ∧ MIn w a l := by
  rcases h with ⟨rfl, rfl⟩ | ⟨g, c, rest, pbs, rfl, hg, hl, _, hr, _⟩
  · exact ⟨none, 0, rfl, MIn.nil⟩
  · refine ⟨_, _, rfl, ⟨fun j p hj => ?_⟩⟩
    obtain ⟨pb, h1, h2, h3, h4⟩ := mcells_get hl hj
    obtain ⟨vb, h5, _, _⟩ := hr j p pb hj h1
    have hc : ∀ i u, (mcells l pbs)[i]? = some u → w.cell? ((⟨g, 0, none⟩ : Addr).add i) = some u := fun i u hi => by
      rw [add0, cell_of_row w g _ _ _ (0, 0) hg]
      simp only [List.getElem?_toArray]
      rw [List.getElem?_append_left (List.getElem?_eq_some_iff.1 hi).1]; exact hi
    exact ⟨_, pb, vb, rfl, rfl, hc _ _ h2, hc _ _ h3, hc _ _ h4, h5⟩
/-- Which rule decides: the last whose network has the address. -/
def lastAct (d : Int) (L : List Rule) (x : List UInt8) : Int := L.foldl (fun a r => if has r.ip r.mask x then r.act else a) d
theorem no_string {w : World} {fb : Nat} {d : Int} {ad : Addr} {s : ByteArray} {x : Option Addr} {n c : Nat} (h : w.heap[fb]? = some (.cells ⟨fsCells d (.slice x n c)⟩ 73 (0, 0))) (hc : w.cell? (ad.add (0 * 3)) = some (.string s)) : ad.block ≠ fb := fun e => by
  obtain ⟨c, t, z, h1, h2, h3⟩ := block_of_cell hc
  rw [add_block, e, h] at h1
  simp only [Option.some.injEq, Obj.cells.injEq] at h1
  obtain ⟨rfl, _⟩ := h1
  have := List.mem_of_getElem? (by simpa using h3 : (fsCells d (.slice x n c))[(ad.add (0 * 3)).off]? = some (.string s))
  simp [fsCells] at this
theorem tail_is (vc : List UInt8) (size : Int) (val : List UInt8) : (headOf vc size val.length).length ≤ (bytesOf vc size val).size ∧ (bytesOf vc size val).extract (headOf vc size val.length).length (bytesOf vc size val).size = ⟨⟨val⟩⟩ := by
  have e1 : (bytesOf vc size val).size = (headOf vc size val.length ++ val).length := rfl
  have hle : (headOf vc size val.length).length ≤ (bytesOf vc size val).size := by rw [e1, List.length_append]; omega
  refine ⟨hle, ?_⟩
  have h : ((bytesOf vc size val).extract (headOf vc size val.length).length (bytesOf vc size val).size).data = ⟨val⟩ := by
    rw [ByteArray.data_extract, e1, List.length_append]
    apply Array.ext'
    simp [bytesOf]
  cases hx : (bytesOf vc size val).extract (headOf vc size val.length).length (bytesOf vc size val).size with
  | mk dd => rw [hx] at h; simp only at h; rw [h]
theorem scells_of (val : List UInt8) : scells ⟨⟨val⟩⟩ = ucells val := by unfold scells; simp [ucells]
theorem bytesOfZ {w : World} {g e : Nat} {z : Nat × Nat} {l : List UInt8} {rest : List Value} (h : w.heap[g]? = some (.cells ⟨ucells l ++ rest⟩ e z)) : BytesIn w (some ⟨g, 0, none⟩) l := by
  refine ⟨fun j u hj => ⟨_, rfl, ?_⟩, fun e => by cases e⟩
  have hjl := (List.getElem?_eq_some_iff.1 hj).1
  rw [show (⟨g, 0, none⟩ : Addr).add j = ⟨g, j, none⟩ by unfold Addr.add; split <;> simp_all]
  rw [cell_of_row w g j _ _ z h]
  have hl : (ucells l).length = l.length := by simp [ucells]
  simp only [List.getElem?_toArray]
  rw [List.getElem?_append_left (by omega)]
  simp [ucells, hj]
theorem blockedNoN (name : ByteArray) (code size : Int) (path : Bool) (vc val : List UInt8) (l : Ma) (va : Option Addr) (ca : Nat) (fb ab cap : Nat) (rest : List Value) (ts : List (Nat × Nat × Nat)) (d : Int) (L : List Rule) (w : World) (hF : FsAt w fb ab cap rest ts d L) (hM : MIn w va (((⟨name, code, size, path, none, vc⟩ : Row), val) :: l)) (h4 : code ≠ 4) (h41 : code ≠ 41) (h42 : code ≠ 42) :
    Calls Tryz.prog 18 #[.pointer (some ⟨fb, 0, none⟩), .slice va (((⟨name, code, size, path, none, vc⟩ : Row), val) :: l).length ca] w (fun e w1 => ∃ v, e = .returned v ∧ Ext [] w w1 ∧ v = .bool (d == 2)) := by
  refine calls_of0 (args := [.pointer (some ⟨fb, 0, none⟩), .slice va (((⟨name, code, size, path, none, vc⟩ : Row), val) :: l).length ca]) Tryz.func18 rfl rfl rfl ?_
  obtain ⟨ad, pb, vb, ha, hsp, hc0, hc1, hc2, hR⟩ := hM.at_ 0 _ rfl
  simp only at hc0 hc1 hc2
  have hcs : ∀ (i : Nat) (u : Value), [Value.string (bytesOf vc size val), .pointer (some ⟨pb, 0, none⟩), .int .i64 (Int.ofNat (headOf vc size val.length).length)][i]? = some u → w.cell? ((ad.add (0 * 3)).add i) = some u := by
    intro i u hi
    rw [add_add]
    rcases i with _ | _ | _ | i
    · rw [← hi]; exact hc0
    · rw [← hi]; exact hc1
    · rw [← hi]; exact hc2
    · cases i <;> cases hi
    exact hsp
  have hpc : w.heap[pb]? = some (.cells ⟨[.string name, .int .i64 code, .slice (some ⟨vb, 0, none⟩) vc.length vc.length, .int .i64 size, .bool path, .nilIface]⟩ 94 (0, 0)) := hR.row
  have hlen : (((⟨name, code, size, path, none, vc⟩ : Row), val) :: l).length = l.length + 1 := rfl
  refine To.runF 30 [] (fun _ _ => by kernel_rfl) fun f1 g1 l1 => ?_
  refine To.testT (decide ((0 : Int) < ↑(((⟨name, code, size, path, none, vc⟩ : Row), val) :: l).length)) (by kernel_rfl) (by simp) ?_
  refine To.runF 5 [] (fun _ _ => by kernel_rfl) fun f2 g2 l2 => ?_
  refine To.indexAt elM va ad (((⟨name, code, size, path, none, vc⟩ : Row), val) :: l).length ca 0 (by kernel_rfl) ha (by simp) ?_
  refine To.loadAgg (t := 90) (by kernel_rfl) 3 (by kernel_rfl) (ad.add (0 * 3)) [Value.string (bytesOf vc size val), .pointer (some ⟨pb, 0, none⟩), .int .i64 (Int.ofNat (headOf vc size val.length).length)] rfl (by kernel_rfl) (fun w2 hw2 j u hj => hw2.ext.cell (hcs j u hj) (by simp)) ?_
  refine To.runF 46 [2, 2, 2, 2, 2, 2, 3, 3] (fun _ _ => by kernel_rfl) fun f3 g3 l3 => ?_
  refine To.loadAgg (t := 94) (by kernel_rfl) 6 (by kernel_rfl) ⟨pb, 0, none⟩ [.string name, .int .i64 code, .slice (some ⟨vb, 0, none⟩) vc.length vc.length, .int .i64 size, .bool path, .nilIface] rfl (by kernel_rfl) (fun w2 hw2 j u hj => hw2.ext.cell ((cellOfRow hpc j).trans hj) (by simp)) ?_
  refine To.runF 11 [4, 4, 4, 4, 4, 4, 4, 4, 4, 4, 4, 4] (fun _ _ => by kernel_rfl) fun f4 g4 l4 => ?_
  refine To.testF (code == 42) (by kernel_rfl) (by simpa using h42) ?_
  refine To.runF 6 [] (fun _ _ => by kernel_rfl) fun f5 g5 l5 => ?_
  refine To.testF (code == 41) (by kernel_rfl) (by simpa using h41) ?_
  refine To.runF 4 [] (fun _ _ => by kernel_rfl) fun f6 g6 l6 => ?_
  refine To.testF (code == 4) (by kernel_rfl) (by simpa using h4) ?_
  refine To.runF 22 [1] (fun _ _ => by kernel_rfl) fun f7 g7 l7 => ?_
  refine To.loadOne uI32 rfl ((⟨fb, 0, none⟩ : Addr).add 0) (.int .i32 d) (by kernel_rfl) (fun w2 hw2 => hw2.ext.cell (cellOfRow hF.blk 0) (by simp)) ?_
  refine To.runF 3 [] (fun _ _ => by kernel_rfl) fun f8 g8 l8 => ?_
  exact To.ret [] (.bool (d == 2)) (by kernel_rfl) (by kernel_rfl) fun w9 hw9 => ⟨_, rfl, hw9.ext, rfl⟩

theorem blockedNoI (name : ByteArray) (code size : Int) (path : Bool) (tt : TypeId) (tx : Value) (vc val : List UInt8) (l : Ma) (va : Option Addr) (ca : Nat) (fb ab cap : Nat) (rest : List Value) (ts : List (Nat × Nat × Nat)) (d : Int) (L : List Rule) (w : World) (hF : FsAt w fb ab cap rest ts d L) (hM : MIn w va (((⟨name, code, size, path, some (tt, tx), vc⟩ : Row), val) :: l)) (h4 : code ≠ 4) (h41 : code ≠ 41) (h42 : code ≠ 42) :
    Calls Tryz.prog 18 #[.pointer (some ⟨fb, 0, none⟩), .slice va (((⟨name, code, size, path, some (tt, tx), vc⟩ : Row), val) :: l).length ca] w (fun e w1 => ∃ v, e = .returned v ∧ Ext [] w w1 ∧ v = .bool (d == 2)) := by
  refine calls_of0 (args := [.pointer (some ⟨fb, 0, none⟩), .slice va (((⟨name, code, size, path, some (tt, tx), vc⟩ : Row), val) :: l).length ca]) Tryz.func18 rfl rfl rfl ?_
  obtain ⟨ad, pb, vb, ha, hsp, hc0, hc1, hc2, hR⟩ := hM.at_ 0 _ rfl
  simp only at hc0 hc1 hc2
  have hcs : ∀ (i : Nat) (u : Value), [Value.string (bytesOf vc size val), .pointer (some ⟨pb, 0, none⟩), .int .i64 (Int.ofNat (headOf vc size val.length).length)][i]? = some u → w.cell? ((ad.add (0 * 3)).add i) = some u := by
    intro i u hi
    rw [add_add]
    rcases i with _ | _ | _ | i
    · rw [← hi]; exact hc0
    · rw [← hi]; exact hc1
    · rw [← hi]; exact hc2
    · cases i <;> cases hi
    exact hsp
  have hpc : w.heap[pb]? = some (.cells ⟨[.string name, .int .i64 code, .slice (some ⟨vb, 0, none⟩) vc.length vc.length, .int .i64 size, .bool path, .iface tt tx]⟩ 94 (0, 0)) := hR.row
  have hlen : (((⟨name, code, size, path, some (tt, tx), vc⟩ : Row), val) :: l).length = l.length + 1 := rfl
  refine To.runF 30 [] (fun _ _ => by kernel_rfl) fun f1 g1 l1 => ?_
  refine To.testT (decide ((0 : Int) < ↑(((⟨name, code, size, path, some (tt, tx), vc⟩ : Row), val) :: l).length)) (by kernel_rfl) (by simp) ?_
  refine To.runF 5 [] (fun _ _ => by kernel_rfl) fun f2 g2 l2 => ?_
  refine To.indexAt elM va ad (((⟨name, code, size, path, some (tt, tx), vc⟩ : Row), val) :: l).length ca 0 (by kernel_rfl) ha (by simp) ?_
  refine To.loadAgg (t := 90) (by kernel_rfl) 3 (by kernel_rfl) (ad.add (0 * 3)) [Value.string (bytesOf vc size val), .pointer (some ⟨pb, 0, none⟩), .int .i64 (Int.ofNat (headOf vc size val.length).length)] rfl (by kernel_rfl) (fun w2 hw2 j u hj => hw2.ext.cell (hcs j u hj) (by simp)) ?_
  refine To.runF 46 [2, 2, 2, 2, 2, 2, 3, 3] (fun _ _ => by kernel_rfl) fun f3 g3 l3 => ?_
  refine To.loadAgg (t := 94) (by kernel_rfl) 6 (by kernel_rfl) ⟨pb, 0, none⟩ [.string name, .int .i64 code, .slice (some ⟨vb, 0, none⟩) vc.length vc.length, .int .i64 size, .bool path, .iface tt tx] rfl (by kernel_rfl) (fun w2 hw2 j u hj => hw2.ext.cell ((cellOfRow hpc j).trans hj) (by simp)) ?_
  refine To.runF 11 [4, 4, 4, 4, 4, 4, 4, 4, 4, 4, 4, 4] (fun _ _ => by kernel_rfl) fun f4 g4 l4 => ?_
  refine To.testF (code == 42) (by kernel_rfl) (by simpa using h42) ?_
  refine To.runF 6 [] (fun _ _ => by kernel_rfl) fun f5 g5 l5 => ?_
  refine To.testF (code == 41) (by kernel_rfl) (by simpa using h41) ?_
  refine To.runF 4 [] (fun _ _ => by kernel_rfl) fun f6 g6 l6 => ?_
  refine To.testF (code == 4) (by kernel_rfl) (by simpa using h4) ?_
  refine To.runF 22 [1] (fun _ _ => by kernel_rfl) fun f7 g7 l7 => ?_
  refine To.loadOne uI32 rfl ((⟨fb, 0, none⟩ : Addr).add 0) (.int .i32 d) (by kernel_rfl) (fun w2 hw2 => hw2.ext.cell (cellOfRow hF.blk 0) (by simp)) ?_
  refine To.runF 3 [] (fun _ _ => by kernel_rfl) fun f8 g8 l8 => ?_
  exact To.ret [] (.bool (d == 2)) (by kernel_rfl) (by kernel_rfl) fun w9 hw9 => ⟨_, rfl, hw9.ext, rfl⟩

theorem blockedIpI41 (name : ByteArray) (code : Int) (path : Bool) (tt : TypeId) (tx : Value) (vc val : List UInt8) (l : Ma) (va : Option Addr) (ca : Nat) (fb ab cap : Nat) (rest : List Value) (ts : List (Nat × Nat × Nat)) (d : Int) (L : List Rule) (w : World) (hF : FsAt w fb ab cap rest ts d L) (hL : L.length ≤ 1000) (hM : MIn w va (((⟨name, code, 128, path, some (tt, tx), vc⟩ : Row), val) :: l)) (hcode : code = 41) (hl : val.length = 16) (hvc : vc.length ≤ 10) (hxm : mapped val = false) :
    Calls Tryz.prog 18 #[.pointer (some ⟨fb, 0, none⟩), .slice va (((⟨name, code, 128, path, some (tt, tx), vc⟩ : Row), val) :: l).length ca] w (fun e w1 => ∃ v, e = .returned v ∧ Ext [fb] w w1 ∧ FsAt w1 fb ab cap rest ts d L ∧ v = .bool (lastAct d L val == 2)) := by
  refine calls_of1 (args := [.pointer (some ⟨fb, 0, none⟩), .slice va (((⟨name, code, 128, path, some (tt, tx), vc⟩ : Row), val) :: l).length ca]) fb _ hF.blk Tryz.func18 rfl rfl rfl ?_
  obtain ⟨ad, pb, vb, ha, hsp, hc0, hc1, hc2, hR⟩ := hM.at_ 0 _ rfl
  simp only at hc0 hc1 hc2
  have hcs : ∀ (i : Nat) (u : Value), [Value.string (bytesOf vc 128 val), .pointer (some ⟨pb, 0, none⟩), .int .i64 (Int.ofNat (headOf vc 128 val.length).length)][i]? = some u → w.cell? ((ad.add (0 * 3)).add i) = some u := by
    intro i u hi
    rw [add_add]
    rcases i with _ | _ | _ | i
    · rw [← hi]; exact hc0
    · rw [← hi]; exact hc1
    · rw [← hi]; exact hc2
    · cases i <;> cases hi
    exact hsp
  have hpc : w.heap[pb]? = some (.cells ⟨[.string name, .int .i64 code, .slice (some ⟨vb, 0, none⟩) vc.length vc.length, .int .i64 128, .bool path, .iface tt tx]⟩ 94 (0, 0)) := hR.row
  have hlen : (((⟨name, code, 128, path, some (tt, tx), vc⟩ : Row), val) :: l).length = l.length + 1 := rfl
  have hnf : ad.block ≠ fb := no_string hF.blk hc0
  have hpf : pb ≠ fb := fun e => by rw [e, hF.blk] at hpc; simp at hpc
  refine To.runF 30 [] (fun _ _ => by kernel_rfl) fun f1 g1 l1 => ?_
  refine To.testT (decide ((0 : Int) < ↑(((⟨name, code, 128, path, some (tt, tx), vc⟩ : Row), val) :: l).length)) (by kernel_rfl) (by simp) ?_
  refine To.runF 5 [] (fun _ _ => by kernel_rfl) fun f2 g2 l2 => ?_
  refine To.indexAt elM va ad (((⟨name, code, 128, path, some (tt, tx), vc⟩ : Row), val) :: l).length ca 0 (by kernel_rfl) ha (by simp) ?_
  refine To.loadAgg (t := 90) (by kernel_rfl) 3 (by kernel_rfl) (ad.add (0 * 3)) [Value.string (bytesOf vc 128 val), .pointer (some ⟨pb, 0, none⟩), .int .i64 (Int.ofNat (headOf vc 128 val.length).length)] rfl (by kernel_rfl) (fun w2 hw2 j u hj => hw2.ext.cell (hcs j u hj) (by rw [add_block, add_block]; simpa using hnf)) ?_
  refine To.runF 46 [3, 3, 3, 3, 3, 3, 4, 4] (fun _ _ => by kernel_rfl) fun f3 g3 l3 => ?_
  refine To.loadAgg (t := 94) (by kernel_rfl) 6 (by kernel_rfl) ⟨pb, 0, none⟩ [.string name, .int .i64 code, .slice (some ⟨vb, 0, none⟩) vc.length vc.length, .int .i64 128, .bool path, .iface tt tx] rfl (by kernel_rfl) (fun w2 hw2 j u hj => hw2.ext.cell ((cellOfRow hpc j).trans hj) (by rw [add_block]; simpa using hpf)) ?_
  refine To.runF 11 [5, 5, 5, 5, 5, 5, 5, 5, 5, 5, 5, 5] (fun _ _ => by kernel_rfl) fun f4 g4 l4 => ?_
  refine To.testF (code == 42) (by kernel_rfl) (by rw [hcode]; decide) ?_
  refine To.runF 6 [] (fun _ _ => by kernel_rfl) fun f5 g5 l5 => ?_
  refine To.testT (code == 41) (by kernel_rfl) (by rw [hcode]; decide) ?_
  refine To.runF 1 [] (fun _ _ => by kernel_rfl) fun f6 g6 l6 => ?_
  refine To.testT (code == 41) (by kernel_rfl) (by rw [hcode]; decide) ?_
  refine To.runF 29 [2, 1, 4, 0, 0, 1, 2, 3, 0, 4] (fun _ _ => by kernel_rfl) fun f7 g7 l7 => ?_
  refine To.sliceStrFrom (t := 9) uString (bytesOf vc 128 val) (headOf vc 128 val.length).length (tail_is vc 128 val).1 (by kernel_rfl) ?_
  refine To.slotE 13 (.string ((bytesOf vc 128 val).extract (headOf vc 128 val.length).length (bytesOf vc 128 val).size)) (.string ⟨⟨val⟩⟩) (by kernel_rfl) (by rw [(tail_is vc 128 val).2]) ?_
  refine To.bytesOf (src := 9) (dst := 30) (e := 5) ⟨⟨val⟩⟩ uString uBytes uU8 (by kernel_rfl) ?_
  intro gx cx rx hcx hrx hgx
  have hgx' : w.heap.size ≤ gx := hgx
  have hcell : ∀ (k : Nat) (t : Nat × Nat × Nat), ts[k]? = some t → ∀ w5, Ext [fb] w w5 → w5.cell? ((⟨ab, 0, none⟩ : Addr).add (k * 1)) = some (.pointer (some ⟨t.1, 0, none⟩)) := fun k t htk w5 hx => by
    refine hx.cell ?_ (by rw [add_block]; simpa using fun e => hF.ls.ne (Eq.symm e))
    rw [Nat.mul_one, cellOfRow hF.ls.row k]
    have : (ptrs ts).length = ts.length := by simp [ptrs]
    rw [List.getElem?_append_left (by rw [this]; exact (List.getElem?_eq_some_iff.1 htk).1)]
    simp [ptrs, htk]
  refine To.runF 28 [1, 2] (fun _ _ => by kernel_rfl) fun f8 g8 l8 => ?_
  refine To.callT 35 #[.pointer (some ⟨fb, 1, none⟩)] 0 fb (.cells ⟨fsCells d (.slice (some ⟨ab, 0, none⟩) L.length cap)⟩ 73 (0, 0)) (.cells ⟨lkCells d 1 0 (.slice (some ⟨ab, 0, none⟩) L.length cap)⟩ 73 (0, 0)) (Φ := fun _ _ _ => True)
    (by kernel_rfl) (fun _ => by kernel_rfl) (by kernel_rfl) (by kernel_rfl) (fun w2 hw2 => (rlock fb d _ w2 (hw2.blk (j := 0) (q := true) (by kernel_rfl))).mono fun e w1 ⟨x, h1, h2, h3⟩ => ⟨x, h1, h2, h3, trivial⟩) (fun w2 v2 w3 hw2 hx2 _ => ?_)
  refine To.runF 27 [0, 0] (fun _ _ => by kernel_rfl) fun f9 g9 l9 => ?_
  refine To.slotE 7 (.int .i32 d) (.int .i32 (lastAct d (L.take 0) val)) (by kernel_rfl) (by simp [lastAct]) ?_
  refine To.loop (fun i : Nat => L.length - i) (fun i => ([(0, .pointer (some ⟨fb, 0, none⟩)), (5, .pointer (some ⟨f1 0, 0, none⟩)), (7, .int .i32 (lastAct d (L.take i) val)), (34, .slice (some ⟨ab, 0, none⟩) L.length cap), (35, .int .i64 (Int.ofNat L.length)), (36, .int .i64 (Int.ofNat i))],
      [some ⟨fb, .cells ⟨lkCells d 1 0 (.slice (some ⟨ab, 0, none⟩) L.length cap)⟩ 73 (0, 0), true⟩, some ⟨f1 0, .cells ⟨[.slice (some ⟨gx, 0, none⟩) val.length cx]⟩ 43 (0, 0), true⟩, some ⟨gx, .cells ⟨ucells val ++ rx⟩ 5 (cx, cx + 1), true⟩]))
    (fun i w1 => i ≤ L.length) 0 [0, 1, 6] (by kernel_rfl) (by kernel_rfl) (by kernel_rfl) rfl (fun _ _ => Nat.zero_le _) ?_
  intro k w4 hk hx4 back
  refine To.runF 5 [] (fun _ _ => by kernel_rfl) fun f10 g10 l10 => ?_
  by_cases hlt : k < L.length
  · obtain ⟨r, hr⟩ : ∃ r, L[k]? = some r := ⟨L[k], by simp [hlt]⟩
    obtain ⟨t, htk⟩ : ∃ t, ts[k]? = some t := ⟨ts[k]'(by rw [hF.ls.rules.len]; exact hlt), by simp [hF.ls.rules.len, hlt]⟩
    have hRk := hF.ls.rules.at_ k t r htk hr
    obtain ⟨⟨a1, _⟩, ⟨a2, _⟩, ⟨a3, _⟩⟩ := hF.ls.apart t (List.mem_of_getElem? htk)
    obtain ⟨l1, l2, l3⟩ := hRk.lt
    obtain ⟨c1, c2, hblk, hc1, hc2⟩ := hRk.ex
    have hst : lastAct d (L.take (k + 1)) val = if has r.ip r.mask val then r.act else lastAct d (L.take k) val := by
      have : L.take (k + 1) = L.take k ++ [r] := by rw [List.take_add_one, hr]; rfl
      rw [this]; simp [lastAct, List.foldl_append]
    refine To.testT (decide (Int.ofNat k < Int.ofNat L.length)) (by kernel_rfl) (decide_eq_true (Int.ofNat_lt.2 hlt)) ?_
    refine To.runF 5 [] (fun _ _ => by kernel_rfl) fun f11 g11 l11 => ?_
    refine To.indexAt elP (some ⟨ab, 0, none⟩) ⟨ab, 0, none⟩ L.length cap k (by kernel_rfl) rfl hlt ?_
    refine To.loadOne uP rfl ((⟨ab, 0, none⟩ : Addr).add (k * 1)) (.pointer (some ⟨t.1, 0, none⟩)) (by kernel_rfl) (fun w5 hw5 => hcell k t htk w5 hw5.ext) ?_
    refine To.runF 8 [1, 1, 0, 0, 1, 2, 1] (fun _ _ => by kernel_rfl) fun f12 g12 l12 => ?_
    refine To.callN 37 #[.pointer (some ⟨t.1, 0, none⟩), .slice (some ⟨gx, 0, none⟩) val.length cx] (by kernel_rfl) (fun _ => by kernel_rfl) (fun w5 hw5 => by
      obtain ⟨ci, cm, hN⟩ := (hRk.kept (Q := fun b => b ≠ fb) (hw5.ext.keptS (by simp)) a1 a2 a3).netAt
      exact netContains r.ip r.mask val ⟨t.1, 0, none⟩ ⟨t.2.1, 0, none⟩ ⟨t.2.2, 0, none⟩ ⟨gx, 0, none⟩ ci cm cx w5 hN hRk.net (bytesOfZ (hw5.blk (j := 2) (b := gx) (o := .cells ⟨ucells val ++ rx⟩ 5 (cx, cx + 1)) (q := true) (by kernel_rfl))) (by omega) hcx hxm (fun e => by have e' : t.2.1 = gx := e; omega) (fun e => by have e' : t.2.2 = gx := e; omega)) (fun w5 v5 w6 hw5 hx5 hv5 hnew5 hwi5 => ?_)
    subst hv5
    refine To.runF 1 [] (fun _ _ => by kernel_rfl) fun f13 g13 l13 => ?_
    by_cases hh : has r.ip r.mask val = true
    · refine To.testT (has r.ip r.mask val) (by kernel_rfl) hh ?_
      refine To.runF 4 [] (fun _ _ => by kernel_rfl) fun f14 g14 l14 => ?_
      refine To.loadOne uI32 rfl ((⟨t.1, 0, none⟩ : Addr).add 2) (.int .i32 r.act) (by kernel_rfl) (fun w5 hw5 => hw5.ext.cell (cellOfRow hblk 2) (by rw [add_block]; simpa using a1)) ?_
      refine To.runF 7 [] (fun _ _ => by kernel_rfl) fun f15 g15 l15 => ?_
      rw [hh] at hst
      refine To.slotE 36 (.int .i64 (IntKind.i64.wrap (Int.ofNat k + 1))) (.int .i64 (Int.ofNat (k + 1))) (by kernel_rfl) (by rw [wrap_succ k (by omega)]) ?_
      refine To.slotE 7 (.int .i32 r.act) (.int .i32 (lastAct d (L.take (k + 1)) val)) (by kernel_rfl) (by rw [hst]; rfl) ?_
      exact back _ _ (k + 1) [0, 1, 2] (by omega) ⟨by kernel_rfl, by kernel_rfl, by kernel_rfl, by kernel_rfl, by kernel_rfl, rfl⟩ (fun _ _ => hlt)
    · have hh : has r.ip r.mask val = false := by simpa using hh
      refine To.testF (has r.ip r.mask val) (by kernel_rfl) hh ?_
      refine To.runF 6 [] (fun _ _ => by kernel_rfl) fun f14 g14 l14 => ?_
      rw [hh] at hst
      refine To.slotE 36 (.int .i64 (IntKind.i64.wrap (Int.ofNat k + 1))) (.int .i64 (Int.ofNat (k + 1))) (by kernel_rfl) (by rw [wrap_succ k (by omega)]) ?_
      refine To.slotE 7 (.int .i32 (lastAct d (L.take k) val)) (.int .i32 (lastAct d (L.take (k + 1)) val)) (by kernel_rfl) (by rw [hst]; rfl) ?_
      exact back _ _ (k + 1) [0, 1, 2] (by omega) ⟨by kernel_rfl, by kernel_rfl, by kernel_rfl, by kernel_rfl, by kernel_rfl, rfl⟩ (fun _ _ => hlt)
  · have hk1 : k = L.length := by omega
    subst hk1
    refine To.testF (decide (Int.ofNat L.length < Int.ofNat L.length)) (by kernel_rfl) (by simp) ?_
    refine To.runF 7 [] (fun _ _ => by kernel_rfl) fun f11 g11 l11 => ?_
    refine To.retDG ⟨.fn (.func 36) #[], #[.pointer (some ⟨fb, 1, none⟩)]⟩ (.func 36) #[] 36 #[.pointer (some ⟨fb, 1, none⟩)] (.bool (lastAct d (L.take L.length) val == 2)) (by kernel_rfl) rfl (fun _ => by kernel_rfl) (by kernel_rfl) (by kernel_rfl) (by kernel_rfl) (fun w9 hw9 => ?_)
    have hb9 := hw9.blk (j := 0) (b := fb) (o := (.cells ⟨lkCells d 1 0 (.slice (some ⟨ab, 0, none⟩) L.length cap)⟩ 73 (0, 0))) (q := true) (by kernel_rfl)
    have hx9 := hw9.ext
    clear hw9
    refine (runlock fb d _ w9 hb9).mono fun e u w10 ⟨h1, h2, h3, h4⟩ => ⟨h1, h2, _, rfl, hx9.trans h3, ⟨h4, hF.ls.turned (hx9.trans h3) h4 rfl⟩, ?_⟩
    rw [List.take_length]
theorem blockedIpI4 (name : ByteArray) (code : Int) (path : Bool) (tt : TypeId) (tx : Value) (vc val : List UInt8) (l : Ma) (va : Option Addr) (ca : Nat) (fb ab cap : Nat) (rest : List Value) (ts : List (Nat × Nat × Nat)) (d : Int) (L : List Rule) (w : World) (hF : FsAt w fb ab cap rest ts d L) (hL : L.length ≤ 1000) (hM : MIn w va (((⟨name, code, 32, path, some (tt, tx), vc⟩ : Row), val) :: l)) (hcode : code = 4) (hl : val.length = 4) (hvc : vc.length ≤ 10) (hxm : mapped val = false) :
    Calls Tryz.prog 18 #[.pointer (some ⟨fb, 0, none⟩), .slice va (((⟨name, code, 32, path, some (tt, tx), vc⟩ : Row), val) :: l).length ca] w (fun e w1 => ∃ v, e = .returned v ∧ Ext [fb] w w1 ∧ FsAt w1 fb ab cap rest ts d L ∧ v = .bool (lastAct d L val == 2)) := by
  refine calls_of1 (args := [.pointer (some ⟨fb, 0, none⟩), .slice va (((⟨name, code, 32, path, some (tt, tx), vc⟩ : Row), val) :: l).length ca]) fb _ hF.blk Tryz.func18 rfl rfl rfl ?_
  obtain ⟨ad, pb, vb, ha, hsp, hc0, hc1, hc2, hR⟩ := hM.at_ 0 _ rfl
  simp only at hc0 hc1 hc2
  have hcs : ∀ (i : Nat) (u : Value), [Value.string (bytesOf vc 32 val), .pointer (some ⟨pb, 0, none⟩), .int .i64 (Int.ofNat (headOf vc 32 val.length).length)][i]? = some u → w.cell? ((ad.add (0 * 3)).add i) = some u := by
    intro i u hi
    rw [add_add]
    rcases i with _ | _ | _ | i
    · rw [← hi]; exact hc0
    · rw [← hi]; exact hc1
    · rw [← hi]; exact hc2
    · cases i <;> cases hi
    exact hsp
  have hpc : w.heap[pb]? = some (.cells ⟨[.string name, .int .i64 code, .slice (some ⟨vb, 0, none⟩) vc.length vc.length, .int .i64 32, .bool path, .iface tt tx]⟩ 94 (0, 0)) := hR.row
  have hlen : (((⟨name, code, 32, path, some (tt, tx), vc⟩ : Row), val) :: l).length = l.length + 1 := rfl
  have hnf : ad.block ≠ fb := no_string hF.blk hc0
  have hpf : pb ≠ fb := fun e => by rw [e, hF.blk] at hpc; simp at hpc
  refine To.runF 30 [] (fun _ _ => by kernel_rfl) fun f1 g1 l1 => ?_
  refine To.testT (decide ((0 : Int) < ↑(((⟨name, code, 32, path, some (tt, tx), vc⟩ : Row), val) :: l).length)) (by kernel_rfl) (by simp) ?_
  refine To.runF 5 [] (fun _ _ => by kernel_rfl) fun f2 g2 l2 => ?_
  refine To.indexAt elM va ad (((⟨name, code, 32, path, some (tt, tx), vc⟩ : Row), val) :: l).length ca 0 (by kernel_rfl) ha (by simp) ?_
  refine To.loadAgg (t := 90) (by kernel_rfl) 3 (by kernel_rfl) (ad.add (0 * 3)) [Value.string (bytesOf vc 32 val), .pointer (some ⟨pb, 0, none⟩), .int .i64 (Int.ofNat (headOf vc 32 val.length).length)] rfl (by kernel_rfl) (fun w2 hw2 j u hj => hw2.ext.cell (hcs j u hj) (by rw [add_block, add_block]; simpa using hnf)) ?_
  refine To.runF 46 [3, 3, 3, 3, 3, 3, 4, 4] (fun _ _ => by kernel_rfl) fun f3 g3 l3 => ?_
  refine To.loadAgg (t := 94) (by kernel_rfl) 6 (by kernel_rfl) ⟨pb, 0, none⟩ [.string name, .int .i64 code, .slice (some ⟨vb, 0, none⟩) vc.length vc.length, .int .i64 32, .bool path, .iface tt tx] rfl (by kernel_rfl) (fun w2 hw2 j u hj => hw2.ext.cell ((cellOfRow hpc j).trans hj) (by rw [add_block]; simpa using hpf)) ?_
  refine To.runF 11 [5, 5, 5, 5, 5, 5, 5, 5, 5, 5, 5, 5] (fun _ _ => by kernel_rfl) fun f4 g4 l4 => ?_
  refine To.testF (code == 42) (by kernel_rfl) (by rw [hcode]; decide) ?_
  refine To.runF 6 [] (fun _ _ => by kernel_rfl) fun f5 g5 l5 => ?_
  refine To.testF (code == 41) (by kernel_rfl) (by rw [hcode]; decide) ?_
  refine To.runF 4 [] (fun _ _ => by kernel_rfl) fun f6 g6 l6 => ?_
  refine To.testT (code == 4) (by kernel_rfl) (by rw [hcode]; decide) ?_
  refine To.runF 29 [2, 1, 4, 0, 0, 1, 2, 3, 0, 4] (fun _ _ => by kernel_rfl) fun f7 g7 l7 => ?_
  refine To.sliceStrFrom (t := 9) uString (bytesOf vc 32 val) (headOf vc 32 val.length).length (tail_is vc 32 val).1 (by kernel_rfl) ?_
  refine To.slotE 13 (.string ((bytesOf vc 32 val).extract (headOf vc 32 val.length).length (bytesOf vc 32 val).size)) (.string ⟨⟨val⟩⟩) (by kernel_rfl) (by rw [(tail_is vc 32 val).2]) ?_
  refine To.bytesOf (src := 9) (dst := 30) (e := 5) ⟨⟨val⟩⟩ uString uBytes uU8 (by kernel_rfl) ?_
  intro gx cx rx hcx hrx hgx
  have hgx' : w.heap.size ≤ gx := hgx
  have hcell : ∀ (k : Nat) (t : Nat × Nat × Nat), ts[k]? = some t → ∀ w5, Ext [fb] w w5 → w5.cell? ((⟨ab, 0, none⟩ : Addr).add (k * 1)) = some (.pointer (some ⟨t.1, 0, none⟩)) := fun k t htk w5 hx => by
    refine hx.cell ?_ (by rw [add_block]; simpa using fun e => hF.ls.ne (Eq.symm e))
    rw [Nat.mul_one, cellOfRow hF.ls.row k]
    have : (ptrs ts).length = ts.length := by simp [ptrs]
    rw [List.getElem?_append_left (by rw [this]; exact (List.getElem?_eq_some_iff.1 htk).1)]
    simp [ptrs, htk]
  refine To.runF 28 [1, 2] (fun _ _ => by kernel_rfl) fun f8 g8 l8 => ?_
  refine To.callT 35 #[.pointer (some ⟨fb, 1, none⟩)] 0 fb (.cells ⟨fsCells d (.slice (some ⟨ab, 0, none⟩) L.length cap)⟩ 73 (0, 0)) (.cells ⟨lkCells d 1 0 (.slice (some ⟨ab, 0, none⟩) L.length cap)⟩ 73 (0, 0)) (Φ := fun _ _ _ => True)
    (by kernel_rfl) (fun _ => by kernel_rfl) (by kernel_rfl) (by kernel_rfl) (fun w2 hw2 => (rlock fb d _ w2 (hw2.blk (j := 0) (q := true) (by kernel_rfl))).mono fun e w1 ⟨x, h1, h2, h3⟩ => ⟨x, h1, h2, h3, trivial⟩) (fun w2 v2 w3 hw2 hx2 _ => ?_)
  refine To.runF 27 [0, 0] (fun _ _ => by kernel_rfl) fun f9 g9 l9 => ?_
  refine To.slotE 7 (.int .i32 d) (.int .i32 (lastAct d (L.take 0) val)) (by kernel_rfl) (by simp [lastAct]) ?_
  refine To.loop (fun i : Nat => L.length - i) (fun i => ([(0, .pointer (some ⟨fb, 0, none⟩)), (5, .pointer (some ⟨f1 0, 0, none⟩)), (7, .int .i32 (lastAct d (L.take i) val)), (34, .slice (some ⟨ab, 0, none⟩) L.length cap), (35, .int .i64 (Int.ofNat L.length)), (36, .int .i64 (Int.ofNat i))],
      [some ⟨fb, .cells ⟨lkCells d 1 0 (.slice (some ⟨ab, 0, none⟩) L.length cap)⟩ 73 (0, 0), true⟩, some ⟨f1 0, .cells ⟨[.slice (some ⟨gx, 0, none⟩) val.length cx]⟩ 43 (0, 0), true⟩, some ⟨gx, .cells ⟨ucells val ++ rx⟩ 5 (cx, cx + 1), true⟩]))
    (fun i w1 => i ≤ L.length) 0 [0, 1, 6] (by kernel_rfl) (by kernel_rfl) (by kernel_rfl) rfl (fun _ _ => Nat.zero_le _) ?_
  intro k w4 hk hx4 back
  refine To.runF 5 [] (fun _ _ => by kernel_rfl) fun f10 g10 l10 => ?_
  by_cases hlt : k < L.length
  · obtain ⟨r, hr⟩ : ∃ r, L[k]? = some r := ⟨L[k], by simp [hlt]⟩
    obtain ⟨t, htk⟩ : ∃ t, ts[k]? = some t := ⟨ts[k]'(by rw [hF.ls.rules.len]; exact hlt), by simp [hF.ls.rules.len, hlt]⟩
    have hRk := hF.ls.rules.at_ k t r htk hr
    obtain ⟨⟨a1, _⟩, ⟨a2, _⟩, ⟨a3, _⟩⟩ := hF.ls.apart t (List.mem_of_getElem? htk)
    obtain ⟨l1, l2, l3⟩ := hRk.lt
    obtain ⟨c1, c2, hblk, hc1, hc2⟩ := hRk.ex
    have hst : lastAct d (L.take (k + 1)) val = if has r.ip r.mask val then r.act else lastAct d (L.take k) val := by
      have : L.take (k + 1) = L.take k ++ [r] := by rw [List.take_add_one, hr]; rfl
      rw [this]; simp [lastAct, List.foldl_append]
    refine To.testT (decide (Int.ofNat k < Int.ofNat L.length)) (by kernel_rfl) (decide_eq_true (Int.ofNat_lt.2 hlt)) ?_
    refine To.runF 5 [] (fun _ _ => by kernel_rfl) fun f11 g11 l11 => ?_
    refine To.indexAt elP (some ⟨ab, 0, none⟩) ⟨ab, 0, none⟩ L.length cap k (by kernel_rfl) rfl hlt ?_
    refine To.loadOne uP rfl ((⟨ab, 0, none⟩ : Addr).add (k * 1)) (.pointer (some ⟨t.1, 0, none⟩)) (by kernel_rfl) (fun w5 hw5 => hcell k t htk w5 hw5.ext) ?_
    refine To.runF 8 [1, 1, 0, 0, 1, 2, 1] (fun _ _ => by kernel_rfl) fun f12 g12 l12 => ?_
    refine To.callN 37 #[.pointer (some ⟨t.1, 0, none⟩), .slice (some ⟨gx, 0, none⟩) val.length cx] (by kernel_rfl) (fun _ => by kernel_rfl) (fun w5 hw5 => by
      obtain ⟨ci, cm, hN⟩ := (hRk.kept (Q := fun b => b ≠ fb) (hw5.ext.keptS (by simp)) a1 a2 a3).netAt
      exact netContains r.ip r.mask val ⟨t.1, 0, none⟩ ⟨t.2.1, 0, none⟩ ⟨t.2.2, 0, none⟩ ⟨gx, 0, none⟩ ci cm cx w5 hN hRk.net (bytesOfZ (hw5.blk (j := 2) (b := gx) (o := .cells ⟨ucells val ++ rx⟩ 5 (cx, cx + 1)) (q := true) (by kernel_rfl))) (by omega) hcx hxm (fun e => by have e' : t.2.1 = gx := e; omega) (fun e => by have e' : t.2.2 = gx := e; omega)) (fun w5 v5 w6 hw5 hx5 hv5 hnew5 hwi5 => ?_)
    subst hv5
    refine To.runF 1 [] (fun _ _ => by kernel_rfl) fun f13 g13 l13 => ?_
    by_cases hh : has r.ip r.mask val = true
    · refine To.testT (has r.ip r.mask val) (by kernel_rfl) hh ?_
      refine To.runF 4 [] (fun _ _ => by kernel_rfl) fun f14 g14 l14 => ?_
      refine To.loadOne uI32 rfl ((⟨t.1, 0, none⟩ : Addr).add 2) (.int .i32 r.act) (by kernel_rfl) (fun w5 hw5 => hw5.ext.cell (cellOfRow hblk 2) (by rw [add_block]; simpa using a1)) ?_
      refine To.runF 7 [] (fun _ _ => by kernel_rfl) fun f15 g15 l15 => ?_
      rw [hh] at hst
      refine To.slotE 36 (.int .i64 (IntKind.i64.wrap (Int.ofNat k + 1))) (.int .i64 (Int.ofNat (k + 1))) (by kernel_rfl) (by rw [wrap_succ k (by omega)]) ?_
      refine To.slotE 7 (.int .i32 r.act) (.int .i32 (lastAct d (L.take (k + 1)) val)) (by kernel_rfl) (by rw [hst]; rfl) ?_
      exact back _ _ (k + 1) [0, 1, 2] (by omega) ⟨by kernel_rfl, by kernel_rfl, by kernel_rfl, by kernel_rfl, by kernel_rfl, rfl⟩ (fun _ _ => hlt)
    · have hh : has r.ip r.mask val = false := by simpa using hh
      refine To.testF (has r.ip r.mask val) (by kernel_rfl) hh ?_
      refine To.runF 6 [] (fun _ _ => by kernel_rfl) fun f14 g14 l14 => ?_
      rw [hh] at hst
      refine To.slotE 36 (.int .i64 (IntKind.i64.wrap (Int.ofNat k + 1))) (.int .i64 (Int.ofNat (k + 1))) (by kernel_rfl) (by rw [wrap_succ k (by omega)]) ?_
      refine To.slotE 7 (.int .i32 (lastAct d (L.take k) val)) (.int .i32 (lastAct d (L.take (k + 1)) val)) (by kernel_rfl) (by rw [hst]; rfl) ?_
      exact back _ _ (k + 1) [0, 1, 2] (by omega) ⟨by kernel_rfl, by kernel_rfl, by kernel_rfl, by kernel_rfl, by kernel_rfl, rfl⟩ (fun _ _ => hlt)
  · have hk1 : k = L.length := by omega
    subst hk1
    refine To.testF (decide (Int.ofNat L.length < Int.ofNat L.length)) (by kernel_rfl) (by simp) ?_
    refine To.runF 7 [] (fun _ _ => by kernel_rfl) fun f11 g11 l11 => ?_
    refine To.retDG ⟨.fn (.func 36) #[], #[.pointer (some ⟨fb, 1, none⟩)]⟩ (.func 36) #[] 36 #[.pointer (some ⟨fb, 1, none⟩)] (.bool (lastAct d (L.take L.length) val == 2)) (by kernel_rfl) rfl (fun _ => by kernel_rfl) (by kernel_rfl) (by kernel_rfl) (by kernel_rfl) (fun w9 hw9 => ?_)
    have hb9 := hw9.blk (j := 0) (b := fb) (o := (.cells ⟨lkCells d 1 0 (.slice (some ⟨ab, 0, none⟩) L.length cap)⟩ 73 (0, 0))) (q := true) (by kernel_rfl)
    have hx9 := hw9.ext
    clear hw9
    refine (runlock fb d _ w9 hb9).mono fun e u w10 ⟨h1, h2, h3, h4⟩ => ⟨h1, h2, _, rfl, hx9.trans h3, ⟨h4, hF.ls.turned (hx9.trans h3) h4 rfl⟩, ?_⟩
    rw [List.take_length]
end Go.Proofs.YtkhonkejebdcgaaGreatDoor
