/- What each call of a filter set does: the action of a network, a filter added, one removed, the networks of an action. Conditions: as each says. -/
import Derived.Test.YtkhonkejebdcgaaGreatDoorJLocks
import Derived.Test.YtkhonkejebdcgaaGreatDoorSxC
/- The action of a network's rule. Conditions: the list lies in memory. -/
namespace Go.Proofs.YtkhonkejebdcgaaGreatDoor
open Go Go.SX Go.IpText
set_option maxHeartbeats 8000000
set_option maxRecDepth 100000
def actionV (L : List Rule) : Option Nat → Value
  | none => .tuple #[.int .i32 0, .bool false]
  | some j => .tuple #[.int .i32 (((L[j]?).map Rule.act).getD 0), .bool true]
theorem LsAt.found {w : World} {fb ab cap : Nat} {rest : List Value} {ts : List (Nat × Nat × Nat)} {L : List Rule} (h : LsAt w fb ab cap rest ts L) {ip mask : List UInt8} {j : Nat} (hf : findR ip mask L = some j) : ∃ t r, ts[j]? = some t ∧ L[j]? = some r := by
  unfold findR at hf
  rw [List.findIdx?_eq_some_iff_getElem] at hf
  obtain ⟨hlt, _⟩ := hf
  exact ⟨ts[j]'(by rw [h.rules.len]; exact hlt), L[j], by simp [h.rules.len, hlt], by simp [hlt]⟩
theorem uI32 : Tryz.prog.underlying 49 = some (.int .i32) := by kernel_rfl
theorem actionFor (ip mask : List UInt8) (gi gm : Nat) (ci cm : Nat) (fb ab cap : Nat) (rest : List Value) (ts : List (Nat × Nat × Nat)) (d : Int) (L : List Rule) (w : World) (ht : Tab w) (hF : FsAt w fb ab cap rest ts d L) (hL : L.length ≤ 1000)
    (hnet : Net ip mask) (hbi : BytesIn w (some ⟨gi, 0, none⟩) ip) (hbm : BytesIn w (some ⟨gm, 0, none⟩) mask) (hci : ip.length ≤ ci) (hcm : mask.length ≤ cm) (hne : gi ≠ gm) :
    Calls Tryz.prog 20 #[.pointer (some ⟨fb, 0, none⟩), .agg #[.slice (some ⟨gi, 0, none⟩) ip.length ci, .slice (some ⟨gm, 0, none⟩) mask.length cm]] w (fun e w1 => ∃ v, e = .returned v ∧ Ext [] w w1 ∧ v = actionV L (findR ip mask L)) := by
  refine calls_of0 (args := [.pointer (some ⟨fb, 0, none⟩), .agg #[.slice (some ⟨gi, 0, none⟩) ip.length ci, .slice (some ⟨gm, 0, none⟩) mask.length cm]]) Tryz.func20 rfl rfl rfl ?_
  refine To.runF 11 [0, 0] (fun _ _ => by kernel_rfl) fun f1 g1 l1 => ?_
  refine To.callN 30 #[.pointer (some ⟨fb, 0, none⟩), .agg #[.slice (some ⟨gi, 0, none⟩) ip.length ci, .slice (some ⟨gm, 0, none⟩) mask.length cm]] (by kernel_rfl) (fun _ => by kernel_rfl) (fun w2 hw2 => find ip mask ⟨gi, 0, none⟩ ⟨gm, 0, none⟩ ci cm fb ab cap rest ts L w2 (ht.later hw2.ext) (hF.ls.later hw2.ext) hL hnet (hbi.later hw2.ext) (hbm.later hw2.ext) hci hcm hne) (fun w2 v2 w3 hw2 hx2 hv2 hnew2 hwi2 => ?_)
  rcases hf : findR ip mask L with _ | j
  · rw [hf] at hv2
    subst hv2
    refine To.runF 18 [] (fun _ _ => by kernel_rfl) fun f2 g2 l2 => ?_
    exact To.ret [] (.tuple #[.int .i32 0, .bool false]) (by kernel_rfl) (by kernel_rfl) fun w9 hw9 => ⟨_, rfl, hw9.ext, rfl⟩
  · obtain ⟨t, r, htj, hr⟩ := hF.ls.found hf
    have hv : v2 = .tuple #[.int .i64 (Int.ofNat j), .pointer (some ⟨t.1, 0, none⟩)] := by rw [hv2, hf]; simp [foundV, htj]
    subst hv
    obtain ⟨c1, c2, hblk, _, _⟩ := (hF.ls.rules.at_ j t r htj hr).ex
    refine To.runF 17 [] (fun _ _ => by kernel_rfl) fun f2 g2 l2 => ?_
    refine To.loadOne uI32 rfl ((⟨t.1, 0, none⟩ : Addr).add 2) (.int .i32 r.act) (by kernel_rfl) (fun w4 hw4 => hw4.ext.cell (cellOfRow hblk 2) (by simp)) ?_
    refine To.runF 3 [] (fun _ _ => by kernel_rfl) fun f3 g3 l3 => ?_
    exact To.ret [] (.tuple #[.int .i32 r.act, .bool true]) (by kernel_rfl) (by kernel_rfl) fun w9 hw9 => ⟨_, rfl, hw9.ext, by simp [actionV, hr]⟩
end Go.Proofs.YtkhonkejebdcgaaGreatDoor
/- A rule is added. Conditions: its network has none yet. -/
namespace Go.Proofs.YtkhonkejebdcgaaGreatDoor
open Go Go.SX Go.IpText
set_option maxHeartbeats 8000000
set_option maxRecDepth 100000
/-- Where the blocks of the list and of its row are known, the rules are as they were. -/
theorem LsAt.again {w w' : World} {fb ab cap : Nat} {rest : List Value} {ts : List (Nat × Nat × Nat)} {L : List Rule} {l : List Value} (h : LsAt w fb ab cap rest ts L) (hx : Ext [fb, ab] w w')
    (hb : w'.heap[fb]? = some (.cells ⟨l⟩ 73 (0, 0))) (hl : l[7]? = some (.slice (some ⟨ab, 0, none⟩) L.length cap)) (ha : w'.heap[ab]? = some (.cells ⟨ptrs ts ++ rest⟩ 82 (0, 0))) : LsAt w' fb ab cap rest ts L :=
  ⟨by rw [cellOfRow hb 7, hl], ha, h.rules.kept (hx.keptS (Q := FootR ts) (by
    rintro b hb ⟨t, ht, e⟩
    obtain ⟨h1, h2, h3⟩ := h.apart t ht
    simp only [List.mem_cons, List.not_mem_nil, or_false] at hb
    rcases e with e | e | e <;> rcases hb with hb | hb <;> subst b
    · exact h1.1 hb
    · exact h1.2 hb
    · exact h2.1 hb
    · exact h2.2 hb
    · exact h3.1 hb
    · exact h3.2 hb)), h.cap_, h.ne, h.apart, h.max⟩
theorem bytes_lt {w : World} {g : Nat} {l : List UInt8} (h : BytesIn w (some ⟨g, 0, none⟩) l) (hl : 0 < l.length) : g < w.heap.size := by
  obtain ⟨ad, h1, h2⟩ := h.at_ 0 l[0] (by simp [hl])
  cases h1
  obtain ⟨c, e, z, h3, _⟩ := block_of_cell h2
  have : ((⟨g, 0, none⟩ : Addr).add 0).block = g := by unfold Addr.add; split <;> rfl
  rw [this] at h3
  exact at_lt h3
theorem Net.pos {ip mask : List UInt8} (h : Net ip mask) : 0 < ip.length ∧ 0 < mask.length := by
  obtain ⟨n, hn, hm⟩ := h.ones
  have e : mask.length = ip.length := by rw [hm]; exact maskOf_length n ip.length
  rcases h.len with hl | hl <;> omega
theorem RuleAt.lt {w : World} {pb gi gm : Nat} {r : Rule} (h : RuleAt w pb gi gm r) : pb < w.heap.size ∧ gi < w.heap.size ∧ gm < w.heap.size :=
  let ⟨_, _, h1, _, _⟩ := h.ex; ⟨at_lt h1, bytes_lt h.bi h.net.pos.1, bytes_lt h.bm h.net.pos.2⟩
theorem FsAt.added {w w1 : World} {fb ab cap : Nat} {rest : List Value} {ts : List (Nat × Nat × Nat)} {d : Int} {L : List Rule} (h : FsAt w fb ab cap rest ts d L) (hx : Ext [fb, ab] w w1) {ip mask : List UInt8} {act : Int} {gi gm ci cm pb g' cap' : Nat} {rest' : List Value}
    (hb : w1.heap[fb]? = some (.cells ⟨fsCells d (.slice (some ⟨g', 0, none⟩) (L.length + 1) cap')⟩ 73 (0, 0)))
    (hr : w1.heap[g']? = some (.cells ⟨ptrs ts ++ [.pointer (some ⟨pb, 0, none⟩)] ++ rest'⟩ 82 (0, 0)))
    (hp : w1.heap[pb]? = some (.cells ⟨[.slice (some ⟨gi, 0, none⟩) ip.length ci, .slice (some ⟨gm, 0, none⟩) mask.length cm, .int .i32 act]⟩ 86 (0, 0)))
    (hnet : Net ip mask) (hbi : BytesIn w (some ⟨gi, 0, none⟩) ip) (hbm : BytesIn w (some ⟨gm, 0, none⟩) mask) (hci : ip.length ≤ ci) (hcm : mask.length ≤ cm) (hne : gi ≠ gm) (hap : (gi ≠ fb ∧ gi ≠ ab) ∧ (gm ≠ fb ∧ gm ≠ ab))
    (hg : g' = ab ∨ w.heap.size ≤ g') (hfg : fb ≠ g') (hpb : pb ≠ fb ∧ pb ≠ g') (hri : (ptrs ts ++ [Value.pointer (some ⟨pb, 0, none⟩)] ++ rest').length = cap' * 1) (hmax : cap' ≤ maxLen) : FsAt w1 fb g' cap' rest' (ts ++ [(pb, gi, gm)]) d (L ++ [⟨ip, mask, act⟩]) := by
  have e1 : ptrs (ts ++ [(pb, gi, gm)]) = ptrs ts ++ [Value.pointer (some ⟨pb, 0, none⟩)] := by simp [ptrs]
  have hk : Kept (fun b => b ≠ fb ∧ b ≠ ab) w w1 := hx.keptS (by simp)
  have hoff : ∀ b, b < w.heap.size → b ≠ ab → b ≠ g' := fun b h1 h2 e => by
    subst e
    rcases hg with hg | hg
    · exact h2 hg
    · omega
  refine ⟨by rw [hb]; simp, ⟨?_, by rw [e1]; exact hr, ⟨by simp [h.ls.rules.len], fun j t r hj hr' => ?_⟩, by rw [e1, hri]; omega, hfg, fun t ht => ?_, hmax⟩⟩
  · rw [cellOfRow hb 7]; simp [fsCells]
  · by_cases hlt : j < ts.length
    · rw [List.getElem?_append_left hlt] at hj
      rw [List.getElem?_append_left (by rw [← h.ls.rules.len]; exact hlt)] at hr'
      obtain ⟨a1, a2, a3⟩ := h.ls.apart t (List.mem_of_getElem? hj)
      exact (h.ls.rules.at_ j t r hj hr').kept hk a1 a2 a3
    · have hj0 : j = ts.length := by
        have := (List.getElem?_eq_some_iff.1 hj).1
        simp at this; omega
      subst hj0
      rw [List.getElem?_append_right (Nat.le_refl _)] at hj
      rw [h.ls.rules.len, List.getElem?_append_right (Nat.le_refl _)] at hr'
      simp at hj hr'
      subst hj; subst hr'
      exact ⟨⟨ci, cm, hp, hci, hcm⟩, hbi.kept hk (fun ad e => by cases e; exact hap.1), hbm.kept hk (fun ad e => by cases e; exact hap.2), hne, hnet⟩
  · rcases List.mem_append.1 ht with ht | ht
    · obtain ⟨a1, a2, a3⟩ := h.ls.apart t ht
      obtain ⟨j, hj⟩ := List.mem_iff_getElem?.1 ht
      obtain ⟨r, hr'⟩ : ∃ r, L[j]? = some r := ⟨L[j]'(by rw [← h.ls.rules.len]; exact (List.getElem?_eq_some_iff.1 hj).1), by simp [show j < L.length by rw [← h.ls.rules.len]; exact (List.getElem?_eq_some_iff.1 hj).1]⟩
      obtain ⟨l1, l2, l3⟩ := (h.ls.rules.at_ j t r hj hr').lt
      exact ⟨⟨a1.1, hoff _ l1 a1.2⟩, ⟨a2.1, hoff _ l2 a2.2⟩, ⟨a3.1, hoff _ l3 a3.2⟩⟩
    · simp only [List.mem_singleton] at ht
      subst ht
      exact ⟨hpb, ⟨hap.1.1, hoff _ (bytes_lt hbi hnet.pos.1) hap.1.2⟩, ⟨hap.2.1, hoff _ (bytes_lt hbm hnet.pos.2) hap.2.2⟩⟩
theorem addFilter (ip mask : List UInt8) (act : Int) (gi gm : Nat) (ci cm : Nat) (fb ab cap : Nat) (rest : List Value) (ts : List (Nat × Nat × Nat)) (d : Int) (L : List Rule) (w : World) (ht : Tab w) (hF : FsAt w fb ab cap rest ts d L) (hL : L.length ≤ 1000)
    (hnet : Net ip mask) (hbi : BytesIn w (some ⟨gi, 0, none⟩) ip) (hbm : BytesIn w (some ⟨gm, 0, none⟩) mask) (hci : ip.length ≤ ci) (hcm : mask.length ≤ cm) (hne : gi ≠ gm) (hap : (gi ≠ fb ∧ gi ≠ ab) ∧ (gm ≠ fb ∧ gm ≠ ab)) (hno : findR ip mask L = none) (hto : TabOff fb ∧ TabOff ab) :
    Calls Tryz.prog 16 #[.pointer (some ⟨fb, 0, none⟩), .agg #[.slice (some ⟨gi, 0, none⟩) ip.length ci, .slice (some ⟨gm, 0, none⟩) mask.length cm], .int .i32 act] w (fun e w1 => ∃ v, e = .returned v ∧ Ext [fb, ab] w w1 ∧
      ∃ ab' cap' rest' pb, FsAt w1 fb ab' cap' rest' (ts ++ [(pb, gi, gm)]) d (L ++ [⟨ip, mask, act⟩]) ∧ (ab' = ab ∨ w.heap.size ≤ ab') ∧ w.heap.size ≤ pb) := by
  refine calls_of2 (args := [.pointer (some ⟨fb, 0, none⟩), .agg #[.slice (some ⟨gi, 0, none⟩) ip.length ci, .slice (some ⟨gm, 0, none⟩) mask.length cm], .int .i32 act]) fb ab _ _ hF.blk hF.ls.row hF.ls.ne Tryz.func16 rfl rfl rfl ?_
  have key : ∀ w4, Ext [fb, ab] w w4 → w4.heap[fb]? = some (.cells ⟨lkCells d (-1073741824) 1 (.slice (some ⟨ab, 0, none⟩) L.length cap)⟩ 73 (0, 0)) → w4.heap[ab]? = some (.cells ⟨ptrs ts ++ rest⟩ 82 (0, 0)) →
      Calls Tryz.prog 30 #[.pointer (some ⟨fb, 0, none⟩), .agg #[.slice (some ⟨gi, 0, none⟩) ip.length ci, .slice (some ⟨gm, 0, none⟩) mask.length cm]] w4 (fun e w1 => ∃ v, e = .returned v ∧ Ext [] w4 w1 ∧ v = foundV ts (findR ip mask L)) := by
    intro w4 hx hb ha
    have hk : Kept (fun b => b ≠ fb ∧ b ≠ ab) w w4 := hx.keptS (by simp)
    exact find ip mask ⟨gi, 0, none⟩ ⟨gm, 0, none⟩ ci cm fb ab cap rest ts L w4 (ht.laterS hx (by simpa using hto)) (hF.ls.again hx hb rfl ha) hL hnet
      (hbi.kept hk (fun ad e => by cases e; exact hap.1)) (hbm.kept hk (fun ad e => by cases e; exact hap.2)) hci hcm hne
  refine To.runF 9 [] (fun _ _ => by kernel_rfl) fun f1 g1 l1 => ?_
  refine To.callT 28 #[.pointer (some ⟨fb, 1, none⟩)] 0 fb (.cells ⟨fsCells d (.slice (some ⟨ab, 0, none⟩) L.length cap)⟩ 73 (0, 0)) (.cells ⟨lkCells d (-1073741824) 1 (.slice (some ⟨ab, 0, none⟩) L.length cap)⟩ 73 (0, 0)) (Φ := fun _ _ _ => True)
    (by kernel_rfl) (fun _ => by kernel_rfl) (by kernel_rfl) (by kernel_rfl) (fun w2 hw2 => (wlock fb d _ w2 (hw2.blk (j := 0) (q := true) (by kernel_rfl))).mono fun e w1 ⟨x, h1, h2, h3⟩ => ⟨x, h1, h2, h3, trivial⟩) (fun w2 v2 w3 hw2 hx2 _ => ?_)
  refine To.runF 12 [2, 2] (fun _ _ => by kernel_rfl) fun f2 g2 l2 => ?_
  refine To.callN 30 #[.pointer (some ⟨fb, 0, none⟩), .agg #[.slice (some ⟨gi, 0, none⟩) ip.length ci, .slice (some ⟨gm, 0, none⟩) mask.length cm]] (by kernel_rfl) (fun _ => by kernel_rfl) (fun w4 hw4 =>
    key w4 hw4.ext (hw4.blk (j := 0) (q := true) (by kernel_rfl)) (hw4.blk (j := 1) (q := true) (by kernel_rfl))) (fun w4 v4 w5 hw4 hx4 hv4 hnew4 hwi4 => ?_)
  rw [hno] at hv4
  subst hv4
  refine To.runF 20 [1, 2, 0, 0, 1, 2, 3, 5, 0, 0, 6, 7] (fun _ _ => by kernel_rfl) fun f3 g3 l3 => ?_
  refine To.joinX 4 [true, true, true, true, true, true, true, true, true, true, false, false, false, false] (fun i => ([(36, Go.Value.slice (Option.some (Go.Addr.mk (i 1) 0 Option.none)) 1 1), (35, Go.Value.pointer (Option.some (Go.Addr.mk (i 0) 0 Option.none))), (31, Go.Value.slice (Option.some (Go.Addr.mk ab 0 Option.none)) (List.length L) cap), (34, Go.Value.agg (Array.mk [Go.Value.slice (Option.some (Go.Addr.mk gi 0 Option.none)) (List.length ip) ci, Go.Value.slice (Option.some (Go.Addr.mk gm 0 Option.none)) (List.length mask) cm, Go.Value.int Go.IntKind.i32 act])), (33, Go.Value.int Go.IntKind.i32 act), (32, Go.Value.agg (Array.mk [Go.Value.slice (Option.some (Go.Addr.mk gi 0 Option.none)) (List.length ip) ci, Go.Value.slice (Option.some (Go.Addr.mk gm 0 Option.none)) (List.length mask) cm])), (30, Go.Value.pointer (Option.some (Go.Addr.mk fb 7 Option.none))), (29, Go.Value.pointer (Option.some (Go.Addr.mk fb 0 Option.none))), (28, Go.Value.pointer (Option.some (Go.Addr.mk fb 0 Option.none))), (27, Go.Value.pointer (Option.some (Go.Addr.mk fb 0 Option.none))), (22, Go.Value.bool Bool.false), (21, Go.Value.pointer Option.none), (7, Go.Value.pointer Option.none), (6, Go.Value.int Go.IntKind.i64 (-1)), (20, Go.Value.pointer Option.none), (19, Go.Value.int Go.IntKind.i64 (-1)), (15, Go.Value.tuple (Array.mk [Go.Value.int Go.IntKind.i64 (-1), Go.Value.pointer Option.none])), (18, Go.Value.tuple (Array.mk [Go.Value.int Go.IntKind.i64 (-1), Go.Value.pointer Option.none])), (17, Go.Value.agg (Array.mk [Go.Value.slice (Option.some (Go.Addr.mk gi 0 Option.none)) (List.length ip) ci, Go.Value.slice (Option.some (Go.Addr.mk gm 0 Option.none)) (List.length mask) cm])), (16, Go.Value.pointer (Option.some (Go.Addr.mk fb 0 Option.none))), (14, Go.Value.pointer (Option.some (Go.Addr.mk fb 1 Option.none))), (13, Go.Value.pointer (Option.some (Go.Addr.mk fb 0 Option.none))), (12, Go.Value.pointer (Option.some (Go.Addr.mk fb 0 Option.none))), (11, v2), (10, Go.Value.pointer (Option.some (Go.Addr.mk fb 1 Option.none))), (9, Go.Value.pointer (Option.some (Go.Addr.mk fb 0 Option.none))), (8, Go.Value.pointer (Option.some (Go.Addr.mk fb 0 Option.none))), (4, Go.Value.pointer (Option.some (Go.Addr.mk (f1 0) 0 Option.none))), (0, Go.Value.pointer (Option.some (Go.Addr.mk fb 0 Option.none))), (1, Go.Value.agg (Array.mk [Go.Value.slice (Option.some (Go.Addr.mk gi 0 Option.none)) (List.length ip) ci, Go.Value.slice (Option.some (Go.Addr.mk gm 0 Option.none)) (List.length mask) cm])), (2, Go.Value.int Go.IntKind.i32 act)], [Option.some (Go.SX.Blk.mk fb (Go.Obj.cells (Array.mk [Go.Value.int Go.IntKind.i32 d, Go.Value.int Go.IntKind.i32 1, Go.Value.int Go.IntKind.u32 0, Go.Value.int Go.IntKind.u32 0, Go.Value.int Go.IntKind.u32 0, Go.Value.int Go.IntKind.i32 (-1073741824), Go.Value.int Go.IntKind.i32 0, Go.Value.slice (Option.some (Go.Addr.mk ab 0 Option.none)) (List.length L) cap]) 73) (Go.SX.Blk.rw (Go.SX.Blk.mk fb (Go.Obj.cells (Array.mk (Go.Proofs.YtkhonkejebdcgaaGreatDoor.fsCells d (Go.Value.slice (Option.some (Go.Addr.mk ab 0 Option.none)) (List.length L) cap))) 73) Bool.true))), Option.some (Go.SX.Blk.mk ab (Go.Obj.cells (Array.mk (Go.Proofs.YtkhonkejebdcgaaGreatDoor.ptrs ts ++ rest)) 82) Bool.true), Option.some (Go.SX.Blk.mk (f1 0) (Go.Obj.cells (Array.mk [Go.Value.slice (Option.some (Go.Addr.mk gi 0 Option.none)) (List.length ip) ci, Go.Value.slice (Option.some (Go.Addr.mk gm 0 Option.none)) (List.length mask) cm]) 46) Bool.true), Option.some (Go.SX.Blk.mk (i 0) (Go.Obj.cells (Array.mk [Go.Value.slice (Option.some (Go.Addr.mk gi 0 Option.none)) (List.length ip) ci, Go.Value.slice (Option.some (Go.Addr.mk gm 0 Option.none)) (List.length mask) cm, Go.Value.int Go.IntKind.i32 act]) 86) Bool.true), Option.some (Go.SX.Blk.mk (i 1) (Go.Obj.cells (Array.mk [Go.Value.pointer (Option.some (Go.Addr.mk (i 0) 0 Option.none))]) 82) Bool.true)])) (fun j1 => ?_) (fun i1 w1 x1 => ?_)
  · refine To.joinD 6 [true, true, true, true, false, true, true, true, true, false, false, false, false, false] (fun i => ([(35, Go.Value.pointer (Option.some (Go.Addr.mk (i 0) 0 Option.none))), (34, Go.Value.agg (Array.mk [Go.Value.slice (Option.some (Go.Addr.mk gi 0 Option.none)) (List.length ip) ci, Go.Value.slice (Option.some (Go.Addr.mk gm 0 Option.none)) (List.length mask) cm, Go.Value.int Go.IntKind.i32 act])), (33, Go.Value.int Go.IntKind.i32 act), (32, Go.Value.agg (Array.mk [Go.Value.slice (Option.some (Go.Addr.mk gi 0 Option.none)) (List.length ip) ci, Go.Value.slice (Option.some (Go.Addr.mk gm 0 Option.none)) (List.length mask) cm])), (30, Go.Value.pointer (Option.some (Go.Addr.mk fb 7 Option.none))), (29, Go.Value.pointer (Option.some (Go.Addr.mk fb 0 Option.none))), (28, Go.Value.pointer (Option.some (Go.Addr.mk fb 0 Option.none))), (27, Go.Value.pointer (Option.some (Go.Addr.mk fb 0 Option.none))), (22, Go.Value.bool Bool.false), (21, Go.Value.pointer Option.none), (7, Go.Value.pointer Option.none), (6, Go.Value.int Go.IntKind.i64 (-1)), (20, Go.Value.pointer Option.none), (19, Go.Value.int Go.IntKind.i64 (-1)), (15, Go.Value.tuple (Array.mk [Go.Value.int Go.IntKind.i64 (-1), Go.Value.pointer Option.none])), (18, Go.Value.tuple (Array.mk [Go.Value.int Go.IntKind.i64 (-1), Go.Value.pointer Option.none])), (17, Go.Value.agg (Array.mk [Go.Value.slice (Option.some (Go.Addr.mk gi 0 Option.none)) (List.length ip) ci, Go.Value.slice (Option.some (Go.Addr.mk gm 0 Option.none)) (List.length mask) cm])), (16, Go.Value.pointer (Option.some (Go.Addr.mk fb 0 Option.none))), (14, Go.Value.pointer (Option.some (Go.Addr.mk fb 1 Option.none))), (13, Go.Value.pointer (Option.some (Go.Addr.mk fb 0 Option.none))), (12, Go.Value.pointer (Option.some (Go.Addr.mk fb 0 Option.none))), (11, v2), (10, Go.Value.pointer (Option.some (Go.Addr.mk fb 1 Option.none))), (9, Go.Value.pointer (Option.some (Go.Addr.mk fb 0 Option.none))), (8, Go.Value.pointer (Option.some (Go.Addr.mk fb 0 Option.none))), (4, Go.Value.pointer (Option.some (Go.Addr.mk (f1 0) 0 Option.none))), (0, Go.Value.pointer (Option.some (Go.Addr.mk fb 0 Option.none))), (1, Go.Value.agg (Array.mk [Go.Value.slice (Option.some (Go.Addr.mk gi 0 Option.none)) (List.length ip) ci, Go.Value.slice (Option.some (Go.Addr.mk gm 0 Option.none)) (List.length mask) cm])), (2, Go.Value.int Go.IntKind.i32 act)], [Option.some (Go.SX.Blk.mk fb (Go.Obj.cells (Array.mk [Go.Value.int Go.IntKind.i32 d, Go.Value.int Go.IntKind.i32 1, Go.Value.int Go.IntKind.u32 0, Go.Value.int Go.IntKind.u32 0, Go.Value.int Go.IntKind.u32 0, Go.Value.int Go.IntKind.i32 (-1073741824), Go.Value.int Go.IntKind.i32 0, Go.Value.slice (Option.some (Go.Addr.mk ab 0 Option.none)) (List.length L) cap]) 73) (Go.SX.Blk.rw (Go.SX.Blk.mk fb (Go.Obj.cells (Array.mk (Go.Proofs.YtkhonkejebdcgaaGreatDoor.fsCells d (Go.Value.slice (Option.some (Go.Addr.mk ab 0 Option.none)) (List.length L) cap))) 73) Bool.true))), Option.some (Go.SX.Blk.mk ab (Go.Obj.cells (Array.mk (Go.Proofs.YtkhonkejebdcgaaGreatDoor.ptrs ts ++ rest)) 82) Bool.true), Option.some (Go.SX.Blk.mk (f1 0) (Go.Obj.cells (Array.mk [Go.Value.slice (Option.some (Go.Addr.mk gi 0 Option.none)) (List.length ip) ci, Go.Value.slice (Option.some (Go.Addr.mk gm 0 Option.none)) (List.length mask) cm]) 46) Bool.true), Option.some (Go.SX.Blk.mk (i 0) (Go.Obj.cells (Array.mk [Go.Value.slice (Option.some (Go.Addr.mk gi 0 Option.none)) (List.length ip) ci, Go.Value.slice (Option.some (Go.Addr.mk gm 0 Option.none)) (List.length mask) cm, Go.Value.int Go.IntKind.i32 act]) 86) Bool.true)])) (fun i1 w1 x1 => ?_) (fun j2 => ?_)
    · refine To.pick 1 (by kernel_rfl) ⟨⟨trivial, ?_⟩, ?_⟩
      · refine To.runF 2 [0] (fun _ _ => by kernel_rfl) fun f4 g4 l4 => ?_
        exact j1 _ _ (Go.SX.cons (i1 0) (Go.SX.cons (f4 0) id)) [0, 1, 2, 3, 4] ⟨by kernel_rfl, by kernel_rfl, by kernel_rfl, by kernel_rfl, by kernel_rfl, by kernel_rfl⟩
      · refine To.runF 2 [0] (fun _ _ => by kernel_rfl) fun f4 g4 l4 => ?_
        exact j1 _ _ (Go.SX.cons (i1 0) (Go.SX.cons (f4 0) id)) [0, 1, 2, 3, 4] ⟨by kernel_rfl, by kernel_rfl, by kernel_rfl, by kernel_rfl, by kernel_rfl, by kernel_rfl⟩
    refine To.pick 1 (by kernel_rfl) ⟨⟨trivial, ?_⟩, ?_⟩
    · refine To.runF 3 [0] (fun _ _ => by kernel_rfl) fun f4 g4 l4 => ?_
      exact j1 _ _ (Go.SX.cons (f4 0) (Go.SX.cons (f4 1) id)) [0, 1, 2, 3, 4] ⟨by kernel_rfl, by kernel_rfl, by kernel_rfl, by kernel_rfl, by kernel_rfl, by kernel_rfl⟩
    · refine To.runF 1 [] (fun _ _ => by kernel_rfl) fun f4 g4 l4 => ?_
      exact j2 _ _ (Go.SX.cons (f4 0) id) [0, 1, 2, 3] ⟨by kernel_rfl, by kernel_rfl, by kernel_rfl, by kernel_rfl, by kernel_rfl, by kernel_rfl⟩
  refine To.append (ty := 71) elP 1 ab L.length cap (ptrs ts) rest (some ⟨i1 1, 0, none⟩) 1 1 [.pointer (some ⟨i1 0, 0, none⟩)] (by kernel_rfl) (by kernel_rfl) (by simp [ptrs, hF.ls.rules.len]) (by rw [hF.ls.cap_]; omega) (by have := hF.ls.cap_; have := hF.ls.rules.len; simp [ptrs] at *; omega) hF.ls.max rfl
    (fun w6 hw6 j u hj => by
      have hb := hw6.blk (j := 4) (b := i1 1) (o := .cells ⟨[.pointer (some ⟨i1 0, 0, none⟩)]⟩ 82 (0, 0)) (q := true) (by kernel_rfl)
      exact ⟨_, rfl, by rw [cellOfRow hb j]; exact hj⟩) (fun e => by cases e) (by simp; rfl) (by simp only [maxLen]; omega) (by omega) (held_in (g := ab) (o := .cells ⟨ptrs ts ++ rest⟩ 82 (0, 0)) (q := true) [2] 1 (by kernel_rfl) (by kernel_rfl) (by decide)) ?_
  intro w6 w7 g' cap' rest' hw6 hg6 hgi hri hci1 hci2
  refine To.runF 4 [0] (fun _ _ => by kernel_rfl) fun f4 g4 l4 => ?_
  have hp6 := hw6.tr.ne 3 1 ⟨i1 0, .cells ⟨[.slice (some ⟨gi, 0, none⟩) ip.length ci, .slice (some ⟨gm, 0, none⟩) mask.length cm, .int .i32 act]⟩ 86 (0, 0), true⟩ ⟨ab, .cells ⟨ptrs ts ++ rest⟩ 82 (0, 0), true⟩ (by kernel_rfl) (by kernel_rfl) (by decide)
  have hf6 := hw6.tr.ne 3 0 ⟨i1 0, .cells ⟨[.slice (some ⟨gi, 0, none⟩) ip.length ci, .slice (some ⟨gm, 0, none⟩) mask.length cm, .int .i32 act]⟩ 86 (0, 0), true⟩ ⟨fb, .cells ⟨lkCells d (-1073741824) 1 (.slice (some ⟨ab, 0, none⟩) L.length cap)⟩ 73 (0, 0), true⟩ (by kernel_rfl) (by kernel_rfl) (by decide)
  have hown := hw6.own 3 ⟨i1 0, .cells ⟨[.slice (some ⟨gi, 0, none⟩) ip.length ci, .slice (some ⟨gm, 0, none⟩) mask.length cm, .int .i32 act]⟩ 86 (0, 0), true⟩ (by kernel_rfl) rfl
  have hpn : w.heap.size ≤ i1 0 := by
    rcases hown with h | h
    · exact h
    · simp only [List.mem_cons, List.not_mem_nil, or_false] at h
      rcases h with h | h
      · exact absurd h hf6
      · exact absurd h hp6
  have hgn : g' = ab ∨ w.heap.size ≤ g' := by
    rcases hgi with h | h
    · exact .inl h
    · exact .inr (by rw [h]; exact hw6.ext.size)
  refine To.retDG ⟨.fn (.func 29) #[], #[.pointer (some ⟨fb, 1, none⟩)]⟩ (.func 29) #[] 29 #[.pointer (some ⟨fb, 1, none⟩)] (.tuple #[]) (by kernel_rfl) rfl (fun _ => by kernel_rfl) (by kernel_rfl) (by kernel_rfl) (by kernel_rfl) (fun w9 hw9 => ?_)
  have hb9 := hw9.blk (j := 0) (b := fb) (o := .cells ⟨lkCells d (-1073741824) 1 (.slice (some ⟨g', 0, none⟩) (L.length + 1) cap')⟩ 73 (0, 0)) (q := true) (by kernel_rfl)
  have hp9 := hw9.blk (j := 3) (b := i1 0) (o := .cells ⟨[.slice (some ⟨gi, 0, none⟩) ip.length ci, .slice (some ⟨gm, 0, none⟩) mask.length cm, .int .i32 act]⟩ 86 (0, 0)) (q := true) (by kernel_rfl)
  have hg9 := hw9.blk (j := 5) (b := g') (o := .cells ⟨ptrs ts ++ [.pointer (some ⟨i1 0, 0, none⟩)] ++ rest'⟩ 82 (0, 0)) (q := true) (by kernel_rfl)
  have n1 := hw9.tr.ne 0 5 ⟨fb, .cells ⟨lkCells d (-1073741824) 1 (.slice (some ⟨g', 0, none⟩) (L.length + 1) cap')⟩ 73 (0, 0), true⟩ ⟨g', .cells ⟨ptrs ts ++ [.pointer (some ⟨i1 0, 0, none⟩)] ++ rest'⟩ 82 (0, 0), true⟩ (by kernel_rfl) (by kernel_rfl) (by decide)
  have n2 := hw9.tr.ne 3 5 ⟨i1 0, .cells ⟨[.slice (some ⟨gi, 0, none⟩) ip.length ci, .slice (some ⟨gm, 0, none⟩) mask.length cm, .int .i32 act]⟩ 86 (0, 0), true⟩ ⟨g', .cells ⟨ptrs ts ++ [.pointer (some ⟨i1 0, 0, none⟩)] ++ rest'⟩ 82 (0, 0), true⟩ (by kernel_rfl) (by kernel_rfl) (by decide)
  have hx9 := hw9.ext
  simp only at n1 n2 hf6
  clear hw9 hw6 hown hp6
  refine (wunlock fb d _ w9 hb9).mono fun e u w10 ⟨h1, h2, h3, h4⟩ => ⟨h1, h2, _, rfl, ?_, ?_⟩
  · exact hx9.trans ⟨h3.os, h3.tape, h3.output, h3.size, fun k hk hn => h3.block k hk (fun hm => hn (by simp at hm; simp [hm]))⟩
  · have hx : Ext [fb, ab] w w10 := hx9.trans ⟨h3.os, h3.tape, h3.output, h3.size, fun k hk hn => h3.block k hk (fun hm => hn (by simp at hm; simp [hm]))⟩
    exact ⟨g', cap', rest', i1 0, hF.added hx h4 (h3.at hg9 (by simpa using fun e => n1 e.symm)) (h3.at hp9 (by simpa using hf6)) hnet hbi hbm hci hcm hne hap hgn n1 ⟨hf6, n2⟩ hri hci2, hgn, hpn⟩
end Go.Proofs.YtkhonkejebdcgaaGreatDoor
/- A rule is taken away. Conditions: the list lies in memory. -/
namespace Go.Proofs.YtkhonkejebdcgaaGreatDoor
open Go Go.SX Go.IpText
set_option maxHeartbeats 8000000
set_option maxRecDepth 100000
theorem Ext.two {fb ab : Nat} {w w' w'' : World} (h : Ext [fb, ab] w w') (h3 : Ext [fb] w' w'') : Ext [fb, ab] w w'' :=
  h.trans ⟨h3.os, h3.tape, h3.output, h3.size, fun k hk hn => h3.block k hk (fun hm => hn (by simp at hm; simp [hm]))⟩
theorem ptrs_erase (ts : List (Nat × Nat × Nat)) (j : Nat) : ptrs (ts.eraseIdx j) = (ptrs ts).take j ++ (ptrs ts).drop (j + 1) := by
  unfold ptrs
  rw [List.eraseIdx_eq_take_drop_succ, List.map_append, List.map_take, List.map_drop]
theorem FsAt.removed {w w1 : World} {fb ab cap : Nat} {rest : List Value} {ts : List (Nat × Nat × Nat)} {d : Int} {L : List Rule} (h : FsAt w fb ab cap rest ts d L) (hx : Ext [fb, ab] w w1) {j n g' cap' : Nat} {rest' : List Value} (hj : j < L.length) (hn : n = (L.eraseIdx j).length)
    (hb : w1.heap[fb]? = some (.cells ⟨fsCells d (.slice (some ⟨g', 0, none⟩) n cap')⟩ 73 (0, 0)))
    (hr : w1.heap[g']? = some (.cells ⟨(ptrs ts).take j ++ (ptrs ts).drop (j + 1) ++ rest'⟩ 82 (0, 0)))
    (hg : g' = ab ∨ w.heap.size ≤ g') (hfg : fb ≠ g') (hri : ((ptrs ts).take j ++ (ptrs ts).drop (j + 1) ++ rest').length = cap' * 1) (hmax : cap' ≤ maxLen) : FsAt w1 fb g' cap' rest' (ts.eraseIdx j) d (L.eraseIdx j) := by
  have hk : Kept (fun b => b ≠ fb ∧ b ≠ ab) w w1 := hx.keptS (by simp)
  have hoff : ∀ b, b < w.heap.size → b ≠ ab → b ≠ g' := fun b h1 h2 e => by
    subst e
    rcases hg with hg | hg
    · exact h2 hg
    · omega
  have hat : ∀ (q : Nat) (t : Nat × Nat × Nat), (ts.eraseIdx j)[q]? = some t → ∃ q', ts[q']? = some t ∧ (L.eraseIdx j)[q]? = L[q']? := fun q t hq => by
    rw [List.getElem?_eraseIdx] at hq ⊢
    by_cases hlt : q < j
    · rw [if_pos hlt] at hq ⊢; exact ⟨q, hq, rfl⟩
    · rw [if_neg hlt] at hq ⊢; exact ⟨q + 1, hq, rfl⟩
  subst hn
  refine ⟨hb, ⟨?_, by rw [ptrs_erase]; exact hr, ⟨?_, fun q t r hq hr' => ?_⟩, by rw [ptrs_erase, hri]; omega, hfg, fun t ht => ?_, hmax⟩⟩
  · rw [cellOfRow hb 7]; rfl
  · rw [List.length_eraseIdx, List.length_eraseIdx, h.ls.rules.len]
  · obtain ⟨q', h1, h2⟩ := hat q t hq
    obtain ⟨a1, a2, a3⟩ := h.ls.apart t (List.mem_of_getElem? h1)
    exact (h.ls.rules.at_ q' t r h1 (h2 ▸ hr')).kept hk a1 a2 a3
  · have ht' := List.mem_of_mem_eraseIdx ht
    obtain ⟨a1, a2, a3⟩ := h.ls.apart t ht'
    obtain ⟨q, hq⟩ := List.mem_iff_getElem?.1 ht'
    have hql := (List.getElem?_eq_some_iff.1 hq).1
    obtain ⟨r, hr'⟩ : ∃ r, L[q]? = some r := ⟨L[q]'(by rw [← h.ls.rules.len]; exact hql), by simp [show q < L.length by rw [← h.ls.rules.len]; exact hql]⟩
    obtain ⟨l1, l2, l3⟩ := (h.ls.rules.at_ q t r hq hr').lt
    exact ⟨⟨a1.1, hoff _ l1 a1.2⟩, ⟨a2.1, hoff _ l2 a2.2⟩, ⟨a3.1, hoff _ l3 a3.2⟩⟩
theorem removeLiteral (ip mask : List UInt8) (gi gm : Nat) (ci cm : Nat) (fb ab cap : Nat) (rest : List Value) (ts : List (Nat × Nat × Nat)) (d : Int) (L : List Rule) (w : World) (ht : Tab w) (hF : FsAt w fb ab cap rest ts d L) (hL : L.length ≤ 1000)
    (hnet : Net ip mask) (hbi : BytesIn w (some ⟨gi, 0, none⟩) ip) (hbm : BytesIn w (some ⟨gm, 0, none⟩) mask) (hci : ip.length ≤ ci) (hcm : mask.length ≤ cm) (hne : gi ≠ gm) (hap : (gi ≠ fb ∧ gi ≠ ab) ∧ (gm ≠ fb ∧ gm ≠ ab)) (hto : TabOff fb ∧ TabOff ab) :
    Calls Tryz.prog 17 #[.pointer (some ⟨fb, 0, none⟩), .agg #[.slice (some ⟨gi, 0, none⟩) ip.length ci, .slice (some ⟨gm, 0, none⟩) mask.length cm]] w (fun e w1 => ∃ v, e = .returned v ∧ Ext [fb, ab] w w1 ∧
      v = .bool (findR ip mask L).isSome ∧ ∃ ab' cap' rest' ts' L', FsAt w1 fb ab' cap' rest' ts' d L' ∧ (ab' = ab ∨ w.heap.size ≤ ab') ∧ L' = (match findR ip mask L with | none => L | some j => L.eraseIdx j) ∧ ts' = (match findR ip mask L with | none => ts | some j => ts.eraseIdx j)) := by
  refine calls_of2 (args := [.pointer (some ⟨fb, 0, none⟩), .agg #[.slice (some ⟨gi, 0, none⟩) ip.length ci, .slice (some ⟨gm, 0, none⟩) mask.length cm]]) fb ab _ _ hF.blk hF.ls.row hF.ls.ne Tryz.func17 rfl rfl rfl ?_
  have key : ∀ w4, Ext [fb, ab] w w4 → w4.heap[fb]? = some (.cells ⟨lkCells d (-1073741824) 1 (.slice (some ⟨ab, 0, none⟩) L.length cap)⟩ 73 (0, 0)) → w4.heap[ab]? = some (.cells ⟨ptrs ts ++ rest⟩ 82 (0, 0)) →
      Calls Tryz.prog 30 #[.pointer (some ⟨fb, 0, none⟩), .agg #[.slice (some ⟨gi, 0, none⟩) ip.length ci, .slice (some ⟨gm, 0, none⟩) mask.length cm]] w4 (fun e w1 => ∃ v, e = .returned v ∧ Ext [] w4 w1 ∧ v = foundV ts (findR ip mask L)) := by
    intro w4 hx hb ha
    have hk : Kept (fun b => b ≠ fb ∧ b ≠ ab) w w4 := hx.keptS (by simp)
    exact find ip mask ⟨gi, 0, none⟩ ⟨gm, 0, none⟩ ci cm fb ab cap rest ts L w4 (ht.laterS hx (by simpa using hto)) (hF.ls.again hx hb rfl ha) hL hnet
      (hbi.kept hk (fun ad e => by cases e; exact hap.1)) (hbm.kept hk (fun ad e => by cases e; exact hap.2)) hci hcm hne
  refine To.runF 10 [] (fun _ _ => by kernel_rfl) fun f1 g1 l1 => ?_
  refine To.callT 28 #[.pointer (some ⟨fb, 1, none⟩)] 0 fb (.cells ⟨fsCells d (.slice (some ⟨ab, 0, none⟩) L.length cap)⟩ 73 (0, 0)) (.cells ⟨lkCells d (-1073741824) 1 (.slice (some ⟨ab, 0, none⟩) L.length cap)⟩ 73 (0, 0)) (Φ := fun _ _ _ => True)
    (by kernel_rfl) (fun _ => by kernel_rfl) (by kernel_rfl) (by kernel_rfl) (fun w2 hw2 => (wlock fb d _ w2 (hw2.blk (j := 0) (q := true) (by kernel_rfl))).mono fun e w1 ⟨x, h1, h2, h3⟩ => ⟨x, h1, h2, h3, trivial⟩) (fun w2 v2 w3 hw2 hx2 _ => ?_)
  refine To.runF 13 [2, 2] (fun _ _ => by kernel_rfl) fun f2 g2 l2 => ?_
  refine To.callN 30 #[.pointer (some ⟨fb, 0, none⟩), .agg #[.slice (some ⟨gi, 0, none⟩) ip.length ci, .slice (some ⟨gm, 0, none⟩) mask.length cm]] (by kernel_rfl) (fun _ => by kernel_rfl) (fun w4 hw4 =>
    key w4 hw4.ext (hw4.blk (j := 0) (q := true) (by kernel_rfl)) (hw4.blk (j := 1) (q := true) (by kernel_rfl))) (fun w4 v4 w5 hw4 hx4 hv4 hnew4 hwi4 => ?_)
  rcases hf : findR ip mask L with _ | j
  · rw [hf] at hv4
    subst hv4
    refine To.runF 17 [] (fun _ _ => by kernel_rfl) fun f3 g3 l3 => ?_
    refine To.retDG ⟨.fn (.func 29) #[], #[.pointer (some ⟨fb, 1, none⟩)]⟩ (.func 29) #[] 29 #[.pointer (some ⟨fb, 1, none⟩)] (.bool false) (by kernel_rfl) rfl (fun _ => by kernel_rfl) (by kernel_rfl) (by kernel_rfl) (by kernel_rfl) (fun w9 hw9 => ?_)
    have hb9 := hw9.blk (j := 0) (b := fb) (o := .cells ⟨lkCells d (-1073741824) 1 (.slice (some ⟨ab, 0, none⟩) L.length cap)⟩ 73 (0, 0)) (q := true) (by kernel_rfl)
    have ha9 := hw9.blk (j := 1) (b := ab) (o := .cells ⟨ptrs ts ++ rest⟩ 82 (0, 0)) (q := true) (by kernel_rfl)
    have hx9 := hw9.ext
    clear hw9
    refine (wunlock fb d _ w9 hb9).mono fun e u w10 ⟨h1, h2, h3, h4⟩ => ⟨h1, h2, _, rfl, Ext.two hx9 h3, rfl, ab, cap, rest, ts, L, ⟨h4, hF.ls.again (Ext.two hx9 h3) h4 rfl (h3.at ha9 (by simpa using fun e => hF.ls.ne e.symm))⟩, .inl rfl, rfl, rfl⟩
  · obtain ⟨t, r, htj, hr⟩ := hF.ls.found hf
    have hv : v4 = .tuple #[.int .i64 (Int.ofNat j), .pointer (some ⟨t.1, 0, none⟩)] := by rw [hv4, hf]; simp [foundV, htj]
    subst hv
    have hjL : j < L.length := (List.getElem?_eq_some_iff.1 hr).1
    have hpl : (ptrs ts).length = L.length := by simp [ptrs, hF.ls.rules.len]
    have hcap : L.length ≤ cap := by have := hF.ls.cap_; simp [hpl] at this; omega
    have hcm' := hF.ls.max
    refine To.runF 26 [1, 0, 18, 0, 1, 2, 3, 4, 0, 5, 7, 8, 9, 10, 0, 11, 12] (fun _ _ => by kernel_rfl) fun f3 g3 l3 => ?_
    refine To.slotE 34 (.int .i64 (IntKind.i64.wrap (Int.ofNat j + 1))) (.int .i64 (Int.ofNat (j + 1))) (by kernel_rfl) (by rw [wrap_succ j (by omega)]) ?_
    refine To.sliceUpToE 6 (t := 71) elP (some ⟨ab, 0, none⟩) L.length j cap (by omega) (by kernel_rfl) ?_
    refine To.sliceFromE 13 (t := 71) elP (some ⟨ab, 0, none⟩) L.length (j + 1) cap (by omega) hcap (by kernel_rfl) ?_
    have hxs : (ptrs ts).take j ++ ((ptrs ts).drop j ++ rest) = ptrs ts ++ rest := by rw [← List.append_assoc, List.take_append_drop]
    refine To.append (ty := 71) elP 1 ab j cap ((ptrs ts).take j) ((ptrs ts).drop j ++ rest) (onA (some ⟨ab, 0, none⟩) (j + 1) 1 cap) (L.length - (j + 1)) (cap - (j + 1)) ((ptrs ts).drop (j + 1)) (by kernel_rfl) (by rw [hxs]; kernel_rfl) (by rw [List.length_take]; omega) (by rw [hxs, hF.ls.cap_]; omega) (by omega) hcm' (by rw [List.length_drop, hpl]; omega)
      (fun w6 hw6 q u hq => by
        have hb := hw6.blk (j := 1) (b := ab) (o := .cells ⟨ptrs ts ++ rest⟩ 82 (0, 0)) (q := true) (by kernel_rfl)
        clear hw6
        rw [List.getElem?_drop] at hq
        have hql := (List.getElem?_eq_some_iff.1 hq).1
        rw [hpl] at hql
        refine ⟨⟨ab, j + 1, none⟩, ?_, ?_⟩
        · unfold onA
          rw [if_neg (by omega)]
          simp [Addr.add]
        · rw [show (⟨ab, j + 1, none⟩ : Addr).add q = (⟨ab, 0, none⟩ : Addr).add (j + 1 + q) by unfold Addr.add; split <;> split <;> simp_all]
          rw [cellOfRow hb, List.getElem?_append_left (by rw [hpl]; omega)]
          exact hq) (fun e => by unfold onA at e; split at e <;> cases e) (fun u hu => by
        have := List.mem_of_mem_drop hu
        unfold ptrs at this
        obtain ⟨x, _, rfl⟩ := List.mem_map.1 this
        rfl) (by simp only [maxLen]; omega) (by omega) (held_in (g := ab) (o := .cells ⟨ptrs ts ++ rest⟩ 82 (0, 0)) (q := true) [0] 1 (by kernel_rfl) (by kernel_rfl) (by decide)) ?_
    intro w6 w7 g' cap' rest' hw6 hg6 hgi hri hci1 hci2
    refine To.runF 8 [0] (fun _ _ => by kernel_rfl) fun f4 g4 l4 => ?_
    have hgn : g' = ab ∨ w.heap.size ≤ g' := by
      rcases hgi with h | h
      · exact .inl h
      · exact .inr (by rw [h]; exact hw6.ext.size)
    refine To.retDG ⟨.fn (.func 29) #[], #[.pointer (some ⟨fb, 1, none⟩)]⟩ (.func 29) #[] 29 #[.pointer (some ⟨fb, 1, none⟩)] (.bool true) (by kernel_rfl) rfl (fun _ => by kernel_rfl) (by kernel_rfl) (by kernel_rfl) (by kernel_rfl) (fun w9 hw9 => ?_)
    have hb9 := hw9.blk (j := 0) (b := fb) (o := .cells ⟨lkCells d (-1073741824) 1 (.slice (some ⟨g', 0, none⟩) (j + (L.length - (j + 1))) cap')⟩ 73 (0, 0)) (q := true) (by kernel_rfl)
    have hg9 := hw9.blk (j := 3) (b := g') (o := .cells ⟨(ptrs ts).take j ++ (ptrs ts).drop (j + 1) ++ rest'⟩ 82 (0, 0)) (q := true) (by kernel_rfl)
    have n1 := hw9.tr.ne 0 3 ⟨fb, .cells ⟨lkCells d (-1073741824) 1 (.slice (some ⟨g', 0, none⟩) (j + (L.length - (j + 1))) cap')⟩ 73 (0, 0), true⟩ ⟨g', .cells ⟨(ptrs ts).take j ++ (ptrs ts).drop (j + 1) ++ rest'⟩ 82 (0, 0), true⟩ (by kernel_rfl) (by kernel_rfl) (by decide)
    have hx9 := hw9.ext
    simp only at n1
    clear hw9 hw6
    refine (wunlock fb d _ w9 hb9).mono fun e u w10 ⟨h1, h2, h3, h4⟩ => ⟨h1, h2, _, rfl, Ext.two hx9 h3, rfl, g', cap', rest', ts.eraseIdx j, L.eraseIdx j, hF.removed (Ext.two hx9 h3) hjL (by rw [List.length_eraseIdx]; simp [hjL]; omega) h4 (h3.at hg9 (by simpa using fun e => n1 e.symm)) hgn n1 hri hci2, hgn, rfl, rfl⟩
end Go.Proofs.YtkhonkejebdcgaaGreatDoor
/- The networks of an action's rules. Conditions: the list lies in memory. -/
namespace Go.Proofs.YtkhonkejebdcgaaGreatDoor
open Go Go.SX Go.IpText
set_option maxHeartbeats 8000000
set_option maxRecDepth 100000
abbrev NIx := Nat × Option (Nat × Nat × List Value × List (List Value))
def outVN (n : Nat) : Option (Nat × Nat × List Value × List (List Value)) → Value
  | none => .slice none 0 0
  | some (g, c, _, _) => .slice (some ⟨g, 0, none⟩) n c
def outBN (ty : TypeId) : Option (Nat × Nat × List Value × List (List Value)) → List (Option Blk)
  | none => []
  | some (g, _, rest, css) => [some ⟨g, .cells ⟨css.flatten ++ rest⟩ ty (0, 0), true⟩]
def OutInvN {α : Type} (I : World → α → List Value → Prop) (sz : Nat) (ty : TypeId) (lo : Nat) (L : List α) : Option (Nat × Nat × List Value × List (List Value)) → World → Prop
  | none, _ => L = []
  | some (g, c, rest, css), w => RowN I sz ty lo w g c rest css L
theorem elN : Elem Tryz.prog 57 46 2 48 := Elem.of (z := .agg #[.slice none 0 0, .slice none 0 0]) (by kernel_rfl) (by kernel_rfl) rfl
/-- A rule's network, as two slices of bytes of the rules' own. -/
def netI (ts : List (Nat × Nat × Nat)) (w : World) (r : Rule) (cs : List Value) : Prop :=
  ∃ gi gm ci cm, cs = [.slice (some ⟨gi, 0, none⟩) r.ip.length ci, .slice (some ⟨gm, 0, none⟩) r.mask.length cm] ∧ BytesIn w (some ⟨gi, 0, none⟩) r.ip ∧ BytesIn w (some ⟨gm, 0, none⟩) r.mask ∧ FootR ts gi ∧ FootR ts gm
def hasAct (act : Int) (r : Rule) : Bool := decide (r.act = act)
theorem filtersFor (act : Int) (fb ab cap : Nat) (rest : List Value) (ts : List (Nat × Nat × Nat)) (d : Int) (L : List Rule) (w : World) (hF : FsAt w fb ab cap rest ts d L) (hL : L.length ≤ 1000) :
    Calls Tryz.prog 21 #[.pointer (some ⟨fb, 0, none⟩), .int .i32 act] w (fun e w1 => ∃ v, e = .returned v ∧ Ext [fb] w w1 ∧ FsAt w1 fb ab cap rest ts d L ∧ RowsN (fun _ => netI ts w) 2 46 w.heap.size w1 v (L.filter (hasAct act))) := by
  refine calls_of1 (args := [.pointer (some ⟨fb, 0, none⟩), .int .i32 act]) fb _ hF.blk Tryz.func21 rfl rfl rfl ?_
  refine To.runF 9 [] (fun _ _ => by kernel_rfl) fun f1 g1 l1 => ?_
  refine To.callT 35 #[.pointer (some ⟨fb, 1, none⟩)] 0 fb (.cells ⟨fsCells d (.slice (some ⟨ab, 0, none⟩) L.length cap)⟩ 73 (0, 0)) (.cells ⟨lkCells d 1 0 (.slice (some ⟨ab, 0, none⟩) L.length cap)⟩ 73 (0, 0)) (Φ := fun _ _ _ => True)
    (by kernel_rfl) (fun _ => by kernel_rfl) (by kernel_rfl) (by kernel_rfl) (fun w2 hw2 => (rlock fb d _ w2 (hw2.blk (j := 0) (q := true) (by kernel_rfl))).mono fun e w1 ⟨x, h1, h2, h3⟩ => ⟨x, h1, h2, h3, trivial⟩) (fun w2 v2 w3 hw2 hx2 _ => ?_)
  have hcell : ∀ (k : Nat) (t : Nat × Nat × Nat), ts[k]? = some t → ∀ w5, Ext [fb] w w5 → w5.cell? ((⟨ab, 0, none⟩ : Addr).add (k * 1)) = some (.pointer (some ⟨t.1, 0, none⟩)) := fun k t htk w5 hx => by
    refine hx.cell ?_ (by rw [add_block]; simpa using fun e => hF.ls.ne (Eq.symm e))
    rw [Nat.mul_one, cellOfRow hF.ls.row k]
    have : (ptrs ts).length = ts.length := by simp [ptrs]
    rw [List.getElem?_append_left (by rw [this]; exact (List.getElem?_eq_some_iff.1 htk).1)]
    simp [ptrs, htk]
  refine To.runF 19 [0] (fun _ _ => by kernel_rfl) fun f2 g2 l2 => ?_
  refine To.loop (fun i : NIx => L.length - i.1) (fun i => ([(1, .int .i32 act), (4, outVN ((L.take i.1).filter (hasAct act)).length i.2), (17, .slice (some ⟨ab, 0, none⟩) L.length cap), (18, .int .i64 (Int.ofNat L.length)), (19, .int .i64 (Int.ofNat i.1))], some ⟨fb, .cells ⟨lkCells d 1 0 (.slice (some ⟨ab, 0, none⟩) L.length cap)⟩ 73 (0, 0), true⟩ :: outBN 46 i.2))
    (fun i w1 => i.1 ≤ L.length ∧ OutInvN (fun _ => netI ts w) 2 46 w.heap.size ((L.take i.1).filter (hasAct act)) i.2 w1) (0, none) [0] (by kernel_rfl) (by kernel_rfl) (by kernel_rfl) rfl (fun _ _ => ⟨Nat.zero_le _, rfl⟩) ?_
  rintro ⟨k, _ | ⟨g, c, rest', css⟩⟩ w4 ⟨hk, hinv⟩ hx4 back
  · have hk : k ≤ L.length := hk
    have hnil : (L.take k).filter (hasAct act) = [] := hinv
    refine To.runF 5 [] (fun _ _ => by kernel_rfl) fun f3 g3 l3 => ?_
    by_cases hlt : k < L.length
    · obtain ⟨r, hr⟩ : ∃ r, L[k]? = some r := ⟨L[k], by simp [hlt]⟩
      obtain ⟨t, htk⟩ : ∃ t, ts[k]? = some t := ⟨ts[k]'(by rw [hF.ls.rules.len]; exact hlt), by simp [hF.ls.rules.len, hlt]⟩
      have hR := hF.ls.rules.at_ k t r htk hr
      have htm := List.mem_of_getElem? htk
      obtain ⟨⟨a1, _⟩, _, _⟩ := hF.ls.apart t htm
      obtain ⟨c1, c2, hblk, hc1, hc2⟩ := hR.ex
      have hst : L.take (k + 1) = L.take k ++ [r] := by rw [List.take_add_one, hr]; rfl
      refine To.testT (decide (Int.ofNat k < Int.ofNat L.length)) (by kernel_rfl) (decide_eq_true (Int.ofNat_lt.2 hlt)) ?_
      refine To.runF 5 [] (fun _ _ => by kernel_rfl) fun f4 g4 l4 => ?_
      refine To.indexAt elP (some ⟨ab, 0, none⟩) ⟨ab, 0, none⟩ L.length cap k (by kernel_rfl) rfl hlt ?_
      refine To.loadOne uP rfl ((⟨ab, 0, none⟩ : Addr).add (k * 1)) (.pointer (some ⟨t.1, 0, none⟩)) (by kernel_rfl) (fun w5 hw5 => hcell k t htk w5 hw5.ext) ?_
      refine To.runF 7 [] (fun _ _ => by kernel_rfl) fun f5 g5 l5 => ?_
      refine To.loadOne uI32 rfl ((⟨t.1, 0, none⟩ : Addr).add 2) (.int .i32 r.act) (by kernel_rfl) (fun w5 hw5 => hw5.ext.cell (cellOfRow hblk 2) (by rw [add_block]; simpa using a1)) ?_
      refine To.runF 3 [] (fun _ _ => by kernel_rfl) fun f6 g6 l6 => ?_
      by_cases hact : r.act = act
      · refine To.testT (r.act == act) (by kernel_rfl) (by simpa using hact) ?_
        refine To.runF 5 [] (fun _ _ => by kernel_rfl) fun f7 g7 l7 => ?_
        refine To.loadAgg (t := 46) (by kernel_rfl) 2 (by kernel_rfl) ⟨t.1, 0, none⟩ [Value.slice (some ⟨t.2.1, 0, none⟩) r.ip.length c1, Value.slice (some ⟨t.2.2, 0, none⟩) r.mask.length c2] rfl (by kernel_rfl) (fun w5 hw5 j v hj => hw5.ext.cell (by rw [cellOfRow hblk j]; rcases j with _ | _ | j; exact hj; exact hj; cases j <;> cases hj) (by rw [add_block]; simpa using a1)) ?_
        refine To.runF 1 [] (fun _ _ => by kernel_rfl) fun f8 g8 l8 => ?_
        have hft : (L.take (k + 1)).filter (hasAct act) = [r] := by rw [hst, List.filter_append, hnil]; simp [hasAct, hact]
        refine To.append0 (ty := 57) elN ⟨f8 0, 0, none⟩ 1 1 [Value.slice (some ⟨t.2.1, 0, none⟩) r.ip.length c1, Value.slice (some ⟨t.2.2, 0, none⟩) r.mask.length c2] (by kernel_rfl) rfl
          (fun w hw j u hj => hw.cellAt0 (j := 1) (b := f8 0) (l := [Value.slice (some ⟨t.2.1, 0, none⟩) r.ip.length c1, Value.slice (some ⟨t.2.2, 0, none⟩) r.mask.length c2]) (e := 46) (f := (0, 0)) (q := true) (by kernel_rfl) hj) (by decide) (by decide) (by decide) ?_
        intro g' c' r' hl' hc' hm' hg'
        refine To.runF 7 [] (fun _ _ => by kernel_rfl) fun f9 g9 l9 => ?_
        refine To.slotE 19 (.int .i64 (IntKind.i64.wrap (Int.ofNat k + 1))) (.int .i64 (Int.ofNat (k + 1))) (by kernel_rfl) (by rw [wrap_succ k (by omega)]) ?_
        refine To.slotE 4 (.slice (some ⟨g', 0, none⟩) 1 c') (.slice (some ⟨g', 0, none⟩) ((L.take (k + 1)).filter (hasAct act)).length c') (by kernel_rfl) (by rw [hft]; rfl) ?_
        have hlo' : w.heap.size ≤ g' := Nat.le_trans hx4.size hg'
        refine back _ _ (k + 1, some (g', c', r', [[Value.slice (some ⟨t.2.1, 0, none⟩) r.ip.length c1, Value.slice (some ⟨t.2.2, 0, none⟩) r.mask.length c2]])) [0, 2] (by simp only; omega) ⟨by kernel_rfl, by kernel_rfl, by kernel_rfl, by kernel_rfl, by kernel_rfl, rfl⟩ (fun w7 hw7 => ⟨hlt, ?_⟩)
        show RowN _ _ _ _ _ _ _ _ _ ((L.take (k + 1)).filter (hasAct act))
        rw [hft]
        exact RowN.one r _ rfl (hw7.blk (j := 2) (b := g') (o := .cells ⟨[Value.slice (some ⟨t.2.1, 0, none⟩) r.ip.length c1, Value.slice (some ⟨t.2.2, 0, none⟩) r.mask.length c2] ++ r'⟩ 46 (0, 0)) (q := true) (by kernel_rfl)) hl' hc' hm' hlo' ⟨t.2.1, t.2.2, c1, c2, rfl, hR.bi, hR.bm, ⟨t, htm, .inr (.inl rfl)⟩, ⟨t, htm, .inr (.inr rfl)⟩⟩
      · refine To.testF (r.act == act) (by kernel_rfl) (by simpa using hact) ?_
        refine To.runF 6 [] (fun _ _ => by kernel_rfl) fun f7 g7 l7 => ?_
        have hft : (L.take (k + 1)).filter (hasAct act) = [] := by rw [hst, List.filter_append, hnil]; simp [hasAct, hact]
        refine To.slotE 19 (.int .i64 (IntKind.i64.wrap (Int.ofNat k + 1))) (.int .i64 (Int.ofNat (k + 1))) (by kernel_rfl) (by rw [wrap_succ k (by omega)]) ?_
        exact back _ _ (k + 1, none) [0] (by simp only; omega) ⟨by kernel_rfl, by kernel_rfl, by kernel_rfl, by kernel_rfl, by kernel_rfl, rfl⟩ (fun w7 hw7 => ⟨hlt, hft⟩)
    · have hk1 : k = L.length := by omega
      subst hk1
      refine To.testF (decide (Int.ofNat L.length < Int.ofNat L.length)) (by kernel_rfl) (by simp) ?_
      refine To.runF 6 [] (fun _ _ => by kernel_rfl) fun f4 g4 l4 => ?_
      have hall : (L.take L.length).filter (hasAct act) = L.filter (hasAct act) := by rw [List.take_length]
      refine To.retDG ⟨.fn (.func 36) #[], #[.pointer (some ⟨fb, 1, none⟩)]⟩ (.func 36) #[] 36 #[.pointer (some ⟨fb, 1, none⟩)] (.slice none 0 0) (by kernel_rfl) rfl (fun _ => by kernel_rfl) (by kernel_rfl) (by kernel_rfl) (by kernel_rfl) (fun w9 hw9 => ?_)
      have hb9 := hw9.blk (j := 0) (b := fb) (o := (.cells ⟨lkCells d 1 0 (.slice (some ⟨ab, 0, none⟩) L.length cap)⟩ 73 (0, 0))) (q := true) (by kernel_rfl)
      have hx9 := hw9.ext
      clear hw9
      refine (runlock fb d _ w9 hb9).mono fun e u w10 ⟨h1, h2, h3, h4⟩ => ⟨h1, h2, _, rfl, hx9.trans h3, ⟨h4, hF.ls.turned (hx9.trans h3) h4 rfl⟩, ?_⟩
      rw [hall] at hnil
      exact .inl ⟨hnil, rfl⟩
  · have hk : k ≤ L.length := hk
    have hrow : RowN (fun _ => netI ts w) 2 46 w.heap.size w4 g c rest' css ((L.take k).filter (hasAct act)) := hinv
    refine To.runF 5 [] (fun _ _ => by kernel_rfl) fun f3 g3 l3 => ?_
    by_cases hlt : k < L.length
    · obtain ⟨r, hr⟩ : ∃ r, L[k]? = some r := ⟨L[k], by simp [hlt]⟩
      obtain ⟨t, htk⟩ : ∃ t, ts[k]? = some t := ⟨ts[k]'(by rw [hF.ls.rules.len]; exact hlt), by simp [hF.ls.rules.len, hlt]⟩
      have hR := hF.ls.rules.at_ k t r htk hr
      have htm := List.mem_of_getElem? htk
      obtain ⟨⟨a1, _⟩, _, _⟩ := hF.ls.apart t htm
      obtain ⟨c1, c2, hblk, hc1, hc2⟩ := hR.ex
      have hst : L.take (k + 1) = L.take k ++ [r] := by rw [List.take_add_one, hr]; rfl
      refine To.testT (decide (Int.ofNat k < Int.ofNat L.length)) (by kernel_rfl) (decide_eq_true (Int.ofNat_lt.2 hlt)) ?_
      refine To.runF 5 [] (fun _ _ => by kernel_rfl) fun f4 g4 l4 => ?_
      refine To.indexAt elP (some ⟨ab, 0, none⟩) ⟨ab, 0, none⟩ L.length cap k (by kernel_rfl) rfl hlt ?_
      refine To.loadOne uP rfl ((⟨ab, 0, none⟩ : Addr).add (k * 1)) (.pointer (some ⟨t.1, 0, none⟩)) (by kernel_rfl) (fun w5 hw5 => hcell k t htk w5 hw5.ext) ?_
      refine To.runF 7 [] (fun _ _ => by kernel_rfl) fun f5 g5 l5 => ?_
      refine To.loadOne uI32 rfl ((⟨t.1, 0, none⟩ : Addr).add 2) (.int .i32 r.act) (by kernel_rfl) (fun w5 hw5 => hw5.ext.cell (cellOfRow hblk 2) (by rw [add_block]; simpa using a1)) ?_
      refine To.runF 3 [] (fun _ _ => by kernel_rfl) fun f6 g6 l6 => ?_
      by_cases hact : r.act = act
      · refine To.testT (r.act == act) (by kernel_rfl) (by simpa using hact) ?_
        refine To.runF 5 [] (fun _ _ => by kernel_rfl) fun f7 g7 l7 => ?_
        refine To.loadAgg (t := 46) (by kernel_rfl) 2 (by kernel_rfl) ⟨t.1, 0, none⟩ [Value.slice (some ⟨t.2.1, 0, none⟩) r.ip.length c1, Value.slice (some ⟨t.2.2, 0, none⟩) r.mask.length c2] rfl (by kernel_rfl) (fun w5 hw5 j v hj => hw5.ext.cell (by rw [cellOfRow hblk j]; rcases j with _ | _ | j; exact hj; exact hj; cases j <;> cases hj) (by rw [add_block]; simpa using a1)) ?_
        refine To.runF 1 [] (fun _ _ => by kernel_rfl) fun f8 g8 l8 => ?_
        have hft : (L.take (k + 1)).filter (hasAct act) = (L.take k).filter (hasAct act) ++ [r] := by rw [hst, List.filter_append]; simp [hasAct, hact]
        have hul : ((L.take k).filter (hasAct act)).length ≤ 1000 := Nat.le_trans (List.length_filter_le _ _) (by rw [List.length_take]; omega)
        have hfe : (css ++ [[Value.slice (some ⟨t.2.1, 0, none⟩) r.ip.length c1, Value.slice (some ⟨t.2.2, 0, none⟩) r.mask.length c2]]).flatten = css.flatten ++ [Value.slice (some ⟨t.2.1, 0, none⟩) r.ip.length c1, Value.slice (some ⟨t.2.2, 0, none⟩) r.mask.length c2] := by simp
        refine To.appendE (ty := 57) elN 1 g ((L.take k).filter (hasAct act)).length c css.flatten rest' (some ⟨f8 0, 0, none⟩) 1 1 [Value.slice (some ⟨t.2.1, 0, none⟩) r.ip.length c1, Value.slice (some ⟨t.2.2, 0, none⟩) r.mask.length c2] (((L.take k).filter (hasAct act)).length + 1) (css ++ [[Value.slice (some ⟨t.2.1, 0, none⟩) r.ip.length c1, Value.slice (some ⟨t.2.2, 0, none⟩) r.mask.length c2]]).flatten
          (by kernel_rfl) (by kernel_rfl) rfl hfe (by rw [flat_length hrow.each, hrow.len]) hrow.room hrow.le hrow.cap rfl
          (fun w hw j u hj => ⟨_, rfl, hw.cellAt0 (j := 2) (b := f8 0) (l := [Value.slice (some ⟨t.2.1, 0, none⟩) r.ip.length c1, Value.slice (some ⟨t.2.2, 0, none⟩) r.mask.length c2]) (e := 46) (f := (0, 0)) (q := true) (by kernel_rfl) hj⟩) (fun h => by cases h)
          (by intro u hu; simp only [List.mem_cons, List.not_mem_nil, or_false] at hu; rcases hu with hu | hu <;> rw [hu] <;> rfl) (by simp only [maxLen]; omega) (by omega) (held_nil (by kernel_rfl)) ?_
        intro w5 w6 g' c' r' hw5 hg5 ho5 hl5 hc5 hm5
        refine To.runF 7 [] (fun _ _ => by kernel_rfl) fun f9 g9 l9 => ?_
        refine To.slotE 19 (.int .i64 (IntKind.i64.wrap (Int.ofNat k + 1))) (.int .i64 (Int.ofNat (k + 1))) (by kernel_rfl) (by rw [wrap_succ k (by omega)]) ?_
        refine To.slotE 4 (.slice (some ⟨g', 0, none⟩) (((L.take k).filter (hasAct act)).length + 1) c') (.slice (some ⟨g', 0, none⟩) ((L.take (k + 1)).filter (hasAct act)).length c') (by kernel_rfl) (by rw [hft, List.length_append]; rfl) ?_
        have hlo' : w.heap.size ≤ g' := by
          rcases ho5 with h | h
          · rw [h]; exact hrow.lo
          · rw [h]; exact hw5.ext.size
        refine back _ _ (k + 1, some (g', c', r', css ++ [[Value.slice (some ⟨t.2.1, 0, none⟩) r.ip.length c1, Value.slice (some ⟨t.2.2, 0, none⟩) r.mask.length c2]])) [0, 3] (by simp only; omega) ⟨by kernel_rfl, by kernel_rfl, by kernel_rfl, by kernel_rfl, by kernel_rfl, rfl⟩ (fun w7 hw7 => ⟨hlt, ?_⟩)
        show RowN _ _ _ _ _ _ _ _ _ ((L.take (k + 1)).filter (hasAct act))
        rw [hft]
        have hb7 := hw7.blk (j := 3) (b := g') (o := .cells ⟨(css ++ [[Value.slice (some ⟨t.2.1, 0, none⟩) r.ip.length c1, Value.slice (some ⟨t.2.2, 0, none⟩) r.mask.length c2]]).flatten ++ r'⟩ 46 (0, 0)) (q := true) (by kernel_rfl)
        rw [hfe] at hb7 hl5
        exact hrow.snoc r _ rfl hb7 hl5 hc5 hm5 hlo' ⟨t.2.1, t.2.2, c1, c2, rfl, hR.bi, hR.bm, ⟨t, htm, .inr (.inl rfl)⟩, ⟨t, htm, .inr (.inr rfl)⟩⟩ (fun y u _ h => h)
      · refine To.testF (r.act == act) (by kernel_rfl) (by simpa using hact) ?_
        refine To.runF 6 [] (fun _ _ => by kernel_rfl) fun f7 g7 l7 => ?_
        have hft : (L.take (k + 1)).filter (hasAct act) = (L.take k).filter (hasAct act) := by rw [hst, List.filter_append]; simp [hasAct, hact]
        refine To.slotE 19 (.int .i64 (IntKind.i64.wrap (Int.ofNat k + 1))) (.int .i64 (Int.ofNat (k + 1))) (by kernel_rfl) (by rw [wrap_succ k (by omega)]) ?_
        refine To.slotE 4 (.slice (some ⟨g, 0, none⟩) ((L.take k).filter (hasAct act)).length c) (.slice (some ⟨g, 0, none⟩) ((L.take (k + 1)).filter (hasAct act)).length c) (by kernel_rfl) (by rw [hft]) ?_
        refine back _ _ (k + 1, some (g, c, rest', css)) [0, 1] (by simp only; omega) ⟨by kernel_rfl, by kernel_rfl, by kernel_rfl, by kernel_rfl, by kernel_rfl, rfl⟩ (fun w7 hw7 => ⟨hlt, ?_⟩)
        show RowN _ _ _ _ _ _ _ _ _ ((L.take (k + 1)).filter (hasAct act))
        rw [hft]
        exact hrow.kept ((hw7.blk (j := 1) (b := g) (o := .cells ⟨css.flatten ++ rest'⟩ 46 (0, 0)) (q := true) (by kernel_rfl)).trans hrow.blk.symm) (fun y u _ h => h)
    · have hk1 : k = L.length := by omega
      subst hk1
      refine To.testF (decide (Int.ofNat L.length < Int.ofNat L.length)) (by kernel_rfl) (by simp) ?_
      refine To.runF 6 [] (fun _ _ => by kernel_rfl) fun f4 g4 l4 => ?_
      have hall : (L.take L.length).filter (hasAct act) = L.filter (hasAct act) := by rw [List.take_length]
      refine To.retDG ⟨.fn (.func 36) #[], #[.pointer (some ⟨fb, 1, none⟩)]⟩ (.func 36) #[] 36 #[.pointer (some ⟨fb, 1, none⟩)] (.slice (some ⟨g, 0, none⟩) ((L.take L.length).filter (hasAct act)).length c) (by kernel_rfl) rfl (fun _ => by kernel_rfl) (by kernel_rfl) (by kernel_rfl) (by kernel_rfl) (fun w9 hw9 => ?_)
      have hb9 := hw9.blk (j := 0) (b := fb) (o := (.cells ⟨lkCells d 1 0 (.slice (some ⟨ab, 0, none⟩) L.length cap)⟩ 73 (0, 0))) (q := true) (by kernel_rfl)
      have hg9 := hw9.blk (j := 1) (b := g) (o := .cells ⟨css.flatten ++ rest'⟩ 46 (0, 0)) (q := true) (by kernel_rfl)
      have n1 := hw9.tr.ne 0 1 ⟨fb, (.cells ⟨lkCells d 1 0 (.slice (some ⟨ab, 0, none⟩) L.length cap)⟩ 73 (0, 0)), true⟩ ⟨g, .cells ⟨css.flatten ++ rest'⟩ 46 (0, 0), true⟩ (by kernel_rfl) (by kernel_rfl) (by decide)
      simp only at n1
      have hx9 := hw9.ext
      clear hw9
      refine (runlock fb d _ w9 hb9).mono fun e u w10 ⟨h1, h2, h3, h4⟩ => ⟨h1, h2, _, rfl, hx9.trans h3, ⟨h4, hF.ls.turned (hx9.trans h3) h4 rfl⟩, ?_⟩
      rw [hall] at hrow ⊢
      exact .inr ⟨g, c, rest', css, rfl, hrow.kept ((h3.at hg9 (by simpa using fun e => n1 e.symm)).trans hrow.blk.symm) (fun y u _ h => h)⟩
end Go.Proofs.YtkhonkejebdcgaaGreatDoor
