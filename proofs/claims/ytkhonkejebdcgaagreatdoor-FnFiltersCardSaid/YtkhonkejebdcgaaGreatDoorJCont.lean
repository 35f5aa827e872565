/- Contains of a network, new filters, and the filter that is found. Conditions: as each says. -/
import Derived.Test.YtkhonkejebdcgaaGreatDoorJSml
/- Whether a network has an address. Conditions: a network whose bytes and mask lie in memory, an address that maps none. -/
namespace Go.Proofs.YtkhonkejebdcgaaGreatDoor
open Go Go.SX Go.IpText
set_option maxHeartbeats 8000000
set_option maxRecDepth 100000
theorem netNumber (ip mask : List UInt8) (p adi adm : Addr) (ci cm : Nat) (w : World) (hN : NetAt w p ip mask adi ci adm cm) (hnet : Net ip mask) :
    Calls Tryz.prog 59 #[.pointer (some p)] w (fun e w1 => ∃ v, e = .returned v ∧ Ext [] w w1 ∧ v = .tuple #[.slice (some adi) ip.length ci, .slice (some adm) mask.length cm]) := by
  refine calls_of0 (args := [.pointer (some p)]) Tryz.func59 rfl rfl rfl ?_
  obtain ⟨hc0, hc1, hbi, hbm, hci, hcm, _⟩ := hN
  have hlen := hnet.len
  have hsame := hnet.same
  refine To.runF 11 [] (fun _ _ => by kernel_rfl) fun f1 g1 l1 => ?_
  refine To.loadOne uIP rfl (p.add 0) (.slice (some adi) ip.length ci) (by kernel_rfl) (fun w2 hw2 => by rw [addz]; exact hw2.ext.cell hc0 (by simp)) ?_
  refine To.callN 60 #[.slice (some adi) ip.length ci] (by kernel_rfl) (fun _ => by kernel_rfl) (fun w2 hw2 => to4 ip (some adi) ci w2 (hbi.later hw2.ext) (by omega) hci hnet.plain) (fun w2 v2 w3 hw2 hx2 hv2 hnew2 hwi2 => ?_)
  by_cases h4 : ip.length = 4
  · rw [if_pos h4] at hv2
    subst hv2
    refine To.runF 14 [] (fun _ _ => by kernel_rfl) fun f2 g2 l2 => ?_
    refine To.loadOne uIM rfl (p.add 1) (.slice (some adm) mask.length cm) (by kernel_rfl) (fun w4 hw4 => hw4.ext.cell hc1 (by simp)) ?_
    refine To.runF 14 [] (fun _ _ => by kernel_rfl) fun f3 g3 l3 => ?_
    refine To.testT (Int.ofNat mask.length == 4) (by kernel_rfl) (by rw [hsame, h4]; rfl) ?_
    refine To.runF 6 [] (fun _ _ => by kernel_rfl) fun f4 g4 l4 => ?_
    refine To.testF (Int.ofNat ip.length != 4) (by kernel_rfl) (by rw [h4]; rfl) ?_
    refine To.runF 2 [] (fun _ _ => by kernel_rfl) fun f5 g5 l5 => ?_
    exact To.ret [] (.tuple #[.slice (some adi) ip.length ci, .slice (some adm) mask.length cm]) (by kernel_rfl) (by kernel_rfl) fun w9 hw9 => ⟨_, rfl, hw9.ext, rfl⟩
  · have h16 : ip.length = 16 := by omega
    rw [if_neg h4] at hv2
    subst hv2
    refine To.runF 13 [] (fun _ _ => by kernel_rfl) fun f2 g2 l2 => ?_
    refine To.loadOne uIP rfl (p.add 0) (.slice (some adi) ip.length ci) (by kernel_rfl) (fun w4 hw4 => by rw [addz]; exact hw4.ext.cell hc0 (by simp)) ?_
    refine To.runF 8 [] (fun _ _ => by kernel_rfl) fun f3 g3 l3 => ?_
    refine To.testF (Int.ofNat ip.length != 16) (by kernel_rfl) (by rw [h16]; rfl) ?_
    refine To.runF 6 [] (fun _ _ => by kernel_rfl) fun f4 g4 l4 => ?_
    refine To.loadOne uIM rfl (p.add 1) (.slice (some adm) mask.length cm) (by kernel_rfl) (fun w4 hw4 => hw4.ext.cell hc1 (by simp)) ?_
    refine To.runF 14 [] (fun _ _ => by kernel_rfl) fun f5 g5 l5 => ?_
    refine To.testF (Int.ofNat mask.length == 4) (by kernel_rfl) (by rw [hsame, h16]; rfl) ?_
    refine To.runF 5 [] (fun _ _ => by kernel_rfl) fun f6 g6 l6 => ?_
    refine To.testT (Int.ofNat mask.length == 16) (by kernel_rfl) (by rw [hsame, h16]; rfl) ?_
    refine To.runF 6 [] (fun _ _ => by kernel_rfl) fun f7 g7 l7 => ?_
    refine To.testF (Int.ofNat ip.length == 4) (by kernel_rfl) (by rw [h16]; rfl) ?_
    refine To.runF 2 [] (fun _ _ => by kernel_rfl) fun f8 g8 l8 => ?_
    exact To.ret [] (.tuple #[.slice (some adi) ip.length ci, .slice (some adm) mask.length cm]) (by kernel_rfl) (by kernel_rfl) fun w9 hw9 => ⟨_, rfl, hw9.ext, rfl⟩
/-- The network has the address. -/
def has (ip mask x : List UInt8) : Bool := decide (x.length = ip.length) && decide (masked x mask = ip)
theorem netContains (ip mask x : List UInt8) (p adi adm bd : Addr) (ci cm cb : Nat) (w : World) (hN : NetAt w p ip mask adi ci adm cm) (hnet : Net ip mask) (hx : BytesIn w (some bd) x) (hxl : x.length = 4 ∨ x.length = 16) (hcb : x.length ≤ cb) (hxm : mapped x = false) (hd1 : adi.block ≠ bd.block) (hd2 : adm.block ≠ bd.block) :
    Calls Tryz.prog 37 #[.pointer (some p), .slice (some bd) x.length cb] w (fun e w1 => ∃ v, e = .returned v ∧ Ext [] w w1 ∧ v = .bool (has ip mask x)) := by
  refine calls_of0 (args := [.pointer (some p), .slice (some bd) x.length cb]) Tryz.func37 rfl rfl rfl ?_
  have hlen := hnet.len
  have hsame := hnet.same
  obtain ⟨hc0, hc1, hbi, hbm, hci, hcm, hne⟩ := hN
  have cellsOf : ∀ {ad : Addr} {l : List UInt8}, BytesIn w (some ad) l → 0 < l.length → ∃ c e z, w.heap[ad.block]? = some (.cells c e z) ∧ ad.spot = none ∧ ∀ j (h : j < l.length), c[(ad.add (j * 1)).off]? = some (.int .u8 ((l[j]).toNat : Int)) := fun {ad l} hb h0 => by
    obtain ⟨ad', h1, h2⟩ := hb.one 0 h0
    cases h1
    obtain ⟨c, e, z, hB, _, _⟩ := block_of_cell h2
    rw [add_blk] at hB
    refine ⟨c, e, z, hB, ?_, fun j h => ?_⟩
    · have := World.cell?_spot h2
      simpa [Addr.add] using this
    · obtain ⟨ad2, h3, h4⟩ := hb.one j h
      cases h3
      exact cells_at hB (add_blk _ _) h4
  obtain ⟨c1, e1, z1, hB1, hs1, hP1⟩ := cellsOf hbi (by omega)
  obtain ⟨c2, e2, z2, hB2, hs2, hP2⟩ := cellsOf hbm (by omega)
  obtain ⟨c3, e3, z3, hB3, hs3, hP3⟩ := cellsOf hx (by omega)
  refine To.withAt adi.block (.cells c1 e1 z1) false hB1 (nums_all (Q := fun n => n ≠ adi.block) (l := []) (by kernel_rfl) trivial) (by simp) ?_
  refine To.withAt adm.block (.cells c2 e2 z2) false hB2 (nums_all (Q := fun n => n ≠ adm.block) (l := [some adi.block]) (by kernel_rfl) ⟨hne, trivial⟩) (by simp) ?_
  refine To.withAt bd.block (.cells c3 e3 z3) false hB3 (nums_all (Q := fun n => n ≠ bd.block) (l := [some adi.block, some adm.block]) (by kernel_rfl) ⟨hd1, hd2, trivial⟩) (by simp) ?_
  refine To.runF 7 [] (fun _ _ => by kernel_rfl) fun f1 g1 l1 => ?_
  refine To.callN 59 #[.pointer (some p)] (by kernel_rfl) (fun _ => by kernel_rfl) (fun w2 hw2 => netNumber ip mask p adi adm ci cm w2 (NetAt.later ⟨hc0, hc1, hbi, hbm, hci, hcm, hne⟩ hw2.ext) hnet) (fun w2 v2 w3 hw2 hx2 hv2 hnew2 hwi2 => ?_)
  subst hv2
  refine To.runF 10 [] (fun _ _ => by kernel_rfl) fun f2 g2 l2 => ?_
  refine To.callN 60 #[.slice (some bd) x.length cb] (by kernel_rfl) (fun _ => by kernel_rfl) (fun w4 hw4 => to4 x (some bd) cb w4 (hx.later hw4.ext) (by omega) hcb hxm) (fun w4 v4 w5 hw4 hx4 hv4 hnew4 hwi4 => ?_)
  by_cases h4 : x.length = 4
  · rw [if_pos h4] at hv4
    subst hv4
    refine To.runF 26 [] (fun _ _ => by kernel_rfl) fun f3 g3 l3 => ?_
    by_cases hxe : x.length = ip.length
    · refine To.testF (Int.ofNat x.length != Int.ofNat ip.length) (by kernel_rfl) (by rw [hxe]; simp) ?_
      refine To.runF 7 [] (fun _ _ => by kernel_rfl) fun f4 g4 l4 => ?_
      refine To.loop (fun k : Nat => x.length - k) (fun k => ([(1, .slice (some bd) x.length cb), (5, .slice (some adi) ip.length ci), (6, .slice (some adm) mask.length cm), (8, .int .i64 (Int.ofNat x.length)), (9, .int .i64 (Int.ofNat k))], [some ⟨adi.block, .cells c1 e1 z1, false⟩, some ⟨adm.block, .cells c2 e2 z2, false⟩, some ⟨bd.block, .cells c3 e3 z3, false⟩])) (fun k _ => k ≤ x.length ∧ ∀ j (h : j < k) (h1 : j < x.length) (h2 : j < ip.length) (h3 : j < mask.length), ip[j] &&& mask[j] = x[j] &&& mask[j]) 0 [0, 1, 2] (by kernel_rfl) (by kernel_rfl) (by kernel_rfl) rfl (fun _ _ => ⟨Nat.zero_le _, fun j h => by omega⟩) ?_
      rintro k w6 ⟨hk, hall⟩ hx6 back
      refine To.runF 7 [] (fun _ _ => by kernel_rfl) fun f5 g5 l5 => ?_
      by_cases hlt : k < x.length
      · refine To.testT (decide (Int.ofNat k < Int.ofNat x.length)) (by kernel_rfl) (decide_eq_true (Int.ofNat_lt.2 hlt)) ?_
        refine To.runF 13 [3, 0, 1, 2, 0, 0, 1, 4, 5, 9, 10, 13, 14] (fun _ _ => by kernel_rfl) fun f6 g6 l6 => ?_
        refine To.indexAtE 2 elIP (some adi) adi ip.length ci k (by kernel_rfl) rfl (by omega) ?_
        refine To.loadOneE 3 uU8 rfl (adi.add (k * 1)) (.int .u8 ((ip[k]'(by omega)).toNat : Int)) (by kernel_rfl) (fun w7 hw7 => SH.cell (j := 0) (b := adi.block) (c := c1) (e := e1) (z := z1) (q := false) hw7 (by kernel_rfl) (add_blk _ _) (spotadd hs1 _) (hP1 k (by omega))) ?_
        refine To.indexAtE 6 elIM (some adm) adm mask.length cm k (by kernel_rfl) rfl (by omega) ?_
        refine To.loadOneE 7 uU8 rfl (adm.add (k * 1)) (.int .u8 ((mask[k]'(by omega)).toNat : Int)) (by kernel_rfl) (fun w7 hw7 => SH.cell (j := 1) (b := adm.block) (c := c2) (e := e2) (z := z2) (q := false) hw7 (by kernel_rfl) (add_blk _ _) (spotadd hs2 _) (hP2 k (by omega))) ?_
        refine To.indexAtE 11 elIP (some bd) bd x.length cb k (by kernel_rfl) rfl (by omega) ?_
        refine To.loadOneE 12 uU8 rfl (bd.add (k * 1)) (.int .u8 ((x[k]'(by omega)).toNat : Int)) (by kernel_rfl) (fun w7 hw7 => SH.cell (j := 2) (b := bd.block) (c := c3) (e := e3) (z := z3) (q := false) hw7 (by kernel_rfl) (add_blk _ _) (spotadd hs3 _) (hP3 k (by omega))) ?_
        refine To.indexAtE 15 elIM (some adm) adm mask.length cm k (by kernel_rfl) rfl (by omega) ?_
        refine To.loadOneE 16 uU8 rfl (adm.add (k * 1)) (.int .u8 ((mask[k]'(by omega)).toNat : Int)) (by kernel_rfl) (fun w7 hw7 => SH.cell (j := 1) (b := adm.block) (c := c2) (e := e2) (z := z2) (q := false) hw7 (by kernel_rfl) (add_blk _ _) (spotadd hs2 _) (hP2 k (by omega))) ?_
        refine To.runF 4 [8] (fun _ _ => by kernel_rfl) fun f7 g7 l7 => ?_
        by_cases hkk : (ip[k]'(by omega)) &&& (mask[k]'(by omega)) = x[k] &&& (mask[k]'(by omega))
        · refine To.testF (IntKind.u8.wrap (((BitVec.ofInt IntKind.u8.bits ((ip[k]'(by omega)).toNat : Int) &&& BitVec.ofInt IntKind.u8.bits ((mask[k]'(by omega)).toNat : Int)).toNat : Nat) : Int) != IntKind.u8.wrap (((BitVec.ofInt IntKind.u8.bits ((x[k]'(by omega)).toNat : Int) &&& BitVec.ofInt IntKind.u8.bits ((mask[k]'(by omega)).toNat : Int)).toNat : Nat) : Int)) (by kernel_rfl) (by rw [and8, and8, hkk]; simp) ?_
          refine To.runF 7 [] (fun _ _ => by kernel_rfl) fun f8 g8 l8 => ?_
          refine To.slotE 9 (.int .i64 (IntKind.i64.wrap (Int.ofNat k + 1))) (.int .i64 (Int.ofNat (k + 1))) (by kernel_rfl) (by rw [wrap_succ k (by omega)]) ?_
          exact back _ _ (k + 1) [0, 1, 2] (by omega) ⟨by kernel_rfl, by kernel_rfl, by kernel_rfl, by kernel_rfl, by kernel_rfl, rfl⟩ (fun w7 hw7 => ⟨hlt, fun j hj h1 h2 h3 => by
            by_cases hjk : j = k
            · subst hjk; exact hkk
            · exact hall j (by omega) h1 h2 h3⟩)
        · refine To.testT (IntKind.u8.wrap (((BitVec.ofInt IntKind.u8.bits ((ip[k]'(by omega)).toNat : Int) &&& BitVec.ofInt IntKind.u8.bits ((mask[k]'(by omega)).toNat : Int)).toNat : Nat) : Int) != IntKind.u8.wrap (((BitVec.ofInt IntKind.u8.bits ((x[k]'(by omega)).toNat : Int) &&& BitVec.ofInt IntKind.u8.bits ((mask[k]'(by omega)).toNat : Int)).toNat : Nat) : Int)) (by kernel_rfl) (by
            rw [and8, and8, bne_iff_ne]
            intro he
            exact hkk (UInt8.toNat_inj.1 (by omega))) ?_
          have hno : has ip mask x = false := by
            unfold has
            have e2 : masked x mask ≠ ip := fun e => by
              apply hkk
              have e3 : masked x mask = masked ip mask := e.trans hnet.fits.symm
              have e4 := congrArg (·[k]?) e3
              unfold masked at e4
              rw [List.getElem?_zipWith, List.getElem?_zipWith, List.getElem?_eq_getElem hlt, List.getElem?_eq_getElem (show k < mask.length by omega), List.getElem?_eq_getElem (show k < ip.length by omega)] at e4
              simpa using e4.symm
            rw [decide_eq_false e2, Bool.and_false]
          refine To.runF 4 [] (fun _ _ => by kernel_rfl) fun f8 g8 l8 => ?_
          exact To.ret [] (.bool false) (by kernel_rfl) (by kernel_rfl) fun w9 hw9 => ⟨_, rfl, hw9.ext, by rw [hno]⟩
      · have hk1 : k = x.length := by omega
        subst hk1
        refine To.testF (decide (Int.ofNat x.length < Int.ofNat x.length)) (by kernel_rfl) (by simp) ?_
        have hhas : has ip mask x = true := by
          unfold has
          have e2 : masked x mask = ip := by
            rw [← hnet.fits]
            unfold masked
            apply List.ext_getElem (by simp; omega)
            intro j h1 h2
            simp only [List.length_zipWith] at h1 h2
            simp only [List.getElem_zipWith]
            exact (hall j (by omega) (by omega) (by omega) (by omega)).symm
          simp [hxe, e2]
        refine To.runF 5 [] (fun _ _ => by kernel_rfl) fun f6 g6 l6 => ?_
        exact To.ret [] (.bool true) (by kernel_rfl) (by kernel_rfl) fun w9 hw9 => ⟨_, rfl, hw9.ext, by rw [hhas]⟩
    · refine To.testT (Int.ofNat x.length != Int.ofNat ip.length) (by kernel_rfl) (by simp only [Int.ofNat_eq_natCast, bne_iff_ne, ne_eq]; omega) ?_
      refine To.runF 4 [] (fun _ _ => by kernel_rfl) fun f4 g4 l4 => ?_
      exact To.ret [] (.bool false) (by kernel_rfl) (by kernel_rfl) fun w9 hw9 => ⟨_, rfl, hw9.ext, by unfold has; rw [decide_eq_false hxe, Bool.false_and]⟩
  · rw [if_neg h4] at hv4
    subst hv4
    refine To.runF 23 [] (fun _ _ => by kernel_rfl) fun f3 g3 l3 => ?_
    by_cases hxe : x.length = ip.length
    · refine To.testF (Int.ofNat x.length != Int.ofNat ip.length) (by kernel_rfl) (by rw [hxe]; simp) ?_
      refine To.runF 7 [] (fun _ _ => by kernel_rfl) fun f4 g4 l4 => ?_
      refine To.loop (fun k : Nat => x.length - k) (fun k => ([(1, .slice (some bd) x.length cb), (5, .slice (some adi) ip.length ci), (6, .slice (some adm) mask.length cm), (8, .int .i64 (Int.ofNat x.length)), (9, .int .i64 (Int.ofNat k))], [some ⟨adi.block, .cells c1 e1 z1, false⟩, some ⟨adm.block, .cells c2 e2 z2, false⟩, some ⟨bd.block, .cells c3 e3 z3, false⟩])) (fun k _ => k ≤ x.length ∧ ∀ j (h : j < k) (h1 : j < x.length) (h2 : j < ip.length) (h3 : j < mask.length), ip[j] &&& mask[j] = x[j] &&& mask[j]) 0 [0, 1, 2] (by kernel_rfl) (by kernel_rfl) (by kernel_rfl) rfl (fun _ _ => ⟨Nat.zero_le _, fun j h => by omega⟩) ?_
      rintro k w6 ⟨hk, hall⟩ hx6 back
      refine To.runF 7 [] (fun _ _ => by kernel_rfl) fun f5 g5 l5 => ?_
      by_cases hlt : k < x.length
      · refine To.testT (decide (Int.ofNat k < Int.ofNat x.length)) (by kernel_rfl) (decide_eq_true (Int.ofNat_lt.2 hlt)) ?_
        refine To.runF 13 [3, 0, 1, 2, 0, 0, 1, 4, 5, 9, 10, 13, 14] (fun _ _ => by kernel_rfl) fun f6 g6 l6 => ?_
        refine To.indexAtE 2 elIP (some adi) adi ip.length ci k (by kernel_rfl) rfl (by omega) ?_
        refine To.loadOneE 3 uU8 rfl (adi.add (k * 1)) (.int .u8 ((ip[k]'(by omega)).toNat : Int)) (by kernel_rfl) (fun w7 hw7 => SH.cell (j := 0) (b := adi.block) (c := c1) (e := e1) (z := z1) (q := false) hw7 (by kernel_rfl) (add_blk _ _) (spotadd hs1 _) (hP1 k (by omega))) ?_
        refine To.indexAtE 6 elIM (some adm) adm mask.length cm k (by kernel_rfl) rfl (by omega) ?_
        refine To.loadOneE 7 uU8 rfl (adm.add (k * 1)) (.int .u8 ((mask[k]'(by omega)).toNat : Int)) (by kernel_rfl) (fun w7 hw7 => SH.cell (j := 1) (b := adm.block) (c := c2) (e := e2) (z := z2) (q := false) hw7 (by kernel_rfl) (add_blk _ _) (spotadd hs2 _) (hP2 k (by omega))) ?_
        refine To.indexAtE 11 elIP (some bd) bd x.length cb k (by kernel_rfl) rfl (by omega) ?_
        refine To.loadOneE 12 uU8 rfl (bd.add (k * 1)) (.int .u8 ((x[k]'(by omega)).toNat : Int)) (by kernel_rfl) (fun w7 hw7 => SH.cell (j := 2) (b := bd.block) (c := c3) (e := e3) (z := z3) (q := false) hw7 (by kernel_rfl) (add_blk _ _) (spotadd hs3 _) (hP3 k (by omega))) ?_
        refine To.indexAtE 15 elIM (some adm) adm mask.length cm k (by kernel_rfl) rfl (by omega) ?_
        refine To.loadOneE 16 uU8 rfl (adm.add (k * 1)) (.int .u8 ((mask[k]'(by omega)).toNat : Int)) (by kernel_rfl) (fun w7 hw7 => SH.cell (j := 1) (b := adm.block) (c := c2) (e := e2) (z := z2) (q := false) hw7 (by kernel_rfl) (add_blk _ _) (spotadd hs2 _) (hP2 k (by omega))) ?_
        refine To.runF 4 [8] (fun _ _ => by kernel_rfl) fun f7 g7 l7 => ?_
        by_cases hkk : (ip[k]'(by omega)) &&& (mask[k]'(by omega)) = x[k] &&& (mask[k]'(by omega))
        · refine To.testF (IntKind.u8.wrap (((BitVec.ofInt IntKind.u8.bits ((ip[k]'(by omega)).toNat : Int) &&& BitVec.ofInt IntKind.u8.bits ((mask[k]'(by omega)).toNat : Int)).toNat : Nat) : Int) != IntKind.u8.wrap (((BitVec.ofInt IntKind.u8.bits ((x[k]'(by omega)).toNat : Int) &&& BitVec.ofInt IntKind.u8.bits ((mask[k]'(by omega)).toNat : Int)).toNat : Nat) : Int)) (by kernel_rfl) (by rw [and8, and8, hkk]; simp) ?_
          refine To.runF 7 [] (fun _ _ => by kernel_rfl) fun f8 g8 l8 => ?_
          refine To.slotE 9 (.int .i64 (IntKind.i64.wrap (Int.ofNat k + 1))) (.int .i64 (Int.ofNat (k + 1))) (by kernel_rfl) (by rw [wrap_succ k (by omega)]) ?_
          exact back _ _ (k + 1) [0, 1, 2] (by omega) ⟨by kernel_rfl, by kernel_rfl, by kernel_rfl, by kernel_rfl, by kernel_rfl, rfl⟩ (fun w7 hw7 => ⟨hlt, fun j hj h1 h2 h3 => by
            by_cases hjk : j = k
            · subst hjk; exact hkk
            · exact hall j (by omega) h1 h2 h3⟩)
        · refine To.testT (IntKind.u8.wrap (((BitVec.ofInt IntKind.u8.bits ((ip[k]'(by omega)).toNat : Int) &&& BitVec.ofInt IntKind.u8.bits ((mask[k]'(by omega)).toNat : Int)).toNat : Nat) : Int) != IntKind.u8.wrap (((BitVec.ofInt IntKind.u8.bits ((x[k]'(by omega)).toNat : Int) &&& BitVec.ofInt IntKind.u8.bits ((mask[k]'(by omega)).toNat : Int)).toNat : Nat) : Int)) (by kernel_rfl) (by
            rw [and8, and8, bne_iff_ne]
            intro he
            exact hkk (UInt8.toNat_inj.1 (by omega))) ?_
          have hno : has ip mask x = false := by
            unfold has
            have e2 : masked x mask ≠ ip := fun e => by
              apply hkk
              have e3 : masked x mask = masked ip mask := e.trans hnet.fits.symm
              have e4 := congrArg (·[k]?) e3
              unfold masked at e4
              rw [List.getElem?_zipWith, List.getElem?_zipWith, List.getElem?_eq_getElem hlt, List.getElem?_eq_getElem (show k < mask.length by omega), List.getElem?_eq_getElem (show k < ip.length by omega)] at e4
              simpa using e4.symm
            rw [decide_eq_false e2, Bool.and_false]
          refine To.runF 4 [] (fun _ _ => by kernel_rfl) fun f8 g8 l8 => ?_
          exact To.ret [] (.bool false) (by kernel_rfl) (by kernel_rfl) fun w9 hw9 => ⟨_, rfl, hw9.ext, by rw [hno]⟩
      · have hk1 : k = x.length := by omega
        subst hk1
        refine To.testF (decide (Int.ofNat x.length < Int.ofNat x.length)) (by kernel_rfl) (by simp) ?_
        have hhas : has ip mask x = true := by
          unfold has
          have e2 : masked x mask = ip := by
            rw [← hnet.fits]
            unfold masked
            apply List.ext_getElem (by simp; omega)
            intro j h1 h2
            simp only [List.length_zipWith] at h1 h2
            simp only [List.getElem_zipWith]
            exact (hall j (by omega) (by omega) (by omega) (by omega)).symm
          simp [hxe, e2]
        refine To.runF 5 [] (fun _ _ => by kernel_rfl) fun f6 g6 l6 => ?_
        exact To.ret [] (.bool true) (by kernel_rfl) (by kernel_rfl) fun w9 hw9 => ⟨_, rfl, hw9.ext, by rw [hhas]⟩
    · refine To.testT (Int.ofNat x.length != Int.ofNat ip.length) (by kernel_rfl) (by simp only [Int.ofNat_eq_natCast, bne_iff_ne, ne_eq]; omega) ?_
      refine To.runF 4 [] (fun _ _ => by kernel_rfl) fun f4 g4 l4 => ?_
      exact To.ret [] (.bool false) (by kernel_rfl) (by kernel_rfl) fun w9 hw9 => ⟨_, rfl, hw9.ext, by unfold has; rw [decide_eq_false hxe, Bool.false_and]⟩
end Go.Proofs.YtkhonkejebdcgaaGreatDoor
/- A new list of filters; a network made of bytes. Conditions: as each says. -/
namespace Go.Proofs.YtkhonkejebdcgaaGreatDoor
open Go Go.SX Go.IpText
set_option maxHeartbeats 8000000
set_option maxRecDepth 100000
/-- The cells of a list of filters that nobody holds. -/
def fsCells (d : Int) (v : Value) : List Value := [.int .i32 d, .int .i32 0, .int .u32 0, .int .u32 0, .int .u32 0, .int .i32 0, .int .i32 0, v]
theorem newFilters (w : World) : Calls Tryz.prog 14 #[] w (fun e w1 => ∃ v, e = .returned v ∧ Ext [] w w1 ∧ ∃ fb ab, v = .pointer (some ⟨fb, 0, none⟩) ∧ fb ≠ ab ∧ w.heap.size ≤ fb ∧ w.heap.size ≤ ab ∧
    w1.heap[fb]? = some (.cells ⟨fsCells 1 (.slice (some ⟨ab, 0, none⟩) 0 0)⟩ 73 (0, 0)) ∧ w1.heap[ab]? = some (.cells ⟨[]⟩ 82 (0, 0))) := by
  refine calls_of0 (args := []) Tryz.func14 rfl rfl rfl ?_
  refine To.runF 11 [] (fun _ _ => by kernel_rfl) fun f1 g1 l1 => ?_
  exact To.ret [0, 0] (.pointer (some ⟨f1 1, 0, none⟩)) (by kernel_rfl) (by kernel_rfl) fun w4 hw4 => ⟨_, rfl, hw4.ext, f1 1, f1 0, rfl, fun h => by
    have e1 := hw4.blk (j := 1) (b := f1 1) (o := .cells ⟨fsCells 1 (.slice (some ⟨f1 0, 0, none⟩) 0 0)⟩ 73 (0, 0)) (q := true) (by kernel_rfl)
    have e0 := hw4.blk (j := 0) (b := f1 0) (o := .cells ⟨[]⟩ 82 (0, 0)) (q := true) (by kernel_rfl)
    rw [h, e0] at e1
    simp [fsCells] at e1, hw4.new (j := 1) (b := f1 1) (o := .cells ⟨fsCells 1 (.slice (some ⟨f1 0, 0, none⟩) 0 0)⟩ 73 (0, 0)) (by kernel_rfl), hw4.new (j := 0) (b := f1 0) (o := .cells ⟨[]⟩ 82 (0, 0)) (by kernel_rfl),
    hw4.blk (j := 1) (b := f1 1) (o := .cells ⟨fsCells 1 (.slice (some ⟨f1 0, 0, none⟩) 0 0)⟩ 73 (0, 0)) (q := true) (by kernel_rfl), hw4.blk (j := 0) (b := f1 0) (o := .cells ⟨[]⟩ 82 (0, 0)) (q := true) (by kernel_rfl)⟩
theorem bytesOfRest {w : World} {g e : Nat} {l : List UInt8} {rest : List Value} (h : w.heap[g]? = some (.cells ⟨ucells l ++ rest⟩ e (0, 0))) : BytesIn w (some ⟨g, 0, none⟩) l := by
  refine ⟨fun j u hj => ⟨_, rfl, ?_⟩, fun e => by cases e⟩
  have hjl := (List.getElem?_eq_some_iff.1 hj).1
  rw [show (⟨g, 0, none⟩ : Addr).add j = ⟨g, j, none⟩ by unfold Addr.add; split <;> simp_all]
  rw [cell_of_row w g j _ _ (0, 0) h]
  have hl : (ucells l).length = l.length := by simp [ucells]
  simp only [List.getElem?_toArray]
  rw [List.getElem?_append_left (by omega)]
  simp [ucells, hj]
abbrev IPNetPost (ip mask : List UInt8) (w : World) (e : Ending) (w1 : World) : Prop := ∃ v, e = .returned v ∧ Ext [] w w1 ∧ ∃ gi gm ci cm, v = .agg #[.slice (some ⟨gi, 0, none⟩) ip.length ci, .slice (some ⟨gm, 0, none⟩) mask.length cm] ∧ gi ≠ gm ∧ w.heap.size ≤ gi ∧ w.heap.size ≤ gm ∧ ip.length ≤ ci ∧ mask.length ≤ cm ∧ BytesIn w1 (some ⟨gi, 0, none⟩) ip ∧ BytesIn w1 (some ⟨gm, 0, none⟩) mask
theorem ipNet (ip mask : List UInt8) (a b : Option Addr) (ca cb : Nat) (w : World) (hi : BytesIn w a ip) (hm : BytesIn w b mask) (hil : ip.length ≤ 2147483647) (hml : mask.length ≤ 2147483647) :
    Calls Tryz.prog 15 #[.slice a ip.length ca, .slice b mask.length cb] w (IPNetPost ip mask w) := by
  refine calls_of0 (args := [.slice a ip.length ca, .slice b mask.length cb]) Tryz.func15 rfl rfl rfl ?_
  refine To.runF 8 [] (fun _ _ => by kernel_rfl) fun f1 g1 l1 => ?_
  refine To.append2 (ty := 43) elIP uBytes 1 (f1 1) 0 0 [] [] a ip.length ca (ucells ip) (by kernel_rfl) (by kernel_rfl) rfl rfl (Nat.le_refl _) (by decide) (by simp [ucells]) (fun w2 hw2 j u hj => (hi.later hw2.ext).cells j u hj) (fun e => by rw [hi.none e]; rfl) (fun u hu => by
    unfold ucells at hu; obtain ⟨x, _, rfl⟩ := List.mem_map.1 hu; rfl) (by simp only [maxLen]; omega) (by omega) (fun _ _ => held_none9 (by kernel_rfl)) ?_
  intro w2 w3 gi ci resti hw2 hg2 hgi hri hci1 hci2
  have hgi2 : w.heap.size ≤ gi := by
    rcases hgi with h | h
    · rw [h]; exact l1 1
    · rw [h]; exact hw2.ext.size
  refine To.runF 2 [] (fun _ _ => by kernel_rfl) fun f2 g2 l2 => ?_
  refine To.append2 (ty := 44) elIM uBytes 3 (f2 0) 0 0 [] [] b mask.length cb (ucells mask) (by kernel_rfl) (by kernel_rfl) rfl rfl (Nat.le_refl _) (by decide) (by simp [ucells]) (fun w4 hw4 j u hj => (hm.later hw4.ext).cells j u hj) (fun e => by rw [hm.none e]; rfl) (fun u hu => by
    unfold ucells at hu; obtain ⟨x, _, rfl⟩ := List.mem_map.1 hu; rfl) (by simp only [maxLen]; omega) (by omega) (fun _ _ => held_none9 (by kernel_rfl)) ?_
  intro w4 w5 gm cm restm hw4 hg4 hgm hrm hcm1 hcm2
  refine To.runF 3 [0, 0] (fun _ _ => by kernel_rfl) fun f3 g3 l3 => ?_
  refine To.ret [0, 0] (.agg #[.slice (some ⟨gi, 0, none⟩) (0 + ip.length) ci, .slice (some ⟨gm, 0, none⟩) (0 + mask.length) cm]) (by kernel_rfl) (by kernel_rfl) fun w9 hw9 => ⟨_, rfl, hw9.ext, gi, gm, ci, cm, by rw [Nat.zero_add, Nat.zero_add],
    hw9.tr.ne 2 4 ⟨gi, .cells ⟨[] ++ ucells ip ++ resti⟩ 5 (0, 0), true⟩ ⟨gm, .cells ⟨[] ++ ucells mask ++ restm⟩ 5 (0, 0), true⟩ (by kernel_rfl) (by kernel_rfl) (by decide), hgi2, ?_, by omega, by omega,
    bytesOfRest (rest := resti) (hw9.blk (j := 2) (b := gi) (o := .cells ⟨[] ++ ucells ip ++ resti⟩ 5 (0, 0)) (q := true) (by kernel_rfl)), bytesOfRest (rest := restm) (hw9.blk (j := 4) (b := gm) (o := .cells ⟨[] ++ ucells mask ++ restm⟩ 5 (0, 0)) (q := true) (by kernel_rfl))⟩
  rcases hgm with h | h
  · rw [h]; exact Nat.le_trans (Nat.le_trans hw2.ext.size hg2.size) (l2 0)
  · rw [h]; exact hw4.ext.size
end Go.Proofs.YtkhonkejebdcgaaGreatDoor
/- Where a network stands in a list of filters. Conditions: the list lies in memory. -/
namespace Go.Proofs.YtkhonkejebdcgaaGreatDoor
open Go Go.SX Go.IpText
set_option maxHeartbeats 8000000
set_option maxRecDepth 100000
/-- A rule: a network and an action. -/
structure Rule where
  ip : List UInt8
  mask : List UInt8
  act : Int
theorem elP : Elem Tryz.prog 71 82 1 8 := Elem.of (z := .pointer none) (by kernel_rfl) (by kernel_rfl) rfl
theorem uP : Tryz.prog.underlying 82 = some (.pointer 86) := by kernel_rfl
/-- A rule lies in block pb, the bytes of its network in gi, the mask in gm. -/
structure RuleAt (w : World) (pb gi gm : Nat) (r : Rule) : Prop where
  ex : ∃ ci cm, w.heap[pb]? = some (.cells ⟨[.slice (some ⟨gi, 0, none⟩) r.ip.length ci, .slice (some ⟨gm, 0, none⟩) r.mask.length cm, .int .i32 r.act]⟩ 86 (0, 0)) ∧ r.ip.length ≤ ci ∧ r.mask.length ≤ cm
  bi : BytesIn w (some ⟨gi, 0, none⟩) r.ip
  bm : BytesIn w (some ⟨gm, 0, none⟩) r.mask
  ne : gi ≠ gm
  net : Net r.ip r.mask
theorem RuleAt.later {w w' : World} {pb gi gm : Nat} {r : Rule} (h : RuleAt w pb gi gm r) (hx : Ext [] w w') : RuleAt w' pb gi gm r :=
  let ⟨ci, cm, h1, h2, h3⟩ := h.ex; ⟨⟨ci, cm, hx.at h1 (by simp), h2, h3⟩, h.bi.later hx, h.bm.later hx, h.ne, h.net⟩
theorem cellOfRow {w : World} {g : Nat} {l : List Value} {e : TypeId} {z : Nat × Nat} (h : w.heap[g]? = some (.cells ⟨l⟩ e z)) (j : Nat) : w.cell? ((⟨g, 0, none⟩ : Addr).add j) = l[j]? := by
  rw [show (⟨g, 0, none⟩ : Addr).add j = ⟨g, j, none⟩ by unfold Addr.add; split <;> simp_all]
  rw [cell_of_row w g j _ _ z h]; simp
theorem RuleAt.netAt {w : World} {pb gi gm : Nat} {r : Rule} (h : RuleAt w pb gi gm r) : ∃ ci cm, NetAt w ⟨pb, 0, none⟩ r.ip r.mask ⟨gi, 0, none⟩ ci ⟨gm, 0, none⟩ cm := by
  obtain ⟨ci, cm, h1, h2, h3⟩ := h.ex
  refine ⟨ci, cm, ?_, ?_, h.bi, h.bm, h2, h3, h.ne⟩
  · have := cellOfRow h1 0; exact this
  · have := cellOfRow h1 1; exact this
/-- Rules lie in these blocks. -/
structure RulesAt (w : World) (ts : List (Nat × Nat × Nat)) (L : List Rule) : Prop where
  len : ts.length = L.length
  at_ : ∀ (j : Nat) (t : Nat × Nat × Nat) (r : Rule), ts[j]? = some t → L[j]? = some r → RuleAt w t.1 t.2.1 t.2.2 r
theorem RulesAt.later {w w' : World} {ts : List (Nat × Nat × Nat)} {L : List Rule} (h : RulesAt w ts L) (hx : Ext [] w w') : RulesAt w' ts L :=
  ⟨h.len, fun j t r h1 h2 => (h.at_ j t r h1 h2).later hx⟩
def ptrs (ts : List (Nat × Nat × Nat)) : List Value := ts.map fun t => .pointer (some ⟨t.1, 0, none⟩)
/-- The rules of a list of filters. -/
structure LsAt (w : World) (fb ab cap : Nat) (rest : List Value) (ts : List (Nat × Nat × Nat)) (L : List Rule) : Prop where
  cell : w.cell? ((⟨fb, 0, none⟩ : Addr).add 7) = some (.slice (some ⟨ab, 0, none⟩) L.length cap)
  row : w.heap[ab]? = some (.cells ⟨ptrs ts ++ rest⟩ 82 (0, 0))
  rules : RulesAt w ts L
  cap_ : (ptrs ts ++ rest).length = cap
  ne : fb ≠ ab
  apart : ∀ t ∈ ts, (t.1 ≠ fb ∧ t.1 ≠ ab) ∧ (t.2.1 ≠ fb ∧ t.2.1 ≠ ab) ∧ (t.2.2 ≠ fb ∧ t.2.2 ≠ ab)
  max : cap ≤ maxLen
/-- The blocks of a list of filters. -/
def Foot (fb ab : Nat) (ts : List (Nat × Nat × Nat)) (b : Nat) : Prop := b = fb ∨ b = ab ∨ ∃ t ∈ ts, b = t.1 ∨ b = t.2.1 ∨ b = t.2.2
def FootR (ts : List (Nat × Nat × Nat)) (b : Nat) : Prop := ∃ t ∈ ts, b = t.1 ∨ b = t.2.1 ∨ b = t.2.2
theorem BytesIn.kept {Q : Nat → Prop} {w w' : World} {a : Option Addr} {l : List UInt8} (h : BytesIn w a l) (hk : Kept Q w w') (hq : ∀ ad, a = some ad → Q ad.block) : BytesIn w' a l :=
  ⟨fun j u hj => let ⟨ad, h1, h2⟩ := h.at_ j u hj; ⟨ad, h1, hk.cell (by rw [show (ad.add j).block = ad.block by unfold Addr.add; split <;> rfl]; exact hq ad h1) h2⟩, h.none⟩
theorem RuleAt.kept {Q : Nat → Prop} {w w' : World} {pb gi gm : Nat} {r : Rule} (h : RuleAt w pb gi gm r) (hk : Kept Q w w') (h1 : Q pb) (h2 : Q gi) (h3 : Q gm) : RuleAt w' pb gi gm r :=
  let ⟨ci, cm, e1, e2, e3⟩ := h.ex; ⟨⟨ci, cm, hk _ _ h1 e1, e2, e3⟩, h.bi.kept hk (fun ad e => by cases e; exact h2), h.bm.kept hk (fun ad e => by cases e; exact h3), h.ne, h.net⟩
theorem RulesAt.kept {w w' : World} {ts : List (Nat × Nat × Nat)} {L : List Rule} (h : RulesAt w ts L) (hk : Kept (FootR ts) w w') : RulesAt w' ts L :=
  ⟨h.len, fun j t r h1 h2 => (h.at_ j t r h1 h2).kept hk ⟨t, List.mem_of_getElem? h1, .inl rfl⟩ ⟨t, List.mem_of_getElem? h1, .inr (.inl rfl)⟩ ⟨t, List.mem_of_getElem? h1, .inr (.inr rfl)⟩⟩
theorem LsAt.later {w w' : World} {fb ab cap : Nat} {rest : List Value} {ts : List (Nat × Nat × Nat)} {L : List Rule} (h : LsAt w fb ab cap rest ts L) (hx : Ext [] w w') : LsAt w' fb ab cap rest ts L :=
  ⟨hx.cell h.cell (by simp), hx.at h.row (by simp), h.rules.later hx, h.cap_, h.ne, h.apart, h.max⟩
/-- A list of filters that nobody holds: its default action, its rules. -/
structure FsAt (w : World) (fb ab cap : Nat) (rest : List Value) (ts : List (Nat × Nat × Nat)) (d : Int) (L : List Rule) : Prop where
  blk : w.heap[fb]? = some (.cells ⟨fsCells d (.slice (some ⟨ab, 0, none⟩) L.length cap)⟩ 73 (0, 0))
  ls : LsAt w fb ab cap rest ts L
theorem FsAt.later {w w' : World} {fb ab cap : Nat} {rest : List Value} {ts : List (Nat × Nat × Nat)} {d : Int} {L : List Rule} (h : FsAt w fb ab cap rest ts d L) (hx : Ext [] w w') : FsAt w' fb ab cap rest ts d L :=
  ⟨hx.at h.blk (by simp), h.ls.later hx⟩
/-- The rules stay, the block of the list is turned but for the rules. -/
theorem LsAt.turned {w w' : World} {fb ab cap : Nat} {rest : List Value} {ts : List (Nat × Nat × Nat)} {L : List Rule} {l : List Value} (h : LsAt w fb ab cap rest ts L) (hx : Ext [fb] w w')
    (hb : w'.heap[fb]? = some (.cells ⟨l⟩ 73 (0, 0))) (hl : l[7]? = some (.slice (some ⟨ab, 0, none⟩) L.length cap)) : LsAt w' fb ab cap rest ts L :=
  ⟨by rw [cellOfRow hb 7, hl], hx.at h.row (by simpa using fun e => h.ne e.symm), h.rules.kept (hx.keptS (Q := FootR ts) (by
    rintro b hb ⟨t, ht, e⟩
    have := h.apart t ht
    simp only [List.mem_singleton] at hb
    subst hb
    rcases e with e | e | e
    · exact this.1.1 e.symm
    · exact this.2.1.1 e.symm
    · exact this.2.2.1 e.symm)), h.cap_, h.ne, h.apart, h.max⟩
theorem LsAt.kept {w w' : World} {fb ab cap : Nat} {rest : List Value} {ts : List (Nat × Nat × Nat)} {L : List Rule} (h : LsAt w fb ab cap rest ts L) (hk : Kept (Foot fb ab ts) w w') : LsAt w' fb ab cap rest ts L :=
  ⟨hk.cell (.inl (by unfold Addr.add; split <;> rfl)) h.cell, hk _ _ (.inr (.inl rfl)) h.row, h.rules.kept (hk.mono fun b ⟨t, ht, e⟩ => .inr (.inr ⟨t, ht, e⟩)), h.cap_, h.ne, h.apart, h.max⟩
theorem FsAt.kept {w w' : World} {fb ab cap : Nat} {rest : List Value} {ts : List (Nat × Nat × Nat)} {d : Int} {L : List Rule} (h : FsAt w fb ab cap rest ts d L) (hk : Kept (Foot fb ab ts) w w') : FsAt w' fb ab cap rest ts d L :=
  ⟨hk _ _ (.inl rfl) h.blk, h.ls.kept hk⟩
/-- The first rule of a network. -/
def isNet (ip mask : List UInt8) (r : Rule) : Bool := decide (r.ip = ip) && decide (r.mask = mask)
def findR (ip mask : List UInt8) (L : List Rule) : Option Nat := L.findIdx? (isNet ip mask)
def foundV (ts : List (Nat × Nat × Nat)) : Option Nat → Value
  | none => .tuple #[.int .i64 (-1), .pointer none]
  | some j => .tuple #[.int .i64 (Int.ofNat j), .pointer ((ts[j]?).map fun t => ⟨t.1, 0, none⟩)]
theorem uPs : Tryz.prog.underlying 71 = some (.slice 82) := by kernel_rfl
theorem netStringT (ip mask t : List UInt8) (n : Nat) (h : t = netText ip n) (p : Addr) (w : World) (ht : Tab w) (hin : NetIn w p ip mask) (hnet : Net ip mask) (hn : n ≤ 8 * ip.length) (hmk : mask = maskOf n ip.length) :
    Calls Tryz.prog 56 #[.pointer (some p)] w (fun e w1 => ∃ v, e = .returned v ∧ Ext [] w w1 ∧ v = .string ⟨⟨t⟩⟩) := by
  subst h; exact netString ip mask n p w ht hin hnet hn hmk
theorem text_is {a m b k : List UInt8} (ha : Net a m) (hb : Net b k) {n n' : Nat} (hn : n ≤ 8 * a.length) (hm : m = maskOf n a.length) (hn' : n' ≤ 8 * b.length) (hk : k = maskOf n' b.length) : (netText a n = netText b n') ↔ (a = b ∧ m = k) := by
  constructor
  · intro h
    obtain ⟨h1, h2⟩ := net_inj ha.len hb.len h
    exact ⟨h1, by rw [hm, hk, h1, h2]⟩
  · rintro ⟨rfl, h⟩
    have : n = n' := by
      have e : smlGo (maskOf n a.length) 0 = smlGo (maskOf n' a.length) 0 := by rw [← hm, ← hk, h]
      rcases ha.len with hl | hl
      · rw [hl, sml4 n (by omega), sml4 n' (by omega)] at e; exact Option.some.inj e
      · rw [hl, sml16 n (by omega), sml16 n' (by omega)] at e; exact Option.some.inj e
    rw [this]
theorem find (ip mask : List UInt8) (adi adm : Addr) (ci cm : Nat) (fb ab cap : Nat) (rest : List Value) (ts : List (Nat × Nat × Nat)) (L : List Rule) (w : World) (ht : Tab w) (hF : LsAt w fb ab cap rest ts L) (hL : L.length ≤ 1000)
    (hnet : Net ip mask) (hbi : BytesIn w (some adi) ip) (hbm : BytesIn w (some adm) mask) (hci : ip.length ≤ ci) (hcm : mask.length ≤ cm) (hne : adi.block ≠ adm.block) :
    Calls Tryz.prog 30 #[.pointer (some ⟨fb, 0, none⟩), .agg #[.slice (some adi) ip.length ci, .slice (some adm) mask.length cm]] w (fun e w1 => ∃ v, e = .returned v ∧ Ext [] w w1 ∧ v = foundV ts (findR ip mask L)) := by
  refine calls_of0 (args := [.pointer (some ⟨fb, 0, none⟩), .agg #[.slice (some adi) ip.length ci, .slice (some adm) mask.length cm]]) Tryz.func30 rfl rfl rfl ?_
  obtain ⟨n, hn, hmk⟩ := hnet.ones
  obtain ⟨s, hs⟩ : ∃ t : List UInt8, t = netText ip n := ⟨_, rfl⟩
  refine To.runF 8 [] (fun _ _ => by kernel_rfl) fun f1 g1 l1 => ?_
  refine To.callN 56 #[.pointer (some ⟨f1 0, 0, none⟩)] (by kernel_rfl) (fun _ => by kernel_rfl) (fun w2 hw2 => netStringT ip mask s n hs ⟨f1 0, 0, none⟩ w2 (ht.later hw2.ext)
    (have hb := hw2.blk (j := 0) (b := f1 0) (o := .cells ⟨[.slice (some adi) ip.length ci, .slice (some adm) mask.length cm]⟩ 46 (0, 0)) (q := true) (by kernel_rfl)
     ⟨adi, ci, adm, cm, cellOfRow hb 0, cellOfRow hb 1, hbi.later hw2.ext, hbm.later hw2.ext, hci, hcm, hne⟩) hnet hn hmk) (fun w2 v2 w3 hw2 hx2 hv2 hnew2 hwi2 => ?_)
  subst hv2
  refine To.runF 8 [] (fun _ _ => by kernel_rfl) fun f2 g2 l2 => ?_
  refine To.loadOne uPs rfl ((⟨fb, 0, none⟩ : Addr).add 7) (.slice (some ⟨ab, 0, none⟩) L.length cap) (by kernel_rfl) (fun w4 hw4 => hw4.ext.cell hF.cell (by simp)) ?_
  refine To.runF 4 [] (fun _ _ => by kernel_rfl) fun f3 g3 l3 => ?_
  refine To.loop (fun k : Nat => L.length - k) (fun k => ([(6, .string ⟨⟨s⟩⟩), (13, .slice (some ⟨ab, 0, none⟩) L.length cap), (14, .int .i64 (Int.ofNat L.length)), (15, .int .i64 (Int.ofNat k))], [])) (fun k _ => k ≤ L.length ∧ ∀ j r, j < k → L[j]? = some r → isNet ip mask r = false) 0 [] (by kernel_rfl) (by kernel_rfl) (by kernel_rfl) rfl (fun _ _ => ⟨Nat.zero_le _, fun j r h => by omega⟩) ?_
  rintro k w4 ⟨hk, hall⟩ hx4 back
  refine To.runF 5 [] (fun _ _ => by kernel_rfl) fun f4 g4 l4 => ?_
  by_cases hlt : k < L.length
  · obtain ⟨r, hr⟩ : ∃ r, L[k]? = some r := ⟨L[k], by simp [hlt]⟩
    obtain ⟨t, htk⟩ : ∃ t, ts[k]? = some t := ⟨ts[k]'(by rw [hF.rules.len]; exact hlt), by simp [hF.rules.len, hlt]⟩
    have hR := hF.rules.at_ k t r htk hr
    have hcp : w.cell? ((⟨ab, 0, none⟩ : Addr).add (k * 1)) = some (.pointer (some ⟨t.1, 0, none⟩)) := by
      rw [Nat.mul_one, cellOfRow hF.row k]
      have : (ptrs ts).length = ts.length := by simp [ptrs]
      rw [List.getElem?_append_left (by rw [this]; exact (List.getElem?_eq_some_iff.1 htk).1)]
      simp [ptrs, htk]
    obtain ⟨n2, hn2, hmk2⟩ := hR.net.ones
    obtain ⟨s2, hs2⟩ : ∃ t : List UInt8, t = netText r.ip n2 := ⟨_, rfl⟩
    refine To.testT (decide (Int.ofNat k < Int.ofNat L.length)) (by kernel_rfl) (decide_eq_true (Int.ofNat_lt.2 hlt)) ?_
    refine To.runF 6 [] (fun _ _ => by kernel_rfl) fun f5 g5 l5 => ?_
    refine To.indexAt elP (some ⟨ab, 0, none⟩) ⟨ab, 0, none⟩ L.length cap k (by kernel_rfl) rfl hlt ?_
    refine To.loadOne uP rfl ((⟨ab, 0, none⟩ : Addr).add (k * 1)) (.pointer (some ⟨t.1, 0, none⟩)) (by kernel_rfl) (fun w5 hw5 => hw5.ext.cell hcp (by simp)) ?_
    refine To.runF 8 [] (fun _ _ => by kernel_rfl) fun f6 g6 l6 => ?_
    refine To.callN 56 #[.pointer (some ⟨t.1, 0, none⟩)] (by kernel_rfl) (fun _ => by kernel_rfl) (fun w6 hw6 => netStringT r.ip r.mask s2 n2 hs2 ⟨t.1, 0, none⟩ w6 (ht.later hw6.ext)
      (let ⟨c1, c2, h⟩ := (hR.later hw6.ext).netAt; ⟨_, c1, _, c2, h⟩) hR.net hn2 hmk2) (fun w6 v6 w7 hw6 hx6 hv6 hnew6 hwi6 => ?_)
    subst hv6
    have hiff : s2 = s ↔ isNet ip mask r = true := by
      rw [hs2, hs, text_is hR.net hnet hn2 hmk2 hn hmk]
      unfold isNet
      simp
    refine To.runF 3 [] (fun _ _ => by kernel_rfl) fun f7 g7 l7 => ?_
    by_cases hss : s2 = s
    · refine To.testT ((ByteArray.mk ⟨s2⟩).toList == (ByteArray.mk ⟨s⟩).toList) (by kernel_rfl) (by rw [strEq]; exact decide_eq_true hss) ?_
      have hyes : findR ip mask L = some k := by
        unfold findR
        rw [List.findIdx?_eq_some_iff_getElem]
        refine ⟨hlt, ?_, fun j hj => ?_⟩
        · have : L[k] = r := by rw [List.getElem?_eq_getElem hlt] at hr; exact Option.some.inj hr
          rw [this]; exact hiff.1 hss
        · have := hall j (L[j]'(by omega)) hj (by simp [show j < L.length by omega])
          simp [this]
      refine To.runF 7 [] (fun _ _ => by kernel_rfl) fun f8 g8 l8 => ?_
      exact To.ret [] (.tuple #[.int .i64 (Int.ofNat k), .pointer (some ⟨t.1, 0, none⟩)]) (by kernel_rfl) (by kernel_rfl) fun w9 hw9 => ⟨_, rfl, hw9.ext, by rw [hyes]; simp [foundV, htk]⟩
    · refine To.testF ((ByteArray.mk ⟨s2⟩).toList == (ByteArray.mk ⟨s⟩).toList) (by kernel_rfl) (by rw [strEq]; exact decide_eq_false hss) ?_
      refine To.runF 6 [] (fun _ _ => by kernel_rfl) fun f8 g8 l8 => ?_
      refine To.slotE 15 (.int .i64 (IntKind.i64.wrap (Int.ofNat k + 1))) (.int .i64 (Int.ofNat (k + 1))) (by kernel_rfl) (by rw [wrap_succ k (by omega)]) ?_
      exact back _ _ (k + 1) [] (by omega) ⟨by kernel_rfl, by kernel_rfl, by kernel_rfl, by kernel_rfl, by kernel_rfl, rfl⟩ (fun w12 hw12 => ⟨hlt, fun j q hj hq => by
        by_cases hjk : j = k
        · subst hjk
          rw [hr] at hq; cases hq
          cases hb : isNet ip mask r with
          | false => rfl
          | true => exact absurd (hiff.2 hb) hss
        · exact hall j q (by omega) hq⟩)
  · have hk1 : k = L.length := by omega
    subst hk1
    refine To.testF (decide (Int.ofNat L.length < Int.ofNat L.length)) (by kernel_rfl) (by simp) ?_
    have hno : findR ip mask L = none := by
      unfold findR
      rw [List.findIdx?_eq_none_iff]
      intro x hx
      obtain ⟨j, hj⟩ := List.mem_iff_getElem?.1 hx
      exact hall j x (List.getElem?_eq_some_iff.1 hj).1 hj
    refine To.runF 6 [] (fun _ _ => by kernel_rfl) fun f5 g5 l5 => ?_
    exact To.ret [] (.tuple #[.int .i64 (-1), .pointer none]) (by kernel_rfl) (by kernel_rfl) fun w9 hw9 => ⟨_, rfl, hw9.ext, by rw [hno]; rfl⟩
end Go.Proofs.YtkhonkejebdcgaaGreatDoor
