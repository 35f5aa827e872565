/- The components of a simple address are read from its bytes. Conditions: as each says. -/
import Derived.Test.YtgodhbgnhapemaaGreatDoorJBuf
set_option linter.unusedVariables false
set_option linter.unusedSimpArgs false
/- One component is read from the bytes of a simple address. Conditions: as each says. -/
namespace Go.Proofs.YtgodhbgnhapemaaGreatDoor
open Go Go.SX Go.IpText
set_option maxHeartbeats 8000000
set_option maxRecDepth 100000
/-- What reading gives: how many bytes, and the component in a new block. -/
def RdPost (r : Row) (val : List UInt8) (w : World) (e : Ending) (w1 : World) : Prop :=
  ∃ v, e = .returned v ∧ Ext [] w w1 ∧ ∃ g pb vb, v = .tuple #[.int .i64 (Int.ofNat (compOf r val).length), .pointer (some ⟨g, 0, none⟩), .nilIface] ∧
    w1.heap[g]? = some (.cells ⟨[.string ⟨⟨compOf r val⟩⟩, .pointer (some ⟨pb, 0, none⟩), .int .i64 (Int.ofNat ((compOf r val).length - val.length))]⟩ 59 (0, 0)) ∧ RowAt w1 pb vb r ∧ w.heap.size ≤ g ∧ w.heap.size ≤ pb ∧ w.heap.size ≤ vb
theorem readComp0 (nm : ByteArray) (cd sz : Int) (ph : Bool) (vc : List UInt8) (c : Int) (val rest bs : List UInt8) (hr : RowFor c val ⟨nm, cd, sz, ph, none, vc⟩) (hs0 : sz = 0) (hv0 : val = []) (hbs : bs = compOf ⟨nm, cd, sz, ph, none, vc⟩ val ++ rest) (a : Option Addr) (ca : Nat) (w : World) (ht : Tab w) (hin : BytesIn w a bs) (hcap : bs.length ≤ ca)
    (hval : val.length ≤ 2147483647) (hlen : bs.length ≤ 100000000000) :
    Calls Tryz.prog 53 #[.slice a bs.length ca] w (RdPost ⟨nm, cd, sz, ph, none, vc⟩ val w) := by
  refine calls_of0 (args := [.slice a bs.length ca]) Tryz.func53 rfl rfl rfl ?_
  obtain ⟨md, hmd⟩ : ∃ md, md = (if sz < 0 then Lib.uvarint val.length else []) := ⟨_, rfl⟩
  have hcs2 : compOf ⟨nm, cd, sz, ph, none, vc⟩ val = vc ++ (md ++ val) := by rw [hmd]; rfl
  have hcn : Int.ofNat c.toNat = c := by have := hr.small; simp only [Int.ofNat_eq_natCast]; omega
  have hvc : vc = Lib.uvarint c.toNat := hr.vc
  have hcd : cd = c := hr.code
  have hsz : sz = szOf c := hr.size
  have hvl9 : vc.length ≤ 10 := by rw [hvc]; exact Lib.uvarint_length64 (by have := hr.small; omega)
  have hml : md.length ≤ 10 := by rw [hmd]; split; exact Lib.uvarint_length64 (by omega); exact Nat.zero_le _
  have hcl : (compOf ⟨nm, cd, sz, ph, none, vc⟩ val).length = vc.length + md.length + val.length := by rw [hcs2, List.length_append, List.length_append]; omega
  have hbl : bs.length = (compOf ⟨nm, cd, sz, ph, none, vc⟩ val).length + rest.length := by rw [hbs, List.length_append]
  have hsm := hr.small
  refine To.runF 13 [] (fun _ _ => by kernel_rfl) fun f1 g1 l1 => ?_
  refine To.callN 98 #[.slice a bs.length ca] (by kernel_rfl) (fun _ => by kernel_rfl) (fun w2 hw2 => by have h := readCode c.toNat (md ++ val ++ rest) bs (by rw [hbs, hcs2, hvc]; simp) a ca w2 (by have := hr.small; omega) (hin.later hw2.ext) (by omega); rw [hcn, ← hvc] at h; exact h) (fun w2 v2 w3 hw2 hx2 hv2 hnew2 hwi2 => ?_)
  subst hv2
  refine To.runF 34 [] (fun _ _ => by kernel_rfl) fun f2 g2 l2 => ?_
  refine To.callN 122 #[.int .i64 c] (by kernel_rfl) (fun _ => by kernel_rfl) (fun w4 hw4 => hr.coded w4) (fun w4 v4 w5 hw4 hx4 hv4 hnew4 hwi4 => ?_)
  obtain ⟨va, rfl, hva, hva2⟩ := hv4
  refine To.runF 13 [0, 0, 0, 0, 0, 0, 0, 0, 0, 0, 0, 0, 1, 1, 1, 1, 1, 1, 1] (fun _ _ => by kernel_rfl) fun f3 g3 l3 => ?_
  refine To.testF (cd == 0) (by kernel_rfl) (beq_eq_false_iff_ne.2 (by omega)) ?_
  have hw0 : IntKind.i64.wrap (0 + Int.ofNat vc.length) = Int.ofNat vc.length := by
    rw [Int.zero_add, IntWalk.i64_in _ ⟨by simp only [Int.ofNat_eq_natCast]; omega, by simp only [Int.ofNat_eq_natCast]; omega⟩]
  refine To.slotE 5 (.int .i64 (IntKind.i64.wrap (0 + Int.ofNat vc.length))) (.int .i64 (Int.ofNat vc.length)) (by kernel_rfl) (by rw [hw0]) ?_
  refine To.runF 12 [] (fun _ _ => by kernel_rfl) fun f4 g4 l4 => ?_
  refine To.callN 122 #[.int .i64 c] (by kernel_rfl) (fun _ => by kernel_rfl) (fun w6 hw6 => hr.coded w6) (fun w6 v6 w7 hw6 hx6 hv6 hnew6 hwi6 => ?_)
  obtain ⟨vb, rfl, hvb, hvb2⟩ := hv6
  refine To.withAt vb (.cells ⟨ucells vc⟩ 5 (0, 0)) true hvb (hnew6 vb hvb2) (fun _ => .inl (Nat.le_trans hwi6 hvb2)) ?_
  refine To.runF 10 [3, 3, 3, 3, 3, 3, 3] (fun _ _ => by kernel_rfl) fun f5 g5 l5 => ?_
  refine To.testF (cd == 0) (by kernel_rfl) (beq_eq_false_iff_ne.2 (by omega)) ?_
  refine To.runF 23 [1] (fun _ _ => by kernel_rfl) fun f6 g6 l6 => ?_
  refine To.testT (sz == 0) (by kernel_rfl) (beq_iff_eq.2 hs0) ?_
  refine To.runF 4 [] (fun _ _ => by kernel_rfl) fun f7 g7 l7 => ?_
  have htk : bs.take vc.length = vc := by rw [hbs, hcs2, List.append_assoc, List.take_left]
  refine To.sliceUpTo elB a bs.length vc.length ca (by omega) (by kernel_rfl) ?_
  refine To.textOf (src := 28) (dst := 9) (e := 5) a vc.length ca vc rfl uBytes uString uU8 (by kernel_rfl) (fun w8 hw8 j u hj => ((hin.later hw8.ext).upTo vc.length).at_ j u (by rw [htk]; exact hj)) (fun e => by rw [← htk, hin.none e]; simp) ?_
  refine To.runF 9 [] (fun _ _ => by kernel_rfl) fun f8 g8 l8 => ?_
  have hmd0 : md = [] := by rw [hmd, if_neg (by omega)]
  have hco : compOf ⟨nm, cd, sz, ph, none, vc⟩ val = vc := by rw [hcs2, hmd0, hv0]; simp
  refine To.callN 101 #[.pointer (some ⟨f8 0, 0, none⟩)] (by kernel_rfl) (fun _ => by kernel_rfl) (fun w8 hw8 => validate ⟨nm, cd, sz, ph, none, vc⟩ c val hr (f5 0) vb (f8 0) w8 (ht.later hw8.ext) ⟨hw8.blk (j := 3) (b := f5 0) (o := .cells ⟨rowCells ⟨nm, cd, sz, ph, none, vc⟩ vb⟩ 79 (0, 0)) (q := true) (by kernel_rfl), hw8.blk (j := 2) (b := vb) (o := .cells ⟨ucells vc⟩ 5 (0, 0)) (q := true) (by kernel_rfl)⟩ hval (fun _ => by show Int.tdiv sz 8 = _; rw [hs0, hv0]; rfl)
    (by rw [hco, hv0]; exact hw8.blk (j := 4) (b := f8 0) (o := .cells ⟨[.string ⟨⟨vc⟩⟩, .pointer (some ⟨f5 0, 0, none⟩), .int .i64 (Int.ofNat vc.length)]⟩ 59 (0, 0)) (q := true) (by kernel_rfl))) (fun w8 v8 w9 hw8 hx8 hv8 hnew8 hwi8 => ?_)
  subst hv8
  refine To.runF 18 [] (fun _ _ => by kernel_rfl) fun f9 g9 l9 => ?_
  exact To.ret [] (.tuple #[.int .i64 (Int.ofNat vc.length), .pointer (some ⟨f8 0, 0, none⟩), .nilIface]) (by kernel_rfl) (by kernel_rfl) fun w10 hw10 => ⟨_, rfl, hw10.ext, f8 0, f5 0, vb, by rw [hco], by
    rw [hco, hv0]; exact hw10.blk (j := 4) (b := f8 0) (o := .cells ⟨[.string ⟨⟨vc⟩⟩, .pointer (some ⟨f5 0, 0, none⟩), .int .i64 (Int.ofNat vc.length)]⟩ 59 (0, 0)) (q := true) (by kernel_rfl),
    ⟨hw10.blk (j := 3) (b := f5 0) (o := .cells ⟨rowCells ⟨nm, cd, sz, ph, none, vc⟩ vb⟩ 79 (0, 0)) (q := true) (by kernel_rfl), hw10.blk (j := 2) (b := vb) (o := .cells ⟨ucells vc⟩ 5 (0, 0)) (q := true) (by kernel_rfl)⟩,
    hw10.new (j := 4) (b := f8 0) (o := .cells ⟨[.string ⟨⟨vc⟩⟩, .pointer (some ⟨f5 0, 0, none⟩), .int .i64 (Int.ofNat vc.length)]⟩ 59 (0, 0)) (by kernel_rfl),
    hw10.new (j := 3) (b := f5 0) (o := .cells ⟨rowCells ⟨nm, cd, sz, ph, none, vc⟩ vb⟩ 79 (0, 0)) (by kernel_rfl), hw10.new (j := 2) (b := vb) (o := .cells ⟨ucells vc⟩ 5 (0, 0)) (by kernel_rfl)⟩
theorem readCompT (nm : ByteArray) (cd sz : Int) (ph : Bool) (x : Value) (vc : List UInt8) (c : Int) (val rest bs : List UInt8) (hr : RowFor c val ⟨nm, cd, sz, ph, some (126, x), vc⟩) (hn0 : sz ≠ 0) (hfix : ¬ sz < 0 → Int.tdiv sz 8 = Int.ofNat val.length) (hv1 : 1 ≤ val.length) (hbs : bs = compOf ⟨nm, cd, sz, ph, some (126, x), vc⟩ val ++ rest) (a : Option Addr) (ca : Nat) (w : World) (ht : Tab w) (hin : BytesIn w a bs) (hcap : bs.length ≤ ca)
    (hval : val.length ≤ 2147483647) (hlen : bs.length ≤ 100000000000) :
    Calls Tryz.prog 53 #[.slice a bs.length ca] w (RdPost ⟨nm, cd, sz, ph, some (126, x), vc⟩ val w) := by
  refine calls_of0 (args := [.slice a bs.length ca]) Tryz.func53 rfl rfl rfl ?_
  obtain ⟨md, hmd⟩ : ∃ md, md = (if sz < 0 then Lib.uvarint val.length else []) := ⟨_, rfl⟩
  have hcs2 : compOf ⟨nm, cd, sz, ph, some (126, x), vc⟩ val = vc ++ (md ++ val) := by rw [hmd]; rfl
  have hcn : Int.ofNat c.toNat = c := by have := hr.small; simp only [Int.ofNat_eq_natCast]; omega
  have hvc : vc = Lib.uvarint c.toNat := hr.vc
  have hcd : cd = c := hr.code
  have hsz : sz = szOf c := hr.size
  have hvl9 : vc.length ≤ 10 := by rw [hvc]; exact Lib.uvarint_length64 (by have := hr.small; omega)
  have hml : md.length ≤ 10 := by rw [hmd]; split; exact Lib.uvarint_length64 (by omega); exact Nat.zero_le _
  have hcl : (compOf ⟨nm, cd, sz, ph, some (126, x), vc⟩ val).length = vc.length + md.length + val.length := by rw [hcs2, List.length_append, List.length_append]; omega
  have hbl : bs.length = (compOf ⟨nm, cd, sz, ph, some (126, x), vc⟩ val).length + rest.length := by rw [hbs, List.length_append]
  have hsm := hr.small
  refine To.runF 13 [] (fun _ _ => by kernel_rfl) fun f1 g1 l1 => ?_
  refine To.callN 98 #[.slice a bs.length ca] (by kernel_rfl) (fun _ => by kernel_rfl) (fun w2 hw2 => by have h := readCode c.toNat (md ++ val ++ rest) bs (by rw [hbs, hcs2, hvc]; simp) a ca w2 (by have := hr.small; omega) (hin.later hw2.ext) (by omega); rw [hcn, ← hvc] at h; exact h) (fun w2 v2 w3 hw2 hx2 hv2 hnew2 hwi2 => ?_)
  subst hv2
  refine To.runF 34 [] (fun _ _ => by kernel_rfl) fun f2 g2 l2 => ?_
  refine To.callN 122 #[.int .i64 c] (by kernel_rfl) (fun _ => by kernel_rfl) (fun w4 hw4 => hr.coded w4) (fun w4 v4 w5 hw4 hx4 hv4 hnew4 hwi4 => ?_)
  obtain ⟨va, rfl, hva, hva2⟩ := hv4
  refine To.runF 13 [0, 0, 0, 0, 0, 0, 0, 0, 0, 0, 0, 0, 1, 1, 1, 1, 1, 1, 1] (fun _ _ => by kernel_rfl) fun f3 g3 l3 => ?_
  refine To.testF (cd == 0) (by kernel_rfl) (beq_eq_false_iff_ne.2 (by omega)) ?_
  have hw0 : IntKind.i64.wrap (0 + Int.ofNat vc.length) = Int.ofNat vc.length := by
    rw [Int.zero_add, IntWalk.i64_in _ ⟨by simp only [Int.ofNat_eq_natCast]; omega, by simp only [Int.ofNat_eq_natCast]; omega⟩]
  refine To.slotE 5 (.int .i64 (IntKind.i64.wrap (0 + Int.ofNat vc.length))) (.int .i64 (Int.ofNat vc.length)) (by kernel_rfl) (by rw [hw0]) ?_
  refine To.runF 12 [] (fun _ _ => by kernel_rfl) fun f4 g4 l4 => ?_
  refine To.callN 122 #[.int .i64 c] (by kernel_rfl) (fun _ => by kernel_rfl) (fun w6 hw6 => hr.coded w6) (fun w6 v6 w7 hw6 hx6 hv6 hnew6 hwi6 => ?_)
  obtain ⟨vb, rfl, hvb, hvb2⟩ := hv6
  refine To.withAt vb (.cells ⟨ucells vc⟩ 5 (0, 0)) true hvb (hnew6 vb hvb2) (fun _ => .inl (Nat.le_trans hwi6 hvb2)) ?_
  refine To.runF 10 [3, 3, 3, 3, 3, 3, 3] (fun _ _ => by kernel_rfl) fun f5 g5 l5 => ?_
  refine To.testF (cd == 0) (by kernel_rfl) (beq_eq_false_iff_ne.2 (by omega)) ?_
  refine To.runF 23 [1] (fun _ _ => by kernel_rfl) fun f6 g6 l6 => ?_
  refine To.testF (sz == 0) (by kernel_rfl) (beq_eq_false_iff_ne.2 hn0) ?_
  refine To.runF 12 [1] (fun _ _ => by kernel_rfl) fun f7 g7 l7 => ?_
  have hdv : bs.drop vc.length = md ++ val ++ rest := by rw [hbs, hcs2, List.append_assoc, List.drop_left]
  refine To.meet 1 (ι := Unit) (fun _ => ([(0, .slice a bs.length ca), (5, .int .i64 (Int.ofNat (vc.length + md.length))), (10, .pointer (some ⟨f5 0, 0, none⟩)), (13, .int .i64 (Int.ofNat val.length))], [some ⟨vb, .cells ⟨ucells vc⟩ 5 (0, 0), true⟩, some ⟨f5 0, .cells ⟨rowCells ⟨nm, cd, sz, ph, some (126, x), vc⟩ vb⟩ 79 (0, 0), true⟩])) (fun _ _ => True) (fun join => ?_) (fun _ w9 _ hx9 => ?_)
  · by_cases hneg : sz < 0
    · rw [if_pos hneg] at hmd
      refine To.testT (decide (sz < 0)) (by kernel_rfl) (decide_eq_true hneg) ?_
      refine To.runF 8 [] (fun _ _ => by kernel_rfl) fun f8 g8 l8 => ?_
      refine To.sliceFrom elB a bs.length vc.length ca (by omega) hcap (by kernel_rfl) ?_
      refine To.slotE 63 (.slice (onA a vc.length 1 ca) (bs.length - vc.length) (ca - vc.length)) (.slice (onA a vc.length 1 ca) (bs.drop vc.length).length (ca - vc.length)) (by kernel_rfl) (by rw [List.length_drop]) ?_
      refine To.callN 98 #[.slice (onA a vc.length 1 ca) (bs.drop vc.length).length (ca - vc.length)] (by kernel_rfl) (fun _ => by kernel_rfl) (fun w8 hw8 => readCode val.length (val ++ rest) (bs.drop vc.length) (by rw [hdv, hmd, List.append_assoc]) (onA a vc.length 1 ca) (ca - vc.length) w8 (by omega) ((hin.later hw8.ext).from vc.length ca hcap) (by rw [List.length_drop]; omega)) (fun w8 v8 w9 hw8 hx8 hv8 hnew8 hwi8 => ?_)
      subst hv8
      refine To.runF 22 [] (fun _ _ => by kernel_rfl) fun f9 g9 l9 => ?_
      have hwa : IntKind.i64.wrap (Int.ofNat vc.length + Int.ofNat (Lib.uvarint val.length).length) = Int.ofNat (vc.length + md.length) := by
        rw [← hmd, IntWalk.i64_in _ ⟨by simp only [Int.ofNat_eq_natCast]; omega, by simp only [Int.ofNat_eq_natCast]; omega⟩]; rfl
      refine To.slotE 5 (.int .i64 (IntKind.i64.wrap (Int.ofNat vc.length + Int.ofNat (Lib.uvarint val.length).length))) (.int .i64 (Int.ofNat (vc.length + md.length))) (by kernel_rfl) (by rw [hwa]) ?_
      exact join _ _ () [2, 3] ⟨by kernel_rfl, by kernel_rfl, by kernel_rfl, by kernel_rfl, by kernel_rfl, rfl⟩ (fun _ _ => trivial)
    · rw [if_neg hneg] at hmd
      refine To.testF (decide (sz < 0)) (by kernel_rfl) (decide_eq_false hneg) ?_
      refine To.runF 6 [1] (fun _ _ => by kernel_rfl) fun f8 g8 l8 => ?_
      refine To.slotE 13 (.int .i64 (IntKind.i64.wrap (Int.tdiv sz 8))) (.int .i64 (Int.ofNat val.length)) (by kernel_rfl) (by rw [hfix hneg, IntWalk.i64_in _ ⟨by simp only [Int.ofNat_eq_natCast]; omega, by simp only [Int.ofNat_eq_natCast]; omega⟩]) ?_
      refine To.slotE 5 (.int .i64 (Int.ofNat vc.length)) (.int .i64 (Int.ofNat (vc.length + md.length))) (by kernel_rfl) (by rw [hmd]; rfl) ?_
      exact join _ _ () [2, 3] ⟨by kernel_rfl, by kernel_rfl, by kernel_rfl, by kernel_rfl, by kernel_rfl, rfl⟩ (fun _ _ => trivial)
  refine To.runF 5 [] (fun _ _ => by kernel_rfl) fun f8 g8 l8 => ?_
  refine To.sliceFrom elB a bs.length (vc.length + md.length) ca (by omega) hcap (by kernel_rfl) ?_
  refine To.runF 4 [] (fun _ _ => by kernel_rfl) fun f9 g9 l9 => ?_
  refine To.slotF 83 (decide (((bs.length - (vc.length + md.length) : Nat) : Int) < Int.ofNat val.length)) (by kernel_rfl) (decide_eq_false (by simp only [Int.ofNat_eq_natCast]; omega)) ?_
  refine To.runF 4 [] (fun _ _ => by kernel_rfl) fun f10 g10 l10 => ?_
  refine To.testF (decide (Int.ofNat val.length ≤ 0)) (by kernel_rfl) (decide_eq_false (by simp only [Int.ofNat_eq_natCast]; omega)) ?_
  refine To.runF 7 [] (fun _ _ => by kernel_rfl) fun f11 g11 l11 => ?_
  obtain ⟨cs, hcs⟩ : ∃ cs, cs = compOf ⟨nm, cd, sz, ph, some (126, x), vc⟩ val := ⟨_, rfl⟩
  have hcl2 : cs.length = vc.length + md.length + val.length := by rw [hcs, hcl]
  have hsi : vc.length + md.length = cs.length - val.length := by omega
  have htk : bs.take cs.length = cs := by rw [hbs, hcs, List.take_left]
  have hcsb : cs.length ≤ bs.length := by rw [hcs]; omega
  refine To.slotE 91 (.int .i64 (IntKind.i64.wrap (Int.ofNat (vc.length + md.length) + Int.ofNat val.length))) (.int .i64 (Int.ofNat cs.length)) (by kernel_rfl) (by rw [IntWalk.i64_in _ ⟨by simp only [Int.ofNat_eq_natCast]; omega, by simp only [Int.ofNat_eq_natCast]; omega⟩]; simp only [Int.ofNat_eq_natCast]; congr 1; omega) ?_
  refine To.sliceUpTo elB a bs.length cs.length ca (by omega) (by kernel_rfl) ?_
  refine To.textOf (src := 28) (dst := 9) (e := 5) a cs.length ca cs rfl uBytes uString uU8 (by kernel_rfl) (fun w8 hw8 j u hj => ((hin.later hw8.ext).upTo cs.length).at_ j u (by rw [htk]; exact hj)) (fun e => by rw [← htk, hin.none e]; simp) ?_
  refine To.runF 9 [] (fun _ _ => by kernel_rfl) fun f12 g12 l12 => ?_
  refine To.callN 101 #[.pointer (some ⟨f12 0, 0, none⟩)] (by kernel_rfl) (fun _ => by kernel_rfl) (fun w8 hw8 => validate ⟨nm, cd, sz, ph, some (126, x), vc⟩ c val hr (f5 0) vb (f12 0) w8 (ht.later hw8.ext) ⟨hw8.blk (j := 1) (b := f5 0) (o := (.cells ⟨rowCells ⟨nm, cd, sz, ph, some (126, x), vc⟩ vb⟩ 79 (0, 0))) (q := true) (by kernel_rfl), hw8.blk (j := 0) (b := vb) (o := .cells ⟨ucells vc⟩ 5 (0, 0)) (q := true) (by kernel_rfl)⟩ hval hfix
    (by rw [← hcs, ← hsi]; exact hw8.blk (j := 2) (b := f12 0) (o := (.cells ⟨[.string ⟨⟨cs⟩⟩, .pointer (some ⟨f5 0, 0, none⟩), .int .i64 (Int.ofNat (vc.length + md.length))]⟩ 59 (0, 0))) (q := true) (by kernel_rfl))) (fun w8 v8 w10 hw8 hx8 hv8 hnew8 hwi8 => ?_)
  subst hv8
  refine To.runF 21 [] (fun _ _ => by kernel_rfl) fun f13 g13 l13 => ?_
  refine To.slotE 2 (.int .i64 (IntKind.i64.wrap (Int.ofNat (vc.length + md.length) + Int.ofNat val.length))) (.int .i64 (Int.ofNat cs.length)) (by kernel_rfl) (by rw [IntWalk.i64_in _ ⟨by simp only [Int.ofNat_eq_natCast]; omega, by simp only [Int.ofNat_eq_natCast]; omega⟩]; simp only [Int.ofNat_eq_natCast]; congr 1; omega) ?_
  exact To.ret [] (.tuple #[.int .i64 (Int.ofNat cs.length), .pointer (some ⟨f12 0, 0, none⟩), .nilIface]) (by kernel_rfl) (by kernel_rfl) fun w11 hw11 => ⟨_, rfl, hw11.ext, f12 0, f5 0, vb, by rw [hcs], by
    rw [← hcs, ← hsi]; exact hw11.blk (j := 2) (b := f12 0) (o := (.cells ⟨[.string ⟨⟨cs⟩⟩, .pointer (some ⟨f5 0, 0, none⟩), .int .i64 (Int.ofNat (vc.length + md.length))]⟩ 59 (0, 0))) (q := true) (by kernel_rfl),
    ⟨hw11.blk (j := 1) (b := f5 0) (o := (.cells ⟨rowCells ⟨nm, cd, sz, ph, some (126, x), vc⟩ vb⟩ 79 (0, 0))) (q := true) (by kernel_rfl), hw11.blk (j := 0) (b := vb) (o := .cells ⟨ucells vc⟩ 5 (0, 0)) (q := true) (by kernel_rfl)⟩,
    hw11.new (j := 2) (b := f12 0) (o := (.cells ⟨[.string ⟨⟨cs⟩⟩, .pointer (some ⟨f5 0, 0, none⟩), .int .i64 (Int.ofNat (vc.length + md.length))]⟩ 59 (0, 0))) (by kernel_rfl), hw11.new (j := 1) (b := f5 0) (o := (.cells ⟨rowCells ⟨nm, cd, sz, ph, some (126, x), vc⟩ vb⟩ 79 (0, 0))) (by kernel_rfl), hw11.new (j := 0) (b := vb) (o := .cells ⟨ucells vc⟩ 5 (0, 0)) (by kernel_rfl)⟩
theorem val_pos {c : Int} {val : List UInt8} (h : SimpleP c val) (h0 : szOf c ≠ 0) : 1 ≤ val.length := by
  by_cases hn : szOf c < 0
  · rcases h.simple.free hn with h4 | ⟨_, h1, _⟩
    · obtain ⟨t, ht, _⟩ := h.path h4
      rw [ht]; simp
    · exact h1
  · obtain ⟨h1, _, _⟩ := h.simple.fixed (by omega)
    have : ∀ p ∈ specSizes, 0 < p.2 → 1 ≤ (p.2 / 8).toNat := by decide
    rw [h1]; exact this _ h.simple.mem (by show 0 < szOf c; omega)
theorem readComp (r : Row) (c : Int) (val rest bs : List UInt8) (hr : RowFor c val r) (hp : SimpleP c val) (hbs : bs = compOf r val ++ rest) (a : Option Addr) (ca : Nat) (w : World) (ht : Tab w) (hin : BytesIn w a bs) (hcap : bs.length ≤ ca)
    (hval : val.length ≤ 2147483647) (hlen : bs.length ≤ 100000000000) :
    Calls Tryz.prog 53 #[.slice a bs.length ca] w (RdPost r val w) := by
  obtain ⟨nm, cd, sz, ph, tr, vc⟩ := r
  have hsz : sz = szOf c := hr.size
  by_cases h0 : szOf c = 0
  · have htr : tr = none := hr.tr0 h0
    subst htr
    have hv : val = [] := by
      have := (hp.simple.fixed (by omega)).1
      rw [h0] at this
      exact List.eq_nil_of_length_eq_zero (by rw [this]; rfl)
    exact readComp0 nm cd sz ph vc c val rest bs hr (by omega) hv hbs a ca w ht hin hcap hval hlen
  · obtain ⟨x, htr, _⟩ := hr.tr1 h0
    have htr : tr = some (126, x) := htr
    subst htr
    exact readCompT nm cd sz ph x vc c val rest bs hr (by omega) (fun hn => by
      obtain ⟨h1, _, _⟩ := hp.simple.fixed (by omega)
      rw [h1, hsz, Int.tdiv_eq_ediv_of_nonneg (by omega)]; simp only [Int.ofNat_eq_natCast]; omega) (val_pos hp h0) hbs a ca w ht hin hcap hval hlen
end Go.Proofs.YtgodhbgnhapemaaGreatDoor
/- All components are read from the bytes of a simple address. Conditions: as each says. -/
namespace Go.Proofs.YtgodhbgnhapemaaGreatDoor
open Go Go.SX Go.IpText
set_option maxHeartbeats 8000000
set_option maxRecDepth 100000
abbrev T2 : TypeId → Prop := fun t => t = 79 ∨ t = 5
theorem RowAt.off {w : World} {pb vb : Nat} {r : Row} (h : RowAt w pb vb r) {n : Nat} (ho : OffTy T2 w n) : n ≠ pb ∧ n ≠ vb := ⟨ho.ne (T := T2) (.inl rfl) h.row, ho.ne (T := T2) (.inr rfl) h.vc⟩
theorem RowAt.newer {w : World} {pb vb : Nat} {r : Row} (h : RowAt w pb vb r) {n : Nat} (hn : w.heap.size ≤ n) : n ≠ pb ∧ n ≠ vb := by have := h.lt; omega
/-- Components of the package, their rows and that they are simple. -/
structure AllFor (L : Ma) : Prop where
  row : ∀ p ∈ L, RowFor p.1.code p.2 p.1
  simple : ∀ p ∈ L, SimpleP p.1.code p.2
  last : ∀ (j : Nat) (p : Row × List UInt8), L[j]? = some p → p.1.path = true → j + 1 = L.length
  len : ∀ p ∈ L, p.2.length ≤ 2147483647
theorem plain_cons (p : Row × List UInt8) (L : Ma) : plain (p :: L) = (p.1.code, p.2) :: plain L := rfl
theorem rows_of : ∀ (l : Comps), (∀ p ∈ l, SimpleP p.1 p.2) → (∀ p ∈ l, p.2.length ≤ 2147483647) → ∃ L : Ma, plain L = l ∧ ∀ p ∈ L, RowFor p.1.code p.2 p.1 ∧ SimpleP p.1.code p.2
  | [], _, _ => ⟨[], rfl, fun p hp => by cases hp⟩
  | (c, val) :: l, h, hv => by
    obtain ⟨L, h1, h2⟩ := rows_of l (fun q hq => h q (List.mem_cons_of_mem _ hq)) (fun q hq => hv q (List.mem_cons_of_mem _ hq))
    have hs : SimpleP c val := h (c, val) (List.mem_cons_self ..)
    obtain ⟨r, hr⟩ := rowFor hs (hv (c, val) (List.mem_cons_self ..))
    have hc : r.code = c := hr.code
    subst hc
    refine ⟨(r, val) :: L, by rw [plain_cons, h1], fun p hp => ?_⟩
    rcases List.mem_cons.1 hp with rfl | hp
    · exact ⟨hr, hs⟩
    · exact h2 p hp
/-- A simple address stands for components of the package. -/
theorem allFor {l : Comps} (h : SimpleA l) (hv : ∀ p ∈ l, p.2.length ≤ 2147483647) : ∃ L : Ma, plain L = l ∧ AllFor L := by
  obtain ⟨L, h1, h2⟩ := rows_of l h.all hv
  have hl : L.length = l.length := by rw [← h1]; simp [plain]
  refine ⟨L, h1, ⟨fun p hp => (h2 p hp).1, fun p hp => (h2 p hp).2, fun j p hj hpath => ?_, fun p hp => ?_⟩⟩
  · have hm := List.mem_of_getElem? hj
    have h4 := (h2 p hm).1.path
    rw [hpath] at h4
    have h5 : p.1.code = 400 := of_decide_eq_true h4.symm
    rw [hl]
    exact h.last j (p.1.code, p.2) (by rw [← h1]; simp [plain, hj]) h5
  · exact hv (p.1.code, p.2) (by rw [← h1]; exact List.mem_map.2 ⟨p, hp, rfl⟩)
theorem readMulti (L : Ma) (hL : AllFor L) (hn : 1 ≤ L.length) (h12 : L.length ≤ 12) (a : Option Addr) (ca : Nat) (w : World) (ht : Tab w) (hin : BytesIn w a (bytesA (plain L))) (hcap : (bytesA (plain L)).length ≤ ca) :
    Calls Tryz.prog 40 #[.slice a (bytesA (plain L)).length ca] w (fun e w1 => ∃ v, e = .returned v ∧ Ext [] w w1 ∧ ∃ m, v = .tuple #[.int .i64 (Int.ofNat (bytesA (plain L)).length), m, .nilIface] ∧ MaOut w w1 m L) := by
  refine calls_of0 (args := [.slice a (bytesA (plain L)).length ca]) Tryz.func40 rfl rfl rfl ?_
  have hpos : ∀ p : Int × List UInt8, 1 ≤ (compBytes p).length := fun p => by
    unfold compBytes
    rw [List.length_append]
    have : 0 < (Lib.uvarint p.1.toNat).length := by rw [Lib.uvarint]; split <;> simp
    omega
  have hapos : ∀ (p : Row × List UInt8) (K : Ma), 1 ≤ (bytesA (plain (p :: K))).length := fun p K => by
    rw [plain_cons, bytesA_cons, List.length_append]; have := hpos (p.1.code, p.2); omega
  have hpl : ∀ q ∈ plain L, SimpleP q.1 q.2 ∧ q.2.length ≤ 2147483647 := fun q hq => by
    obtain ⟨p, hp, rfl⟩ := List.mem_map.1 hq
    exact ⟨hL.simple p hp, hL.len p hp⟩
  have hbig : (bytesA (plain L)).length ≤ 30000000000 := by
    have := bytesA_le (fun q hq => (hpl q hq).1) (fun q hq => (hpl q hq).2)
    have h2 : (plain L).length = L.length := by simp [plain]
    omega
  have htot : ∀ k, (bytesA (plain (L.take k))).length + (bytesA (plain (L.drop k))).length = (bytesA (plain L)).length := fun k => by
    rw [← List.length_append, ← bytesA_append]
    congr 2
    unfold plain
    rw [← List.map_append, List.take_append_drop]
  refine To.runF 13 [] (fun _ _ => by kernel_rfl) fun f1 g1 l1 => ?_
  refine To.testF (((bytesA (plain L)).length : Int) == 0) (by kernel_rfl) (beq_eq_false_iff_ne.2 (by
    match L, hn with
    | p :: K, _ => have := hapos p K; omega)) ?_
  refine To.runF 15 [] (fun _ _ => by kernel_rfl) fun f2 g2 l2 => ?_
  refine To.loop (ι := Nat × OR × List Nat × (Option Addr × Nat) × Bool) (fun i => L.length - i.1) (fun i => ([(0, .slice i.2.2.2.1.1 (bytesA (plain (L.drop i.1))).length i.2.2.2.1.2), (5, .slice i.2.1.a i.2.1.n i.2.1.c), (6, .int .i64 (Int.ofNat (bytesA (plain (L.take i.1))).length)), (7, .bool i.2.2.2.2)], [i.2.1.ob]))
    (fun i w1 => i.1 ≤ L.length ∧ ORow 3 59 i.2.1.a i.2.1.n i.2.1.c i.2.1.ob i.2.1.css ∧ i.2.1.css.flatten = mcells (L.take i.1) i.2.2.1 ∧ i.2.2.1.length = i.1 ∧ i.2.1.n = i.1 ∧ BytesIn w i.2.2.2.1.1 (bytesA (plain (L.drop i.1))) ∧ (bytesA (plain (L.drop i.1))).length ≤ i.2.2.2.1.2 ∧ (i.1 < L.length → i.2.2.2.2 = false) ∧ RowsAt w w1 (L.take i.1) i.2.2.1 ∧ (∀ g, i.2.1.a = some ⟨g, 0, none⟩ → w.heap.size ≤ g) ∧ OTrue i.2.1.ob w1)
    (0, ⟨none, 0, 0, none, []⟩, [], (a, ca), false) [9] (by kernel_rfl) (by kernel_rfl) (by kernel_rfl) rfl (fun wz hwz => ⟨Nat.zero_le _, ORow.nil _ _, rfl, rfl, rfl, hin, hcap, fun _ => rfl, fun j p pb hj => by simp at hj, (fun g h => by cases h), OTrue.none _⟩) ?_
  rintro ⟨k, ⟨oa, on, oc, oob, css⟩, pbs, ⟨ba, bc⟩, sp⟩ w1 ⟨hk, hO, hfl, hpb, hon, hbi, hbc, hsp, hra, hog, hot⟩ hx1 back
  have hk : k ≤ L.length := hk
  have hO : ORow 3 59 oa on oc oob css := hO
  have hfl : css.flatten = mcells (L.take k) pbs := hfl
  have hpb : pbs.length = k := hpb
  have hon : on = k := hon
  have hbi : BytesIn w ba (bytesA (plain (L.drop k))) := hbi
  have hbc : (bytesA (plain (L.drop k))).length ≤ bc := hbc
  have hsp : k < L.length → sp = false := hsp
  have hra : RowsAt w w1 (L.take k) pbs := hra
  have hog : ∀ g, oa = some ⟨g, 0, none⟩ → w.heap.size ≤ g := hog
  have hot : OTrue oob w1 := hot
  have o1 : ∀ m, numO oob = some m → OffTy T2 w1 m := hO.off (T := T2) hot (by unfold T2; decide)
  have hlt1 := htot k
  by_cases hlt : k < L.length
  · obtain ⟨p, hp⟩ : ∃ p, L[k]? = some p := ⟨L[k], by simp [hlt]⟩
    have hpm := List.mem_of_getElem? hp
    have hdr : L.drop k = p :: L.drop (k + 1) := by
      have := List.drop_eq_getElem_cons hlt
      rw [this]; congr 1
      rw [List.getElem?_eq_getElem hlt] at hp; exact Option.some.inj hp
    have htk : L.take (k + 1) = L.take k ++ [p] := by rw [List.take_add_one, hp]; rfl
    have hbs : bytesA (plain (L.drop k)) = compOf p.1 p.2 ++ bytesA (plain (L.drop (k + 1))) := by
      rw [hdr, plain_cons, bytesA_cons, compOf_is (hL.row p hpm)]
    have hsp := hsp hlt
    subst hsp
    refine To.runF 7 [] (fun _ _ => by kernel_rfl) fun f3 g3 l3 => ?_
    refine To.testT (decide (((bytesA (plain (L.drop k))).length : Int) > 0)) (by kernel_rfl) (decide_eq_true (by rw [hdr]; have := hapos p (L.drop (k + 1)); omega)) ?_
    refine To.runF 5 [] (fun _ _ => by kernel_rfl) fun f4 g4 l4 => ?_
    refine To.callN 53 #[.slice ba (bytesA (plain (L.drop k))).length bc] (by kernel_rfl) (fun _ => by kernel_rfl) (fun w2 hw2 => readComp p.1 p.1.code p.2 (bytesA (plain (L.drop (k + 1)))) (bytesA (plain (L.drop k))) (hL.row p hpm) (hL.simple p hpm) hbs ba bc w2 (ht.later hw2.ext) (hbi.later hw2.ext) hbc (hL.len p hpm) (by omega)) (fun w2 v2 w3 hw2 hx2 hv2 hnew2 hwi2 => ?_)
    obtain ⟨cg, pb, vb, rfl, hcg, hrow, hn1, hn2, hn3⟩ := hv2
    rw [compOf_bytes, compOf_head] at hcg
    have hcp : cg ≠ pb := ne_of_type hrow.row hcg (by decide)
    have hcv : cg ≠ vb := ne_of_type hrow.vc hcg (by decide)
    have hpv : pb ≠ vb := ne_of_type hrow.vc hrow.row (by decide)
    refine To.withAt cg (.cells ⟨[Value.string (bytesOf p.1.vc p.1.size p.2), Value.pointer (some ⟨pb, 0, none⟩), Value.int .i64 (Int.ofNat (headOf p.1.vc p.1.size p.2.length).length)]⟩ 59 (0, 0)) false hcg (hnew2 cg hn1) (fun e => by cases e) ?_
    refine To.withAt pb (.cells ⟨rowCells p.1 vb⟩ 79 (0, 0)) false hrow.row (ne_with (hnew2 pb hn2) hcp) (fun e => by cases e) ?_
    refine To.withAt vb (.cells ⟨ucells p.1.vc⟩ 5 (0, 0)) false hrow.vc (ne_with (ne_with (hnew2 vb hn3) hcv) hpv) (fun e => by cases e) ?_
    refine To.runF 20 [] (fun _ _ => by kernel_rfl) fun f5 g5 l5 => ?_
    have hrl : (bytesA (plain (L.drop k))).length - (compOf p.1 p.2).length = (bytesA (plain (L.drop (k + 1)))).length := by rw [hbs, List.length_append, Nat.add_sub_cancel_left]
    have hcb : (compOf p.1 p.2).length ≤ (bytesA (plain (L.drop k))).length := by rw [hbs, List.length_append]; exact Nat.le_add_right _ _
    have htl : (bytesA (plain (L.take k))).length + (compOf p.1 p.2).length = (bytesA (plain (L.take (k + 1)))).length := by
      have h1 := htot k
      have h2 := htot (k + 1)
      rw [hbs, List.length_append] at h1
      omega
    refine To.sliceFrom elB ba (bytesA (plain (L.drop k))).length (compOf p.1 p.2).length bc hcb hbc (by kernel_rfl) ?_
    refine To.slotE 29 (.slice (onA ba (compOf p.1 p.2).length 1 bc) ((bytesA (plain (L.drop k))).length - (compOf p.1 p.2).length) (bc - (compOf p.1 p.2).length)) (.slice (onA ba (compOf p.1 p.2).length 1 bc) (bytesA (plain (L.drop (k + 1)))).length (bc - (compOf p.1 p.2).length)) (by kernel_rfl) (by rw [hrl]) ?_
    refine To.runF 33 [1, 2, 1, 1, 1] (fun _ _ => by kernel_rfl) fun f6 g6 l6 => ?_
    refine To.appendAny (ty := 37) elM 0 oa on oc oob css hO ⟨f6 0, 0, none⟩ 1 [Value.string (bytesOf p.1.vc p.1.size p.2), Value.pointer (some ⟨pb, 0, none⟩), Value.int .i64 (Int.ofNat (headOf p.1.vc p.1.size p.2.length).length)] (on + 1) (by kernel_rfl) (by kernel_rfl) rfl rfl
      (fun w8 hw8 j u hj => hw8.cellAt0 (j := 4) (b := f6 0) (l := [Value.string (bytesOf p.1.vc p.1.size p.2), Value.pointer (some ⟨pb, 0, none⟩), Value.int .i64 (Int.ofNat (headOf p.1.vc p.1.size p.2.length).length)]) (e := 59) (f := (0, 0)) (q := true) (by kernel_rfl) hj)
      (fun u hu => by simp only [List.mem_cons, List.not_mem_nil, or_false] at hu; rcases hu with rfl | rfl | rfl <;> rfl) (by simp only [maxLen]; omega) (by omega) (held_nilO (by kernel_rfl)) ?_
    intro w8 g' c' rest' hfr ho' hO'
    refine To.runF 3 [] (fun _ _ => by kernel_rfl) fun f7 g7 l7 => ?_
    refine To.slotE 6 (.int .i64 (IntKind.i64.wrap (Int.ofNat (bytesA (plain (L.take k))).length + Int.ofNat (compOf p.1 p.2).length))) (.int .i64 (Int.ofNat (bytesA (plain (L.take (k + 1)))).length)) (by kernel_rfl) (by
      rw [← htl, IntWalk.i64_in _ ⟨by simp only [Int.ofNat_eq_natCast]; omega, by simp only [Int.ofNat_eq_natCast]; omega⟩]; rfl) ?_
    have hwz2 : w.heap.size ≤ w2.heap.size := hwi2
    have q3 : w3.heap.size ≤ f6 0 := l6 0
    have q4 : w2.heap.size ≤ w3.heap.size := hx2.size
    exact back _ _ (k + 1, ⟨some ⟨g', 0, none⟩, on + 1, c', some ⟨g', .cells ⟨(css ++ [[Value.string (bytesOf p.1.vc p.1.size p.2), Value.pointer (some ⟨pb, 0, none⟩), Value.int .i64 (Int.ofNat (headOf p.1.vc p.1.size p.2.length).length)]]).flatten ++ rest'⟩ 59 (0, 0), true⟩, css ++ [[Value.string (bytesOf p.1.vc p.1.size p.2), Value.pointer (some ⟨pb, 0, none⟩), Value.int .i64 (Int.ofNat (headOf p.1.vc p.1.size p.2.length).length)]]⟩, pbs ++ [pb], (onA ba (compOf p.1 p.2).length 1 bc, bc - (compOf p.1 p.2).length), p.1.path) [5] (by simp only; omega) ⟨by kernel_rfl, by kernel_rfl, by kernel_rfl, by kernel_rfl, by kernel_rfl, rfl⟩ (fun w7 hw7 => ⟨hlt, hO', by
      simp only
      rw [htk, mcells_snoc (by rw [hpb, List.length_take]; omega), List.flatten_append, hfl]; simp, by simp [hpb], by show on + 1 = k + 1; omega, by
      have := hbi.from (compOf p.1 p.2).length bc hbc
      rw [hbs, List.drop_left] at this; exact this, by simp only; omega, fun h1 => by
      simp only at h1 ⊢
      cases hpp : p.1.path with
      | false => rfl
      | true => have := hL.last k p hp hpp; omega, fun j q pb' hj hpb' => by
      simp only at hj hpb'
      by_cases hjk : j < k
      · rw [htk, List.getElem?_append_left (by rw [List.length_take]; omega)] at hj
        rw [List.getElem?_append_left (by omega)] at hpb'
        obtain ⟨vb', hr0, hr1, hr2⟩ := hra j q pb' hj hpb'
        have hr3 : RowAt w2 pb' vb' q.1 := hr0.fr hw2.fr (l := [numO oob]) (by kernel_rfl) (numsCons (fun n h => hr0.off (o1 n h)) trivial)
        have q9 := hr3.lt
        have hr5 : RowAt w8 pb' vb' q.1 := (hr3.later hx2).fr hfr (l := [numO oob, some cg, some pb, some vb, some (f6 0)]) (by kernel_rfl) (numsCons (fun n h => hr0.off (o1 n h)) ⟨⟨by omega, by omega⟩, ⟨by omega, by omega⟩, ⟨by omega, by omega⟩, ⟨by omega, by omega⟩, trivial⟩)
        refine ⟨vb', hr5.fr hw7.fr (l := [none, some cg, some pb, some vb, some (f6 0), some g']) (by kernel_rfl) ⟨⟨by omega, by omega⟩, ⟨by omega, by omega⟩, ⟨by omega, by omega⟩, ⟨by omega, by omega⟩, ?_, trivial⟩, hr1, hr2⟩
        rcases ho' with h | h
        · exact hr0.off (o1 g' (hO.numO h))
        · have h : w3.heap.size ≤ g' := h
          exact ⟨by omega, by omega⟩
      · have hjk' : j = k := by
          have := (List.getElem?_eq_some_iff.1 hpb').1
          simp only [List.length_append, List.length_cons, List.length_nil] at this
          omega
        subst hjk'
        rw [htk, List.getElem?_append_right (by rw [List.length_take]; omega)] at hj
        rw [List.getElem?_append_right (by omega)] at hpb'
        have e1 : j - (L.take j).length = 0 := by rw [List.length_take]; omega
        have e2 : j - pbs.length = 0 := by omega
        rw [e1] at hj
        rw [e2] at hpb'
        cases hj
        cases hpb'
        exact ⟨vb, ⟨hw7.blk (j := 2) (b := pb) (o := .cells ⟨rowCells p.1 vb⟩ 79 (0, 0)) (q := false) (by kernel_rfl), hw7.blk (j := 3) (b := vb) (o := .cells ⟨ucells p.1.vc⟩ 5 (0, 0)) (q := false) (by kernel_rfl)⟩, by omega, by omega⟩, fun g hg => by
      cases hg
      rcases ho' with h | h
      · exact hog _ h
      · have h : w3.heap.size ≤ g' := h
        omega, OTrue.of hw7 (j := 5) (by kernel_rfl)⟩)
  · refine To.runF 7 [] (fun _ _ => by kernel_rfl) fun f3 g3 l3 => ?_
    refine To.testF (decide (((bytesA (plain (L.drop k))).length : Int) > 0)) (by kernel_rfl) (decide_eq_false (by
      rw [List.drop_eq_nil_of_le (by omega)]; simp [plain, bytesA])) ?_
    refine To.runF 9 [] (fun _ _ => by kernel_rfl) fun f4 g4 l4 => ?_
    have hkL : k = L.length := by omega
    subst hkL
    rw [List.take_length] at hfl hra
    refine To.slotE 2 (.int .i64 (Int.ofNat (bytesA (plain (L.take L.length))).length)) (.int .i64 (Int.ofNat (bytesA (plain L)).length)) (by kernel_rfl) (by rw [List.take_length]) ?_
    exact To.ret [] (.tuple #[.int .i64 (Int.ofNat (bytesA (plain L)).length), .slice oa on oc, .nilIface]) (by kernel_rfl) (by kernel_rfl) fun w9 hw9 => ⟨_, rfl, hw9.ext, .slice oa on oc, rfl, by
      have hra9 : RowsAt w w9 L pbs := fun j q pb' hj hpb' => by
        obtain ⟨vb', hr0, hr1, hr2⟩ := hra j q pb' hj hpb'
        exact ⟨vb', hr0.fr hw9.fr (l := [numO oob]) (by kernel_rfl) (numsCons (fun n h => hr0.off (o1 n h)) trivial), hr1, hr2⟩
      have hot9 : OTrue oob w9 := OTrue.of hw9 (j := 0) (by kernel_rfl)
      rcases hO.is with ⟨_, h0, _⟩ | ⟨g, rest, h1, h2, h3, h4, h5, h6, h7⟩
      · omega
      · have h8 : w9.heap[g]? = some (.cells ⟨css.flatten ++ rest⟩ 59 (0, 0)) := hot9 _ h2
        rw [hfl] at h8
        exact .inr ⟨g, oc, rest, pbs, by rw [show oa = some ⟨g, 0, none⟩ from h1, hon], h8, hpb, by have h10 : on ≤ oc := hO.le; have h11 : on = L.length := hon; rw [← h11]; exact h10, hra9, hog g h1⟩⟩
end Go.Proofs.YtgodhbgnhapemaaGreatDoor
