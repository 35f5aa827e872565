/- Which scripts are right, and that nothing in them is too long; what an answer is in memory. Conditions: the script lies in memory. -/
import Derived.Test.YtkhonkejebdcgaaGreatDoorJSteps
import Derived.Test.YtkhonkejebdcgaaGreatDoorSxC
/- Whether a script is right: some answer is given, and nothing else happens; what a yes means. Conditions: the script lies in memory. -/
namespace Go.Proofs.YtkhonkejebdcgaaGreatDoor
open Go Go.SX
set_option maxHeartbeats 8000000
set_option maxRecDepth 100000
/-- The lengths of a step. -/
def StepLen (s : Step) : Prop := s.ip.length ≤ 2147483647 ∧ s.mask.length ≤ 2147483647 ∧ s.addr.length ≤ 2147483647 ∧ ∀ p ∈ s.addr, p.2.length ≤ 2147483647
abbrev FinePost (l : List Step) (w : World) (e : Ending) (w1 : World) : Prop := ∃ v, e = .returned v ∧ Ext [] w w1 ∧ ∃ b, v = .bool b ∧ (b = true → OkTo l l.length ∧ l.length ≤ 60)
theorem elFl : Elem Tryz.prog 35 39 3 56 := Elem.of (z := .agg #[.slice none 0 0, .slice none 0 0, .int .i64 0]) (by kernel_rfl) (by kernel_rfl) rfl
theorem elSt : Elem Tryz.prog 22 33 5 88 := Elem.of (z := .agg #[.int .i64 0, .slice none 0 0, .slice none 0 0, .int .i64 0, .slice none 0 0]) (by kernel_rfl) (by kernel_rfl) rfl
theorem noneOr {α : Type} (o : Option α) : o = none ∨ ∃ j, o = some j := by cases o <;> simp
theorem filterFine (l : List Step) (a : Option Addr) (cap : Nat) (w : World) (hin : StepsIn w a l) (hlen : l.length ≤ 2147483647) (hs : ∀ s ∈ l, StepLen s) :
    Calls Tryz.prog 5 #[.slice a l.length cap] w (FinePost l w) := by
  refine calls_of0 (args := [.slice a l.length cap]) Tryz.func5 rfl rfl rfl ?_
  refine To.runF 16 [] (fun _ _ => by kernel_rfl) fun f1 g1 l1 => ?_
  refine To.loop (fun i : Nat × OR => l.length - i.1) (fun i => ([(0, .slice a l.length cap), (3, .slice i.2.a i.2.n i.2.c), (9, .slice a l.length cap), (10, .int .i64 (Int.ofNat l.length)), (11, .int .i64 (Int.ofNat i.1))], [i.2.ob]))
    (fun i w1 => i.1 ≤ l.length ∧ OkTo l i.1 ∧ (0 < i.1 → l.length ≤ 60) ∧ ORow 3 39 i.2.a i.2.n i.2.c i.2.ob i.2.css ∧ All2 (ruleI (fun _ => .int .i64 0) w) i.2.css (rulesAt (l.take i.1))) (0, OR.none) [0] (by kernel_rfl) (by kernel_rfl) (by kernel_rfl) rfl
    (fun _ _ => ⟨Nat.zero_le _, fun j s hj => absurd hj (Nat.not_lt_zero j), fun h => absurd h (Nat.lt_irrefl 0), ORow.nil _ _, All2.nil⟩) ?_
  rintro ⟨k, ra, rn, rc, rob, css⟩ w4 ⟨hk, hok, h60, hO, hA⟩ hx4 back
  simp only at hk hok h60 hO hA
  refine To.runF 5 [] (fun _ _ => by kernel_rfl) fun f2 g2 l2 => ?_
  by_cases hlt : k < l.length
  · obtain ⟨s, hsk⟩ : ∃ s, l[k]? = some s := ⟨l[k], by simp [hlt]⟩
    obtain ⟨ad, ai, am, aa, ci, cm, ca, had, hsp, hcs, hI⟩ := hin.at_ k s hsk
    have hL := hs s (List.mem_of_getElem? hsk)
    refine To.testT (decide (Int.ofNat k < Int.ofNat l.length)) (by kernel_rfl) (decide_eq_true (Int.ofNat_lt.2 hlt)) ?_
    refine To.runF 5 [] (fun _ _ => by kernel_rfl) fun f3 g3 l3 => ?_
    refine To.indexAt elSt a ad l.length cap k (by kernel_rfl) had hlt ?_
    refine To.loadAgg (t := 33) (by kernel_rfl) 5 (by kernel_rfl) (ad.add (k * 5)) (stepCells s ai am aa ci cm ca) rfl (by kernel_rfl) (fun w5 hw5 j u hj => hw5.ext.cell (hcs j u hj) (by simp)) ?_
    refine To.runF 10 [1, 1, 1, 1, 1, 1] (fun _ _ => by kernel_rfl) fun f4 g4 l4 => ?_
    refine To.slot 18 (decide (s.act < 1)) (by kernel_rfl) (fun e1 => ?_) (fun e1 => ?_)
    · refine To.runF 15 [] (fun _ _ => by kernel_rfl) fun f5 g5 l5 => ?_
      exact To.ret [] (.bool false) (by kernel_rfl) (by kernel_rfl) fun w9 hw9 => ⟨_, rfl, hw9.ext, false, rfl, fun h => by cases h⟩
    refine To.runF 5 [1] (fun _ _ => by kernel_rfl) fun f5 g5 l5 => ?_
    refine To.slot 23 (decide (s.act > 2)) (by kernel_rfl) (fun e2 => ?_) (fun e2 => ?_)
    · refine To.runF 10 [] (fun _ _ => by kernel_rfl) fun f6 g6 l6 => ?_
      exact To.ret [] (.bool false) (by kernel_rfl) (by kernel_rfl) fun w9 hw9 => ⟨_, rfl, hw9.ext, false, rfl, fun h => by cases h⟩
    refine To.runF 5 [] (fun _ _ => by kernel_rfl) fun f6 g6 l6 => ?_
    refine To.test (decide (Int.ofNat l.length > 60)) (by kernel_rfl) (fun e3 => ?_) (fun e3 => ?_)
    · refine To.runF 4 [] (fun _ _ => by kernel_rfl) fun f7 g7 l7 => ?_
      exact To.ret [] (.bool false) (by kernel_rfl) (by kernel_rfl) fun w9 hw9 => ⟨_, rfl, hw9.ext, false, rfl, fun h => by cases h⟩
    refine To.runF 14 [1] (fun _ _ => by kernel_rfl) fun f7 g7 l7 => ?_
    refine To.meet 3 (ι := Unit) (fun _ => ([(0, .slice a l.length cap), (3, .slice ra rn rc), (5, .pointer (some ⟨f4 0, 0, none⟩)), (9, .slice a l.length cap), (10, .int .i64 (Int.ofNat l.length)), (11, .int .i64 (Int.ofNat k))], [rob, some ⟨f4 0, .cells ⟨stepCells s ai am aa ci cm ca⟩ 33 (0, 0), true⟩]))
      (fun _ _ => StepOk s) (fun join => ?_) (fun _ w6 hok6 hx6 => ?_)
    -- SWITCH
    · refine To.test (s.op == 0) (by kernel_rfl) (fun c0 => ?_) (fun c0 => ?_)
      · have c0' : s.op = 0 := by simpa using c0
        refine To.runF 1 [] (fun _ _ => by kernel_rfl) fun f8 g8 l8 => ?_
        refine To.testT (s.op == 0) (by kernel_rfl) c0 ?_
        refine To.runF 6 [1, 1] (fun _ _ => by kernel_rfl) fun f9 g9 l9 => ?_
        refine To.callN 10 #[.slice ai s.ip.length ci, .slice am s.mask.length cm] (by kernel_rfl) (fun _ => by kernel_rfl) (fun w5 hw5 => network s.ip s.mask ai am ci cm w5 (hI.bi.later hw5.ext) (hI.bm.later hw5.ext) (by have := hL.1; omega) (by have := hL.2.1; omega) hI.ci) (fun w5 v5 w6 hw5 hx5 hv5 hnew5 hwi5 => ?_)
        obtain ⟨b, rfl, hb⟩ := hv5
        refine To.runF 2 [] (fun _ _ => by kernel_rfl) fun f10 g10 l10 => ?_
        refine To.test (!b) (by kernel_rfl) (fun eb => ?_) (fun eb => ?_)
        · refine To.runF 4 [] (fun _ _ => by kernel_rfl) fun f11 g11 l11 => ?_
          exact To.ret [] (.bool false) (by kernel_rfl) (by kernel_rfl) fun w9 hw9 => ⟨_, rfl, hw9.ext, false, rfl, fun h => by cases h⟩
        refine To.runF 2 [] (fun _ _ => by kernel_rfl) fun f11 g11 l11 => ?_
        exact join _ _ () [0, 1] ⟨by kernel_rfl, by kernel_rfl, by kernel_rfl, by kernel_rfl, by kernel_rfl, rfl⟩ (fun _ _ => ⟨⟨by have := of_decide_eq_false e1; omega, by have := of_decide_eq_false e2; omega⟩, by simp [c0'], fun _ => hb (by simpa using eb), fun h => by rw [c0'] at h; cases h⟩)
      refine To.runF 5 [] (fun _ _ => by kernel_rfl) fun f8 g8 l8 => ?_
      refine To.test (s.op == 1) (by kernel_rfl) (fun c1 => ?_) (fun c1 => ?_)
      · have c1' : s.op = 1 := by simpa using c1
        refine To.runF 1 [] (fun _ _ => by kernel_rfl) fun f9 g9 l9 => ?_
        refine To.testT (s.op == 1) (by kernel_rfl) c1 ?_
        refine To.runF 6 [1, 1] (fun _ _ => by kernel_rfl) fun f10 g10 l10 => ?_
        refine To.callN 10 #[.slice ai s.ip.length ci, .slice am s.mask.length cm] (by kernel_rfl) (fun _ => by kernel_rfl) (fun w5 hw5 => network s.ip s.mask ai am ci cm w5 (hI.bi.later hw5.ext) (hI.bm.later hw5.ext) (by have := hL.1; omega) (by have := hL.2.1; omega) hI.ci) (fun w5 v5 w6 hw5 hx5 hv5 hnew5 hwi5 => ?_)
        obtain ⟨b, rfl, hb⟩ := hv5
        refine To.runF 2 [] (fun _ _ => by kernel_rfl) fun f11 g11 l11 => ?_
        refine To.test (!b) (by kernel_rfl) (fun eb => ?_) (fun eb => ?_)
        · refine To.runF 4 [] (fun _ _ => by kernel_rfl) fun f12 g12 l12 => ?_
          exact To.ret [] (.bool false) (by kernel_rfl) (by kernel_rfl) fun w9 hw9 => ⟨_, rfl, hw9.ext, false, rfl, fun h => by cases h⟩
        refine To.runF 2 [] (fun _ _ => by kernel_rfl) fun f12 g12 l12 => ?_
        exact join _ _ () [0, 1] ⟨by kernel_rfl, by kernel_rfl, by kernel_rfl, by kernel_rfl, by kernel_rfl, rfl⟩ (fun _ _ => ⟨⟨by have := of_decide_eq_false e1; omega, by have := of_decide_eq_false e2; omega⟩, by simp [c1'], fun _ => hb (by simpa using eb), fun h => by rw [c1'] at h; cases h⟩)
      refine To.runF 4 [] (fun _ _ => by kernel_rfl) fun f9 g9 l9 => ?_
      refine To.test (s.op == 3) (by kernel_rfl) (fun c3 => ?_) (fun c3 => ?_)
      · have c3' : s.op = 3 := by simpa using c3
        refine To.runF 6 [1, 1] (fun _ _ => by kernel_rfl) fun f10 g10 l10 => ?_
        refine To.callN 10 #[.slice ai s.ip.length ci, .slice am s.mask.length cm] (by kernel_rfl) (fun _ => by kernel_rfl) (fun w5 hw5 => network s.ip s.mask ai am ci cm w5 (hI.bi.later hw5.ext) (hI.bm.later hw5.ext) (by have := hL.1; omega) (by have := hL.2.1; omega) hI.ci) (fun w5 v5 w6 hw5 hx5 hv5 hnew5 hwi5 => ?_)
        obtain ⟨b, rfl, hb⟩ := hv5
        refine To.runF 2 [] (fun _ _ => by kernel_rfl) fun f11 g11 l11 => ?_
        refine To.test (!b) (by kernel_rfl) (fun eb => ?_) (fun eb => ?_)
        · refine To.runF 4 [] (fun _ _ => by kernel_rfl) fun f12 g12 l12 => ?_
          exact To.ret [] (.bool false) (by kernel_rfl) (by kernel_rfl) fun w9 hw9 => ⟨_, rfl, hw9.ext, false, rfl, fun h => by cases h⟩
        refine To.runF 2 [] (fun _ _ => by kernel_rfl) fun f12 g12 l12 => ?_
        exact join _ _ () [0, 1] ⟨by kernel_rfl, by kernel_rfl, by kernel_rfl, by kernel_rfl, by kernel_rfl, rfl⟩ (fun _ _ => ⟨⟨by have := of_decide_eq_false e1; omega, by have := of_decide_eq_false e2; omega⟩, by simp [c3'], fun _ => hb (by simpa using eb), fun h => by rw [c3'] at h; cases h⟩)
      refine To.runF 5 [] (fun _ _ => by kernel_rfl) fun f10 g10 l10 => ?_
      refine To.test (s.op == 2) (by kernel_rfl) (fun c2 => ?_) (fun c2 => ?_)
      · have c2' : s.op = 2 := by simpa using c2
        refine To.runF 4 [1] (fun _ _ => by kernel_rfl) fun f11 g11 l11 => ?_
        refine To.callN 11 #[.slice aa s.addr.length ca] (by kernel_rfl) (fun _ => by kernel_rfl) (fun w5 hw5 => maAddress s.addr aa ca w5 (hI.addr.later hw5.ext).toIn (by have := hL.2.2.1; omega) (fun p hp => by have := hL.2.2.2 p hp; omega)) (fun w5 v5 w6 hw5 hx5 hv5 hnew5 hwi5 => ?_)
        obtain ⟨b, rfl, hb⟩ := hv5
        refine To.runF 2 [] (fun _ _ => by kernel_rfl) fun f12 g12 l12 => ?_
        refine To.slot 46 (!b) (by kernel_rfl) (fun eb => ?_) (fun eb => ?_)
        · refine To.runF 11 [] (fun _ _ => by kernel_rfl) fun f13 g13 l13 => ?_
          exact To.ret [] (.bool false) (by kernel_rfl) (by kernel_rfl) fun w9 hw9 => ⟨_, rfl, hw9.ext, false, rfl, fun h => by cases h⟩
        have hb' := hb (by simpa using eb)
        refine To.runF 2 [1] (fun _ _ => by kernel_rfl) fun f13 g13 l13 => ?_
        refine To.callN 12 #[.slice aa s.addr.length ca] (by kernel_rfl) (fun _ => by kernel_rfl) (fun w7 hw7 => placed s.addr aa ca w7 (hI.addr.later hw7.ext) hb'.1 (by have := hL.2.2.1; omega) (fun p hp => by have := hL.2.2.2 p hp; omega)) (fun w7 v7 w8 hw7 hx7 hv7 hnew7 hwi7 => ?_)
        obtain ⟨b2, rfl, hb2⟩ := hv7
        refine To.runF 3 [] (fun _ _ => by kernel_rfl) fun f14 g14 l14 => ?_
        refine To.test (!b2) (by kernel_rfl) (fun eb2 => ?_) (fun eb2 => ?_)
        · refine To.runF 4 [] (fun _ _ => by kernel_rfl) fun f15 g15 l15 => ?_
          exact To.ret [] (.bool false) (by kernel_rfl) (by kernel_rfl) fun w9 hw9 => ⟨_, rfl, hw9.ext, false, rfl, fun h => by cases h⟩
        refine To.runF 2 [] (fun _ _ => by kernel_rfl) fun f15 g15 l15 => ?_
        exact join _ _ () [0, 1] ⟨by kernel_rfl, by kernel_rfl, by kernel_rfl, by kernel_rfl, by kernel_rfl, rfl⟩ (fun _ _ => ⟨⟨by have := of_decide_eq_false e1; omega, by have := of_decide_eq_false e2; omega⟩, by simp [c2'], (fun h => by rw [c2'] at h; rcases h with h | h | h <;> cases h), fun _ => ⟨hb', hb2 (by simpa using eb2)⟩⟩)
      refine To.runF 6 [] (fun _ _ => by kernel_rfl) fun f11 g11 l11 => ?_
      refine To.test (s.op == 4) (by kernel_rfl) (fun c4 => ?_) (fun c4 => ?_)
      · have c4' : s.op = 4 := by simpa using c4
        refine To.runF 1 [] (fun _ _ => by kernel_rfl) fun f12 g12 l12 => ?_
        refine To.testT (s.op == 4) (by kernel_rfl) c4 ?_
        refine To.runF 2 [] (fun _ _ => by kernel_rfl) fun f13 g13 l13 => ?_
        exact join _ _ () [0, 1] ⟨by kernel_rfl, by kernel_rfl, by kernel_rfl, by kernel_rfl, by kernel_rfl, rfl⟩ (fun _ _ => ⟨⟨by have := of_decide_eq_false e1; omega, by have := of_decide_eq_false e2; omega⟩, by simp [c4'], (fun h => by rw [c4'] at h; rcases h with h | h | h <;> cases h), fun h => by rw [c4'] at h; cases h⟩)
      refine To.runF 4 [] (fun _ _ => by kernel_rfl) fun f12 g12 l12 => ?_
      refine To.test (s.op == 5) (by kernel_rfl) (fun c5 => ?_) (fun c5 => ?_)
      · have c5' : s.op = 5 := by simpa using c5
        refine To.runF 2 [] (fun _ _ => by kernel_rfl) fun f13 g13 l13 => ?_
        exact join _ _ () [0, 1] ⟨by kernel_rfl, by kernel_rfl, by kernel_rfl, by kernel_rfl, by kernel_rfl, rfl⟩ (fun _ _ => ⟨⟨by have := of_decide_eq_false e1; omega, by have := of_decide_eq_false e2; omega⟩, by simp [c5'], (fun h => by rw [c5'] at h; rcases h with h | h | h <;> cases h), fun h => by rw [c5'] at h; cases h⟩)
      refine To.runF 4 [] (fun _ _ => by kernel_rfl) fun f13 g13 l13 => ?_
      exact To.ret [] (.bool false) (by kernel_rfl) (by kernel_rfl) fun w9 hw9 => ⟨_, rfl, hw9.ext, false, rfl, fun h => by cases h⟩

    -- ENDSWITCH
    have hl60 : l.length ≤ 60 := by have := of_decide_eq_false e3; simp only [Int.ofNat_eq_natCast] at this; omega
    have hn : rn = (rulesAt (l.take k)).length := by rw [← hO.len, hA.len]
    have hlr : (rulesAt (l.take k)).length ≤ 2147483647 := by have := rulesAt_length (l.take k); rw [List.length_take] at this; omega
    refine To.runF 12 [] (fun _ _ => by kernel_rfl) fun f8 g8 l8 => ?_
    refine To.slotE 6 (.int .i64 (-1)) (.int .i64 (atV (-1) (findR s.ip s.mask ((rulesAt (l.take k)).take 0)))) (by kernel_rfl) (by simp [findR, atV]) ?_
    refine To.loop (fun i : Nat => rn - i) (fun i => ([(0, .slice a l.length cap), (3, .slice ra rn rc), (5, .pointer (some ⟨f4 0, 0, none⟩)), (6, .int .i64 (atV (-1) (findR s.ip s.mask ((rulesAt (l.take k)).take i)))), (9, .slice a l.length cap), (10, .int .i64 (Int.ofNat l.length)), (11, .int .i64 (Int.ofNat k)),
        (55, .slice ra rn rc), (56, .int .i64 (Int.ofNat rn)), (57, .int .i64 (Int.ofNat i))], [rob, some ⟨f4 0, .cells ⟨stepCells s ai am aa ci cm ca⟩ 33 (0, 0), true⟩]))
      (fun i _ => i ≤ rn) 0 [0, 1] (by kernel_rfl) (by kernel_rfl) (by kernel_rfl) rfl (fun _ _ => Nat.zero_le _) ?_
    intro i w7 hi hx7 back2
    have ho : Once (rulesAt (l.take k)) := once_at hok hk
    refine To.runF 5 [] (fun _ _ => by kernel_rfl) fun f9 g9 l9 => ?_
    by_cases hil : i < rn
    · obtain ⟨r, hri⟩ : ∃ r, (rulesAt (l.take k))[i]? = some r := ⟨(rulesAt (l.take k))[i]'(by omega), by simp [show i < (rulesAt (l.take k)).length by omega]⟩
      obtain ⟨cs, hcsi, bi, bm, bci, bcm, rfl, hbi, hbm⟩ := hA.get hri
      obtain ⟨g, rfl⟩ := hO.start (by omega)
      have ht := find_take (ip := s.ip) (mask := s.mask) hri
      refine To.testT (decide (Int.ofNat i < Int.ofNat rn)) (by kernel_rfl) (decide_eq_true (Int.ofNat_lt.2 hil)) ?_
      refine To.runF 6 [] (fun _ _ => by kernel_rfl) fun f10 g10 l10 => ?_
      refine To.indexAt elFl (some ⟨g, 0, none⟩) ⟨g, 0, none⟩ rn rc i (by kernel_rfl) rfl hil ?_
      refine To.loadAgg (t := 39) (by kernel_rfl) 3 (by kernel_rfl) ((⟨g, 0, none⟩ : Addr).add (i * 3)) [.slice bi r.ip.length bci, .slice bm r.mask.length bcm, .int .i64 0] rfl (by kernel_rfl) (fun w8 hw8 j u hj => by rw [add_add rfl]; exact hO.cell hw8 (j := 0) (by kernel_rfl) hcsi hj rfl) ?_
      refine To.runF 8 [2, 2, 2, 2] (fun _ _ => by kernel_rfl) fun f11 g11 l11 => ?_
      refine To.textOf (src := 30) (dst := 9) (e := 5) bi r.ip.length bci r.ip rfl uBytes uString uU8 (by kernel_rfl) (fun w8 hw8 j u hj => (hbi.later hw8.ext).at_ j u hj) hbi.none ?_
      refine To.runF 2 [1] (fun _ _ => by kernel_rfl) fun f12 g12 l12 => ?_
      refine To.textOf (src := 30) (dst := 9) (e := 5) ai s.ip.length ci s.ip rfl uBytes uString uU8 (by kernel_rfl) (fun w8 hw8 j u hj => (hI.bi.later hw8.ext).at_ j u hj) hI.bi.none ?_
      refine To.runF 2 [] (fun _ _ => by kernel_rfl) fun f13 g13 l13 => ?_
      by_cases hip : r.ip = s.ip
      · refine To.slotT 69 ((ByteArray.mk ⟨r.ip⟩).toList == (ByteArray.mk ⟨s.ip⟩).toList) (by kernel_rfl) (by rw [strEq]; exact decide_eq_true hip) ?_
        refine To.runF 2 [2] (fun _ _ => by kernel_rfl) fun f14 g14 l14 => ?_
        refine To.textOf (src := 30) (dst := 9) (e := 5) bm r.mask.length bcm r.mask rfl uBytes uString uU8 (by kernel_rfl) (fun w8 hw8 j u hj => (hbm.later hw8.ext).at_ j u hj) hbm.none ?_
        refine To.runF 2 [1] (fun _ _ => by kernel_rfl) fun f15 g15 l15 => ?_
        refine To.textOf (src := 30) (dst := 9) (e := 5) am s.mask.length cm s.mask rfl uBytes uString uU8 (by kernel_rfl) (fun w8 hw8 j u hj => (hI.bm.later hw8.ext).at_ j u hj) hI.bm.none ?_
        refine To.runF 3 [] (fun _ _ => by kernel_rfl) fun f16 g16 l16 => ?_
        by_cases hmk : r.mask = s.mask
        · refine To.testT ((ByteArray.mk ⟨r.mask⟩).toList == (ByteArray.mk ⟨s.mask⟩).toList) (by kernel_rfl) (by rw [strEq]; exact decide_eq_true hmk) ?_
          refine To.runF 9 [] (fun _ _ => by kernel_rfl) fun f17 g17 l17 => ?_
          have hx : isNet s.ip s.mask r = true := isNet_iff.2 ⟨hip, hmk⟩
          refine To.slotE 57 (.int .i64 (IntKind.i64.wrap (Int.ofNat i + 1))) (.int .i64 (Int.ofNat (i + 1))) (by kernel_rfl) (by rw [wrap_succ i (by omega)]) ?_
          refine To.slotE 6 (.int .i64 (Int.ofNat i)) (.int .i64 (atV (-1) (findR s.ip s.mask ((rulesAt (l.take k)).take (i + 1))))) (by kernel_rfl) (by rw [ht, hx]; rw [find_once ho hri hx]; rfl) ?_
          exact back2 _ _ (i + 1) [0, 1] (by omega) ⟨by kernel_rfl, by kernel_rfl, by kernel_rfl, by kernel_rfl, by kernel_rfl, rfl⟩ (fun _ _ => hil)
        · refine To.testF ((ByteArray.mk ⟨r.mask⟩).toList == (ByteArray.mk ⟨s.mask⟩).toList) (by kernel_rfl) (by rw [strEq]; exact decide_eq_false hmk) ?_
          refine To.runF 6 [] (fun _ _ => by kernel_rfl) fun f17 g17 l17 => ?_
          have hx : isNet s.ip s.mask r = false := by simp [isNet, hmk]
          refine To.slotE 57 (.int .i64 (IntKind.i64.wrap (Int.ofNat i + 1))) (.int .i64 (Int.ofNat (i + 1))) (by kernel_rfl) (by rw [wrap_succ i (by omega)]) ?_
          refine To.slotE 6 (.int .i64 (atV (-1) (findR s.ip s.mask ((rulesAt (l.take k)).take i)))) (.int .i64 (atV (-1) (findR s.ip s.mask ((rulesAt (l.take k)).take (i + 1))))) (by kernel_rfl) (by rw [ht, hx]; rfl) ?_
          exact back2 _ _ (i + 1) [0, 1] (by omega) ⟨by kernel_rfl, by kernel_rfl, by kernel_rfl, by kernel_rfl, by kernel_rfl, rfl⟩ (fun _ _ => hil)
      · refine To.slotF 69 ((ByteArray.mk ⟨r.ip⟩).toList == (ByteArray.mk ⟨s.ip⟩).toList) (by kernel_rfl) (by rw [strEq]; exact decide_eq_false hip) ?_
        refine To.runF 16 [] (fun _ _ => by kernel_rfl) fun f14 g14 l14 => ?_
        have hx : isNet s.ip s.mask r = false := by simp [isNet, hip]
        refine To.slotE 57 (.int .i64 (IntKind.i64.wrap (Int.ofNat i + 1))) (.int .i64 (Int.ofNat (i + 1))) (by kernel_rfl) (by rw [wrap_succ i (by omega)]) ?_
        refine To.slotE 6 (.int .i64 (atV (-1) (findR s.ip s.mask ((rulesAt (l.take k)).take i)))) (.int .i64 (atV (-1) (findR s.ip s.mask ((rulesAt (l.take k)).take (i + 1))))) (by kernel_rfl) (by rw [ht, hx]; rfl) ?_
        exact back2 _ _ (i + 1) [0, 1] (by omega) ⟨by kernel_rfl, by kernel_rfl, by kernel_rfl, by kernel_rfl, by kernel_rfl, rfl⟩ (fun _ _ => hil)
    · have hi1 : i = rn := by omega
      subst hi1
      have hat : (rulesAt (l.take k)).take i = rulesAt (l.take k) := by rw [hn, List.take_length]
      refine To.testF (decide (Int.ofNat i < Int.ofNat i)) (by kernel_rfl) (by simp) ?_
      refine To.slotE 6 (.int .i64 (atV (-1) (findR s.ip s.mask ((rulesAt (l.take k)).take i)))) (.int .i64 (atV (-1) (findR s.ip s.mask (rulesAt (l.take k))))) (by kernel_rfl) (by rw [hat]) ?_
      refine To.runF 8 [1] (fun _ _ => by kernel_rfl) fun f10 g10 l10 => ?_
      by_cases h0 : s.op = 0
      · refine To.slotT 84 (s.op == 0) (by kernel_rfl) (by simpa using h0) ?_
        refine To.runF 5 [] (fun _ _ => by kernel_rfl) fun f11 g11 l11 => ?_
        rcases noneOr (findR s.ip s.mask (rulesAt (l.take k))) with hf | ⟨j, hf⟩
        rotate_left
        · skip
          refine To.testT (decide (atV (-1) (findR s.ip s.mask (rulesAt (l.take k))) ≥ 0)) (by kernel_rfl) (by rw [hf]; simp [atV]) ?_
          refine To.runF 4 [] (fun _ _ => by kernel_rfl) fun f12 g12 l12 => ?_
          exact To.ret [] (.bool false) (by kernel_rfl) (by kernel_rfl) fun w9 hw9 => ⟨_, rfl, hw9.ext, false, rfl, fun h => by cases h⟩
        · skip
          refine To.testF (decide (atV (-1) (findR s.ip s.mask (rulesAt (l.take k))) ≥ 0)) (by kernel_rfl) (by rw [hf]; simp [atV]) ?_
          refine To.runF 7 [1] (fun _ _ => by kernel_rfl) fun f12 g12 l12 => ?_
          refine To.testT (s.op == 0) (by kernel_rfl) (by simpa using h0) ?_
          refine To.runF 8 [1, 1] (fun _ _ => by kernel_rfl) fun f13 g13 l13 => ?_
          have hi60 : i ≤ 2147483647 := by omega
          refine To.appendAny (ty := 35) elFl 0 ra i rc rob css hO ⟨f13 0, 0, none⟩ 1 [.slice ai s.ip.length ci, .slice am s.mask.length cm, .int .i64 0] (i + 1) (by kernel_rfl) (by kernel_rfl) rfl rfl
            (fun w8 hw8 j u hj => hw8.cellAt0 (j := 2) (b := f13 0) (l := [.slice ai s.ip.length ci, .slice am s.mask.length cm, .int .i64 0]) (e := 39) (f := (0, 0)) (q := true) (by kernel_rfl) hj)
            (fun u hu => by simp only [List.mem_cons, List.not_mem_nil, or_false] at hu; rcases hu with rfl | rfl | rfl <;> rfl) (by simp only [maxLen]; omega) (by omega) (held_nilO (by kernel_rfl)) ?_
          intro w8 g' c' rest' hfr ho' hO'
          refine To.runF 8 [] (fun _ _ => by kernel_rfl) fun f14 g14 l14 => ?_
          refine To.slotE 11 (.int .i64 (IntKind.i64.wrap (Int.ofNat k + 1))) (.int .i64 (Int.ofNat (k + 1))) (by kernel_rfl) (by rw [wrap_succ k (by omega)]) ?_
          have hne : rulesAt (l.take (k + 1)) = rulesAt (l.take k) ++ [⟨s.ip, s.mask, s.act⟩] := by rw [rulesAt_next hsk]; unfold nextR; rw [if_pos h0]
          exact back _ _ (k + 1, ⟨some ⟨g', 0, none⟩, i + 1, c', _, css ++ [[.slice ai s.ip.length ci, .slice am s.mask.length cm, .int .i64 0]]⟩) [3] (by simp only; omega) ⟨by kernel_rfl, by kernel_rfl, by kernel_rfl, by kernel_rfl, by kernel_rfl, rfl⟩
            (fun _ _ => ⟨hlt, hok.snoc hsk hok6 (fun _ => hf), fun _ => hl60, hO', by rw [hne]; exact hA.snoc ⟨ai, am, ci, cm, rfl, hI.bi, hI.bm⟩⟩)
      · refine To.slotF 84 (s.op == 0) (by kernel_rfl) (by simpa using h0) ?_
        refine To.runF 13 [1] (fun _ _ => by kernel_rfl) fun f11 g11 l11 => ?_
        refine To.testF (s.op == 0) (by kernel_rfl) (by simpa using h0) ?_
        refine To.runF 6 [1] (fun _ _ => by kernel_rfl) fun f12 g12 l12 => ?_
        by_cases h1 : s.op = 1
        · refine To.slotT 104 (s.op == 1) (by kernel_rfl) (by simpa using h1) ?_
          refine To.runF 5 [] (fun _ _ => by kernel_rfl) fun f13 g13 l13 => ?_
          rcases noneOr (findR s.ip s.mask (rulesAt (l.take k))) with hf | ⟨j, hf⟩
          · skip
            refine To.testF (decide (atV (-1) (findR s.ip s.mask (rulesAt (l.take k))) ≥ 0)) (by kernel_rfl) (by rw [hf]; simp [atV]) ?_
            refine To.runF 7 [] (fun _ _ => by kernel_rfl) fun f14 g14 l14 => ?_
            refine To.slotE 11 (.int .i64 (IntKind.i64.wrap (Int.ofNat k + 1))) (.int .i64 (Int.ofNat (k + 1))) (by kernel_rfl) (by rw [wrap_succ k (by omega)]) ?_
            have hne : rulesAt (l.take (k + 1)) = rulesAt (l.take k) := by rw [rulesAt_next hsk]; unfold nextR; rw [if_neg h0, if_pos h1, hf]
            exact back _ _ (k + 1, ⟨ra, i, rc, rob, css⟩) [0] (by simp only; omega) ⟨by kernel_rfl, by kernel_rfl, by kernel_rfl, by kernel_rfl, by kernel_rfl, rfl⟩ (fun _ _ => ⟨hlt, hok.snoc hsk hok6 (fun h => absurd h h0), fun _ => hl60, hO, by rw [hne]; exact hA⟩)
          · skip
            obtain ⟨rj, hrj, _, _⟩ := find_some hf
            have hji : j < i := by have := (List.getElem?_eq_some_iff.1 hrj).1; omega
            refine To.testT (decide (atV (-1) (findR s.ip s.mask (rulesAt (l.take k))) ≥ 0)) (by kernel_rfl) (by rw [hf]; simp [atV]) ?_
            refine To.slotE 6 (.int .i64 (atV (-1) (findR s.ip s.mask (rulesAt (l.take k))))) (.int .i64 (Int.ofNat j)) (by kernel_rfl) (by rw [hf]; rfl) ?_
            refine To.runF 6 [0, 0, 1, 2, 5, 6, 7] (fun _ _ => by kernel_rfl) fun f14 g14 l14 => ?_
            refine To.slotE 115 (.int .i64 (IntKind.i64.wrap (Int.ofNat j + 1))) (.int .i64 (Int.ofNat (j + 1))) (by kernel_rfl) (by rw [wrap_succ j (by omega)]) ?_
            refine To.sliceUpToE 3 (t := 35) elFl ra i j rc (by have := hO.le; omega) (by kernel_rfl) ?_
            refine To.sliceFromE 8 (t := 35) elFl ra i (j + 1) rc (by omega) hO.le (by kernel_rfl) ?_
            refine To.runF 1 [] (fun _ _ => by kernel_rfl) fun f15 g15 l15 => ?_
            have hcl : css.length = i := hO.len
            have hone := hA.one (rule_one (fun _ => rfl))
            have hfl : ∀ j, (css.take j).flatten.length = (css.take j).length * 3 := fun j => flat_length (fun cs hc => hO.each cs (List.mem_of_mem_take hc))
            refine To.appendE (ty := 35) elFl 2 (f15 0) 0 0 [] [] ra j rc (css.take j).flatten j (css.take j).flatten (by kernel_rfl) (by kernel_rfl) (by omega) rfl rfl rfl (Nat.le_refl _) (by decide) (by rw [hfl, List.length_take]; omega)
              (fun w8 hw8 => hO.front hw8 (i := 0) (by kernel_rfl) j) (fun e => by obtain ⟨g, hg⟩ := hO.start (by omega : 0 < i); rw [hg] at e; cases e) (fun u hu => by obtain ⟨cs, h1, h2⟩ := List.mem_flatten.1 hu; exact hone cs (List.mem_of_mem_take h1) u h2) (by simp only [maxLen]; omega) (by omega) (held_nil (by kernel_rfl)) ?_
            intro w8 w9 g1 cap1 rest1 hw8 hg8 hg1 hr1 hc1 hm1
            refine To.appendE (ty := 35) elFl 3 g1 j cap1 (css.take j).flatten rest1 (onA ra (j + 1) 3 rc) (i - (j + 1)) (rc - (j + 1)) (css.drop (j + 1)).flatten (i - 1) (css.eraseIdx j).flatten (by kernel_rfl) (by kernel_rfl) (by omega)
              (by rw [List.eraseIdx_eq_take_drop_succ, List.flatten_append]) (by rw [hfl, List.length_take]; omega) hr1 hc1 hm1 (by rw [flat_length (fun cs hc => hO.each cs (List.mem_of_mem_drop hc)), List.length_drop]; omega)
              (fun w10 hw10 => hO.rear hw10 (i := 0) (by kernel_rfl) (by omega)) (fun e => hO.rearNone e) (fun u hu => by obtain ⟨cs, h1, h2⟩ := List.mem_flatten.1 hu; exact hone cs (List.mem_of_mem_drop h1) u h2) (by simp only [maxLen]; omega) (by omega) (held_nil (by kernel_rfl)) ?_
            intro w10 w11 g2 cap2 rest2 hw10 hg10 hg2 hr2 hc2 hm2
            refine To.runF 8 [] (fun _ _ => by kernel_rfl) fun f16 g16 l16 => ?_
            refine To.slotE 11 (.int .i64 (IntKind.i64.wrap (Int.ofNat k + 1))) (.int .i64 (Int.ofNat (k + 1))) (by kernel_rfl) (by rw [wrap_succ k (by omega)]) ?_
            have hne : rulesAt (l.take (k + 1)) = (rulesAt (l.take k)).eraseIdx j := by rw [rulesAt_next hsk]; unfold nextR; rw [if_neg h0, if_pos h1, hf]
            exact back _ _ (k + 1, ⟨some ⟨g2, 0, none⟩, i - 1, cap2, some ⟨g2, .cells ⟨(css.eraseIdx j).flatten ++ rest2⟩ 39 (0, 0), true⟩, css.eraseIdx j⟩) [4] (by simp only; omega) ⟨by kernel_rfl, by kernel_rfl, by kernel_rfl, by kernel_rfl, by kernel_rfl, rfl⟩
              (fun _ _ => ⟨hlt, hok.snoc hsk hok6 (fun h => absurd h h0), fun _ => hl60, ⟨.inr ⟨g2, rest2, rfl, rfl, by show (css.eraseIdx j).length = i - 1; rw [List.length_eraseIdx, if_pos (by omega)]; omega, fun cs hc => hO.each cs (List.mem_of_mem_eraseIdx hc), hr2, hc2, hm2⟩⟩, by rw [hne]; exact hA.erase j⟩)
        · refine To.slotF 104 (s.op == 1) (by kernel_rfl) (by simpa using h1) ?_
          refine To.runF 13 [] (fun _ _ => by kernel_rfl) fun f13 g13 l13 => ?_
          refine To.slotE 11 (.int .i64 (IntKind.i64.wrap (Int.ofNat k + 1))) (.int .i64 (Int.ofNat (k + 1))) (by kernel_rfl) (by rw [wrap_succ k (by omega)]) ?_
          have hne : rulesAt (l.take (k + 1)) = rulesAt (l.take k) := by rw [rulesAt_next hsk]; unfold nextR; rw [if_neg h0, if_neg h1]
          exact back _ _ (k + 1, ⟨ra, i, rc, rob, css⟩) [0] (by simp only; omega) ⟨by kernel_rfl, by kernel_rfl, by kernel_rfl, by kernel_rfl, by kernel_rfl, rfl⟩ (fun _ _ => ⟨hlt, hok.snoc hsk hok6 (fun h => absurd h h0), fun _ => hl60, hO, by rw [hne]; exact hA⟩)
  · have hk1 : k = l.length := by omega
    subst hk1
    refine To.testF (decide (Int.ofNat l.length < Int.ofNat l.length)) (by kernel_rfl) (by simp) ?_
    refine To.runF 5 [] (fun _ _ => by kernel_rfl) fun f3 g3 l3 => ?_
    exact To.ret [] (.bool true) (by kernel_rfl) (by kernel_rfl) fun w9 hw9 => ⟨_, rfl, hw9.ext, true, rfl, fun _ => ⟨hok, by
      rcases Nat.eq_zero_or_pos l.length with h | h
      · omega
      · exact h60 h⟩⟩
end Go.Proofs.YtkhonkejebdcgaaGreatDoor
/- Whether a script holds nothing too long: some answer is given, and nothing else happens; what a yes means. Conditions: the script lies in memory. -/
namespace Go.Proofs.YtkhonkejebdcgaaGreatDoor
open Go Go.SX
set_option maxHeartbeats 8000000
set_option maxRecDepth 100000
theorem zzFits16 (s : Step) (ai am aa : Option Addr) (ci cm ca : Nat) (w : World) (hI : StepIn w s ai am aa ci cm) (hlen : s.addr.length ≤ 1152921504606846976) :
    Calls Tryz.prog 9 #[.agg ⟨stepCells s ai am aa ci cm ca⟩] w (fun e w1 => ∃ v, e = .returned v ∧ Ext [] w w1 ∧ ∃ b, v = .bool b ∧ (b = true → StepLen s)) := by
  refine calls_of0 (args := [.agg ⟨stepCells s ai am aa ci cm ca⟩]) Tryz.func9 rfl rfl rfl ?_
  refine To.runF 13 [0] (fun _ _ => by kernel_rfl) fun f1 g1 l1 => ?_
  refine To.test (decide (Int.ofNat s.ip.length > 2147483647)) (by kernel_rfl) (fun e1 => ?_) (fun e1 => ?_)
  · refine To.runF 4 [] (fun _ _ => by kernel_rfl) fun f2 g2 l2 => ?_
    exact To.ret [] (.bool false) (by kernel_rfl) (by kernel_rfl) fun w4 hw4 => ⟨_, rfl, hw4.ext, false, rfl, fun h => by cases h⟩
  refine To.runF 9 [0] (fun _ _ => by kernel_rfl) fun f2 g2 l2 => ?_
  refine To.test (decide (Int.ofNat s.mask.length > 2147483647)) (by kernel_rfl) (fun e2 => ?_) (fun e2 => ?_)
  · refine To.runF 4 [] (fun _ _ => by kernel_rfl) fun f3 g3 l3 => ?_
    exact To.ret [] (.bool false) (by kernel_rfl) (by kernel_rfl) fun w4 hw4 => ⟨_, rfl, hw4.ext, false, rfl, fun h => by cases h⟩
  refine To.runF 6 [0] (fun _ _ => by kernel_rfl) fun f3 g3 l3 => ?_
  refine To.callN 23 #[.slice aa s.addr.length ca] (by kernel_rfl) (fun _ => by kernel_rfl) (fun w4 hw4 => zzFits6 s.addr aa ca w4 (hI.addr.later hw4.ext).toIn hlen) (fun w4 v4 w5 hw4 hx4 hv4 hnew4 hwi4 => ?_)
  obtain ⟨t, rfl, h4⟩ := hv4
  refine To.runF 2 [] (fun _ _ => by kernel_rfl) fun f4 g4 l4 => ?_
  refine To.test (!t) (by kernel_rfl) (fun e3 => ?_) (fun e3 => ?_)
  · refine To.runF 4 [] (fun _ _ => by kernel_rfl) fun f5 g5 l5 => ?_
    exact To.ret [] (.bool false) (by kernel_rfl) (by kernel_rfl) fun w4 hw4 => ⟨_, rfl, hw4.ext, false, rfl, fun h => by cases h⟩
  refine To.runF 5 [] (fun _ _ => by kernel_rfl) fun f5 g5 l5 => ?_
  exact To.ret [] (.bool true) (by kernel_rfl) (by kernel_rfl) fun w4 hw4 => ⟨_, rfl, hw4.ext, true, rfl, fun _ => by
    have h5 := h4 (by simpa using e3)
    have h1 := of_decide_eq_false e1
    have h2 := of_decide_eq_false e2
    simp only [Int.ofNat_eq_natCast] at h1 h2
    exact ⟨by omega, by omega, h5.1, h5.2⟩⟩
theorem zzFits15 (l : List Step) (a : Option Addr) (cap : Nat) (w : World) (hin : StepsIn w a l) (hlen : l.length ≤ 1152921504606846976) (hs : ∀ s ∈ l, s.addr.length ≤ 1152921504606846976) :
    Calls Tryz.prog 4 #[.slice a l.length cap] w (fun e w1 => ∃ v, e = .returned v ∧ Ext [] w w1 ∧ ∃ b, v = .bool b ∧ (b = true → l.length ≤ 2147483647 ∧ ∀ s ∈ l, StepLen s)) := by
  refine calls_of0 (args := [.slice a l.length cap]) Tryz.func4 rfl rfl rfl ?_
  refine To.runF 11 [] (fun _ _ => by kernel_rfl) fun f1 g1 l1 => ?_
  refine To.test (decide (Int.ofNat l.length > 2147483647)) (by kernel_rfl) (fun e1 => ?_) (fun e1 => ?_)
  · refine To.runF 4 [] (fun _ _ => by kernel_rfl) fun f2 g2 l2 => ?_
    exact To.ret [] (.bool false) (by kernel_rfl) (by kernel_rfl) fun w4 hw4 => ⟨_, rfl, hw4.ext, false, rfl, fun h => by cases h⟩
  refine To.runF 9 [] (fun _ _ => by kernel_rfl) fun f2 g2 l2 => ?_
  have hl1 : l.length ≤ 2147483647 := by have := of_decide_eq_false e1; simp only [Int.ofNat_eq_natCast] at this; omega
  refine To.loop (fun i : Nat => l.length - i) (fun i => ([(0, .slice a l.length cap), (8, .slice a l.length cap), (9, .int .i64 (Int.ofNat l.length)), (10, .int .i64 (Int.ofNat i))], []))
    (fun i _ => i ≤ l.length ∧ ∀ j s, j < i → l[j]? = some s → StepLen s) 0 [] (by kernel_rfl) (by kernel_rfl) (by kernel_rfl) rfl (fun _ _ => ⟨Nat.zero_le _, fun j s hj => absurd hj (Nat.not_lt_zero j)⟩) ?_
  intro k w1 ⟨hk, hall⟩ hx1 back
  refine To.runF 5 [] (fun _ _ => by kernel_rfl) fun f3 g3 l3 => ?_
  by_cases hlt : k < l.length
  · obtain ⟨s, hsk⟩ : ∃ s, l[k]? = some s := ⟨l[k], by simp [hlt]⟩
    obtain ⟨ad, ai, am, aa, ci, cm, ca, had, hsp, hcs, hI⟩ := hin.at_ k s hsk
    refine To.testT (decide (Int.ofNat k < Int.ofNat l.length)) (by kernel_rfl) (decide_eq_true (Int.ofNat_lt.2 hlt)) ?_
    refine To.runF 5 [] (fun _ _ => by kernel_rfl) fun f4 g4 l4 => ?_
    refine To.indexAt elSt a ad l.length cap k (by kernel_rfl) had hlt ?_
    refine To.loadAgg (t := 33) (by kernel_rfl) 5 (by kernel_rfl) (ad.add (k * 5)) (stepCells s ai am aa ci cm ca) rfl (by kernel_rfl) (fun w5 hw5 j u hj => hw5.ext.cell (hcs j u hj) (by simp)) ?_
    refine To.runF 6 [0, 0, 0, 0, 0, 0, 0, 0, 0, 0] (fun _ _ => by kernel_rfl) fun f5 g5 l5 => ?_
    refine To.callN 9 #[.agg ⟨stepCells s ai am aa ci cm ca⟩] (by kernel_rfl) (fun _ => by kernel_rfl) (fun w4 hw4 => zzFits16 s ai am aa ci cm ca w4 (hI.later hw4.ext) (hs s (List.mem_of_getElem? hsk))) (fun w4 v4 w5 hw4 hx4 hv4 hnew4 hwi4 => ?_)
    obtain ⟨t, rfl, h4⟩ := hv4
    refine To.runF 2 [] (fun _ _ => by kernel_rfl) fun f6 g6 l6 => ?_
    refine To.test (!t) (by kernel_rfl) (fun e3 => ?_) (fun e3 => ?_)
    · refine To.runF 4 [] (fun _ _ => by kernel_rfl) fun f7 g7 l7 => ?_
      exact To.ret [] (.bool false) (by kernel_rfl) (by kernel_rfl) fun w4 hw4 => ⟨_, rfl, hw4.ext, false, rfl, fun h => by cases h⟩
    refine To.runF 6 [] (fun _ _ => by kernel_rfl) fun f7 g7 l7 => ?_
    refine To.slotE 10 (.int .i64 (IntKind.i64.wrap (Int.ofNat k + 1))) (.int .i64 (Int.ofNat (k + 1))) (by kernel_rfl) (by rw [wrap_succ k (by omega)]) ?_
    exact back _ _ (k + 1) [] (by omega) ⟨by kernel_rfl, by kernel_rfl, by kernel_rfl, by kernel_rfl, by kernel_rfl, rfl⟩ (fun _ _ => ⟨hlt, fun j x hj hx => by
      by_cases e : j = k
      · subst e; rw [hsk] at hx; cases hx; exact h4 (by simpa using e3)
      · exact hall j x (by omega) hx⟩)
  · have hk1 : k = l.length := by omega
    subst hk1
    refine To.testF (decide (Int.ofNat l.length < Int.ofNat l.length)) (by kernel_rfl) (by simp) ?_
    refine To.runF 5 [] (fun _ _ => by kernel_rfl) fun f4 g4 l4 => ?_
    exact To.ret [] (.bool true) (by kernel_rfl) (by kernel_rfl) fun w9 hw9 => ⟨_, rfl, hw9.ext, true, rfl, fun _ => ⟨hl1, fun s hs => by
      obtain ⟨j, hj⟩ := List.mem_iff_getElem?.1 hs
      exact hall j s (List.getElem?_eq_some_iff.1 hj).1 hj⟩⟩
end Go.Proofs.YtkhonkejebdcgaaGreatDoor
/- What memory must hold where a Go value stands for answers. Conditions: none. -/
namespace Go.Proofs.YtkhonkejebdcgaaGreatDoor
open Go Go.SX
set_option maxHeartbeats 8000000
set_option maxRecDepth 100000
/-- The types of what answers are made of. -/
def AnsTy (t : TypeId) : Prop := t = 30 ∨ t = 5
/-- A slice of texts, each text's bytes told by B. -/
def TextsT (B : World → Option Addr → List UInt8 → Prop) (w : World) (a : Option Addr) (n c : Nat) (l : List (List UInt8)) : Prop :=
  ∃ ob css, ORow 1 30 a n c ob css ∧ OTrue ob w ∧ All2 (fun t cs => ∃ b cb, cs = [.slice b t.length cb] ∧ B w b t) css l
theorem TextsT.nil (B : World → Option Addr → List UInt8 → Prop) (w : World) : TextsT B w none 0 0 [] := ⟨none, [], ORow.nil _ _, OTrue.none w, All2.nil⟩
theorem TextsT.kept {B : World → Option Addr → List UInt8 → Prop} {w w' : World} {a : Option Addr} {n c : Nat} {l : List (List UInt8)} (h : TextsT B w a n c l) (hk : KeptTy AnsTy w w') (hB : ∀ b t, B w b t → B w' b t) : TextsT B w' a n c l := by
  obtain ⟨ob, css, h1, h2, h3⟩ := h
  exact ⟨ob, css, h1, h1.keptTy h2 (.inl rfl) hk, h3.len, fun j cs x hc hx => let ⟨b, cb, e, hb⟩ := h3.at_ j cs x hc hx; ⟨b, cb, e, hB b x hb⟩⟩
/-- The cells of an answer. -/
def AnsT (B : World → Option Addr → List UInt8 → Prop) (w : World) (x : Ans) (cs : List Value) : Prop :=
  ∃ ai ni ci am nm cm, cs = [.bool x.yes, .int .i64 x.act, .slice ai ni ci, .slice am nm cm] ∧ TextsT B w ai ni ci x.ips ∧ TextsT B w am nm cm x.masks
theorem AnsT.kept {B : World → Option Addr → List UInt8 → Prop} {w w' : World} {x : Ans} {cs : List Value} (h : AnsT B w x cs) (hk : KeptTy AnsTy w w') (hB : ∀ b t, B w b t → B w' b t) : AnsT B w' x cs := by
  obtain ⟨ai, ni, ci, am, nm, cm, e, h1, h2⟩ := h
  exact ⟨ai, ni, ci, am, nm, cm, e, h1.kept hk hB, h2.kept hk hB⟩
theorem All2.mono {α : Type} {I J : α → List Value → Prop} {css : List (List Value)} {L : List α} (h : All2 I css L) (hI : ∀ x cs, I x cs → J x cs) : All2 J css L := ⟨h.len, fun j cs x hc hx => hI x cs (h.at_ j cs x hc hx)⟩
theorem ans_one {B : World → Option Addr → List UInt8 → Prop} {w : World} (x : Ans) (cs : List Value) (h : AnsT B w x cs) : ∀ u ∈ cs, u.oneCell' = true := by
  obtain ⟨ai, ni, ci, am, nm, cm, rfl, _, _⟩ := h
  intro u hu
  simp only [List.mem_cons, List.not_mem_nil, or_false] at hu
  rcases hu with rfl | rfl | rfl | rfl <;> rfl
theorem elAn : Elem Tryz.prog 25 29 4 64 := Elem.of (z := .agg #[.bool false, .int .i64 0, .slice none 0 0, .slice none 0 0]) (by kernel_rfl) (by kernel_rfl) rfl
theorem elBs : Elem Tryz.prog 27 30 1 24 := Elem.of (z := .slice none 0 0) (by kernel_rfl) (by kernel_rfl) rfl
/-- The result: a slice of answers. -/
def AnswersT (B : World → Option Addr → List UInt8 → Prop) (w : World) (a : Option Addr) (n c : Nat) (l : List Ans) : Prop := ∃ ob css, ORow 4 29 a n c ob css ∧ OTrue ob w ∧ All2 (AnsT B w) css l
end Go.Proofs.YtkhonkejebdcgaaGreatDoor
