/- A text is parsed to an address of the package, and this is written; what the thin package makes of it. Conditions: a simple address. -/
import Derived.Test.YtgodhbgnhapemaaGreatDoorJStb
import Derived.Recover
import Derived.Test.YtgodhbgnhapemaaGreatDoorSxC
import Derived.Test.YtgodhbgnhapemaaGreatDoorJMulti
import Derived.Test.YtgodhbgnhapemaaGreatDoorJAlike
set_option linter.unusedVariables false
set_option linter.unusedSimpArgs false
/- A text is parsed, and bytes are read, with a deferred closure that recovers. Conditions: as each says. -/
namespace Go.Proofs.YtgodhbgnhapemaaGreatDoor
open Go Go.SX Go.IpText
set_option maxHeartbeats 8000000
set_option maxRecDepth 100000
theorem idle1 (p : Addr) (w : World) : CallsD Tryz.prog 23 #[.pointer (some p)] .returning w fun e u' w' => e = .returned (.tuple #[]) ∧ u' = .returning ∧ w' = w := by
  refine callsD_of_wpS Tryz.func23 rfl fun c₀ cs hu => ?_
  apply wpS_seq
  apply wpS_region
  simp [wpOpsS, go_sem, recoverD, hu, Tryz.ntmps23, Exit.thenS]
  apply wpS_seq
  apply wpS_region
  simp [wpOpsS, go_sem, Exit.thenS, Array.replicate]
  refine wpS_cond (t := false) (by simp [Act.eval, Array.replicate]) ?_
  simp only [Bool.false_eq_true, if_false]
  refine wpS_of_wp (wp_skip ?_)
  cases c₀
  simp_all [bodyPostS, results, Tryz.results23]
theorem quiet1 (p : Addr) (w : World) : Quiet Tryz.prog 23 #[.pointer (some p)] w :=
  (idle1 p w).mono fun e u' w' ⟨h1, h2, h3⟩ => ⟨⟨_, h1⟩, h2, by rw [h3]; exact Ext.refl _ _⟩
theorem idle2 (p : Addr) (w : World) : CallsD Tryz.prog 39 #[.pointer (some p)] .returning w fun e u' w' => e = .returned (.tuple #[]) ∧ u' = .returning ∧ w' = w := by
  refine callsD_of_wpS Tryz.func39 rfl fun c₀ cs hu => ?_
  apply wpS_seq
  apply wpS_region
  simp [wpOpsS, go_sem, recoverD, hu, Tryz.ntmps39, Exit.thenS]
  apply wpS_seq
  apply wpS_region
  simp [wpOpsS, go_sem, Exit.thenS, Array.replicate]
  refine wpS_cond (t := false) (by simp [Act.eval, Array.replicate]) ?_
  simp only [Bool.false_eq_true, if_false]
  refine wpS_of_wp (wp_skip ?_)
  cases c₀
  simp_all [bodyPostS, results, Tryz.results39]
theorem quiet2 (p : Addr) (w : World) : Quiet Tryz.prog 39 #[.pointer (some p)] w :=
  (idle2 p w).mono fun e u' w' ⟨h1, h2, h3⟩ => ⟨⟨_, h1⟩, h2, by rw [h3]; exact Ext.refl _ _⟩
theorem newBytes (L : Ma) (hL : AllFor L) (hn : 1 ≤ L.length) (h12 : L.length ≤ 12) (a : Option Addr) (ca : Nat) (w : World) (ht : Tab w) (hin : BytesIn w a (bytesA (plain L))) (hcap : (bytesA (plain L)).length ≤ ca) :
    Calls Tryz.prog 26 #[.slice a (bytesA (plain L)).length ca] w (fun e w1 => ∃ v, e = .returned v ∧ Ext [] w w1 ∧ ∃ m, v = .tuple #[m, .nilIface] ∧ MaOut w w1 m L) := by
  refine calls_of0 (args := [.slice a (bytesA (plain L)).length ca]) Tryz.func26 rfl rfl rfl ?_
  refine To.runF 13 [] (fun _ _ => by kernel_rfl) fun f1 g1 l1 => ?_
  refine To.callN 40 #[.slice a (bytesA (plain L)).length ca] (by kernel_rfl) (fun _ => by kernel_rfl) (fun w2 hw2 => readMulti L hL hn h12 a ca w2 (ht.later hw2.ext) (hin.later hw2.ext) hcap) (fun w2 v2 w3 hw2 hx2 hv2 hnew2 hwi2 => ?_)
  obtain ⟨m, rfl, hm⟩ := hv2
  obtain ⟨mg, mc, mrest, pbs, rfl, hmg, hpl, hmc, hra, hgn⟩ : ∃ g c rest pbs, m = .slice (some ⟨g, 0, none⟩) L.length c ∧ w3.heap[g]? = some (.cells ⟨mcells L pbs ++ rest⟩ 59 (0, 0)) ∧ pbs.length = L.length ∧ L.length ≤ c ∧ RowsAt w2 w3 L pbs ∧ w2.heap.size ≤ g := by
    rcases hm with ⟨h, _⟩ | h
    · rw [h] at hn; simp at hn
    · exact h
  refine To.runF 24 [0, 0] (fun _ _ => by kernel_rfl) fun f2 g2 l2 => ?_
  refine To.testF (Int.ofNat (bytesA (plain L)).length != ((bytesA (plain L)).length : Int)) (by kernel_rfl) (by simp) ?_
  refine To.runF 8 [] (fun _ _ => by kernel_rfl) fun f3 g3 l3 => ?_
  refine To.testF ((L.length : Int) == 0) (by kernel_rfl) (beq_eq_false_iff_ne.2 (by omega)) ?_
  refine To.runF 7 [0] (fun _ _ => by kernel_rfl) fun f4 g4 l4 => ?_
  refine To.retDQ ⟨.fn (.func 39) #[.pointer (some ⟨f1 0, 0, none⟩)], #[]⟩ (.func 39) #[.pointer (some ⟨f1 0, 0, none⟩)] 39 #[.pointer (some ⟨f1 0, 0, none⟩)] [0, 0] (.tuple #[.slice (some ⟨mg, 0, none⟩) L.length mc, .nilIface]) (by kernel_rfl) rfl (fun _ => by kernel_rfl) (fun w9 _ => quiet2 ⟨f1 0, 0, none⟩ w9) (by kernel_rfl) (by kernel_rfl) (by kernel_rfl) (fun w9 w10 hw9 hx9 => ?_)
  have hf1 : f1 0 < w2.heap.size := hw2.lt (j := 0) (b := ⟨f1 0, .cells ⟨[.nilIface]⟩ 39 (0, 0), true⟩) (by kernel_rfl)
  have hwz : w.heap.size ≤ w2.heap.size := hwi2
  refine ⟨_, rfl, hw9.ext.trans hx9, .slice (some ⟨mg, 0, none⟩) L.length mc, rfl, .inr ⟨mg, mc, mrest, pbs, rfl, hx9.at (hw9.fr.at hmg (fun j x hj _ => (nums_all (Q := fun n => n ≠ mg) (l := [some (f1 0)]) (by kernel_rfl) ⟨by omega, trivial⟩) j x hj)) (by simp), hpl, hmc, fun j p pb hj hpb => ?_, by omega⟩⟩
  obtain ⟨vb, h1, h2, h3⟩ := hra j p pb hj hpb
  exact ⟨vb, (h1.fr hw9.fr (l := [some (f1 0)]) (by kernel_rfl) ⟨⟨by omega, by omega⟩, trivial⟩).later hx9, by omega, by omega⟩
theorem newMa (l : Comps) (hs : SimpleA l) (hne : l ≠ []) (h12 : l.length ≤ 12) (hv : ∀ p ∈ l, p.2.length ≤ 2147483647) (w : World) (ht : Tab w) :
    Calls Tryz.prog 14 #[.string ⟨⟨textOf l⟩⟩] w (fun e w1 => ∃ v, e = .returned v ∧ Ext [] w w1 ∧ ∃ L m, plain L = l ∧ AllFor L ∧ v = .tuple #[m, .nilIface] ∧ MaOut w w1 m L) := by
  obtain ⟨L, hL, hF⟩ := allFor hs hv
  have hn : 1 ≤ L.length := by
    match L, hL with
    | [], h => exact absurd h.symm hne
    | _ :: _, _ => simp
  have hl12 : L.length ≤ 12 := by rw [← hL] at h12; simpa [plain] using h12
  refine calls_of0 (args := [.string ⟨⟨textOf l⟩⟩]) Tryz.func14 rfl rfl rfl ?_
  refine To.runF 13 [] (fun _ _ => by kernel_rfl) fun f1 g1 l1 => ?_
  refine To.callN 25 #[.string ⟨⟨textOf l⟩⟩] (by kernel_rfl) (fun _ => by kernel_rfl) (fun w2 hw2 => strToBytes l hs hne h12 hv w2 (ht.later hw2.ext)) (fun w2 v2 w3 hw2 hx2 hv2 hnew2 hwi2 => ?_)
  obtain ⟨bg, bc, brest, rfl, hbg, hbc, hbn⟩ := hv2
  refine To.withAt bg (.cells ⟨ucells (bytesA l) ++ brest⟩ 5 (0, 0)) true hbg (hnew2 bg hbn) (fun _ => .inl (Nat.le_trans hwi2 hbn)) ?_
  refine To.runF 17 [0, 0] (fun _ _ => by kernel_rfl) fun f2 g2 l2 => ?_
  refine To.callN 26 #[.slice (some ⟨bg, 0, none⟩) (bytesA l).length bc] (by kernel_rfl) (fun _ => by kernel_rfl) (fun w4 hw4 => by
    have h := newBytes L hF hn hl12 (some ⟨bg, 0, none⟩) bc w4 (ht.later hw4.ext) (by rw [hL]; exact bytesOfZ (hw4.blk (j := 1) (b := bg) (o := .cells ⟨ucells (bytesA l) ++ brest⟩ 5 (0, 0)) (q := true) (by kernel_rfl))) (by rw [hL]; exact hbc)
    rw [hL] at h; exact h) (fun w4 v4 w5 hw4 hx4 hv4 hnew4 hwi4 => ?_)
  obtain ⟨m, rfl, hm⟩ := hv4
  have hf1 : f1 0 < w4.heap.size := hw4.lt (j := 0) (b := ⟨f1 0, .cells ⟨[.nilIface]⟩ 39 (0, 0), true⟩) (by kernel_rfl)
  have hf2 : bg < w4.heap.size := hw4.lt (j := 1) (b := ⟨bg, .cells ⟨ucells (bytesA l) ++ brest⟩ 5 (0, 0), true⟩) (by kernel_rfl)
  refine To.runF 5 [0] (fun _ _ => by kernel_rfl) fun f3 g3 l3 => ?_
  refine To.retDQ ⟨.fn (.func 23) #[.pointer (some ⟨f1 0, 0, none⟩)], #[]⟩ (.func 23) #[.pointer (some ⟨f1 0, 0, none⟩)] 23 #[.pointer (some ⟨f1 0, 0, none⟩)] [0, 0] (.tuple #[m, .nilIface]) (by kernel_rfl) rfl (fun _ => by kernel_rfl) (fun w9 _ => quiet1 ⟨f1 0, 0, none⟩ w9) (by kernel_rfl) (by kernel_rfl) (by kernel_rfl) (fun w9 w10 hw9 hx9 => ?_)
  refine ⟨_, rfl, hw9.ext.trans hx9, L, m, hL, hF, rfl, ?_⟩
  have hk : Kept (fun b => w4.heap.size ≤ b) w5 w9 := hw9.fr.kept (Q := fun b => w4.heap.size ≤ b) (l := [some (f1 0), some bg]) (by kernel_rfl) ⟨by omega, by omega, trivial⟩
  exact ((hm.kept hk (fun b _ _ _ hb _ _ => hb)).later hx9).since hwi4
end Go.Proofs.YtgodhbgnhapemaaGreatDoor
/- The bytes of an address of the package. Conditions: as each says. -/
namespace Go.Proofs.YtgodhbgnhapemaaGreatDoor
open Go Go.SX Go.IpText
set_option maxHeartbeats 8000000
set_option maxRecDepth 100000
theorem copT (l val : List UInt8) (rest : List Value) : (ucells l ++ rest.drop l.length).take l.length ++ scells ⟨⟨val⟩⟩ ++ (ucells l ++ rest.drop l.length).drop (l.length + val.length) = ucells (l ++ val) ++ rest.drop (l ++ val).length := by
  rw [scells_of]
  have h := cop l val (rest.drop l.length)
  rw [ucells_length, List.drop_drop] at h
  rw [h, List.length_append]
theorem maBytesOf (L : Ma) (hL : AllFor L) (h12 : L.length ≤ 12) (a : Option Addr) (cap : Nat) (w : World) (hin : MIn w a L) :
    Calls Tryz.prog 18 #[.slice a L.length cap] w (fun e w1 => ∃ v, e = .returned v ∧ Ext [] w w1 ∧ ∃ g c rest tag, v = .slice (some ⟨g, 0, none⟩) (bytesA (plain L)).length c ∧
      w1.heap[g]? = some (.cells ⟨ucells (bytesA (plain L)) ++ rest⟩ tag (0, 0)) ∧ w.heap.size ≤ g) := by
  refine calls_of0 (args := [.slice a L.length cap]) Tryz.func18 rfl rfl rfl ?_
  have hbo : ∀ p ∈ L, bytesOf p.1.vc p.1.size p.2 = ⟨⟨compBytes (p.1.code, p.2)⟩⟩ := fun p hp => by rw [← compOf_bytes, compOf_is (hL.row p hp)]
  have hpl : ∀ q ∈ plain L, SimpleP q.1 q.2 ∧ q.2.length ≤ 2147483647 := fun q hq => by
    obtain ⟨p, hp, rfl⟩ := List.mem_map.1 hq
    exact ⟨hL.simple p hp, hL.len p hp⟩
  have hbig : (bytesA (plain L)).length ≤ 30000000000 := by
    have := bytesA_le (fun q hq => (hpl q hq).1) (fun q hq => (hpl q hq).2)
    have h2 : (plain L).length = L.length := by simp [plain]
    omega
  have htk : ∀ (k : Nat) (p : Row × List UInt8), L[k]? = some p → bytesA (plain (L.take (k + 1))) = bytesA (plain (L.take k)) ++ compBytes (p.1.code, p.2) := fun k p hp => by
    rw [List.take_add_one, hp]
    unfold plain
    rw [List.map_append, bytesA_append]
    congr 1
    simp [bytesA]
  have hle : ∀ k, (bytesA (plain (L.take k))).length ≤ (bytesA (plain L)).length := fun k => by
    have h : bytesA (plain L) = bytesA (plain (L.take k)) ++ bytesA (plain (L.drop k)) := by
      rw [← bytesA_append]; unfold plain; rw [← List.map_append, List.take_append_drop]
    rw [h, List.length_append]; exact Nat.le_add_right _ _
  refine To.runF 16 [] (fun _ _ => by kernel_rfl) fun f1 g1 l1 => ?_
  refine To.loop (fun k : Nat => L.length - k) (fun k => ([(0, .slice a L.length cap), (3, .int .i64 (Int.ofNat (bytesA (plain (L.take k))).length)), (10, .slice a L.length cap), (11, .int .i64 (Int.ofNat L.length)), (12, .int .i64 (Int.ofNat k))], [])) (fun k _ => k ≤ L.length) 0 [] (by kernel_rfl) (by kernel_rfl) (by kernel_rfl) rfl (fun _ _ => Nat.zero_le _) ?_
  rintro k w1 hk hx1 back
  have hk : k ≤ L.length := hk
  refine To.runF 5 [] (fun _ _ => by kernel_rfl) fun f2 g2 l2 => ?_
  by_cases hlt : k < L.length
  · obtain ⟨p, hp⟩ : ∃ p, L[k]? = some p := ⟨L[k], by simp [hlt]⟩
    obtain ⟨ad, pb, vb, ha0, hsp, hc0, hc1, hc2, hr⟩ := hin.at_ k p hp
    have hpm := List.mem_of_getElem? hp
    rw [hbo p hpm] at hc0
    have htk1 := htk k p hp
    have hle1 := hle (k + 1)
    rw [htk1, List.length_append] at hle1
    refine To.testT (decide (Int.ofNat k < Int.ofNat L.length)) (by kernel_rfl) (decide_eq_true (Int.ofNat_lt.2 hlt)) ?_
    refine To.runF 5 [] (fun _ _ => by kernel_rfl) fun f3 g3 l3 => ?_
    refine To.indexAt elM a ad L.length cap k (by kernel_rfl) ha0 hlt ?_
    refine To.loadAgg (t := 59) (by kernel_rfl) 3 (by kernel_rfl) (ad.add (k * 3)) [.string ⟨⟨compBytes (p.1.code, p.2)⟩⟩, .pointer (some ⟨pb, 0, none⟩), .int .i64 (Int.ofNat (headOf p.1.vc p.1.size p.2.length).length)] rfl (by kernel_rfl) (fun w2 hw2 j v hj => by
      rw [add_add hsp]
      rcases j with _ | _ | _ | j
      · cases hj; exact hw2.ext.cell hc0 (by simp)
      · cases hj; exact hw2.ext.cell hc1 (by simp)
      · cases hj; exact hw2.ext.cell hc2 (by simp)
      · cases hj) ?_
    refine To.runF 16 [0, 0, 0, 0] (fun _ _ => by kernel_rfl) fun f4 g4 l4 => ?_
    have hsz : (ByteArray.mk ⟨compBytes (p.1.code, p.2)⟩).size = (compBytes (p.1.code, p.2)).length := rfl
    refine To.slotE 3 (.int .i64 (IntKind.i64.wrap (Int.ofNat (bytesA (plain (L.take k))).length + ((ByteArray.mk ⟨compBytes (p.1.code, p.2)⟩).size : Int)))) (.int .i64 (Int.ofNat (bytesA (plain (L.take (k + 1)))).length)) (by kernel_rfl) (by
      rw [htk1, List.length_append, hsz, IntWalk.i64_in _ ⟨by simp only [Int.ofNat_eq_natCast]; omega, by simp only [Int.ofNat_eq_natCast]; omega⟩]; rfl) ?_
    refine To.slotE 12 (.int .i64 (IntKind.i64.wrap (Int.ofNat k + 1))) (.int .i64 (Int.ofNat (k + 1))) (by kernel_rfl) (by rw [wrap_succ k (by omega)]) ?_
    exact back _ _ (k + 1) [] (by omega) ⟨by kernel_rfl, by kernel_rfl, by kernel_rfl, by kernel_rfl, by kernel_rfl, rfl⟩ (fun w7 hw7 => hlt)
  · have hkL : k = L.length := by omega
    refine To.testF (decide (Int.ofNat k < Int.ofNat L.length)) (by kernel_rfl) (by rw [hkL]; simp) ?_
    refine To.runF 11 [] (fun _ _ => by kernel_rfl) fun f3 g3 l3 => ?_
    obtain ⟨N, hN⟩ : ∃ N, N = (bytesA (plain L)).length := ⟨_, rfl⟩
    have hNk : (bytesA (plain (L.take k))).length = N := by rw [hN, hkL, List.take_length]
    refine To.meet 1 (ι := Nat × Nat × List Value × TypeId) (fun i => ([(0, .slice a L.length cap), (6, .slice (some ⟨i.1, 0, none⟩) 0 i.2.1)], [some ⟨i.1, .cells ⟨i.2.2.1⟩ i.2.2.2 (0, 0), true⟩])) (fun i _ => i.2.2.1.length = i.2.1 ∧ N ≤ i.2.1 ∧ i.2.1 ≤ maxLen) (fun join => ?_) ?_
    · by_cases h128 : N < 128
      · refine To.testT (decide (Int.ofNat (bytesA (plain (L.take k))).length < 128)) (by kernel_rfl) (decide_eq_true (by rw [hNk]; simp only [Int.ofNat_eq_natCast]; omega)) ?_
        refine To.runF 8 [] (fun _ _ => by kernel_rfl) fun f4 g4 l4 => ?_
        exact join _ _ (f4 0, 128, List.replicate 128 (.int .u8 0), 65) [0] ⟨by kernel_rfl, by kernel_rfl, by kernel_rfl, by kernel_rfl, by kernel_rfl, rfl⟩ (fun _ _ => ⟨by simp, by simp only; omega, by simp [maxLen]⟩)
      · refine To.testF (decide (Int.ofNat (bytesA (plain (L.take k))).length < 128)) (by kernel_rfl) (decide_eq_false (by rw [hNk]; simp only [Int.ofNat_eq_natCast]; omega)) ?_
        refine To.runF 2 [] (fun _ _ => by kernel_rfl) fun f4 g4 l4 => ?_
        refine To.makeRow (t := 28) elB (bytesA (plain (L.take k))).length (by kernel_rfl) (by rw [hNk]; omega) (by simp only [maxLen]; rw [hNk]; omega) ?_
        intro g rest hrl hg
        refine To.runF 2 [] (fun _ _ => by kernel_rfl) fun f5 g5 l5 => ?_
        exact join _ _ (g, (bytesA (plain (L.take k))).length, rest, 5) [0] ⟨by kernel_rfl, by kernel_rfl, by kernel_rfl, by kernel_rfl, by kernel_rfl, rfl⟩ (fun _ _ => ⟨by simp only; rw [hrl, Nat.mul_one], by simp only; rw [hNk]; exact Nat.le_refl _, by simp only [maxLen]; rw [hNk]; omega⟩)
    rintro ⟨g, c, rest, tag⟩ w3 ⟨hrl, hNc, hcm⟩ hx3
    have hrl : rest.length = c := hrl
    have hNc : N ≤ c := hNc
    refine To.runF 8 [] (fun _ _ => by kernel_rfl) fun f4 g4 l4 => ?_
    refine To.loop (fun k : Nat => L.length - k) (fun k => ([(6, .slice (some ⟨g, 0, none⟩) (bytesA (plain (L.take k))).length c), (27, .slice a L.length cap), (28, .int .i64 (Int.ofNat L.length)), (29, .int .i64 (Int.ofNat k))], [some ⟨g, .cells ⟨ucells (bytesA (plain (L.take k))) ++ rest.drop (bytesA (plain (L.take k))).length⟩ tag (0, 0), true⟩])) (fun k _ => k ≤ L.length) 0 [0] (by kernel_rfl) (by kernel_rfl) (by kernel_rfl) rfl (fun _ _ => Nat.zero_le _) ?_
    rintro k w5 hk hx5 back
    have hk : k ≤ L.length := hk
    refine To.runF 5 [] (fun _ _ => by kernel_rfl) fun f5 g5 l5 => ?_
    by_cases hlt : k < L.length
    · obtain ⟨p, hp⟩ : ∃ p, L[k]? = some p := ⟨L[k], by simp [hlt]⟩
      obtain ⟨ad, pb, vb, ha0, hsp, hc0, hc1, hc2, hr⟩ := hin.at_ k p hp
      have hpm := List.mem_of_getElem? hp
      rw [hbo p hpm] at hc0
      have htk1 := htk k p hp
      have hle1 := hle (k + 1)
      rw [htk1, List.length_append] at hle1
      refine To.testT (decide (Int.ofNat k < Int.ofNat L.length)) (by kernel_rfl) (decide_eq_true (Int.ofNat_lt.2 hlt)) ?_
      refine To.runF 5 [] (fun _ _ => by kernel_rfl) fun f6 g6 l6 => ?_
      refine To.indexAt elM a ad L.length cap k (by kernel_rfl) ha0 hlt ?_
      refine To.loadAgg (t := 59) (by kernel_rfl) 3 (by kernel_rfl) (ad.add (k * 3)) [.string ⟨⟨compBytes (p.1.code, p.2)⟩⟩, .pointer (some ⟨pb, 0, none⟩), .int .i64 (Int.ofNat (headOf p.1.vc p.1.size p.2.length).length)] rfl (by kernel_rfl) (fun w2 hw2 j v hj => by
        rw [add_add hsp]
        rcases j with _ | _ | _ | j
        · cases hj; exact hw2.ext.cell hc0 (by simp)
        · cases hj; exact hw2.ext.cell hc1 (by simp)
        · cases hj; exact hw2.ext.cell hc2 (by simp)
        · cases hj) ?_
      refine To.runF 7 [1, 1, 1, 1] (fun _ _ => by kernel_rfl) fun f7 g7 l7 => ?_
      have hsz : (ByteArray.mk ⟨compBytes (p.1.code, p.2)⟩).size = (compBytes (p.1.code, p.2)).length := rfl
      refine To.appendText (t := 28) (u := 9) (ty := 28) (e := 5) tag uBytes uString (by kernel_rfl) 0 g (bytesA (plain (L.take k))).length c (ucells (bytesA (plain (L.take k))) ++ rest.drop (bytesA (plain (L.take k))).length) (ucells (bytesA (plain (L.take (k + 1)))) ++ rest.drop (bytesA (plain (L.take (k + 1)))).length) ⟨⟨compBytes (p.1.code, p.2)⟩⟩ (bytesA (plain (L.take (k + 1)))).length
        (by kernel_rfl) (by kernel_rfl) (by rw [htk1, List.length_append, hsz]) (by rw [hsz]; omega) (by rw [hsz, List.length_append, ucells_length, List.length_drop]; omega) (by rw [htk1, hsz]; exact copT _ _ rest) (fun i x hx => by rw [show SX.Fin.heldC _ = [] by kernel_rfl] at hx; cases i <;> cases hx) ?_
      refine To.runF 7 [] (fun _ _ => by kernel_rfl) fun f8 g8 l8 => ?_
      refine To.slotE 29 (.int .i64 (IntKind.i64.wrap (Int.ofNat k + 1))) (.int .i64 (Int.ofNat (k + 1))) (by kernel_rfl) (by rw [wrap_succ k (by omega)]) ?_
      exact back _ _ (k + 1) [0] (by omega) ⟨by kernel_rfl, by kernel_rfl, by kernel_rfl, by kernel_rfl, by kernel_rfl, rfl⟩ (fun w7 hw7 => hlt)
    · have hkL : k = L.length := by omega
      have hkt : L.take k = L := by rw [hkL, List.take_length]
      refine To.testF (decide (Int.ofNat k < Int.ofNat L.length)) (by kernel_rfl) (by rw [hkL]; simp) ?_
      refine To.runF 6 [] (fun _ _ => by kernel_rfl) fun f6 g6 l6 => ?_
      exact To.ret [] (.slice (some ⟨g, 0, none⟩) (bytesA (plain (L.take k))).length c) (by kernel_rfl) (by kernel_rfl) fun w9 hw9 => ⟨_, rfl, hw9.ext, g, c, rest.drop (bytesA (plain (L.take k))).length, tag, by rw [hkt], by
        have h := hw9.blk (j := 0) (b := g) (o := .cells ⟨ucells (bytesA (plain (L.take k))) ++ rest.drop (bytesA (plain (L.take k))).length⟩ tag (0, 0)) (q := true) (by kernel_rfl)
        rw [hkt] at h ⊢; exact h,
        hw9.new (j := 0) (b := g) (o := .cells ⟨ucells (bytesA (plain (L.take k))) ++ rest.drop (bytesA (plain (L.take k))).length⟩ tag (0, 0)) (by kernel_rfl)⟩
end Go.Proofs.YtgodhbgnhapemaaGreatDoor
/- What the thin package makes of a text: its components, its bytes; and that an address is read and written. Conditions: as each says. -/
namespace Go.Proofs.YtgodhbgnhapemaaGreatDoor
open Go Go.SX Go.IpText
set_option maxHeartbeats 8000000
set_option maxRecDepth 100000
theorem implParse (l : Comps) (hs : SimpleA l) (hn : l ≠ []) (h12 : l.length ≤ 12) (hv : ∀ p ∈ l, p.2.length ≤ 2147483647) (w : World) (ht : Tab w) :
    Calls Tryz.prog 7 #[.string ⟨⟨textOf l⟩⟩] w (fun e w1 => ∃ v, e = .returned v ∧ Ext [] w w1 ∧ ∃ L m, plain L = l ∧ v = .tuple #[m, .bool true] ∧ CompsOut w.heap.size w1 m L) := by
  refine calls_of0 (args := [.string ⟨⟨textOf l⟩⟩]) Tryz.func7 rfl rfl rfl ?_
  refine To.runF 8 [] (fun _ _ => by kernel_rfl) fun f1 g1 l1 => ?_
  refine To.callN 14 #[.string ⟨⟨textOf l⟩⟩] (by kernel_rfl) (fun _ => by kernel_rfl) (fun w2 hw2 => newMa l hs hn h12 hv w2 (ht.later hw2.ext)) (fun w2 v2 w3 hw2 hx2 hv2 hnew2 hwi2 => ?_)
  obtain ⟨L, m, hL, hF, rfl, hm⟩ := hv2
  obtain ⟨ma, mc, rfl, hmin⟩ := hm.min
  have hl12 : L.length ≤ 12 := by rw [← hL] at h12; simpa [plain] using h12
  refine To.runF 17 [] (fun _ _ => by kernel_rfl) fun f2 g2 l2 => ?_
  refine To.callN 15 #[.slice ma L.length mc] (by kernel_rfl) (fun _ => by kernel_rfl) (fun w4 hw4 => components L ma mc w4 (hmin.later (frx hw4.fr (by kernel_rfl))) (by omega)) (fun w4 v4 w5 hw4 hx4 hv4 hnew4 hwi4 => ?_)
  refine To.runF 3 [] (fun _ _ => by kernel_rfl) fun f3 g3 l3 => ?_
  exact To.ret [] (.tuple #[v4, .bool true]) (by kernel_rfl) (by kernel_rfl) fun w6 hw6 => ⟨_, rfl, hw6.ext, L, v4, hL, rfl, ((CompsOut.since hv4 hwi4).kept (Q := fun _ => True) (frx hw6.fr (by kernel_rfl)).kept (fun _ _ _ _ _ _ _ => trivial))⟩
theorem implBytes (l : Comps) (hs : SimpleA l) (hn : l ≠ []) (h12 : l.length ≤ 12) (hv : ∀ p ∈ l, p.2.length ≤ 2147483647) (w : World) (ht : Tab w) :
    Calls Tryz.prog 9 #[.string ⟨⟨textOf l⟩⟩] w (fun e w1 => ∃ v, e = .returned v ∧ Ext [] w w1 ∧ ∃ g c rest tag, v = .tuple #[.slice (some ⟨g, 0, none⟩) (bytesA l).length c, .bool true] ∧ w1.heap[g]? = some (.cells ⟨ucells (bytesA l) ++ rest⟩ tag (0, 0)) ∧ w.heap.size ≤ g) := by
  refine calls_of0 (args := [.string ⟨⟨textOf l⟩⟩]) Tryz.func9 rfl rfl rfl ?_
  refine To.runF 8 [] (fun _ _ => by kernel_rfl) fun f1 g1 l1 => ?_
  refine To.callN 14 #[.string ⟨⟨textOf l⟩⟩] (by kernel_rfl) (fun _ => by kernel_rfl) (fun w2 hw2 => newMa l hs hn h12 hv w2 (ht.later hw2.ext)) (fun w2 v2 w3 hw2 hx2 hv2 hnew2 hwi2 => ?_)
  obtain ⟨L, m, hL, hF, rfl, hm⟩ := hv2
  obtain ⟨ma, mc, rfl, hmin⟩ := hm.min
  have hl12 : L.length ≤ 12 := by rw [← hL] at h12; simpa [plain] using h12
  refine To.runF 17 [] (fun _ _ => by kernel_rfl) fun f2 g2 l2 => ?_
  refine To.callN 18 #[.slice ma L.length mc] (by kernel_rfl) (fun _ => by kernel_rfl) (fun w4 hw4 => maBytesOf L hF hl12 ma mc w4 (hmin.later (frx hw4.fr (by kernel_rfl)))) (fun w4 v4 w5 hw4 hx4 hv4 hnew4 hwi4 => ?_)
  obtain ⟨g, c, rest, tag, rfl, hg, hgn⟩ := hv4
  refine To.runF 3 [] (fun _ _ => by kernel_rfl) fun f3 g3 l3 => ?_
  exact To.ret [] (.tuple #[.slice (some ⟨g, 0, none⟩) (bytesA (plain L)).length c, .bool true]) (by kernel_rfl) (by kernel_rfl) fun w6 hw6 => ⟨_, rfl, hw6.ext, g, c, rest, tag, by rw [hL], by
    rw [← hL]; exact (frx hw6.fr (by kernel_rfl)).at hg (by simp), Nat.le_trans hwi4 hgn⟩
/-- The address of maAwake. -/
def awake : Comps := [(4, [1, 2, 3, 4]), (6, [0, 5])]
theorem awake_text : textOf awake = [47, 105, 112, 52, 47, 49, 46, 50, 46, 51, 46, 52, 47, 116, 99, 112, 47, 53] := by decide +kernel
theorem awake_bytes : bytesA awake = [4, 1, 2, 3, 4, 6, 0, 5] := by decide +kernel
theorem awake_simple : SimpleA awake := by
  refine ⟨fun p hp => ?_, fun j p hj h4 => ?_⟩
  · simp only [awake, List.mem_cons, List.not_mem_nil, or_false] at hp
    rcases hp with rfl | rfl
    · exact ⟨⟨by decide, fun _ => by decide, fun h => absurd h (by decide), fun h => absurd h (by decide), fun h => absurd h (by decide)⟩, fun h => absurd h (by decide), fun h => absurd h (by decide)⟩
    · exact ⟨⟨by decide, fun _ => by decide, fun h => absurd h (by decide), fun h => absurd h (by decide), fun h => absurd h (by decide)⟩, fun h => absurd h (by decide), fun h => absurd h (by decide)⟩
  · rcases j with _ | _ | j
    · cases hj; exact absurd h4 (by decide)
    · cases hj; exact absurd h4 (by decide)
    · cases hj
theorem maAwake (w : World) (ht : Tab w) : Calls Tryz.prog 6 #[] w (fun e w1 => ∃ v, e = .returned v ∧ Ext [] w w1 ∧ v = .bool true) := by
  refine calls_of0 (args := []) Tryz.func6 rfl rfl rfl ?_
  refine To.runF 6 [] (fun _ _ => by kernel_rfl) fun f1 g1 l1 => ?_
  refine To.callN 9 #[.string ⟨⟨[47, 105, 112, 52, 47, 49, 46, 50, 46, 51, 46, 52, 47, 116, 99, 112, 47, 53]⟩⟩] (by kernel_rfl) (fun _ => by kernel_rfl) (fun w2 hw2 => by
    have h := implBytes awake awake_simple (by decide) (by decide) (by decide) w2 (ht.later hw2.ext)
    rw [awake_text, awake_bytes] at h
    exact h) (fun w2 v2 w3 hw2 hx2 hv2 hnew2 hwi2 => ?_)
  obtain ⟨g, c, rest, tag, rfl, hg, hgn⟩ := hv2
  refine To.withAt g (.cells ⟨ucells [4, 1, 2, 3, 4, 6, 0, 5] ++ rest⟩ tag (0, 0)) true hg (hnew2 g hgn) (fun _ => .inl (Nat.le_trans hwi2 hgn)) ?_
  refine To.runF 16 [0, 0, 0, 0, 0, 0, 0, 0] (fun _ _ => by kernel_rfl) fun f2 g2 l2 => ?_
  exact To.ret [] (.bool true) (by kernel_rfl) (by kernel_rfl) fun w4 hw4 => ⟨_, rfl, hw4.ext, rfl⟩
end Go.Proofs.YtgodhbgnhapemaaGreatDoor
