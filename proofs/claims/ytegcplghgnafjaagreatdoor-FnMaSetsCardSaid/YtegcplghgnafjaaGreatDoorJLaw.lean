/- The walk of laws.FnMaSets: it returns true and turns nothing. Conditions: the arguments are read as lists. -/
import Derived.Test.YtegcplghgnafjaaGreatDoorJPlain
/- The law FnMaSets. Conditions: as each says. -/
namespace Go.Proofs.YtegcplghgnafjaaGreatDoor
open Go Go.SX
set_option maxHeartbeats 8000000
set_option maxRecDepth 100000
theorem law (L : List Comps) (x : Comps) (K : List (List Int)) (a b c : Option Addr) (ca cb cc : Nat) (w : World) (hL : AddrsIn w a L) (hx : CompsIn w b x) (hK : CodesIn w c K)
    (bL : L.length ≤ 1152921504606846976) (bLs : ∀ x ∈ L, x.length ≤ 1152921504606846976) (bx : x.length ≤ 1152921504606846976) (bK : K.length ≤ 1152921504606846976) (bKs : ∀ x ∈ K, x.length ≤ 1152921504606846976) :
    Calls Tryz.prog 3 #[.slice a L.length ca, .slice b x.length cb, .slice c K.length cc] w (fun e w1 => ∃ v, e = .returned v ∧ Ext [] w w1 ∧ v = .bool true) := by
  refine calls_of0 (args := [.slice a L.length ca, .slice b x.length cb, .slice c K.length cc]) Tryz.func3 rfl rfl rfl ?_
  refine To.runF 8 [] (fun _ _ => by kernel_rfl) fun f1 g1 l1 => ?_
  refine To.callN 4 #[.slice a L.length ca] (by kernel_rfl) (fun _ => by kernel_rfl) (fun w2 hw2 => zzFits12 L a ca w2 (hL.later hw2.ext) bL bLs) (fun w2 v2 w3 hw2 hx2 hv2 hnew2 hwi2 => ?_)
  obtain ⟨t1, rfl, h1⟩ := hv2
  refine To.runF 2 [] (fun _ _ => by kernel_rfl) fun f2 g2 l2 => ?_
  refine To.slot 10 (!t1) (by kernel_rfl) (fun e1 => ?_) (fun e1 => ?_)
  · refine To.runF 15 [] (fun _ _ => by kernel_rfl) fun f3 g3 l3 => ?_
    exact To.ret [] (.bool true) (by kernel_rfl) (by kernel_rfl) fun w4 hw4 => ⟨_, rfl, hw4.ext, rfl⟩
  obtain ⟨h2, h3⟩ := h1 (by simpa using e1)
  refine To.runF 1 [] (fun _ _ => by kernel_rfl) fun f3 g3 l3 => ?_
  refine To.callN 5 #[.slice b x.length cb] (by kernel_rfl) (fun _ => by kernel_rfl) (fun w4 hw4 => zzFits6 x b cb w4 (hx.later hw4.ext) bx) (fun w4 v4 w5 hw4 hx4 hv4 hnew4 hwi4 => ?_)
  obtain ⟨t2, rfl, h4⟩ := hv4
  refine To.runF 3 [] (fun _ _ => by kernel_rfl) fun f4 g4 l4 => ?_
  refine To.slot 15 (!t2) (by kernel_rfl) (fun e2 => ?_) (fun e2 => ?_)
  · refine To.runF 10 [] (fun _ _ => by kernel_rfl) fun f5 g5 l5 => ?_
    exact To.ret [] (.bool true) (by kernel_rfl) (by kernel_rfl) fun w4 hw4 => ⟨_, rfl, hw4.ext, rfl⟩
  have h5 := h4 (by simpa using e2)
  refine To.runF 1 [] (fun _ _ => by kernel_rfl) fun f5 g5 l5 => ?_
  refine To.callN 6 #[.slice c K.length cc] (by kernel_rfl) (fun _ => by kernel_rfl) (fun w6 hw6 => zzFits13 K c cc w6 (hK.later hw6.ext) bK bKs) (fun w6 v6 w7 hw6 hx6 hv6 hnew6 hwi6 => ?_)
  obtain ⟨t3, rfl, h6⟩ := hv6
  refine To.runF 3 [] (fun _ _ => by kernel_rfl) fun f6 g6 l6 => ?_
  refine To.test (!t3) (by kernel_rfl) (fun e3 => ?_) (fun e3 => ?_)
  · refine To.runF 4 [] (fun _ _ => by kernel_rfl) fun f7 g7 l7 => ?_
    exact To.ret [] (.bool true) (by kernel_rfl) (by kernel_rfl) fun w4 hw4 => ⟨_, rfl, hw4.ext, rfl⟩
  obtain ⟨h7, h8⟩ := h6 (by simpa using e3)
  refine To.runF 5 [] (fun _ _ => by kernel_rfl) fun f7 g7 l7 => ?_
  refine To.callN 7 #[.slice a L.length ca] (by kernel_rfl) (fun _ => by kernel_rfl) (fun w8 hw8 => maSimple L a ca w8 (hL.later hw8.ext) bL h3) (fun w8 v8 w9 hw8 hx8 hv8 hnew8 hwi8 => ?_)
  obtain ⟨t4, rfl, h9⟩ := hv8
  refine To.runF 2 [] (fun _ _ => by kernel_rfl) fun f8 g8 l8 => ?_
  refine To.slot 23 (!t4) (by kernel_rfl) (fun e4 => ?_) (fun e4 => ?_)
  · skip
    refine To.runF 19 [] (fun _ _ => by kernel_rfl) fun f9 g9 l9 => ?_
    refine To.callN 8 #[] (by kernel_rfl) (fun _ => by kernel_rfl) (fun wa hwa => maAlive uvTo wa) (fun wa va wb hwa hxa hva hnewa hwia => ?_)
    subst hva
    refine To.runF 2 [] (fun _ _ => by kernel_rfl) fun f10 g10 l10 => ?_
    exact To.ret [] (.bool true) (by kernel_rfl) (by kernel_rfl) fun w4 hw4 => ⟨_, rfl, hw4.ext, rfl⟩
  have h10 := h9 (by simpa using e4)
  refine To.runF 2 [] (fun _ _ => by kernel_rfl) fun f9 g9 l9 => ?_
  refine To.callN 7 #[.slice (some ⟨f9 0, 0, none⟩) 1 1] (by kernel_rfl) (fun _ => by kernel_rfl) (fun w10 hw10 => maSimple [x] (some ⟨f9 0, 0, none⟩) 1 w10 ⟨fun j y hj => by
      rcases j with _ | j
      · cases hj; exact ⟨_, b, cb, rfl, rfl, hw10.cellAt (j := 0) (b := f9 0) (l := [.slice b x.length cb]) (e := 23) (f := (0, 0)) (q := true) (by kernel_rfl) rfl, hx.later hw10.ext⟩
      · cases hj⟩ (by simp) (fun y hy => by simp only [List.mem_singleton] at hy; rw [hy]; exact h5)) (fun w10 v10 w11 hw10 hx10 hv10 hnew10 hwi10 => ?_)
  obtain ⟨t5, rfl, h11⟩ := hv10
  refine To.runF 3 [] (fun _ _ => by kernel_rfl) fun f10 g10 l10 => ?_
  refine To.slot 29 (!t5) (by kernel_rfl) (fun e5 => ?_) (fun e5 => ?_)
  · skip
    refine To.runF 13 [] (fun _ _ => by kernel_rfl) fun f11 g11 l11 => ?_
    refine To.callN 8 #[] (by kernel_rfl) (fun _ => by kernel_rfl) (fun wa hwa => maAlive uvTo wa) (fun wa va wb hwa hxa hva hnewa hwia => ?_)
    subst hva
    refine To.runF 2 [] (fun _ _ => by kernel_rfl) fun f12 g12 l12 => ?_
    exact To.ret [] (.bool true) (by kernel_rfl) (by kernel_rfl) fun w4 hw4 => ⟨_, rfl, hw4.ext, rfl⟩
  have h12 := h11 (by simpa using e5)
  refine To.runF 5 [] (fun _ _ => by kernel_rfl) fun f11 g11 l11 => ?_
  refine To.slot 34 (decide (Int.ofNat L.length > 12)) (by kernel_rfl) (fun e6 => ?_) (fun e6 => ?_)
  · skip
    refine To.runF 8 [] (fun _ _ => by kernel_rfl) fun f12 g12 l12 => ?_
    refine To.callN 8 #[] (by kernel_rfl) (fun _ => by kernel_rfl) (fun wa hwa => maAlive uvTo wa) (fun wa va wb hwa hxa hva hnewa hwia => ?_)
    subst hva
    refine To.runF 2 [] (fun _ _ => by kernel_rfl) fun f13 g13 l13 => ?_
    exact To.ret [] (.bool true) (by kernel_rfl) (by kernel_rfl) fun w4 hw4 => ⟨_, rfl, hw4.ext, rfl⟩
  have h13 : L.length ≤ 12 := by have := of_decide_eq_false e6; simp only [Int.ofNat_eq_natCast] at this; omega
  refine To.runF 5 [] (fun _ _ => by kernel_rfl) fun f12 g12 l12 => ?_
  refine To.test (decide (Int.ofNat K.length > 4)) (by kernel_rfl) (fun e7 => ?_) (fun e7 => ?_)
  · skip
    refine To.runF 2 [] (fun _ _ => by kernel_rfl) fun f13 g13 l13 => ?_
    refine To.callN 8 #[] (by kernel_rfl) (fun _ => by kernel_rfl) (fun wa hwa => maAlive uvTo wa) (fun wa va wb hwa hxa hva hnewa hwia => ?_)
    subst hva
    refine To.runF 2 [] (fun _ _ => by kernel_rfl) fun f14 g14 l14 => ?_
    exact To.ret [] (.bool true) (by kernel_rfl) (by kernel_rfl) fun w4 hw4 => ⟨_, rfl, hw4.ext, rfl⟩
  have h14 : K.length ≤ 4 := by have := of_decide_eq_false e7; simp only [Int.ofNat_eq_natCast] at this; omega
  refine To.runF 3 [] (fun _ _ => by kernel_rfl) fun f13 g13 l13 => ?_
  refine To.callN 8 #[] (by kernel_rfl) (fun _ => by kernel_rfl) (fun wa hwa => maAlive uvTo wa) (fun w12 v12 w13 hw12 hx12 hv12 hnew12 hwi12 => ?_)
  subst hv12
  obtain ⟨M, hM, hst⟩ := stands_all L h10 h3
  obtain ⟨l, hl⟩ := stands x (h12 x (by simp)) h5
  have eL : L.length = M.length := by rw [← hM, List.length_map]
  have ex : x.length = l.length := by rw [← hl.plain]; simp [plain]
  have hML : ∀ w', AddrsIn w' a L → AddrsIn w' a (M.map plain) := fun w' h => by rw [hM]; exact h
  have hfM : ∀ k ∈ M, ∀ p ∈ k, Fine p := fun k hk => (hst k hk).fine
  have htM : ∀ k ∈ M, ∀ p ∈ k, InTab p := fun k hk => (hst k hk).tab
  have hlM : ∀ k ∈ M, k.length ≤ 1000000000 := fun k hk => by
    rcases h10 (plain k) (by rw [← hM]; exact List.mem_map.2 ⟨k, hk, rfl⟩) with h | h
    · have : k = [] := by simpa [plain] using h
      rw [this]; simp
    · have := h.2.1; simp only [plain, List.length_map] at this; omega
  have hlx : l.length ≤ 1000000000 := by have := h5.1; rw [← ex]; rcases h12 x (by simp) with h | h; rw [h]; simp; have := h.2.1; omega
  refine To.runF 3 [] (fun _ _ => by kernel_rfl) fun f14 g14 l14 => ?_
  refine To.callN 9 #[.slice a L.length ca, .slice b x.length cb] (by kernel_rfl) (fun _ => by kernel_rfl) (fun w14 hw14 => by
    rw [eL, ex]
    exact implContains uvTo M l a b ca cb w14 (hML _ (hL.later hw14.ext)) (by rw [hl.plain]; exact hx.later hw14.ext) hfM hl.fine (by omega) (fun k hk => by have := hlM k hk; omega) (by omega)) (fun w14 v14 w15 hw14 hx14 hv14 hnew14 hwi14 => ?_)
  rw [hasMa_plain hl.tab htM, hM, hl.plain] at hv14
  subst hv14
  refine To.runF 2 [] (fun _ _ => by kernel_rfl) fun f15 g15 l15 => ?_
  refine To.callN 10 #[.slice a L.length ca, .slice b x.length cb] (by kernel_rfl) (fun _ => by kernel_rfl) (fun w16 hw16 => maContains L x a b ca cb w16 (hL.later hw16.ext) (hx.later hw16.ext) bL bx bLs) (fun w16 v16 w17 hw16 hx16 hv16 hnew16 hwi16 => ?_)
  subst hv16
  refine To.runF 3 [] (fun _ _ => by kernel_rfl) fun f16 g16 l16 => ?_
  refine To.slotT 50 (decide (x ∈ L) == decide (x ∈ L)) (by kernel_rfl) (by simp) ?_
  refine To.runF 1 [] (fun _ _ => by kernel_rfl) fun f17 g17 l17 => ?_
  refine To.callN 12 #[.slice a L.length ca] (by kernel_rfl) (fun _ => by kernel_rfl) (fun w18 hw18 => by
    rw [eL]
    exact implUnique uvTo M a ca w18 (hML _ (hL.later hw18.ext)) hfM (by omega) hlM) (fun w18 v18 w19 hw18 hx18 hv18 hnew18 hwi18 => ?_)
  obtain ⟨U, a18, c18, rfl, hU, hnd, hmem, hsub⟩ := hv18
  refine To.runF 1 [] (fun _ _ => by kernel_rfl) fun f18 g18 l18 => ?_
  refine To.callN 13 #[.slice a L.length ca] (by kernel_rfl) (fun _ => by kernel_rfl) (fun w20 hw20 => maUnique L a ca w20 (hL.later hw20.ext) (by omega) bLs) (fun w20 v20 w21 hw20 hx20 hv20 hnew20 hwi20 => ?_)
  obtain ⟨a20, c20, rfl, hV⟩ := hv20
  have hb19 := hx18.at (hw18.blk (j := 0) (b := f9 0) (o := .cells ⟨[.slice b x.length cb]⟩ 23 (0, 0)) (q := true) (by kernel_rfl)) (by simp)
  have hU21 := (hU.later (frx1 hw20.fr (by kernel_rfl) hb19 (hw20.blk (j := 0) (b := f9 0) (o := .cells ⟨[.slice b x.length cb]⟩ 23 (0, 0)) (q := true) (by kernel_rfl)))).later hx20
  have hb21 := hx20.at (hw20.blk (j := 0) (b := f9 0) (o := .cells ⟨[.slice b x.length cb]⟩ 23 (0, 0)) (q := true) (by kernel_rfl)) (by simp)
  have hon := once_plain htM hnd hmem hsub
  rw [hM] at hon
  have eU : U.length = (U.map plain).length := by simp
  refine To.callN 11 #[.slice a18 U.length c18, .slice a20 (uniqOf L).length c20] (by kernel_rfl) (fun _ => by kernel_rfl) (fun w22 hw22 => by
    rw [eU]
    have hx22 : Ext [] w21 w22 := frx1 hw22.fr (by kernel_rfl) hb21 (hw22.blk (j := 0) (b := f9 0) (o := .cells ⟨[.slice b x.length cb]⟩ 23 (0, 0)) (q := true) (by kernel_rfl))
    exact onceEach (U.map plain) (uniqOf L) a18 a20 c18 c20 w22 (hU21.later hx22) (hV.later hx22) (by have := uniq_le L; rw [hon.2]; omega) (by have := uniq_le L; omega)
      (fun y hy => by obtain ⟨u, hu, rfl⟩ := List.mem_map.1 hy; have := hlM u (hsub u hu); simp only [plain, List.length_map]; omega) (fun y hy => bLs y (uniq_sub L y hy))) (fun w22 v22 w23 hw22 hx22 hv22 hnew22 hwi22 => ?_)
  rw [decide_eq_true ⟨hon.1, hon.2⟩] at hv22
  subst hv22
  refine To.runF 4 [] (fun _ _ => by kernel_rfl) fun f19 g19 l19 => ?_
  refine To.callN 15 #[.slice a L.length ca, .slice c K.length cc] (by kernel_rfl) (fun _ => by kernel_rfl) (fun w24 hw24 => by
    rw [eL]
    exact implFilter uvTo M K a c ca cc w24 (hML _ (hL.later hw24.ext)) (hK.later hw24.ext) hfM (by omega) (by omega) hlM bKs) (fun w24 v24 w25 hw24 hx24 hv24 hnew24 hwi24 => ?_)
  obtain ⟨a24, c24, hv24e, hF⟩ := hv24
  rw [filter_plain, hM] at hF
  have eF : (M.filter (keptMa K)).length = (L.filter (keptBy K)).length := by rw [← hM, ← filter_plain]; simp
  obtain rfl : v24 = .slice a24 (L.filter (keptBy K)).length c24 := hv24e.trans (congrArg (fun n => Value.slice a24 n c24) eF)
  have hb25 := hx24.at (hw24.blk (j := 0) (b := f9 0) (o := .cells ⟨[.slice b x.length cb]⟩ 23 (0, 0)) (q := true) (by kernel_rfl)) (by simp)
  refine To.runF 2 [] (fun _ _ => by kernel_rfl) fun f20 g20 l20 => ?_
  refine To.callN 16 #[.slice a L.length ca, .slice c K.length cc] (by kernel_rfl) (fun _ => by kernel_rfl) (fun w26 hw26 => maFilter L K a c ca cc w26 (hL.later hw26.ext) (hK.later hw26.ext) (by omega) bK bLs bKs) (fun w26 v26 w27 hw26 hx26 hv26 hnew26 hwi26 => ?_)
  obtain ⟨a26, c26, rfl, hG⟩ := hv26
  have hF27 := (hF.later (frx1 hw26.fr (by kernel_rfl) hb25 (hw26.blk (j := 0) (b := f9 0) (o := .cells ⟨[.slice b x.length cb]⟩ 23 (0, 0)) (q := true) (by kernel_rfl)))).later hx26
  have hb27 := hx26.at (hw26.blk (j := 0) (b := f9 0) (o := .cells ⟨[.slice b x.length cb]⟩ 23 (0, 0)) (q := true) (by kernel_rfl)) (by simp)
  have hFl : ∀ y ∈ L.filter (keptBy K), y.length ≤ 1152921504606846976 := fun y hy => bLs y (List.mem_filter.1 hy).1
  have hFn : (L.filter (keptBy K)).length ≤ 1152921504606846976 := Nat.le_trans (List.length_filter_le _ _) bL
  refine To.callN 14 #[.slice a24 (L.filter (keptBy K)).length c24, .slice a26 (L.filter (keptBy K)).length c26] (by kernel_rfl) (fun _ => by kernel_rfl) (fun w28 hw28 => by
    have hx28 : Ext [] w27 w28 := frx1 hw28.fr (by kernel_rfl) hb27 (hw28.blk (j := 0) (b := f9 0) (o := .cells ⟨[.slice b x.length cb]⟩ 23 (0, 0)) (q := true) (by kernel_rfl))
    exact alikeAll (L.filter (keptBy K)) (L.filter (keptBy K)) a24 a26 c24 c26 w28 (hF27.later hx28) (hG.later hx28) hFn hFn hFl hFl) (fun w28 v28 w29 hw28 hx28 hv28 hnew28 hwi28 => ?_)
  rw [decide_eq_true rfl] at hv28
  subst hv28
  refine To.runF 3 [] (fun _ _ => by kernel_rfl) fun f21 g21 l21 => ?_
  exact To.ret [] (.bool true) (by kernel_rfl) (by kernel_rfl) fun w30 hw30 => ⟨_, rfl, hw30.ext, rfl⟩
end Go.Proofs.YtegcplghgnafjaaGreatDoor
