/- The walk of laws.FnMaParse: it returns true and turns nothing. Conditions: the argument is read as a list, the library's table lies as it is laid. -/
import Derived.Test.YtgodhbgnhapemaaGreatDoorJNew
import Derived.Test.YtgodhbgnhapemaaGreatDoorJAlike
set_option linter.unusedVariables false
set_option linter.unusedSimpArgs false
/- The walk of laws.FnMaParse: it returns true and turns nothing. Conditions: the argument is read as a list, the library's table lies as it is laid. -/
namespace Go.Proofs.YtgodhbgnhapemaaGreatDoor
open Go Go.SX Go.IpText
set_option maxHeartbeats 8000000
set_option maxRecDepth 100000
theorem law (l : Comps) (a : Option Addr) (cap : Nat) (w : World) (ht : Tab w) (hin : CompsC w a l) (hlen : l.length ≤ 1152921504606846976) :
    Calls Tryz.prog 3 #[.slice a l.length cap] w (fun e w1 => ∃ v, e = .returned v ∧ Ext [] w w1 ∧ v = .bool true) := by
  refine calls_of0 (args := [.slice a l.length cap]) Tryz.func3 rfl rfl rfl ?_
  refine To.runF 8 [] (fun _ _ => by kernel_rfl) fun f1 g1 l1 => ?_
  refine To.callN 4 #[.slice a l.length cap] (by kernel_rfl) (fun _ => by kernel_rfl) (fun w2 hw2 => zzFits6 l a cap w2 (hin.later hw2.ext).toIn hlen) (fun w2 v2 w3 hw2 hx2 hv2 hnew2 hwi2 => ?_)
  obtain ⟨t1, rfl, h1⟩ := hv2
  refine To.runF 2 [] (fun _ _ => by kernel_rfl) fun f2 g2 l2 => ?_
  refine To.test (!t1) (by kernel_rfl) (fun e1 => ?_) (fun e1 => ?_)
  · refine To.runF 4 [] (fun _ _ => by kernel_rfl) fun f3 g3 l3 => ?_
    exact To.ret [] (.bool true) (by kernel_rfl) (by kernel_rfl) fun w4 hw4 => ⟨_, rfl, hw4.ext, rfl⟩
  obtain ⟨h2, h3⟩ := h1 (by simpa using e1)
  refine To.runF 5 [] (fun _ _ => by kernel_rfl) fun f3 g3 l3 => ?_
  refine To.callN 5 #[.slice a l.length cap] (by kernel_rfl) (fun _ => by kernel_rfl) (fun w4 hw4 => maAddress l a cap w4 (hin.later hw4.ext).toIn hlen (fun p hp => Nat.le_trans (h3 p hp) (by decide))) (fun w4 v4 w5 hw4 hx4 hv4 hnew4 hwi4 => ?_)
  obtain ⟨t2, rfl, h4⟩ := hv4
  refine To.runF 2 [] (fun _ _ => by kernel_rfl) fun f4 g4 l4 => ?_
  refine To.test (!t2) (by kernel_rfl) (fun e2 => ?_) (fun e2 => ?_)
  · refine To.runF 2 [] (fun _ _ => by kernel_rfl) fun f5 g5 l5 => ?_
    refine To.callN 6 #[] (by kernel_rfl) (fun _ => by kernel_rfl) (fun wa hwa => maAwake wa (ht.later hwa.ext)) (fun wa va wb hwa hxa hva hnewa hwia => ?_)
    subst hva
    refine To.runF 2 [] (fun _ _ => by kernel_rfl) fun f6 g6 l6 => ?_
    exact To.ret [] (.bool true) (by kernel_rfl) (by kernel_rfl) fun w4 hw4 => ⟨_, rfl, hw4.ext, rfl⟩
  obtain ⟨h5, h6, h7, h8⟩ := h4 (by simpa using e2)
  have hS : SimpleA l := ⟨fun p hp => by
    obtain ⟨sz, hsz⟩ := h7 p hp
    have he := szOf_is hsz.mem
    rw [← he] at hsz
    exact ⟨hsz, hsz.name, hsz.path⟩, h8⟩
  have hne : l ≠ [] := fun e => by rw [e] at h5; simp at h5
  refine To.runF 4 [] (fun _ _ => by kernel_rfl) fun f5 g5 l5 => ?_
  refine To.callN 8 #[.slice a l.length cap] (by kernel_rfl) (fun _ => by kernel_rfl) (fun w6 hw6 => maText l a cap w6 (hin.later hw6.ext) hS h6 h3) (fun w6 v6 w7 hw6 hx6 hv6 hnew6 hwi6 => ?_)
  subst hv6
  refine To.callN 7 #[.string ⟨⟨textOf l⟩⟩] (by kernel_rfl) (fun _ => by kernel_rfl) (fun w8 hw8 => implParse l hS hne h6 h3 w8 (ht.later hw8.ext)) (fun w8 v8 w9 hw8 hx8 hv8 hnew8 hwi8 => ?_)
  obtain ⟨L, m, hL, rfl, hm⟩ := hv8
  obtain ⟨ma, mc, rfl, hmin⟩ := hm.min
  rw [hL] at hmin
  have hLl : L.length = l.length := by rw [← hL]; simp [plain]
  refine To.runF 9 [] (fun _ _ => by kernel_rfl) fun f6 g6 l6 => ?_
  refine To.callN 8 #[.slice a l.length cap] (by kernel_rfl) (fun _ => by kernel_rfl) (fun w10 hw10 => maText l a cap w10 (hin.later hw10.ext) hS h6 h3) (fun w10 v10 w11 hw10 hx10 hv10 hnew10 hwi10 => ?_)
  subst hv10
  have hmin11 := (hmin.later (frx hw10.fr (by kernel_rfl))).later hx10
  refine To.callN 9 #[.string ⟨⟨textOf l⟩⟩] (by kernel_rfl) (fun _ => by kernel_rfl) (fun w12 hw12 => implBytes l hS hne h6 h3 w12 (ht.later hw12.ext)) (fun w12 v12 w13 hw12 hx12 hv12 hnew12 hwi12 => ?_)
  obtain ⟨bg, bc, brest, btag, rfl, hbg, hbn⟩ := hv12
  have hmin13 := (hmin11.later (frx hw12.fr (by kernel_rfl))).later hx12
  have hbin13 : BytesIn w13 (some ⟨bg, 0, none⟩) (bytesA l) := bytesOfZ hbg
  refine To.runF 8 [0, 0] (fun _ _ => by kernel_rfl) fun f7 g7 l7 => ?_
  refine To.callN 6 #[] (by kernel_rfl) (fun _ => by kernel_rfl) (fun wa hwa => maAwake wa (ht.later hwa.ext)) (fun w14 v14 w15 hw14 hx14 hv14 hnew14 hwi14 => ?_)
  subst hv14
  have hmin15 := (hmin13.later (frx hw14.fr (by kernel_rfl))).later hx14
  have hbin15 := (hbin13.later (frx hw14.fr (by kernel_rfl))).later hx14
  refine To.runF 9 [8] (fun _ _ => by kernel_rfl) fun f8 g8 l8 => ?_
  refine To.slotE 34 (.slice ma L.length mc) (.slice ma l.length mc) (by kernel_rfl) (by rw [hLl]) ?_
  refine To.callN 10 #[.slice ma l.length mc, .slice a l.length cap] (by kernel_rfl) (fun _ => by kernel_rfl) (fun w16 hw16 => maAlike l l ma a mc cap w16 (hmin15.later (frx hw16.fr (by kernel_rfl))) (hin.later hw16.ext).toIn hlen hlen) (fun w16 v16 w17 hw16 hx16 hv16 hnew16 hwi16 => ?_)
  have hv16 : v16 = .bool true := by rw [hv16]; simp
  subst hv16
  have hbin17 := (hbin15.later (frx hw16.fr (by kernel_rfl))).later hx16
  refine To.runF 4 [13, 15] (fun _ _ => by kernel_rfl) fun f9 g9 l9 => ?_
  refine To.pick 1 (by kernel_rfl) ⟨⟨trivial, ?_⟩, ?_⟩
  · refine To.textOf (src := 28) (dst := 9) (e := 5) (some ⟨bg, 0, none⟩) (bytesA l).length bc (bytesA l) rfl uBytes uString uU8 (by kernel_rfl) (fun w8 hw8 j u hj => (hbin17.later (frx hw8.fr (by kernel_rfl))).at_ j u hj) (fun e => by cases e) ?_
    refine To.callN 11 #[.slice a l.length cap] (by kernel_rfl) (fun _ => by kernel_rfl) (fun w18 hw18 => maBytes l a cap w18 (hin.later hw18.ext) hS h6 h3) (fun w18 v18 w19 hw18 hx18 hv18 hnew18 hwi18 => ?_)
    obtain ⟨xg, xc, xrest, rfl, hxg, hxn⟩ := hv18
    have hxin19 : BytesIn w19 (some ⟨xg, 0, none⟩) (bytesA l) := bytesOfZ hxg
    have hbin19 := (hbin17.later (frx hw18.fr (by kernel_rfl))).later hx18
    refine To.textOf (src := 28) (dst := 9) (e := 5) (some ⟨xg, 0, none⟩) (bytesA l).length xc (bytesA l) rfl uBytes uString uU8 (by kernel_rfl) (fun w8 hw8 j u hj => (hxin19.later (frx hw8.fr (by kernel_rfl))).at_ j u hj) (fun e => by cases e) ?_
    refine To.runF 4 [] (fun _ _ => by kernel_rfl) fun f10 g10 l10 => ?_
    exact To.ret [] (.bool ((ByteArray.mk ⟨bytesA l⟩).toList == (ByteArray.mk ⟨bytesA l⟩).toList)) (by kernel_rfl) (by kernel_rfl) fun w4 hw4 => ⟨_, rfl, hw4.ext, by simp⟩
  · refine To.callN 11 #[.slice a l.length cap] (by kernel_rfl) (fun _ => by kernel_rfl) (fun w18 hw18 => maBytes l a cap w18 (hin.later hw18.ext) hS h6 h3) (fun w18 v18 w19 hw18 hx18 hv18 hnew18 hwi18 => ?_)
    obtain ⟨xg, xc, xrest, rfl, hxg, hxn⟩ := hv18
    have hxin19 : BytesIn w19 (some ⟨xg, 0, none⟩) (bytesA l) := bytesOfZ hxg
    have hbin19 := (hbin17.later (frx hw18.fr (by kernel_rfl))).later hx18
    refine To.pick 1 (by kernel_rfl) ⟨⟨trivial, ?_⟩, ?_⟩
    · refine To.textOf (src := 28) (dst := 9) (e := 5) (some ⟨bg, 0, none⟩) (bytesA l).length bc (bytesA l) rfl uBytes uString uU8 (by kernel_rfl) (fun w8 hw8 j u hj => (hbin19.later (frx hw8.fr (by kernel_rfl))).at_ j u hj) (fun e => by cases e) ?_
      refine To.textOf (src := 28) (dst := 9) (e := 5) (some ⟨xg, 0, none⟩) (bytesA l).length xc (bytesA l) rfl uBytes uString uU8 (by kernel_rfl) (fun w8 hw8 j u hj => (hxin19.later (frx hw8.fr (by kernel_rfl))).at_ j u hj) (fun e => by cases e) ?_
      refine To.runF 4 [] (fun _ _ => by kernel_rfl) fun f10 g10 l10 => ?_
      exact To.ret [] (.bool ((ByteArray.mk ⟨bytesA l⟩).toList == (ByteArray.mk ⟨bytesA l⟩).toList)) (by kernel_rfl) (by kernel_rfl) fun w4 hw4 => ⟨_, rfl, hw4.ext, by simp⟩
    · refine To.textOf (src := 28) (dst := 9) (e := 5) (some ⟨xg, 0, none⟩) (bytesA l).length xc (bytesA l) rfl uBytes uString uU8 (by kernel_rfl) (fun w8 hw8 j u hj => (hxin19.later (frx hw8.fr (by kernel_rfl))).at_ j u hj) (fun e => by cases e) ?_
      refine To.textOf (src := 28) (dst := 9) (e := 5) (some ⟨bg, 0, none⟩) (bytesA l).length bc (bytesA l) rfl uBytes uString uU8 (by kernel_rfl) (fun w8 hw8 j u hj => (hbin19.later (frx hw8.fr (by kernel_rfl))).at_ j u hj) (fun e => by cases e) ?_
      refine To.runF 4 [] (fun _ _ => by kernel_rfl) fun f10 g10 l10 => ?_
      exact To.ret [] (.bool ((ByteArray.mk ⟨bytesA l⟩).toList == (ByteArray.mk ⟨bytesA l⟩).toList)) (by kernel_rfl) (by kernel_rfl) fun w4 hw4 => ⟨_, rfl, hw4.ext, by simp⟩
end Go.Proofs.YtgodhbgnhapemaaGreatDoor
