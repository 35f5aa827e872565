/- Which networks are right, and whether a network has an address, as plain laws. Conditions: as each says. -/
import Derived.Test.YtkhonkejebdcgaaGreatDoorJBytes
import Derived.Laws.Strings
import Derived.Test.YtkhonkejebdcgaaGreatDoorJSimple
/- Whether bytes and a mask are a network: some answer is given, and nothing else happens; what a yes means. Conditions: as each says. -/
namespace Go.Proofs.YtkhonkejebdcgaaGreatDoor
open Go Go.SX
set_option maxHeartbeats 8000000
set_option maxRecDepth 100000
/-- A network: so many ones in the mask, no bit behind it, no address that maps another. -/
structure Net (ip mask : List UInt8) : Prop where
  len : ip.length = 4 ∨ ip.length = 16
  same : mask.length = ip.length
  fits : masked ip mask = ip
  plain : mapped ip = false
  ones : ∃ n, n ≤ 8 * ip.length ∧ mask = maskOf n ip.length
theorem bytesOfRow {w : World} {g e : Nat} {l : List UInt8} (h : w.heap[g]? = some (.cells ⟨ucells l⟩ e (0, 0))) : BytesIn w (some ⟨g, 0, none⟩) l := by
  refine ⟨fun j u hj => ⟨_, rfl, ?_⟩, fun e => by cases e⟩
  have hjl := (List.getElem?_eq_some_iff.1 hj).1
  rw [show (⟨g, 0, none⟩ : Addr).add j = ⟨g, j, none⟩ by unfold Addr.add; split <;> simp_all]
  rw [cell_of_row w g j _ _ (0, 0) h]
  simp only [ucells, List.getElem?_toArray]
  simp [hj]
theorem masked_length {l m : List UInt8} (h : m.length = l.length) : (masked l m).length = l.length := by unfold masked; rw [List.length_zipWith]; omega
theorem maskOf_length (n k : Nat) : (maskOf n k).length = k := by simp [maskOf]
theorem strEq (a b : List UInt8) : ((ByteArray.mk ⟨a⟩).toList == (ByteArray.mk ⟨b⟩).toList) = decide (a = b) := by
  rw [ByteArray.toList_eq, ByteArray.toList_eq]
  show (a == b) = decide (a = b)
  by_cases h : a = b <;> simp [h]
abbrev NetPost (ip mask : List UInt8) (w : World) (e : Ending) (w1 : World) : Prop := ∃ v, e = .returned v ∧ Ext [] w w1 ∧ ∃ b, v = .bool b ∧ (b = true → Net ip mask)
theorem network (ip mask : List UInt8) (a b : Option Addr) (ca cb : Nat) (w : World) (hi : BytesIn w a ip) (hm : BytesIn w b mask) (hil : ip.length ≤ 1152921504606846976) (hml : mask.length ≤ 1152921504606846976) (hca : ip.length ≤ ca) :
    Calls Tryz.prog 10 #[.slice a ip.length ca, .slice b mask.length cb] w (NetPost ip mask w) := by
  refine calls_of0 (args := [.slice a ip.length ca, .slice b mask.length cb]) Tryz.func10 rfl rfl rfl ?_
  refine To.runF 11 [0, 0] (fun _ _ => by kernel_rfl) fun f1 g1 l1 => ?_
  by_cases h4 : ip.length = 4
  · refine To.slotF 9 (Int.ofNat ip.length != 4) (by kernel_rfl) (by rw [h4]; rfl) ?_
    refine To.runF 12 [9, 10] (fun _ _ => by kernel_rfl) fun f2 g2 l2 => ?_
    by_cases hle : mask.length = ip.length
    · refine To.slotF 21 (Int.ofNat mask.length != Int.ofNat ip.length) (by kernel_rfl) (by rw [hle]; simp) ?_
      refine To.runF 3 [16, 17, 20] (fun _ _ => by kernel_rfl) fun f3 g3 l3 => ?_
      refine To.pick 1 (by kernel_rfl) ⟨⟨trivial, ?_⟩, ?_⟩
      · skip
        refine To.callN 22 #[.slice a ip.length ca, .slice b mask.length cb] (by kernel_rfl) (fun _ => by kernel_rfl) (fun w2 hw2 => maMasked ip mask a b ca cb w2 (hi.later hw2.ext) (hm.later hw2.ext) hle.symm (by omega)) (fun w2 v2 w3 hw2 hx2 hv2 hnew2 hwi2 => ?_)
        obtain ⟨g, rfl, hg, hgn⟩ := hv2
        refine To.pick 1 (by kernel_rfl) ⟨⟨trivial, ?_⟩, ?_⟩
        · skip
          refine To.textOf (some ⟨g, 0, none⟩) ip.length ip.length (masked ip mask) (by rw [masked_length hle]) uBytes uString uU8 (by kernel_rfl) (fun w9 hw9 => ((bytesOfRow hg).later (frx hw9.fr (by kernel_rfl))).at_) (fun e => by cases e) ?_
          refine To.textOf a ip.length ca ip rfl uBytes uString uU8 (by kernel_rfl) (fun w9 hw9 => (hi.later hw9.ext).at_) hi.none ?_
          refine To.runF 3 [] (fun _ _ => by kernel_rfl) fun f4 g4 l4 => ?_
          refine To.slotE 30 (.bool ((ByteArray.mk ⟨masked ip mask⟩).toList != (ByteArray.mk ⟨ip⟩).toList)) (.bool (!decide (masked ip mask = ip))) (by kernel_rfl) (by unfold bne; rw [strEq]) ?_
          by_cases hfit : masked ip mask = ip
          · refine To.slotF 30 (!decide (masked ip mask = ip)) (by kernel_rfl) (by simp [hfit]) ?_
            refine To.runF 1 [] (fun _ _ => by kernel_rfl) fun f5 g5 l5 => ?_
            refine To.callN 24 #[.slice a ip.length ca] (by kernel_rfl) (fun _ => by kernel_rfl) (fun w4 hw4 => maMapped ip a ca w4 (hi.later hw4.ext) hil hca) (fun w4 v4 w5 hw4 hx4 hv4 hnew4 hwi4 => ?_)
            subst hv4
            refine To.runF 2 [] (fun _ _ => by kernel_rfl) fun f6 g6 l6 => ?_
            by_cases hmp : mapped ip = true
            · refine To.testT (mapped ip) (by kernel_rfl) hmp ?_
              refine To.runF 4 [] (fun _ _ => by kernel_rfl) fun f7 g7 l7 => ?_
              exact To.ret [] (.bool false) (by kernel_rfl) (by kernel_rfl) fun w4 hw4 => ⟨_, rfl, hw4.ext, false, rfl, fun h => by cases h⟩
            · refine To.testF (mapped ip) (by kernel_rfl) (by simpa using hmp) ?_
              refine To.runF 7 [] (fun _ _ => by kernel_rfl) fun f7 g7 l7 => ?_
              refine To.loop (fun k : Nat => 8 * ip.length + 1 - k) (fun k => ([(0, .slice a ip.length ca), (1, .slice b mask.length cb), (5, .int .i64 (Int.ofNat k))], [])) (fun k _ => k ≤ 8 * ip.length + 1) 0 [] (by kernel_rfl) (by kernel_rfl) (by kernel_rfl) rfl (fun _ _ => Nat.zero_le _) ?_
              rintro k w7 hk hx7 back
              refine To.runF 9 [] (fun _ _ => by kernel_rfl) fun f8 g8 l8 => ?_
              have hb8 : IntKind.i64.wrap (8 * Int.ofNat ip.length) = Int.ofNat (8 * ip.length) := by simp only [Int.ofNat_eq_natCast]; rw [IntWalk.i64_in _ ⟨by omega, by omega⟩]; omega
              by_cases hlt : k ≤ 8 * ip.length
              · refine To.testT (decide (Int.ofNat k ≤ IntKind.i64.wrap (8 * Int.ofNat ip.length))) (by kernel_rfl) (by rw [hb8]; exact decide_eq_true (Int.ofNat_le.2 hlt)) ?_
                refine To.runF 9 [0, 0, 0, 1, 2, 5] (fun _ _ => by kernel_rfl) fun f9 g9 l9 => ?_
                refine To.pick 1 (by kernel_rfl) ⟨⟨trivial, ?_⟩, ?_⟩
                · skip
                  refine To.callN 25 #[.int .i64 (Int.ofNat k), .int .i64 (Int.ofNat ip.length)] (by kernel_rfl) (fun _ => by kernel_rfl) (fun w8 hw8 => maMask k ip.length w8 (by omega) (by omega)) (fun w8 v8 w9 hw8 hx8 hv8 hnew8 hwi8 => ?_)
                  obtain ⟨gm, rfl, hgm, hgmn⟩ := hv8
                  refine To.pick 1 (by kernel_rfl) ⟨⟨trivial, ?_⟩, ?_⟩
                  · skip
                    refine To.textOf (some ⟨gm, 0, none⟩) ip.length ip.length (maskOf k ip.length) (by rw [maskOf_length]) uBytes uString uU8 (by kernel_rfl) (fun w10 hw10 => ((bytesOfRow hgm).later (frx hw10.fr (by kernel_rfl))).at_) (fun e => by cases e) ?_
                    refine To.textOf b mask.length cb mask rfl uBytes uString uU8 (by kernel_rfl) (fun w10 hw10 => (hm.later hw10.ext).at_) hm.none ?_
                    refine To.runF 2 [] (fun _ _ => by kernel_rfl) fun f10 g10 l10 => ?_
                    by_cases hmk : maskOf k ip.length = mask
                    · refine To.testT ((ByteArray.mk ⟨maskOf k ip.length⟩).toList == (ByteArray.mk ⟨mask⟩).toList) (by kernel_rfl) (by rw [strEq]; exact decide_eq_true hmk) ?_
                      refine To.runF 4 [] (fun _ _ => by kernel_rfl) fun f11 g11 l11 => ?_
                      exact To.ret [] (.bool true) (by kernel_rfl) (by kernel_rfl) fun w11 hw11 => ⟨_, rfl, hw11.ext, true, rfl, fun _ => ⟨by omega, hle, hfit, by simpa using hmp, k, hlt, hmk.symm⟩⟩
                    · refine To.testF ((ByteArray.mk ⟨maskOf k ip.length⟩).toList == (ByteArray.mk ⟨mask⟩).toList) (by kernel_rfl) (by rw [strEq]; exact decide_eq_false hmk) ?_
                      refine To.runF 7 [] (fun _ _ => by kernel_rfl) fun f11 g11 l11 => ?_
                      refine To.slotE 5 (.int .i64 (IntKind.i64.wrap (Int.ofNat k + 1))) (.int .i64 (Int.ofNat (k + 1))) (by kernel_rfl) (by rw [wrap_succ k (by omega)]) ?_
                      exact back _ _ (k + 1) [] (by omega) ⟨by kernel_rfl, by kernel_rfl, by kernel_rfl, by kernel_rfl, by kernel_rfl, rfl⟩ (fun w12 hw12 => by omega)
                  · skip
                    refine To.textOf b mask.length cb mask rfl uBytes uString uU8 (by kernel_rfl) (fun w10 hw10 => (hm.later hw10.ext).at_) hm.none ?_
                    refine To.textOf (some ⟨gm, 0, none⟩) ip.length ip.length (maskOf k ip.length) (by rw [maskOf_length]) uBytes uString uU8 (by kernel_rfl) (fun w10 hw10 => ((bytesOfRow hgm).later (frx hw10.fr (by kernel_rfl))).at_) (fun e => by cases e) ?_
                    refine To.runF 2 [] (fun _ _ => by kernel_rfl) fun f10 g10 l10 => ?_
                    by_cases hmk : maskOf k ip.length = mask
                    · refine To.testT ((ByteArray.mk ⟨maskOf k ip.length⟩).toList == (ByteArray.mk ⟨mask⟩).toList) (by kernel_rfl) (by rw [strEq]; exact decide_eq_true hmk) ?_
                      refine To.runF 4 [] (fun _ _ => by kernel_rfl) fun f11 g11 l11 => ?_
                      exact To.ret [] (.bool true) (by kernel_rfl) (by kernel_rfl) fun w11 hw11 => ⟨_, rfl, hw11.ext, true, rfl, fun _ => ⟨by omega, hle, hfit, by simpa using hmp, k, hlt, hmk.symm⟩⟩
                    · refine To.testF ((ByteArray.mk ⟨maskOf k ip.length⟩).toList == (ByteArray.mk ⟨mask⟩).toList) (by kernel_rfl) (by rw [strEq]; exact decide_eq_false hmk) ?_
                      refine To.runF 7 [] (fun _ _ => by kernel_rfl) fun f11 g11 l11 => ?_
                      refine To.slotE 5 (.int .i64 (IntKind.i64.wrap (Int.ofNat k + 1))) (.int .i64 (Int.ofNat (k + 1))) (by kernel_rfl) (by rw [wrap_succ k (by omega)]) ?_
                      exact back _ _ (k + 1) [] (by omega) ⟨by kernel_rfl, by kernel_rfl, by kernel_rfl, by kernel_rfl, by kernel_rfl, rfl⟩ (fun w12 hw12 => by omega)
                · skip
                  refine To.textOf b mask.length cb mask rfl uBytes uString uU8 (by kernel_rfl) (fun w10 hw10 => (hm.later hw10.ext).at_) hm.none ?_
                  refine To.callN 25 #[.int .i64 (Int.ofNat k), .int .i64 (Int.ofNat ip.length)] (by kernel_rfl) (fun _ => by kernel_rfl) (fun w8 hw8 => maMask k ip.length w8 (by omega) (by omega)) (fun w8 v8 w9 hw8 hx8 hv8 hnew8 hwi8 => ?_)
                  obtain ⟨gm, rfl, hgm, hgmn⟩ := hv8
                  refine To.pick 0 (by kernel_rfl) ⟨trivial, ?_⟩
                  refine To.textOf (some ⟨gm, 0, none⟩) ip.length ip.length (maskOf k ip.length) (by rw [maskOf_length]) uBytes uString uU8 (by kernel_rfl) (fun w10 hw10 => ((bytesOfRow hgm).later (frx hw10.fr (by kernel_rfl))).at_) (fun e => by cases e) ?_
                  refine To.runF 2 [] (fun _ _ => by kernel_rfl) fun f10 g10 l10 => ?_
                  by_cases hmk : maskOf k ip.length = mask
                  · refine To.testT ((ByteArray.mk ⟨maskOf k ip.length⟩).toList == (ByteArray.mk ⟨mask⟩).toList) (by kernel_rfl) (by rw [strEq]; exact decide_eq_true hmk) ?_
                    refine To.runF 4 [] (fun _ _ => by kernel_rfl) fun f11 g11 l11 => ?_
                    exact To.ret [] (.bool true) (by kernel_rfl) (by kernel_rfl) fun w11 hw11 => ⟨_, rfl, hw11.ext, true, rfl, fun _ => ⟨by omega, hle, hfit, by simpa using hmp, k, hlt, hmk.symm⟩⟩
                  · refine To.testF ((ByteArray.mk ⟨maskOf k ip.length⟩).toList == (ByteArray.mk ⟨mask⟩).toList) (by kernel_rfl) (by rw [strEq]; exact decide_eq_false hmk) ?_
                    refine To.runF 7 [] (fun _ _ => by kernel_rfl) fun f11 g11 l11 => ?_
                    refine To.slotE 5 (.int .i64 (IntKind.i64.wrap (Int.ofNat k + 1))) (.int .i64 (Int.ofNat (k + 1))) (by kernel_rfl) (by rw [wrap_succ k (by omega)]) ?_
                    exact back _ _ (k + 1) [] (by omega) ⟨by kernel_rfl, by kernel_rfl, by kernel_rfl, by kernel_rfl, by kernel_rfl, rfl⟩ (fun w12 hw12 => by omega)
              · refine To.testF (decide (Int.ofNat k ≤ IntKind.i64.wrap (8 * Int.ofNat ip.length))) (by kernel_rfl) (by rw [hb8]; exact decide_eq_false (fun h => hlt (Int.ofNat_le.1 h))) ?_
                refine To.runF 5 [] (fun _ _ => by kernel_rfl) fun f9 g9 l9 => ?_
                exact To.ret [] (.bool false) (by kernel_rfl) (by kernel_rfl) fun w4 hw4 => ⟨_, rfl, hw4.ext, false, rfl, fun h => by cases h⟩
          · refine To.slotT 30 (!decide (masked ip mask = ip)) (by kernel_rfl) (by simp [hfit]) ?_
            refine To.runF 9 [] (fun _ _ => by kernel_rfl) fun f5 g5 l5 => ?_
            exact To.ret [] (.bool false) (by kernel_rfl) (by kernel_rfl) fun w4 hw4 => ⟨_, rfl, hw4.ext, false, rfl, fun h => by cases h⟩
        · skip
          refine To.textOf a ip.length ca ip rfl uBytes uString uU8 (by kernel_rfl) (fun w9 hw9 => (hi.later hw9.ext).at_) hi.none ?_
          refine To.textOf (some ⟨g, 0, none⟩) ip.length ip.length (masked ip mask) (by rw [masked_length hle]) uBytes uString uU8 (by kernel_rfl) (fun w9 hw9 => ((bytesOfRow hg).later (frx hw9.fr (by kernel_rfl))).at_) (fun e => by cases e) ?_
          refine To.runF 3 [] (fun _ _ => by kernel_rfl) fun f4 g4 l4 => ?_
          refine To.slotE 30 (.bool ((ByteArray.mk ⟨masked ip mask⟩).toList != (ByteArray.mk ⟨ip⟩).toList)) (.bool (!decide (masked ip mask = ip))) (by kernel_rfl) (by unfold bne; rw [strEq]) ?_
          by_cases hfit : masked ip mask = ip
          · refine To.slotF 30 (!decide (masked ip mask = ip)) (by kernel_rfl) (by simp [hfit]) ?_
            refine To.runF 1 [] (fun _ _ => by kernel_rfl) fun f5 g5 l5 => ?_
            refine To.callN 24 #[.slice a ip.length ca] (by kernel_rfl) (fun _ => by kernel_rfl) (fun w4 hw4 => maMapped ip a ca w4 (hi.later hw4.ext) hil hca) (fun w4 v4 w5 hw4 hx4 hv4 hnew4 hwi4 => ?_)
            subst hv4
            refine To.runF 2 [] (fun _ _ => by kernel_rfl) fun f6 g6 l6 => ?_
            by_cases hmp : mapped ip = true
            · refine To.testT (mapped ip) (by kernel_rfl) hmp ?_
              refine To.runF 4 [] (fun _ _ => by kernel_rfl) fun f7 g7 l7 => ?_
              exact To.ret [] (.bool false) (by kernel_rfl) (by kernel_rfl) fun w4 hw4 => ⟨_, rfl, hw4.ext, false, rfl, fun h => by cases h⟩
            · refine To.testF (mapped ip) (by kernel_rfl) (by simpa using hmp) ?_
              refine To.runF 7 [] (fun _ _ => by kernel_rfl) fun f7 g7 l7 => ?_
              refine To.loop (fun k : Nat => 8 * ip.length + 1 - k) (fun k => ([(0, .slice a ip.length ca), (1, .slice b mask.length cb), (5, .int .i64 (Int.ofNat k))], [])) (fun k _ => k ≤ 8 * ip.length + 1) 0 [] (by kernel_rfl) (by kernel_rfl) (by kernel_rfl) rfl (fun _ _ => Nat.zero_le _) ?_
              rintro k w7 hk hx7 back
              refine To.runF 9 [] (fun _ _ => by kernel_rfl) fun f8 g8 l8 => ?_
              have hb8 : IntKind.i64.wrap (8 * Int.ofNat ip.length) = Int.ofNat (8 * ip.length) := by simp only [Int.ofNat_eq_natCast]; rw [IntWalk.i64_in _ ⟨by omega, by omega⟩]; omega
              by_cases hlt : k ≤ 8 * ip.length
              · refine To.testT (decide (Int.ofNat k ≤ IntKind.i64.wrap (8 * Int.ofNat ip.length))) (by kernel_rfl) (by rw [hb8]; exact decide_eq_true (Int.ofNat_le.2 hlt)) ?_
                refine To.runF 9 [0, 0, 0, 1, 2, 5] (fun _ _ => by kernel_rfl) fun f9 g9 l9 => ?_
                refine To.pick 1 (by kernel_rfl) ⟨⟨trivial, ?_⟩, ?_⟩
                · skip
                  refine To.callN 25 #[.int .i64 (Int.ofNat k), .int .i64 (Int.ofNat ip.length)] (by kernel_rfl) (fun _ => by kernel_rfl) (fun w8 hw8 => maMask k ip.length w8 (by omega) (by omega)) (fun w8 v8 w9 hw8 hx8 hv8 hnew8 hwi8 => ?_)
                  obtain ⟨gm, rfl, hgm, hgmn⟩ := hv8
                  refine To.pick 1 (by kernel_rfl) ⟨⟨trivial, ?_⟩, ?_⟩
                  · skip
                    refine To.textOf (some ⟨gm, 0, none⟩) ip.length ip.length (maskOf k ip.length) (by rw [maskOf_length]) uBytes uString uU8 (by kernel_rfl) (fun w10 hw10 => ((bytesOfRow hgm).later (frx hw10.fr (by kernel_rfl))).at_) (fun e => by cases e) ?_
                    refine To.textOf b mask.length cb mask rfl uBytes uString uU8 (by kernel_rfl) (fun w10 hw10 => (hm.later hw10.ext).at_) hm.none ?_
                    refine To.runF 2 [] (fun _ _ => by kernel_rfl) fun f10 g10 l10 => ?_
                    by_cases hmk : maskOf k ip.length = mask
                    · refine To.testT ((ByteArray.mk ⟨maskOf k ip.length⟩).toList == (ByteArray.mk ⟨mask⟩).toList) (by kernel_rfl) (by rw [strEq]; exact decide_eq_true hmk) ?_
                      refine To.runF 4 [] (fun _ _ => by kernel_rfl) fun f11 g11 l11 => ?_
                      exact To.ret [] (.bool true) (by kernel_rfl) (by kernel_rfl) fun w11 hw11 => ⟨_, rfl, hw11.ext, true, rfl, fun _ => ⟨by omega, hle, hfit, by simpa using hmp, k, hlt, hmk.symm⟩⟩
                    · refine To.testF ((ByteArray.mk ⟨maskOf k ip.length⟩).toList == (ByteArray.mk ⟨mask⟩).toList) (by kernel_rfl) (by rw [strEq]; exact decide_eq_false hmk) ?_
                      refine To.runF 7 [] (fun _ _ => by kernel_rfl) fun f11 g11 l11 => ?_
                      refine To.slotE 5 (.int .i64 (IntKind.i64.wrap (Int.ofNat k + 1))) (.int .i64 (Int.ofNat (k + 1))) (by kernel_rfl) (by rw [wrap_succ k (by omega)]) ?_
                      exact back _ _ (k + 1) [] (by omega) ⟨by kernel_rfl, by kernel_rfl, by kernel_rfl, by kernel_rfl, by kernel_rfl, rfl⟩ (fun w12 hw12 => by omega)
                  · skip
                    refine To.textOf b mask.length cb mask rfl uBytes uString uU8 (by kernel_rfl) (fun w10 hw10 => (hm.later hw10.ext).at_) hm.none ?_
                    refine To.textOf (some ⟨gm, 0, none⟩) ip.length ip.length (maskOf k ip.length) (by rw [maskOf_length]) uBytes uString uU8 (by kernel_rfl) (fun w10 hw10 => ((bytesOfRow hgm).later (frx hw10.fr (by kernel_rfl))).at_) (fun e => by cases e) ?_
                    refine To.runF 2 [] (fun _ _ => by kernel_rfl) fun f10 g10 l10 => ?_
                    by_cases hmk : maskOf k ip.length = mask
                    · refine To.testT ((ByteArray.mk ⟨maskOf k ip.length⟩).toList == (ByteArray.mk ⟨mask⟩).toList) (by kernel_rfl) (by rw [strEq]; exact decide_eq_true hmk) ?_
                      refine To.runF 4 [] (fun _ _ => by kernel_rfl) fun f11 g11 l11 => ?_
                      exact To.ret [] (.bool true) (by kernel_rfl) (by kernel_rfl) fun w11 hw11 => ⟨_, rfl, hw11.ext, true, rfl, fun _ => ⟨by omega, hle, hfit, by simpa using hmp, k, hlt, hmk.symm⟩⟩
                    · refine To.testF ((ByteArray.mk ⟨maskOf k ip.length⟩).toList == (ByteArray.mk ⟨mask⟩).toList) (by kernel_rfl) (by rw [strEq]; exact decide_eq_false hmk) ?_
                      refine To.runF 7 [] (fun _ _ => by kernel_rfl) fun f11 g11 l11 => ?_
                      refine To.slotE 5 (.int .i64 (IntKind.i64.wrap (Int.ofNat k + 1))) (.int .i64 (Int.ofNat (k + 1))) (by kernel_rfl) (by rw [wrap_succ k (by omega)]) ?_
                      exact back _ _ (k + 1) [] (by omega) ⟨by kernel_rfl, by kernel_rfl, by kernel_rfl, by kernel_rfl, by kernel_rfl, rfl⟩ (fun w12 hw12 => by omega)
                · skip
                  refine To.textOf b mask.length cb mask rfl uBytes uString uU8 (by kernel_rfl) (fun w10 hw10 => (hm.later hw10.ext).at_) hm.none ?_
                  refine To.callN 25 #[.int .i64 (Int.ofNat k), .int .i64 (Int.ofNat ip.length)] (by kernel_rfl) (fun _ => by kernel_rfl) (fun w8 hw8 => maMask k ip.length w8 (by omega) (by omega)) (fun w8 v8 w9 hw8 hx8 hv8 hnew8 hwi8 => ?_)
                  obtain ⟨gm, rfl, hgm, hgmn⟩ := hv8
                  refine To.pick 0 (by kernel_rfl) ⟨trivial, ?_⟩
                  refine To.textOf (some ⟨gm, 0, none⟩) ip.length ip.length (maskOf k ip.length) (by rw [maskOf_length]) uBytes uString uU8 (by kernel_rfl) (fun w10 hw10 => ((bytesOfRow hgm).later (frx hw10.fr (by kernel_rfl))).at_) (fun e => by cases e) ?_
                  refine To.runF 2 [] (fun _ _ => by kernel_rfl) fun f10 g10 l10 => ?_
                  by_cases hmk : maskOf k ip.length = mask
                  · refine To.testT ((ByteArray.mk ⟨maskOf k ip.length⟩).toList == (ByteArray.mk ⟨mask⟩).toList) (by kernel_rfl) (by rw [strEq]; exact decide_eq_true hmk) ?_
                    refine To.runF 4 [] (fun _ _ => by kernel_rfl) fun f11 g11 l11 => ?_
                    exact To.ret [] (.bool true) (by kernel_rfl) (by kernel_rfl) fun w11 hw11 => ⟨_, rfl, hw11.ext, true, rfl, fun _ => ⟨by omega, hle, hfit, by simpa using hmp, k, hlt, hmk.symm⟩⟩
                  · refine To.testF ((ByteArray.mk ⟨maskOf k ip.length⟩).toList == (ByteArray.mk ⟨mask⟩).toList) (by kernel_rfl) (by rw [strEq]; exact decide_eq_false hmk) ?_
                    refine To.runF 7 [] (fun _ _ => by kernel_rfl) fun f11 g11 l11 => ?_
                    refine To.slotE 5 (.int .i64 (IntKind.i64.wrap (Int.ofNat k + 1))) (.int .i64 (Int.ofNat (k + 1))) (by kernel_rfl) (by rw [wrap_succ k (by omega)]) ?_
                    exact back _ _ (k + 1) [] (by omega) ⟨by kernel_rfl, by kernel_rfl, by kernel_rfl, by kernel_rfl, by kernel_rfl, rfl⟩ (fun w12 hw12 => by omega)
              · refine To.testF (decide (Int.ofNat k ≤ IntKind.i64.wrap (8 * Int.ofNat ip.length))) (by kernel_rfl) (by rw [hb8]; exact decide_eq_false (fun h => hlt (Int.ofNat_le.1 h))) ?_
                refine To.runF 5 [] (fun _ _ => by kernel_rfl) fun f9 g9 l9 => ?_
                exact To.ret [] (.bool false) (by kernel_rfl) (by kernel_rfl) fun w4 hw4 => ⟨_, rfl, hw4.ext, false, rfl, fun h => by cases h⟩
          · refine To.slotT 30 (!decide (masked ip mask = ip)) (by kernel_rfl) (by simp [hfit]) ?_
            refine To.runF 9 [] (fun _ _ => by kernel_rfl) fun f5 g5 l5 => ?_
            exact To.ret [] (.bool false) (by kernel_rfl) (by kernel_rfl) fun w4 hw4 => ⟨_, rfl, hw4.ext, false, rfl, fun h => by cases h⟩
      · skip
        refine To.textOf a ip.length ca ip rfl uBytes uString uU8 (by kernel_rfl) (fun w9 hw9 => (hi.later hw9.ext).at_) hi.none ?_
        refine To.callN 22 #[.slice a ip.length ca, .slice b mask.length cb] (by kernel_rfl) (fun _ => by kernel_rfl) (fun w2 hw2 => maMasked ip mask a b ca cb w2 (hi.later hw2.ext) (hm.later hw2.ext) hle.symm (by omega)) (fun w2 v2 w3 hw2 hx2 hv2 hnew2 hwi2 => ?_)
        obtain ⟨g, rfl, hg, hgn⟩ := hv2
        refine To.pick 0 (by kernel_rfl) ⟨trivial, ?_⟩
        refine To.textOf (some ⟨g, 0, none⟩) ip.length ip.length (masked ip mask) (by rw [masked_length hle]) uBytes uString uU8 (by kernel_rfl) (fun w9 hw9 => ((bytesOfRow hg).later (frx hw9.fr (by kernel_rfl))).at_) (fun e => by cases e) ?_
        refine To.runF 3 [] (fun _ _ => by kernel_rfl) fun f4 g4 l4 => ?_
        refine To.slotE 30 (.bool ((ByteArray.mk ⟨masked ip mask⟩).toList != (ByteArray.mk ⟨ip⟩).toList)) (.bool (!decide (masked ip mask = ip))) (by kernel_rfl) (by unfold bne; rw [strEq]) ?_
        by_cases hfit : masked ip mask = ip
        · refine To.slotF 30 (!decide (masked ip mask = ip)) (by kernel_rfl) (by simp [hfit]) ?_
          refine To.runF 1 [] (fun _ _ => by kernel_rfl) fun f5 g5 l5 => ?_
          refine To.callN 24 #[.slice a ip.length ca] (by kernel_rfl) (fun _ => by kernel_rfl) (fun w4 hw4 => maMapped ip a ca w4 (hi.later hw4.ext) hil hca) (fun w4 v4 w5 hw4 hx4 hv4 hnew4 hwi4 => ?_)
          subst hv4
          refine To.runF 2 [] (fun _ _ => by kernel_rfl) fun f6 g6 l6 => ?_
          by_cases hmp : mapped ip = true
          · refine To.testT (mapped ip) (by kernel_rfl) hmp ?_
            refine To.runF 4 [] (fun _ _ => by kernel_rfl) fun f7 g7 l7 => ?_
            exact To.ret [] (.bool false) (by kernel_rfl) (by kernel_rfl) fun w4 hw4 => ⟨_, rfl, hw4.ext, false, rfl, fun h => by cases h⟩
          · refine To.testF (mapped ip) (by kernel_rfl) (by simpa using hmp) ?_
            refine To.runF 7 [] (fun _ _ => by kernel_rfl) fun f7 g7 l7 => ?_
            refine To.loop (fun k : Nat => 8 * ip.length + 1 - k) (fun k => ([(0, .slice a ip.length ca), (1, .slice b mask.length cb), (5, .int .i64 (Int.ofNat k))], [])) (fun k _ => k ≤ 8 * ip.length + 1) 0 [] (by kernel_rfl) (by kernel_rfl) (by kernel_rfl) rfl (fun _ _ => Nat.zero_le _) ?_
            rintro k w7 hk hx7 back
            refine To.runF 9 [] (fun _ _ => by kernel_rfl) fun f8 g8 l8 => ?_
            have hb8 : IntKind.i64.wrap (8 * Int.ofNat ip.length) = Int.ofNat (8 * ip.length) := by simp only [Int.ofNat_eq_natCast]; rw [IntWalk.i64_in _ ⟨by omega, by omega⟩]; omega
            by_cases hlt : k ≤ 8 * ip.length
            · refine To.testT (decide (Int.ofNat k ≤ IntKind.i64.wrap (8 * Int.ofNat ip.length))) (by kernel_rfl) (by rw [hb8]; exact decide_eq_true (Int.ofNat_le.2 hlt)) ?_
              refine To.runF 9 [0, 0, 0, 1, 2, 5] (fun _ _ => by kernel_rfl) fun f9 g9 l9 => ?_
              refine To.pick 1 (by kernel_rfl) ⟨⟨trivial, ?_⟩, ?_⟩
              · skip
                refine To.callN 25 #[.int .i64 (Int.ofNat k), .int .i64 (Int.ofNat ip.length)] (by kernel_rfl) (fun _ => by kernel_rfl) (fun w8 hw8 => maMask k ip.length w8 (by omega) (by omega)) (fun w8 v8 w9 hw8 hx8 hv8 hnew8 hwi8 => ?_)
                obtain ⟨gm, rfl, hgm, hgmn⟩ := hv8
                refine To.pick 1 (by kernel_rfl) ⟨⟨trivial, ?_⟩, ?_⟩
                · skip
                  refine To.textOf (some ⟨gm, 0, none⟩) ip.length ip.length (maskOf k ip.length) (by rw [maskOf_length]) uBytes uString uU8 (by kernel_rfl) (fun w10 hw10 => ((bytesOfRow hgm).later (frx hw10.fr (by kernel_rfl))).at_) (fun e => by cases e) ?_
                  refine To.textOf b mask.length cb mask rfl uBytes uString uU8 (by kernel_rfl) (fun w10 hw10 => (hm.later hw10.ext).at_) hm.none ?_
                  refine To.runF 2 [] (fun _ _ => by kernel_rfl) fun f10 g10 l10 => ?_
                  by_cases hmk : maskOf k ip.length = mask
                  · refine To.testT ((ByteArray.mk ⟨maskOf k ip.length⟩).toList == (ByteArray.mk ⟨mask⟩).toList) (by kernel_rfl) (by rw [strEq]; exact decide_eq_true hmk) ?_
                    refine To.runF 4 [] (fun _ _ => by kernel_rfl) fun f11 g11 l11 => ?_
                    exact To.ret [] (.bool true) (by kernel_rfl) (by kernel_rfl) fun w11 hw11 => ⟨_, rfl, hw11.ext, true, rfl, fun _ => ⟨by omega, hle, hfit, by simpa using hmp, k, hlt, hmk.symm⟩⟩
                  · refine To.testF ((ByteArray.mk ⟨maskOf k ip.length⟩).toList == (ByteArray.mk ⟨mask⟩).toList) (by kernel_rfl) (by rw [strEq]; exact decide_eq_false hmk) ?_
                    refine To.runF 7 [] (fun _ _ => by kernel_rfl) fun f11 g11 l11 => ?_
                    refine To.slotE 5 (.int .i64 (IntKind.i64.wrap (Int.ofNat k + 1))) (.int .i64 (Int.ofNat (k + 1))) (by kernel_rfl) (by rw [wrap_succ k (by omega)]) ?_
                    exact back _ _ (k + 1) [] (by omega) ⟨by kernel_rfl, by kernel_rfl, by kernel_rfl, by kernel_rfl, by kernel_rfl, rfl⟩ (fun w12 hw12 => by omega)
                · skip
                  refine To.textOf b mask.length cb mask rfl uBytes uString uU8 (by kernel_rfl) (fun w10 hw10 => (hm.later hw10.ext).at_) hm.none ?_
                  refine To.textOf (some ⟨gm, 0, none⟩) ip.length ip.length (maskOf k ip.length) (by rw [maskOf_length]) uBytes uString uU8 (by kernel_rfl) (fun w10 hw10 => ((bytesOfRow hgm).later (frx hw10.fr (by kernel_rfl))).at_) (fun e => by cases e) ?_
                  refine To.runF 2 [] (fun _ _ => by kernel_rfl) fun f10 g10 l10 => ?_
                  by_cases hmk : maskOf k ip.length = mask
                  · refine To.testT ((ByteArray.mk ⟨maskOf k ip.length⟩).toList == (ByteArray.mk ⟨mask⟩).toList) (by kernel_rfl) (by rw [strEq]; exact decide_eq_true hmk) ?_
                    refine To.runF 4 [] (fun _ _ => by kernel_rfl) fun f11 g11 l11 => ?_
                    exact To.ret [] (.bool true) (by kernel_rfl) (by kernel_rfl) fun w11 hw11 => ⟨_, rfl, hw11.ext, true, rfl, fun _ => ⟨by omega, hle, hfit, by simpa using hmp, k, hlt, hmk.symm⟩⟩
                  · refine To.testF ((ByteArray.mk ⟨maskOf k ip.length⟩).toList == (ByteArray.mk ⟨mask⟩).toList) (by kernel_rfl) (by rw [strEq]; exact decide_eq_false hmk) ?_
                    refine To.runF 7 [] (fun _ _ => by kernel_rfl) fun f11 g11 l11 => ?_
                    refine To.slotE 5 (.int .i64 (IntKind.i64.wrap (Int.ofNat k + 1))) (.int .i64 (Int.ofNat (k + 1))) (by kernel_rfl) (by rw [wrap_succ k (by omega)]) ?_
                    exact back _ _ (k + 1) [] (by omega) ⟨by kernel_rfl, by kernel_rfl, by kernel_rfl, by kernel_rfl, by kernel_rfl, rfl⟩ (fun w12 hw12 => by omega)
              · skip
                refine To.textOf b mask.length cb mask rfl uBytes uString uU8 (by kernel_rfl) (fun w10 hw10 => (hm.later hw10.ext).at_) hm.none ?_
                refine To.callN 25 #[.int .i64 (Int.ofNat k), .int .i64 (Int.ofNat ip.length)] (by kernel_rfl) (fun _ => by kernel_rfl) (fun w8 hw8 => maMask k ip.length w8 (by omega) (by omega)) (fun w8 v8 w9 hw8 hx8 hv8 hnew8 hwi8 => ?_)
                obtain ⟨gm, rfl, hgm, hgmn⟩ := hv8
                refine To.pick 0 (by kernel_rfl) ⟨trivial, ?_⟩
                refine To.textOf (some ⟨gm, 0, none⟩) ip.length ip.length (maskOf k ip.length) (by rw [maskOf_length]) uBytes uString uU8 (by kernel_rfl) (fun w10 hw10 => ((bytesOfRow hgm).later (frx hw10.fr (by kernel_rfl))).at_) (fun e => by cases e) ?_
                refine To.runF 2 [] (fun _ _ => by kernel_rfl) fun f10 g10 l10 => ?_
                by_cases hmk : maskOf k ip.length = mask
                · refine To.testT ((ByteArray.mk ⟨maskOf k ip.length⟩).toList == (ByteArray.mk ⟨mask⟩).toList) (by kernel_rfl) (by rw [strEq]; exact decide_eq_true hmk) ?_
                  refine To.runF 4 [] (fun _ _ => by kernel_rfl) fun f11 g11 l11 => ?_
                  exact To.ret [] (.bool true) (by kernel_rfl) (by kernel_rfl) fun w11 hw11 => ⟨_, rfl, hw11.ext, true, rfl, fun _ => ⟨by omega, hle, hfit, by simpa using hmp, k, hlt, hmk.symm⟩⟩
                · refine To.testF ((ByteArray.mk ⟨maskOf k ip.length⟩).toList == (ByteArray.mk ⟨mask⟩).toList) (by kernel_rfl) (by rw [strEq]; exact decide_eq_false hmk) ?_
                  refine To.runF 7 [] (fun _ _ => by kernel_rfl) fun f11 g11 l11 => ?_
                  refine To.slotE 5 (.int .i64 (IntKind.i64.wrap (Int.ofNat k + 1))) (.int .i64 (Int.ofNat (k + 1))) (by kernel_rfl) (by rw [wrap_succ k (by omega)]) ?_
                  exact back _ _ (k + 1) [] (by omega) ⟨by kernel_rfl, by kernel_rfl, by kernel_rfl, by kernel_rfl, by kernel_rfl, rfl⟩ (fun w12 hw12 => by omega)
            · refine To.testF (decide (Int.ofNat k ≤ IntKind.i64.wrap (8 * Int.ofNat ip.length))) (by kernel_rfl) (by rw [hb8]; exact decide_eq_false (fun h => hlt (Int.ofNat_le.1 h))) ?_
              refine To.runF 5 [] (fun _ _ => by kernel_rfl) fun f9 g9 l9 => ?_
              exact To.ret [] (.bool false) (by kernel_rfl) (by kernel_rfl) fun w4 hw4 => ⟨_, rfl, hw4.ext, false, rfl, fun h => by cases h⟩
        · refine To.slotT 30 (!decide (masked ip mask = ip)) (by kernel_rfl) (by simp [hfit]) ?_
          refine To.runF 9 [] (fun _ _ => by kernel_rfl) fun f5 g5 l5 => ?_
          exact To.ret [] (.bool false) (by kernel_rfl) (by kernel_rfl) fun w4 hw4 => ⟨_, rfl, hw4.ext, false, rfl, fun h => by cases h⟩
    · refine To.slotT 21 (Int.ofNat mask.length != Int.ofNat ip.length) (by kernel_rfl) (by simp only [Int.ofNat_eq_natCast, bne_iff_ne, ne_eq]; omega) ?_
      refine To.runF 18 [16, 17, 18, 19] (fun _ _ => by kernel_rfl) fun f3 g3 l3 => ?_
      exact To.ret [] (.bool false) (by kernel_rfl) (by kernel_rfl) fun w4 hw4 => ⟨_, rfl, hw4.ext, false, rfl, fun h => by cases h⟩
  · refine To.slotT 9 (Int.ofNat ip.length != 4) (by kernel_rfl) (by simp only [Int.ofNat_eq_natCast, bne_iff_ne, ne_eq]; omega) ?_
    refine To.runF 5 [] (fun _ _ => by kernel_rfl) fun f2 g2 l2 => ?_
    by_cases h16 : ip.length = 16
    · refine To.slotF 14 (Int.ofNat ip.length != 16) (by kernel_rfl) (by rw [h16]; rfl) ?_
      refine To.runF 7 [9, 10] (fun _ _ => by kernel_rfl) fun f3 g3 l3 => ?_
      by_cases hle : mask.length = ip.length
      · refine To.slotF 21 (Int.ofNat mask.length != Int.ofNat ip.length) (by kernel_rfl) (by rw [hle]; simp) ?_
        refine To.runF 3 [16, 17, 20] (fun _ _ => by kernel_rfl) fun f4 g4 l4 => ?_
        refine To.pick 1 (by kernel_rfl) ⟨⟨trivial, ?_⟩, ?_⟩
        · skip
          refine To.callN 22 #[.slice a ip.length ca, .slice b mask.length cb] (by kernel_rfl) (fun _ => by kernel_rfl) (fun w2 hw2 => maMasked ip mask a b ca cb w2 (hi.later hw2.ext) (hm.later hw2.ext) hle.symm (by omega)) (fun w2 v2 w3 hw2 hx2 hv2 hnew2 hwi2 => ?_)
          obtain ⟨g, rfl, hg, hgn⟩ := hv2
          refine To.pick 1 (by kernel_rfl) ⟨⟨trivial, ?_⟩, ?_⟩
          · skip
            refine To.textOf (some ⟨g, 0, none⟩) ip.length ip.length (masked ip mask) (by rw [masked_length hle]) uBytes uString uU8 (by kernel_rfl) (fun w9 hw9 => ((bytesOfRow hg).later (frx hw9.fr (by kernel_rfl))).at_) (fun e => by cases e) ?_
            refine To.textOf a ip.length ca ip rfl uBytes uString uU8 (by kernel_rfl) (fun w9 hw9 => (hi.later hw9.ext).at_) hi.none ?_
            refine To.runF 3 [] (fun _ _ => by kernel_rfl) fun f5 g5 l5 => ?_
            refine To.slotE 30 (.bool ((ByteArray.mk ⟨masked ip mask⟩).toList != (ByteArray.mk ⟨ip⟩).toList)) (.bool (!decide (masked ip mask = ip))) (by kernel_rfl) (by unfold bne; rw [strEq]) ?_
            by_cases hfit : masked ip mask = ip
            · refine To.slotF 30 (!decide (masked ip mask = ip)) (by kernel_rfl) (by simp [hfit]) ?_
              refine To.runF 1 [] (fun _ _ => by kernel_rfl) fun f6 g6 l6 => ?_
              refine To.callN 24 #[.slice a ip.length ca] (by kernel_rfl) (fun _ => by kernel_rfl) (fun w4 hw4 => maMapped ip a ca w4 (hi.later hw4.ext) hil hca) (fun w4 v4 w5 hw4 hx4 hv4 hnew4 hwi4 => ?_)
              subst hv4
              refine To.runF 2 [] (fun _ _ => by kernel_rfl) fun f7 g7 l7 => ?_
              by_cases hmp : mapped ip = true
              · refine To.testT (mapped ip) (by kernel_rfl) hmp ?_
                refine To.runF 4 [] (fun _ _ => by kernel_rfl) fun f8 g8 l8 => ?_
                exact To.ret [] (.bool false) (by kernel_rfl) (by kernel_rfl) fun w4 hw4 => ⟨_, rfl, hw4.ext, false, rfl, fun h => by cases h⟩
              · refine To.testF (mapped ip) (by kernel_rfl) (by simpa using hmp) ?_
                refine To.runF 7 [] (fun _ _ => by kernel_rfl) fun f8 g8 l8 => ?_
                refine To.loop (fun k : Nat => 8 * ip.length + 1 - k) (fun k => ([(0, .slice a ip.length ca), (1, .slice b mask.length cb), (5, .int .i64 (Int.ofNat k))], [])) (fun k _ => k ≤ 8 * ip.length + 1) 0 [] (by kernel_rfl) (by kernel_rfl) (by kernel_rfl) rfl (fun _ _ => Nat.zero_le _) ?_
                rintro k w7 hk hx7 back
                refine To.runF 9 [] (fun _ _ => by kernel_rfl) fun f9 g9 l9 => ?_
                have hb8 : IntKind.i64.wrap (8 * Int.ofNat ip.length) = Int.ofNat (8 * ip.length) := by simp only [Int.ofNat_eq_natCast]; rw [IntWalk.i64_in _ ⟨by omega, by omega⟩]; omega
                by_cases hlt : k ≤ 8 * ip.length
                · refine To.testT (decide (Int.ofNat k ≤ IntKind.i64.wrap (8 * Int.ofNat ip.length))) (by kernel_rfl) (by rw [hb8]; exact decide_eq_true (Int.ofNat_le.2 hlt)) ?_
                  refine To.runF 9 [0, 0, 0, 1, 2, 5] (fun _ _ => by kernel_rfl) fun f10 g10 l10 => ?_
                  refine To.pick 1 (by kernel_rfl) ⟨⟨trivial, ?_⟩, ?_⟩
                  · skip
                    refine To.callN 25 #[.int .i64 (Int.ofNat k), .int .i64 (Int.ofNat ip.length)] (by kernel_rfl) (fun _ => by kernel_rfl) (fun w8 hw8 => maMask k ip.length w8 (by omega) (by omega)) (fun w8 v8 w9 hw8 hx8 hv8 hnew8 hwi8 => ?_)
                    obtain ⟨gm, rfl, hgm, hgmn⟩ := hv8
                    refine To.pick 1 (by kernel_rfl) ⟨⟨trivial, ?_⟩, ?_⟩
                    · skip
                      refine To.textOf (some ⟨gm, 0, none⟩) ip.length ip.length (maskOf k ip.length) (by rw [maskOf_length]) uBytes uString uU8 (by kernel_rfl) (fun w10 hw10 => ((bytesOfRow hgm).later (frx hw10.fr (by kernel_rfl))).at_) (fun e => by cases e) ?_
                      refine To.textOf b mask.length cb mask rfl uBytes uString uU8 (by kernel_rfl) (fun w10 hw10 => (hm.later hw10.ext).at_) hm.none ?_
                      refine To.runF 2 [] (fun _ _ => by kernel_rfl) fun f11 g11 l11 => ?_
                      by_cases hmk : maskOf k ip.length = mask
                      · refine To.testT ((ByteArray.mk ⟨maskOf k ip.length⟩).toList == (ByteArray.mk ⟨mask⟩).toList) (by kernel_rfl) (by rw [strEq]; exact decide_eq_true hmk) ?_
                        refine To.runF 4 [] (fun _ _ => by kernel_rfl) fun f12 g12 l12 => ?_
                        exact To.ret [] (.bool true) (by kernel_rfl) (by kernel_rfl) fun w11 hw11 => ⟨_, rfl, hw11.ext, true, rfl, fun _ => ⟨by omega, hle, hfit, by simpa using hmp, k, hlt, hmk.symm⟩⟩
                      · refine To.testF ((ByteArray.mk ⟨maskOf k ip.length⟩).toList == (ByteArray.mk ⟨mask⟩).toList) (by kernel_rfl) (by rw [strEq]; exact decide_eq_false hmk) ?_
                        refine To.runF 7 [] (fun _ _ => by kernel_rfl) fun f12 g12 l12 => ?_
                        refine To.slotE 5 (.int .i64 (IntKind.i64.wrap (Int.ofNat k + 1))) (.int .i64 (Int.ofNat (k + 1))) (by kernel_rfl) (by rw [wrap_succ k (by omega)]) ?_
                        exact back _ _ (k + 1) [] (by omega) ⟨by kernel_rfl, by kernel_rfl, by kernel_rfl, by kernel_rfl, by kernel_rfl, rfl⟩ (fun w12 hw12 => by omega)
                    · skip
                      refine To.textOf b mask.length cb mask rfl uBytes uString uU8 (by kernel_rfl) (fun w10 hw10 => (hm.later hw10.ext).at_) hm.none ?_
                      refine To.textOf (some ⟨gm, 0, none⟩) ip.length ip.length (maskOf k ip.length) (by rw [maskOf_length]) uBytes uString uU8 (by kernel_rfl) (fun w10 hw10 => ((bytesOfRow hgm).later (frx hw10.fr (by kernel_rfl))).at_) (fun e => by cases e) ?_
                      refine To.runF 2 [] (fun _ _ => by kernel_rfl) fun f11 g11 l11 => ?_
                      by_cases hmk : maskOf k ip.length = mask
                      · refine To.testT ((ByteArray.mk ⟨maskOf k ip.length⟩).toList == (ByteArray.mk ⟨mask⟩).toList) (by kernel_rfl) (by rw [strEq]; exact decide_eq_true hmk) ?_
                        refine To.runF 4 [] (fun _ _ => by kernel_rfl) fun f12 g12 l12 => ?_
                        exact To.ret [] (.bool true) (by kernel_rfl) (by kernel_rfl) fun w11 hw11 => ⟨_, rfl, hw11.ext, true, rfl, fun _ => ⟨by omega, hle, hfit, by simpa using hmp, k, hlt, hmk.symm⟩⟩
                      · refine To.testF ((ByteArray.mk ⟨maskOf k ip.length⟩).toList == (ByteArray.mk ⟨mask⟩).toList) (by kernel_rfl) (by rw [strEq]; exact decide_eq_false hmk) ?_
                        refine To.runF 7 [] (fun _ _ => by kernel_rfl) fun f12 g12 l12 => ?_
                        refine To.slotE 5 (.int .i64 (IntKind.i64.wrap (Int.ofNat k + 1))) (.int .i64 (Int.ofNat (k + 1))) (by kernel_rfl) (by rw [wrap_succ k (by omega)]) ?_
                        exact back _ _ (k + 1) [] (by omega) ⟨by kernel_rfl, by kernel_rfl, by kernel_rfl, by kernel_rfl, by kernel_rfl, rfl⟩ (fun w12 hw12 => by omega)
                  · skip
                    refine To.textOf b mask.length cb mask rfl uBytes uString uU8 (by kernel_rfl) (fun w10 hw10 => (hm.later hw10.ext).at_) hm.none ?_
                    refine To.callN 25 #[.int .i64 (Int.ofNat k), .int .i64 (Int.ofNat ip.length)] (by kernel_rfl) (fun _ => by kernel_rfl) (fun w8 hw8 => maMask k ip.length w8 (by omega) (by omega)) (fun w8 v8 w9 hw8 hx8 hv8 hnew8 hwi8 => ?_)
                    obtain ⟨gm, rfl, hgm, hgmn⟩ := hv8
                    refine To.pick 0 (by kernel_rfl) ⟨trivial, ?_⟩
                    refine To.textOf (some ⟨gm, 0, none⟩) ip.length ip.length (maskOf k ip.length) (by rw [maskOf_length]) uBytes uString uU8 (by kernel_rfl) (fun w10 hw10 => ((bytesOfRow hgm).later (frx hw10.fr (by kernel_rfl))).at_) (fun e => by cases e) ?_
                    refine To.runF 2 [] (fun _ _ => by kernel_rfl) fun f11 g11 l11 => ?_
                    by_cases hmk : maskOf k ip.length = mask
                    · refine To.testT ((ByteArray.mk ⟨maskOf k ip.length⟩).toList == (ByteArray.mk ⟨mask⟩).toList) (by kernel_rfl) (by rw [strEq]; exact decide_eq_true hmk) ?_
                      refine To.runF 4 [] (fun _ _ => by kernel_rfl) fun f12 g12 l12 => ?_
                      exact To.ret [] (.bool true) (by kernel_rfl) (by kernel_rfl) fun w11 hw11 => ⟨_, rfl, hw11.ext, true, rfl, fun _ => ⟨by omega, hle, hfit, by simpa using hmp, k, hlt, hmk.symm⟩⟩
                    · refine To.testF ((ByteArray.mk ⟨maskOf k ip.length⟩).toList == (ByteArray.mk ⟨mask⟩).toList) (by kernel_rfl) (by rw [strEq]; exact decide_eq_false hmk) ?_
                      refine To.runF 7 [] (fun _ _ => by kernel_rfl) fun f12 g12 l12 => ?_
                      refine To.slotE 5 (.int .i64 (IntKind.i64.wrap (Int.ofNat k + 1))) (.int .i64 (Int.ofNat (k + 1))) (by kernel_rfl) (by rw [wrap_succ k (by omega)]) ?_
                      exact back _ _ (k + 1) [] (by omega) ⟨by kernel_rfl, by kernel_rfl, by kernel_rfl, by kernel_rfl, by kernel_rfl, rfl⟩ (fun w12 hw12 => by omega)
                · refine To.testF (decide (Int.ofNat k ≤ IntKind.i64.wrap (8 * Int.ofNat ip.length))) (by kernel_rfl) (by rw [hb8]; exact decide_eq_false (fun h => hlt (Int.ofNat_le.1 h))) ?_
                  refine To.runF 5 [] (fun _ _ => by kernel_rfl) fun f10 g10 l10 => ?_
                  exact To.ret [] (.bool false) (by kernel_rfl) (by kernel_rfl) fun w4 hw4 => ⟨_, rfl, hw4.ext, false, rfl, fun h => by cases h⟩
            · refine To.slotT 30 (!decide (masked ip mask = ip)) (by kernel_rfl) (by simp [hfit]) ?_
              refine To.runF 9 [] (fun _ _ => by kernel_rfl) fun f6 g6 l6 => ?_
              exact To.ret [] (.bool false) (by kernel_rfl) (by kernel_rfl) fun w4 hw4 => ⟨_, rfl, hw4.ext, false, rfl, fun h => by cases h⟩
          · skip
            refine To.textOf a ip.length ca ip rfl uBytes uString uU8 (by kernel_rfl) (fun w9 hw9 => (hi.later hw9.ext).at_) hi.none ?_
            refine To.textOf (some ⟨g, 0, none⟩) ip.length ip.length (masked ip mask) (by rw [masked_length hle]) uBytes uString uU8 (by kernel_rfl) (fun w9 hw9 => ((bytesOfRow hg).later (frx hw9.fr (by kernel_rfl))).at_) (fun e => by cases e) ?_
            refine To.runF 3 [] (fun _ _ => by kernel_rfl) fun f5 g5 l5 => ?_
            refine To.slotE 30 (.bool ((ByteArray.mk ⟨masked ip mask⟩).toList != (ByteArray.mk ⟨ip⟩).toList)) (.bool (!decide (masked ip mask = ip))) (by kernel_rfl) (by unfold bne; rw [strEq]) ?_
            by_cases hfit : masked ip mask = ip
            · refine To.slotF 30 (!decide (masked ip mask = ip)) (by kernel_rfl) (by simp [hfit]) ?_
              refine To.runF 1 [] (fun _ _ => by kernel_rfl) fun f6 g6 l6 => ?_
              refine To.callN 24 #[.slice a ip.length ca] (by kernel_rfl) (fun _ => by kernel_rfl) (fun w4 hw4 => maMapped ip a ca w4 (hi.later hw4.ext) hil hca) (fun w4 v4 w5 hw4 hx4 hv4 hnew4 hwi4 => ?_)
              subst hv4
              refine To.runF 2 [] (fun _ _ => by kernel_rfl) fun f7 g7 l7 => ?_
              by_cases hmp : mapped ip = true
              · refine To.testT (mapped ip) (by kernel_rfl) hmp ?_
                refine To.runF 4 [] (fun _ _ => by kernel_rfl) fun f8 g8 l8 => ?_
                exact To.ret [] (.bool false) (by kernel_rfl) (by kernel_rfl) fun w4 hw4 => ⟨_, rfl, hw4.ext, false, rfl, fun h => by cases h⟩
              · refine To.testF (mapped ip) (by kernel_rfl) (by simpa using hmp) ?_
                refine To.runF 7 [] (fun _ _ => by kernel_rfl) fun f8 g8 l8 => ?_
                refine To.loop (fun k : Nat => 8 * ip.length + 1 - k) (fun k => ([(0, .slice a ip.length ca), (1, .slice b mask.length cb), (5, .int .i64 (Int.ofNat k))], [])) (fun k _ => k ≤ 8 * ip.length + 1) 0 [] (by kernel_rfl) (by kernel_rfl) (by kernel_rfl) rfl (fun _ _ => Nat.zero_le _) ?_
                rintro k w7 hk hx7 back
                refine To.runF 9 [] (fun _ _ => by kernel_rfl) fun f9 g9 l9 => ?_
                have hb8 : IntKind.i64.wrap (8 * Int.ofNat ip.length) = Int.ofNat (8 * ip.length) := by simp only [Int.ofNat_eq_natCast]; rw [IntWalk.i64_in _ ⟨by omega, by omega⟩]; omega
                by_cases hlt : k ≤ 8 * ip.length
                · refine To.testT (decide (Int.ofNat k ≤ IntKind.i64.wrap (8 * Int.ofNat ip.length))) (by kernel_rfl) (by rw [hb8]; exact decide_eq_true (Int.ofNat_le.2 hlt)) ?_
                  refine To.runF 9 [0, 0, 0, 1, 2, 5] (fun _ _ => by kernel_rfl) fun f10 g10 l10 => ?_
                  refine To.pick 1 (by kernel_rfl) ⟨⟨trivial, ?_⟩, ?_⟩
                  · skip
                    refine To.callN 25 #[.int .i64 (Int.ofNat k), .int .i64 (Int.ofNat ip.length)] (by kernel_rfl) (fun _ => by kernel_rfl) (fun w8 hw8 => maMask k ip.length w8 (by omega) (by omega)) (fun w8 v8 w9 hw8 hx8 hv8 hnew8 hwi8 => ?_)
                    obtain ⟨gm, rfl, hgm, hgmn⟩ := hv8
                    refine To.pick 1 (by kernel_rfl) ⟨⟨trivial, ?_⟩, ?_⟩
                    · skip
                      refine To.textOf (some ⟨gm, 0, none⟩) ip.length ip.length (maskOf k ip.length) (by rw [maskOf_length]) uBytes uString uU8 (by kernel_rfl) (fun w10 hw10 => ((bytesOfRow hgm).later (frx hw10.fr (by kernel_rfl))).at_) (fun e => by cases e) ?_
                      refine To.textOf b mask.length cb mask rfl uBytes uString uU8 (by kernel_rfl) (fun w10 hw10 => (hm.later hw10.ext).at_) hm.none ?_
                      refine To.runF 2 [] (fun _ _ => by kernel_rfl) fun f11 g11 l11 => ?_
                      by_cases hmk : maskOf k ip.length = mask
                      · refine To.testT ((ByteArray.mk ⟨maskOf k ip.length⟩).toList == (ByteArray.mk ⟨mask⟩).toList) (by kernel_rfl) (by rw [strEq]; exact decide_eq_true hmk) ?_
                        refine To.runF 4 [] (fun _ _ => by kernel_rfl) fun f12 g12 l12 => ?_
                        exact To.ret [] (.bool true) (by kernel_rfl) (by kernel_rfl) fun w11 hw11 => ⟨_, rfl, hw11.ext, true, rfl, fun _ => ⟨by omega, hle, hfit, by simpa using hmp, k, hlt, hmk.symm⟩⟩
                      · refine To.testF ((ByteArray.mk ⟨maskOf k ip.length⟩).toList == (ByteArray.mk ⟨mask⟩).toList) (by kernel_rfl) (by rw [strEq]; exact decide_eq_false hmk) ?_
                        refine To.runF 7 [] (fun _ _ => by kernel_rfl) fun f12 g12 l12 => ?_
                        refine To.slotE 5 (.int .i64 (IntKind.i64.wrap (Int.ofNat k + 1))) (.int .i64 (Int.ofNat (k + 1))) (by kernel_rfl) (by rw [wrap_succ k (by omega)]) ?_
                        exact back _ _ (k + 1) [] (by omega) ⟨by kernel_rfl, by kernel_rfl, by kernel_rfl, by kernel_rfl, by kernel_rfl, rfl⟩ (fun w12 hw12 => by omega)
                    · skip
                      refine To.textOf b mask.length cb mask rfl uBytes uString uU8 (by kernel_rfl) (fun w10 hw10 => (hm.later hw10.ext).at_) hm.none ?_
                      refine To.textOf (some ⟨gm, 0, none⟩) ip.length ip.length (maskOf k ip.length) (by rw [maskOf_length]) uBytes uString uU8 (by kernel_rfl) (fun w10 hw10 => ((bytesOfRow hgm).later (frx hw10.fr (by kernel_rfl))).at_) (fun e => by cases e) ?_
                      refine To.runF 2 [] (fun _ _ => by kernel_rfl) fun f11 g11 l11 => ?_
                      by_cases hmk : maskOf k ip.length = mask
                      · refine To.testT ((ByteArray.mk ⟨maskOf k ip.length⟩).toList == (ByteArray.mk ⟨mask⟩).toList) (by kernel_rfl) (by rw [strEq]; exact decide_eq_true hmk) ?_
                        refine To.runF 4 [] (fun _ _ => by kernel_rfl) fun f12 g12 l12 => ?_
                        exact To.ret [] (.bool true) (by kernel_rfl) (by kernel_rfl) fun w11 hw11 => ⟨_, rfl, hw11.ext, true, rfl, fun _ => ⟨by omega, hle, hfit, by simpa using hmp, k, hlt, hmk.symm⟩⟩
                      · refine To.testF ((ByteArray.mk ⟨maskOf k ip.length⟩).toList == (ByteArray.mk ⟨mask⟩).toList) (by kernel_rfl) (by rw [strEq]; exact decide_eq_false hmk) ?_
                        refine To.runF 7 [] (fun _ _ => by kernel_rfl) fun f12 g12 l12 => ?_
                        refine To.slotE 5 (.int .i64 (IntKind.i64.wrap (Int.ofNat k + 1))) (.int .i64 (Int.ofNat (k + 1))) (by kernel_rfl) (by rw [wrap_succ k (by omega)]) ?_
                        exact back _ _ (k + 1) [] (by omega) ⟨by kernel_rfl, by kernel_rfl, by kernel_rfl, by kernel_rfl, by kernel_rfl, rfl⟩ (fun w12 hw12 => by omega)
                  · skip
                    refine To.textOf b mask.length cb mask rfl uBytes uString uU8 (by kernel_rfl) (fun w10 hw10 => (hm.later hw10.ext).at_) hm.none ?_
                    refine To.callN 25 #[.int .i64 (Int.ofNat k), .int .i64 (Int.ofNat ip.length)] (by kernel_rfl) (fun _ => by kernel_rfl) (fun w8 hw8 => maMask k ip.length w8 (by omega) (by omega)) (fun w8 v8 w9 hw8 hx8 hv8 hnew8 hwi8 => ?_)
                    obtain ⟨gm, rfl, hgm, hgmn⟩ := hv8
                    refine To.pick 0 (by kernel_rfl) ⟨trivial, ?_⟩
                    refine To.textOf (some ⟨gm, 0, none⟩) ip.length ip.length (maskOf k ip.length) (by rw [maskOf_length]) uBytes uString uU8 (by kernel_rfl) (fun w10 hw10 => ((bytesOfRow hgm).later (frx hw10.fr (by kernel_rfl))).at_) (fun e => by cases e) ?_
                    refine To.runF 2 [] (fun _ _ => by kernel_rfl) fun f11 g11 l11 => ?_
                    by_cases hmk : maskOf k ip.length = mask
                    · refine To.testT ((ByteArray.mk ⟨maskOf k ip.length⟩).toList == (ByteArray.mk ⟨mask⟩).toList) (by kernel_rfl) (by rw [strEq]; exact decide_eq_true hmk) ?_
                      refine To.runF 4 [] (fun _ _ => by kernel_rfl) fun f12 g12 l12 => ?_
                      exact To.ret [] (.bool true) (by kernel_rfl) (by kernel_rfl) fun w11 hw11 => ⟨_, rfl, hw11.ext, true, rfl, fun _ => ⟨by omega, hle, hfit, by simpa using hmp, k, hlt, hmk.symm⟩⟩
                    · refine To.testF ((ByteArray.mk ⟨maskOf k ip.length⟩).toList == (ByteArray.mk ⟨mask⟩).toList) (by kernel_rfl) (by rw [strEq]; exact decide_eq_false hmk) ?_
                      refine To.runF 7 [] (fun _ _ => by kernel_rfl) fun f12 g12 l12 => ?_
                      refine To.slotE 5 (.int .i64 (IntKind.i64.wrap (Int.ofNat k + 1))) (.int .i64 (Int.ofNat (k + 1))) (by kernel_rfl) (by rw [wrap_succ k (by omega)]) ?_
                      exact back _ _ (k + 1) [] (by omega) ⟨by kernel_rfl, by kernel_rfl, by kernel_rfl, by kernel_rfl, by kernel_rfl, rfl⟩ (fun w12 hw12 => by omega)
                · refine To.testF (decide (Int.ofNat k ≤ IntKind.i64.wrap (8 * Int.ofNat ip.length))) (by kernel_rfl) (by rw [hb8]; exact decide_eq_false (fun h => hlt (Int.ofNat_le.1 h))) ?_
                  refine To.runF 5 [] (fun _ _ => by kernel_rfl) fun f10 g10 l10 => ?_
                  exact To.ret [] (.bool false) (by kernel_rfl) (by kernel_rfl) fun w4 hw4 => ⟨_, rfl, hw4.ext, false, rfl, fun h => by cases h⟩
            · refine To.slotT 30 (!decide (masked ip mask = ip)) (by kernel_rfl) (by simp [hfit]) ?_
              refine To.runF 9 [] (fun _ _ => by kernel_rfl) fun f6 g6 l6 => ?_
              exact To.ret [] (.bool false) (by kernel_rfl) (by kernel_rfl) fun w4 hw4 => ⟨_, rfl, hw4.ext, false, rfl, fun h => by cases h⟩
        · skip
          refine To.textOf a ip.length ca ip rfl uBytes uString uU8 (by kernel_rfl) (fun w9 hw9 => (hi.later hw9.ext).at_) hi.none ?_
          refine To.callN 22 #[.slice a ip.length ca, .slice b mask.length cb] (by kernel_rfl) (fun _ => by kernel_rfl) (fun w2 hw2 => maMasked ip mask a b ca cb w2 (hi.later hw2.ext) (hm.later hw2.ext) hle.symm (by omega)) (fun w2 v2 w3 hw2 hx2 hv2 hnew2 hwi2 => ?_)
          obtain ⟨g, rfl, hg, hgn⟩ := hv2
          refine To.pick 0 (by kernel_rfl) ⟨trivial, ?_⟩
          refine To.textOf (some ⟨g, 0, none⟩) ip.length ip.length (masked ip mask) (by rw [masked_length hle]) uBytes uString uU8 (by kernel_rfl) (fun w9 hw9 => ((bytesOfRow hg).later (frx hw9.fr (by kernel_rfl))).at_) (fun e => by cases e) ?_
          refine To.runF 3 [] (fun _ _ => by kernel_rfl) fun f5 g5 l5 => ?_
          refine To.slotE 30 (.bool ((ByteArray.mk ⟨masked ip mask⟩).toList != (ByteArray.mk ⟨ip⟩).toList)) (.bool (!decide (masked ip mask = ip))) (by kernel_rfl) (by unfold bne; rw [strEq]) ?_
          by_cases hfit : masked ip mask = ip
          · refine To.slotF 30 (!decide (masked ip mask = ip)) (by kernel_rfl) (by simp [hfit]) ?_
            refine To.runF 1 [] (fun _ _ => by kernel_rfl) fun f6 g6 l6 => ?_
            refine To.callN 24 #[.slice a ip.length ca] (by kernel_rfl) (fun _ => by kernel_rfl) (fun w4 hw4 => maMapped ip a ca w4 (hi.later hw4.ext) hil hca) (fun w4 v4 w5 hw4 hx4 hv4 hnew4 hwi4 => ?_)
            subst hv4
            refine To.runF 2 [] (fun _ _ => by kernel_rfl) fun f7 g7 l7 => ?_
            by_cases hmp : mapped ip = true
            · refine To.testT (mapped ip) (by kernel_rfl) hmp ?_
              refine To.runF 4 [] (fun _ _ => by kernel_rfl) fun f8 g8 l8 => ?_
              exact To.ret [] (.bool false) (by kernel_rfl) (by kernel_rfl) fun w4 hw4 => ⟨_, rfl, hw4.ext, false, rfl, fun h => by cases h⟩
            · refine To.testF (mapped ip) (by kernel_rfl) (by simpa using hmp) ?_
              refine To.runF 7 [] (fun _ _ => by kernel_rfl) fun f8 g8 l8 => ?_
              refine To.loop (fun k : Nat => 8 * ip.length + 1 - k) (fun k => ([(0, .slice a ip.length ca), (1, .slice b mask.length cb), (5, .int .i64 (Int.ofNat k))], [])) (fun k _ => k ≤ 8 * ip.length + 1) 0 [] (by kernel_rfl) (by kernel_rfl) (by kernel_rfl) rfl (fun _ _ => Nat.zero_le _) ?_
              rintro k w7 hk hx7 back
              refine To.runF 9 [] (fun _ _ => by kernel_rfl) fun f9 g9 l9 => ?_
              have hb8 : IntKind.i64.wrap (8 * Int.ofNat ip.length) = Int.ofNat (8 * ip.length) := by simp only [Int.ofNat_eq_natCast]; rw [IntWalk.i64_in _ ⟨by omega, by omega⟩]; omega
              by_cases hlt : k ≤ 8 * ip.length
              · refine To.testT (decide (Int.ofNat k ≤ IntKind.i64.wrap (8 * Int.ofNat ip.length))) (by kernel_rfl) (by rw [hb8]; exact decide_eq_true (Int.ofNat_le.2 hlt)) ?_
                refine To.runF 9 [0, 0, 0, 1, 2, 5] (fun _ _ => by kernel_rfl) fun f10 g10 l10 => ?_
                refine To.pick 1 (by kernel_rfl) ⟨⟨trivial, ?_⟩, ?_⟩
                · skip
                  refine To.callN 25 #[.int .i64 (Int.ofNat k), .int .i64 (Int.ofNat ip.length)] (by kernel_rfl) (fun _ => by kernel_rfl) (fun w8 hw8 => maMask k ip.length w8 (by omega) (by omega)) (fun w8 v8 w9 hw8 hx8 hv8 hnew8 hwi8 => ?_)
                  obtain ⟨gm, rfl, hgm, hgmn⟩ := hv8
                  refine To.pick 1 (by kernel_rfl) ⟨⟨trivial, ?_⟩, ?_⟩
                  · skip
                    refine To.textOf (some ⟨gm, 0, none⟩) ip.length ip.length (maskOf k ip.length) (by rw [maskOf_length]) uBytes uString uU8 (by kernel_rfl) (fun w10 hw10 => ((bytesOfRow hgm).later (frx hw10.fr (by kernel_rfl))).at_) (fun e => by cases e) ?_
                    refine To.textOf b mask.length cb mask rfl uBytes uString uU8 (by kernel_rfl) (fun w10 hw10 => (hm.later hw10.ext).at_) hm.none ?_
                    refine To.runF 2 [] (fun _ _ => by kernel_rfl) fun f11 g11 l11 => ?_
                    by_cases hmk : maskOf k ip.length = mask
                    · refine To.testT ((ByteArray.mk ⟨maskOf k ip.length⟩).toList == (ByteArray.mk ⟨mask⟩).toList) (by kernel_rfl) (by rw [strEq]; exact decide_eq_true hmk) ?_
                      refine To.runF 4 [] (fun _ _ => by kernel_rfl) fun f12 g12 l12 => ?_
                      exact To.ret [] (.bool true) (by kernel_rfl) (by kernel_rfl) fun w11 hw11 => ⟨_, rfl, hw11.ext, true, rfl, fun _ => ⟨by omega, hle, hfit, by simpa using hmp, k, hlt, hmk.symm⟩⟩
                    · refine To.testF ((ByteArray.mk ⟨maskOf k ip.length⟩).toList == (ByteArray.mk ⟨mask⟩).toList) (by kernel_rfl) (by rw [strEq]; exact decide_eq_false hmk) ?_
                      refine To.runF 7 [] (fun _ _ => by kernel_rfl) fun f12 g12 l12 => ?_
                      refine To.slotE 5 (.int .i64 (IntKind.i64.wrap (Int.ofNat k + 1))) (.int .i64 (Int.ofNat (k + 1))) (by kernel_rfl) (by rw [wrap_succ k (by omega)]) ?_
                      exact back _ _ (k + 1) [] (by omega) ⟨by kernel_rfl, by kernel_rfl, by kernel_rfl, by kernel_rfl, by kernel_rfl, rfl⟩ (fun w12 hw12 => by omega)
                  · skip
                    refine To.textOf b mask.length cb mask rfl uBytes uString uU8 (by kernel_rfl) (fun w10 hw10 => (hm.later hw10.ext).at_) hm.none ?_
                    refine To.textOf (some ⟨gm, 0, none⟩) ip.length ip.length (maskOf k ip.length) (by rw [maskOf_length]) uBytes uString uU8 (by kernel_rfl) (fun w10 hw10 => ((bytesOfRow hgm).later (frx hw10.fr (by kernel_rfl))).at_) (fun e => by cases e) ?_
                    refine To.runF 2 [] (fun _ _ => by kernel_rfl) fun f11 g11 l11 => ?_
                    by_cases hmk : maskOf k ip.length = mask
                    · refine To.testT ((ByteArray.mk ⟨maskOf k ip.length⟩).toList == (ByteArray.mk ⟨mask⟩).toList) (by kernel_rfl) (by rw [strEq]; exact decide_eq_true hmk) ?_
                      refine To.runF 4 [] (fun _ _ => by kernel_rfl) fun f12 g12 l12 => ?_
                      exact To.ret [] (.bool true) (by kernel_rfl) (by kernel_rfl) fun w11 hw11 => ⟨_, rfl, hw11.ext, true, rfl, fun _ => ⟨by omega, hle, hfit, by simpa using hmp, k, hlt, hmk.symm⟩⟩
                    · refine To.testF ((ByteArray.mk ⟨maskOf k ip.length⟩).toList == (ByteArray.mk ⟨mask⟩).toList) (by kernel_rfl) (by rw [strEq]; exact decide_eq_false hmk) ?_
                      refine To.runF 7 [] (fun _ _ => by kernel_rfl) fun f12 g12 l12 => ?_
                      refine To.slotE 5 (.int .i64 (IntKind.i64.wrap (Int.ofNat k + 1))) (.int .i64 (Int.ofNat (k + 1))) (by kernel_rfl) (by rw [wrap_succ k (by omega)]) ?_
                      exact back _ _ (k + 1) [] (by omega) ⟨by kernel_rfl, by kernel_rfl, by kernel_rfl, by kernel_rfl, by kernel_rfl, rfl⟩ (fun w12 hw12 => by omega)
                · skip
                  refine To.textOf b mask.length cb mask rfl uBytes uString uU8 (by kernel_rfl) (fun w10 hw10 => (hm.later hw10.ext).at_) hm.none ?_
                  refine To.callN 25 #[.int .i64 (Int.ofNat k), .int .i64 (Int.ofNat ip.length)] (by kernel_rfl) (fun _ => by kernel_rfl) (fun w8 hw8 => maMask k ip.length w8 (by omega) (by omega)) (fun w8 v8 w9 hw8 hx8 hv8 hnew8 hwi8 => ?_)
                  obtain ⟨gm, rfl, hgm, hgmn⟩ := hv8
                  refine To.pick 0 (by kernel_rfl) ⟨trivial, ?_⟩
                  refine To.textOf (some ⟨gm, 0, none⟩) ip.length ip.length (maskOf k ip.length) (by rw [maskOf_length]) uBytes uString uU8 (by kernel_rfl) (fun w10 hw10 => ((bytesOfRow hgm).later (frx hw10.fr (by kernel_rfl))).at_) (fun e => by cases e) ?_
                  refine To.runF 2 [] (fun _ _ => by kernel_rfl) fun f11 g11 l11 => ?_
                  by_cases hmk : maskOf k ip.length = mask
                  · refine To.testT ((ByteArray.mk ⟨maskOf k ip.length⟩).toList == (ByteArray.mk ⟨mask⟩).toList) (by kernel_rfl) (by rw [strEq]; exact decide_eq_true hmk) ?_
                    refine To.runF 4 [] (fun _ _ => by kernel_rfl) fun f12 g12 l12 => ?_
                    exact To.ret [] (.bool true) (by kernel_rfl) (by kernel_rfl) fun w11 hw11 => ⟨_, rfl, hw11.ext, true, rfl, fun _ => ⟨by omega, hle, hfit, by simpa using hmp, k, hlt, hmk.symm⟩⟩
                  · refine To.testF ((ByteArray.mk ⟨maskOf k ip.length⟩).toList == (ByteArray.mk ⟨mask⟩).toList) (by kernel_rfl) (by rw [strEq]; exact decide_eq_false hmk) ?_
                    refine To.runF 7 [] (fun _ _ => by kernel_rfl) fun f12 g12 l12 => ?_
                    refine To.slotE 5 (.int .i64 (IntKind.i64.wrap (Int.ofNat k + 1))) (.int .i64 (Int.ofNat (k + 1))) (by kernel_rfl) (by rw [wrap_succ k (by omega)]) ?_
                    exact back _ _ (k + 1) [] (by omega) ⟨by kernel_rfl, by kernel_rfl, by kernel_rfl, by kernel_rfl, by kernel_rfl, rfl⟩ (fun w12 hw12 => by omega)
              · refine To.testF (decide (Int.ofNat k ≤ IntKind.i64.wrap (8 * Int.ofNat ip.length))) (by kernel_rfl) (by rw [hb8]; exact decide_eq_false (fun h => hlt (Int.ofNat_le.1 h))) ?_
                refine To.runF 5 [] (fun _ _ => by kernel_rfl) fun f10 g10 l10 => ?_
                exact To.ret [] (.bool false) (by kernel_rfl) (by kernel_rfl) fun w4 hw4 => ⟨_, rfl, hw4.ext, false, rfl, fun h => by cases h⟩
          · refine To.slotT 30 (!decide (masked ip mask = ip)) (by kernel_rfl) (by simp [hfit]) ?_
            refine To.runF 9 [] (fun _ _ => by kernel_rfl) fun f6 g6 l6 => ?_
            exact To.ret [] (.bool false) (by kernel_rfl) (by kernel_rfl) fun w4 hw4 => ⟨_, rfl, hw4.ext, false, rfl, fun h => by cases h⟩
      · refine To.slotT 21 (Int.ofNat mask.length != Int.ofNat ip.length) (by kernel_rfl) (by simp only [Int.ofNat_eq_natCast, bne_iff_ne, ne_eq]; omega) ?_
        refine To.runF 18 [16, 17, 18, 19] (fun _ _ => by kernel_rfl) fun f4 g4 l4 => ?_
        exact To.ret [] (.bool false) (by kernel_rfl) (by kernel_rfl) fun w4 hw4 => ⟨_, rfl, hw4.ext, false, rfl, fun h => by cases h⟩
    · refine To.slotT 14 (Int.ofNat ip.length != 16) (by kernel_rfl) (by simp only [Int.ofNat_eq_natCast, bne_iff_ne, ne_eq]; omega) ?_
      refine To.runF 25 [9, 10, 16, 17, 18, 19] (fun _ _ => by kernel_rfl) fun f3 g3 l3 => ?_
      exact To.ret [] (.bool false) (by kernel_rfl) (by kernel_rfl) fun w4 hw4 => ⟨_, rfl, hw4.ext, false, rfl, fun h => by cases h⟩
end Go.Proofs.YtkhonkejebdcgaaGreatDoor
/- Whether a list of codes has a code; the first component with one of some codes. Conditions: as each says. -/
namespace Go.Proofs.YtkhonkejebdcgaaGreatDoor
open Go Go.SX
set_option maxHeartbeats 8000000
set_option maxRecDepth 100000
abbrev Comps := List (Int × List UInt8)
/-- A slice holds these numbers. -/
structure IntsIn (w : World) (a : Option Addr) (l : List Int) : Prop where
  at_ : ∀ (j : Nat) (n : Int), l[j]? = some n → ∃ ad, a = some ad ∧ ad.spot = none ∧ w.cell? (ad.add (j * 1)) = some (.int .i64 n)
theorem IntsIn.later {w w' : World} {a : Option Addr} {l : List Int} (h : IntsIn w a l) (hx : Ext [] w w') : IntsIn w' a l :=
  ⟨fun j x hj => let ⟨ad, h1, h2, h3⟩ := h.at_ j x hj; ⟨ad, h1, h2, hx.cell h3 (by simp)⟩⟩
theorem elI : Elem Tryz.prog 81 3 1 8 := Elem.of (z := .int .i64 0) (by kernel_rfl) (by kernel_rfl) rfl
theorem uInts : Tryz.prog.underlying 81 = some (.slice 3) := by kernel_rfl
theorem uInt : Tryz.prog.underlying 3 = some (.int .i64) := by kernel_rfl
theorem not_mem_take {α : Type} {L : List α} {x y : α} {k : Nat} (h : x ∉ L.take k) (hy : L[k]? = some y) (hne : x ≠ y) : x ∉ L.take (k + 1) := by
  rw [List.take_add_one, hy]
  simp only [Option.toList_some, List.mem_append, List.mem_singleton, not_or]
  exact ⟨h, hne⟩
theorem maHas (l : List Int) (c : Int) (a : Option Addr) (ca : Nat) (w : World) (hin : IntsIn w a l) (hlen : l.length ≤ 1152921504606846976) :
    Calls Tryz.prog 43 #[.slice a l.length ca, .int .i64 c] w (fun e w1 => ∃ v, e = .returned v ∧ Ext [] w w1 ∧ v = .bool (decide (c ∈ l))) := by
  refine calls_of0 (args := [.slice a l.length ca, .int .i64 c]) Tryz.func43 rfl rfl rfl ?_
  refine To.runF 12 [] (fun _ _ => by kernel_rfl) fun f1 g1 l1 => ?_
  refine To.loop (fun k : Nat => l.length - k) (fun k => ([(1, .int .i64 c), (7, .slice a l.length ca), (8, .int .i64 (Int.ofNat l.length)), (9, .int .i64 (Int.ofNat k))], [])) (fun k _ => k ≤ l.length ∧ c ∉ l.take k) 0 [] (by kernel_rfl) (by kernel_rfl) (by kernel_rfl) rfl (fun _ _ => ⟨Nat.zero_le _, by simp⟩) ?_
  rintro k w1 ⟨hk, hall⟩ hx1 back
  refine To.runF 5 [] (fun _ _ => by kernel_rfl) fun f2 g2 l2 => ?_
  by_cases hlt : k < l.length
  · obtain ⟨y, hp⟩ : ∃ y, l[k]? = some y := ⟨l[k], by simp [hlt]⟩
    obtain ⟨ad, ha, hsp, hc0⟩ := hin.at_ k y hp
    refine To.testT (decide (Int.ofNat k < Int.ofNat l.length)) (by kernel_rfl) (decide_eq_true (Int.ofNat_lt.2 hlt)) ?_
    refine To.runF 5 [] (fun _ _ => by kernel_rfl) fun f3 g3 l3 => ?_
    refine To.indexAt elI a ad l.length ca k (by kernel_rfl) ha hlt ?_
    refine To.loadOne uInt rfl (ad.add (k * 1)) (.int .i64 y) (by kernel_rfl) (fun w2 hw2 => hw2.ext.cell hc0 (by simp)) ?_
    refine To.runF 8 [] (fun _ _ => by kernel_rfl) fun f4 g4 l4 => ?_
    refine To.test (y == c) (by kernel_rfl) (fun h2 => ?_) (fun h2 => ?_)
    · refine To.runF 4 [] (fun _ _ => by kernel_rfl) fun f5 g5 l5 => ?_
      exact To.ret [] (.bool true) (by kernel_rfl) (by kernel_rfl) fun w4 hw4 => ⟨_, rfl, hw4.ext, by
        rw [decide_eq_true]
        rw [← eq_of_beq h2]; exact List.mem_of_getElem? hp⟩
    refine To.runF 6 [] (fun _ _ => by kernel_rfl) fun f5 g5 l5 => ?_
    refine To.slotE 9 (.int .i64 (IntKind.i64.wrap (Int.ofNat k + 1))) (.int .i64 (Int.ofNat (k + 1))) (by kernel_rfl) (by rw [wrap_succ k (by omega)]) ?_
    exact back _ _ (k + 1) [] (by omega) ⟨by kernel_rfl, by kernel_rfl, by kernel_rfl, by kernel_rfl, by kernel_rfl, rfl⟩ (fun w7 hw7 => ⟨hlt, not_mem_take hall hp (fun he => by rw [he] at h2; simp at h2)⟩)
  · have hk1 : k = l.length := by omega
    subst hk1
    refine To.testF (decide (Int.ofNat l.length < Int.ofNat l.length)) (by kernel_rfl) (by simp) ?_
    refine To.runF 5 [] (fun _ _ => by kernel_rfl) fun f3 g3 l3 => ?_
    exact To.ret [] (.bool false) (by kernel_rfl) (by kernel_rfl) fun w4 hw4 => ⟨_, rfl, hw4.ext, by
      rw [List.take_length] at hall
      rw [decide_eq_false hall]⟩
/-- Whether an address has a component with one of these codes. -/
def anyOf (x : Comps) (l : List Int) : Bool := x.any fun p => decide (p.1 ∈ l)
abbrev FirstPost (x : Comps) (l : List Int) (w : World) (e : Ending) (w1 : World) : Prop := ∃ v, e = .returned v ∧ Ext [] w w1 ∧ ∃ k : Nat, v = .int .i64 (Int.ofNat k) ∧ decide (k < x.length) = anyOf x l
theorem maFirst (x : Comps) (l : List Int) (a b : Option Addr) (ca cb : Nat) (w : World) (hin : CompsIn w a x) (hl : IntsIn w b l) (hlen : x.length ≤ 1152921504606846976) (hlb : l.length ≤ 1152921504606846976) :
    Calls Tryz.prog 27 #[.slice a x.length ca, .slice b l.length cb] w (FirstPost x l w) := by
  refine calls_of0 (args := [.slice a x.length ca, .slice b l.length cb]) Tryz.func27 rfl rfl rfl ?_
  refine To.runF 12 [] (fun _ _ => by kernel_rfl) fun f1 g1 l1 => ?_
  refine To.loop (fun k : Nat => x.length - k) (fun k => ([(0, .slice a x.length ca), (1, .slice b l.length cb), (7, .slice a x.length ca), (8, .int .i64 (Int.ofNat x.length)), (9, .int .i64 (Int.ofNat k))], [])) (fun k _ => k ≤ x.length ∧ anyOf (x.take k) l = false) 0 [] (by kernel_rfl) (by kernel_rfl) (by kernel_rfl) rfl (fun _ _ => ⟨Nat.zero_le _, rfl⟩) ?_
  rintro k w1 ⟨hk, hall⟩ hx1 back
  refine To.runF 5 [] (fun _ _ => by kernel_rfl) fun f2 g2 l2 => ?_
  by_cases hlt : k < x.length
  · obtain ⟨p, hp⟩ : ∃ p, x[k]? = some p := ⟨x[k], by simp [hlt]⟩
    obtain ⟨ad, va, cv, ha, hsp, hc0, hc1, hv⟩ := hin.at_ k p.1 p.2 hp
    refine To.testT (decide (Int.ofNat k < Int.ofNat x.length)) (by kernel_rfl) (decide_eq_true (Int.ofNat_lt.2 hlt)) ?_
    refine To.runF 6 [] (fun _ _ => by kernel_rfl) fun f3 g3 l3 => ?_
    refine To.indexAt elC a ad x.length ca k (by kernel_rfl) ha hlt ?_
    refine To.loadAgg (t := 75) (by kernel_rfl) 2 (by kernel_rfl) (ad.add (k * 2)) [.int .i64 p.1, .slice va p.2.length cv] rfl (by kernel_rfl) (fun w2 hw2 j v hj => by
      rw [add_add hsp]
      rcases j with _ | _ | j
      · cases hj; exact hw2.ext.cell hc0 (by simp)
      · cases hj; exact hw2.ext.cell hc1 (by simp)
      · cases hj) ?_
    refine To.runF 9 [0, 0, 0] (fun _ _ => by kernel_rfl) fun f4 g4 l4 => ?_
    refine To.callN 43 #[.slice b l.length cb, .int .i64 p.1] (by kernel_rfl) (fun _ => by kernel_rfl) (fun w2 hw2 => maHas l p.1 b cb w2 (hl.later hw2.ext) hlb) (fun w2 v2 w3 hw2 hx2 hv2 hnew2 hwi2 => ?_)
    subst hv2
    refine To.runF 1 [] (fun _ _ => by kernel_rfl) fun f5 g5 l5 => ?_
    refine To.test (decide (p.1 ∈ l)) (by kernel_rfl) (fun h2 => ?_) (fun h2 => ?_)
    · refine To.runF 5 [] (fun _ _ => by kernel_rfl) fun f6 g6 l6 => ?_
      exact To.ret [] (.int .i64 (Int.ofNat k)) (by kernel_rfl) (by kernel_rfl) fun w4 hw4 => ⟨_, rfl, hw4.ext, k, rfl, by
        rw [decide_eq_true hlt]
        exact (List.any_eq_true.2 ⟨p, List.mem_of_getElem? hp, h2⟩).symm⟩
    refine To.runF 6 [] (fun _ _ => by kernel_rfl) fun f6 g6 l6 => ?_
    refine To.slotE 9 (.int .i64 (IntKind.i64.wrap (Int.ofNat k + 1))) (.int .i64 (Int.ofNat (k + 1))) (by kernel_rfl) (by rw [wrap_succ k (by omega)]) ?_
    exact back _ _ (k + 1) [] (by omega) ⟨by kernel_rfl, by kernel_rfl, by kernel_rfl, by kernel_rfl, by kernel_rfl, rfl⟩ (fun w7 hw7 => ⟨hlt, by
      unfold anyOf at hall ⊢
      rw [List.take_add_one, hp, List.any_append, hall]
      simp [h2]⟩)
  · have hk1 : k = x.length := by omega
    subst hk1
    refine To.testF (decide (Int.ofNat x.length < Int.ofNat x.length)) (by kernel_rfl) (by simp) ?_
    refine To.runF 7 [] (fun _ _ => by kernel_rfl) fun f3 g3 l3 => ?_
    exact To.ret [] (.int .i64 (Int.ofNat x.length)) (by kernel_rfl) (by kernel_rfl) fun w4 hw4 => ⟨_, rfl, hw4.ext, _, rfl, by
      rw [List.take_length] at hall
      rw [hall]; simp⟩
end Go.Proofs.YtkhonkejebdcgaaGreatDoor
