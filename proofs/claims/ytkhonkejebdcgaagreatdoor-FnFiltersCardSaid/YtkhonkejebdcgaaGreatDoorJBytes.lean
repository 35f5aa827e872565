/- Addresses and masks of package net as bytes: maps to 4 bytes, masks, ones. Conditions: as each says. -/
import Derived.Test.YtkhonkejebdcgaaGreatDoorJMake
import Derived.Test.YtkhonkejebdcgaaGreatDoorSxC
/- Whether bytes map an address of 32 bits. Conditions: as each says. -/
namespace Go.Proofs.YtkhonkejebdcgaaGreatDoor
open Go Go.SX
set_option maxHeartbeats 8000000
set_option maxRecDepth 100000
theorem addadd (a : Addr) (i j : Nat) : (a.add i).add j = a.add (i + j) := by
  unfold Addr.add
  by_cases hi : i = 0 <;> by_cases hj : j = 0 <;> simp [hi, hj, Nat.add_assoc]
theorem BytesIn.from {w : World} {a : Option Addr} {l : List UInt8} (h : BytesIn w a l) (i cap : Nat) (hc : l.length ≤ cap) : BytesIn w (onA a i 1 cap) (l.drop i) := by
  unfold onA
  by_cases hi : cap = i
  · rw [if_pos hi]
    have : l.drop i = [] := List.drop_eq_nil_of_le (by omega)
    rw [this]
    exact ⟨fun j u hj => by simp at hj, fun _ => rfl⟩
  · rw [if_neg hi]
    refine ⟨fun j u hj => ?_, fun e => ?_⟩
    · rw [List.getElem?_drop] at hj
      obtain ⟨ad, h1, h2⟩ := h.at_ (i + j) u hj
      refine ⟨ad.add i, by rw [h1]; simp, ?_⟩
      rw [addadd]; exact h2
    · cases a with
      | none => rw [h.none rfl]; simp
      | some x => simp at e
theorem BytesIn.upTo {w : World} {a : Option Addr} {l : List UInt8} (h : BytesIn w a l) (m : Nat) : BytesIn w a (l.take m) :=
  ⟨fun j u hj => h.at_ j u (by
    rw [List.getElem?_take] at hj
    split at hj
    · exact hj
    · cases hj), fun e => by simp [h.none e]⟩
theorem frx {hp : List (Option Blk)} {w w' : World} (h : Fr hp w w') (hn : nums hp = []) : Ext [] w w' :=
  ⟨h.os, h.tape, h.output, h.size, fun k hk _ => h.block k hk (fun j b hj _ => (nums_all (Q := fun _ => False) hn trivial j b hj).elim)⟩
/-- One byte of bytes that lie in memory. -/
theorem BytesIn.one {w : World} {a : Option Addr} {l : List UInt8} (h : BytesIn w a l) (k : Nat) (hk : k < l.length) : ∃ ad, a = some ad ∧ w.cell? (ad.add (k * 1)) = some (.int .u8 ((l[k]).toNat : Int)) := by
  obtain ⟨ad, h1, h2⟩ := h.at_ k l[k] (by simp)
  exact ⟨ad, h1, by rw [Nat.mul_one]; exact h2⟩
/-- Sixteen bytes that map four. -/
def mapped (l : List UInt8) : Bool := decide (l.length = 16) && (l.getD 10 0 == 255) && (l.getD 11 0 == 255) && (l.take 10).all (· == 0)
theorem ne255 (u : UInt8) : ((u.toNat : Int) != 255) = !(u == 255) := by
  by_cases h : u = 255
  · subst h; rfl
  · rw [beq_eq_false_iff_ne.2 h]
    have : (u.toNat : Int) ≠ 255 := fun e => h (UInt8.toNat_inj.1 (by show u.toNat = 255; omega))
    simpa using this
theorem ne0 (u : UInt8) : ((u.toNat : Int) != 0) = !(u == 0) := by
  by_cases h : u = 0
  · subst h; rfl
  · rw [beq_eq_false_iff_ne.2 h]
    have : (u.toNat : Int) ≠ 0 := fun e => h (UInt8.toNat_inj.1 (by show u.toNat = 0; omega))
    simpa using this
theorem maMapped (l : List UInt8) (a : Option Addr) (cap : Nat) (w : World) (hin : BytesIn w a l) (hlen : l.length ≤ 1152921504606846976) (hcap : l.length ≤ cap) :
    Calls Tryz.prog 24 #[.slice a l.length cap] w (fun e w1 => ∃ v, e = .returned v ∧ Ext [] w w1 ∧ v = .bool (mapped l)) := by
  refine calls_of0 (args := [.slice a l.length cap]) Tryz.func24 rfl rfl rfl ?_
  have hno : ∀ (h : 11 < l.length), ¬ (l[10] = 255 ∧ l[11] = 255) → mapped l = false := fun h hn => by
    unfold mapped
    rw [List.getD_eq_getElem?_getD, List.getD_eq_getElem?_getD, List.getElem?_eq_getElem (show 10 < l.length by omega), List.getElem?_eq_getElem h]
    by_cases e1 : l[10] = 255
    · have e2 : l[11] ≠ 255 := fun e => hn ⟨e1, e⟩
      simp [e2]
    · simp [e1]
  refine To.runF 11 [] (fun _ _ => by kernel_rfl) fun f1 g1 l1 => ?_
  by_cases h16 : l.length = 16
  · refine To.slotF 8 (Int.ofNat l.length != 16) (by kernel_rfl) (by rw [h16]; rfl) ?_
    obtain ⟨ad, ha, hc10⟩ := hin.one 10 (by omega)
    obtain ⟨_, ha', hc11⟩ := hin.one 11 (by omega)
    rw [ha] at ha'; cases ha'
    refine To.runF 1 [] (fun _ _ => by kernel_rfl) fun f2 g2 l2 => ?_
    refine To.indexAt elB a ad l.length cap 10 (by kernel_rfl) ha (by omega) ?_
    refine To.loadOne uU8 rfl (ad.add (10 * 1)) (.int .u8 ((l[10]).toNat : Int)) (by kernel_rfl) (fun w2 hw2 => hw2.ext.cell hc10 (by simp)) ?_
    refine To.runF 3 [] (fun _ _ => by kernel_rfl) fun f3 g3 l3 => ?_
    by_cases h10 : l[10] = 255
    · refine To.slotF 14 (((l[10]).toNat : Int) != 255) (by kernel_rfl) (by rw [ne255, h10]; rfl) ?_
      refine To.runF 1 [] (fun _ _ => by kernel_rfl) fun f4 g4 l4 => ?_
      refine To.indexAt elB a ad l.length cap 11 (by kernel_rfl) ha (by omega) ?_
      refine To.loadOne uU8 rfl (ad.add (11 * 1)) (.int .u8 ((l[11]).toNat : Int)) (by kernel_rfl) (fun w2 hw2 => hw2.ext.cell hc11 (by simp)) ?_
      refine To.runF 3 [] (fun _ _ => by kernel_rfl) fun f5 g5 l5 => ?_
      by_cases h11 : l[11] = 255
      · refine To.testF (((l[11]).toNat : Int) != 255) (by kernel_rfl) (by rw [ne255, h11]; rfl) ?_
        refine To.runF 5 [] (fun _ _ => by kernel_rfl) fun f6 g6 l6 => ?_
        refine To.sliceUpTo elB a l.length 10 cap (by omega) (by kernel_rfl) ?_
        refine To.runF 4 [] (fun _ _ => by kernel_rfl) fun f7 g7 l7 => ?_
        refine To.loop (fun k : Nat => 10 - k) (fun k => ([(21, .slice a 10 cap), (22, .int .i64 10), (23, .int .i64 (Int.ofNat k))], [])) (fun k _ => k ≤ 10 ∧ ∀ j, j < k → l[j]? = some 0) 0 [] (by kernel_rfl) (by kernel_rfl) (by kernel_rfl) rfl (fun _ _ => ⟨Nat.zero_le _, fun j h => by omega⟩) ?_
        rintro k w1 ⟨hk, hall⟩ hx1 back
        refine To.runF 5 [] (fun _ _ => by kernel_rfl) fun f8 g8 l8 => ?_
        by_cases hlt : k < 10
        · obtain ⟨_, ha2, hck⟩ := hin.one k (by omega)
          rw [ha] at ha2; cases ha2
          refine To.testT (decide (Int.ofNat k < 10)) (by kernel_rfl) (decide_eq_true (by simp only [Int.ofNat_eq_natCast]; omega)) ?_
          refine To.runF 5 [] (fun _ _ => by kernel_rfl) fun f9 g9 l9 => ?_
          refine To.indexAt elB a ad 10 cap k (by kernel_rfl) ha hlt ?_
          refine To.loadOne uU8 rfl (ad.add (k * 1)) (.int .u8 ((l[k]).toNat : Int)) (by kernel_rfl) (fun w2 hw2 => hw2.ext.cell hck (by simp)) ?_
          refine To.runF 7 [] (fun _ _ => by kernel_rfl) fun f10 g10 l10 => ?_
          by_cases hz : l[k] = 0
          · refine To.testF (((l[k]).toNat : Int) != 0) (by kernel_rfl) (by rw [ne0, hz]; rfl) ?_
            refine To.runF 6 [] (fun _ _ => by kernel_rfl) fun f11 g11 l11 => ?_
            refine To.slotE 23 (.int .i64 (IntKind.i64.wrap (Int.ofNat k + 1))) (.int .i64 (Int.ofNat (k + 1))) (by kernel_rfl) (by rw [wrap_succ k (by omega)]) ?_
            exact back _ _ (k + 1) [] (by omega) ⟨by kernel_rfl, by kernel_rfl, by kernel_rfl, by kernel_rfl, by kernel_rfl, rfl⟩ (fun w7 hw7 => ⟨hlt, fun j hj => by
              by_cases hjk : j = k
              · subst hjk; rw [List.getElem?_eq_getElem (by omega), hz]
              · exact hall j (by omega)⟩)
          · refine To.testT (((l[k]).toNat : Int) != 0) (by kernel_rfl) (by rw [ne0, beq_eq_false_iff_ne.2 hz]; rfl) ?_
            refine To.runF 4 [] (fun _ _ => by kernel_rfl) fun f11 g11 l11 => ?_
            exact To.ret [] (.bool false) (by kernel_rfl) (by kernel_rfl) fun w4 hw4 => ⟨_, rfl, hw4.ext, by
              have : mapped l = false := by
                unfold mapped
                have : (l.take 10).all (· == 0) = false := by
                  rw [List.all_eq_false]
                  exact ⟨l[k], by rw [List.mem_take_iff_getElem]; exact ⟨k, by omega, rfl⟩, by simpa using hz⟩
                rw [this, Bool.and_false]
              rw [this]⟩
        · have hk1 : k = 10 := by omega
          subst hk1
          refine To.testF (decide (Int.ofNat 10 < 10)) (by kernel_rfl) (by simp) ?_
          refine To.runF 5 [] (fun _ _ => by kernel_rfl) fun f9 g9 l9 => ?_
          exact To.ret [] (.bool true) (by kernel_rfl) (by kernel_rfl) fun w4 hw4 => ⟨_, rfl, hw4.ext, by
            have : mapped l = true := by
              unfold mapped
              have h1 : (l.take 10).all (· == 0) = true := by
                rw [List.all_eq_true]
                intro x hx
                obtain ⟨j, hj⟩ := List.mem_iff_getElem?.1 hx
                rw [List.getElem?_take] at hj
                split at hj
                · rename_i hj10
                  rw [hall j hj10] at hj
                  simpa using (Option.some.inj hj).symm
                · cases hj
              rw [h1, List.getD_eq_getElem?_getD, List.getD_eq_getElem?_getD, List.getElem?_eq_getElem (show 10 < l.length by omega), List.getElem?_eq_getElem (show 11 < l.length by omega)]
              simp [h16, h10, h11]
            rw [this]⟩
      · refine To.testT (((l[11]).toNat : Int) != 255) (by kernel_rfl) (by rw [ne255, beq_eq_false_iff_ne.2 h11]; rfl) ?_
        refine To.runF 4 [] (fun _ _ => by kernel_rfl) fun f6 g6 l6 => ?_
        exact To.ret [] (.bool false) (by kernel_rfl) (by kernel_rfl) fun w4 hw4 => ⟨_, rfl, hw4.ext, by rw [show mapped l = false from hno (by omega) (fun h => h11 h.2)]⟩
    · refine To.slotT 14 (((l[10]).toNat : Int) != 255) (by kernel_rfl) (by rw [ne255, beq_eq_false_iff_ne.2 h10]; rfl) ?_
      refine To.runF 11 [] (fun _ _ => by kernel_rfl) fun f4 g4 l4 => ?_
      exact To.ret [] (.bool false) (by kernel_rfl) (by kernel_rfl) fun w4 hw4 => ⟨_, rfl, hw4.ext, by rw [show mapped l = false from hno (by omega) (fun h => h10 h.1)]⟩
  · refine To.slotT 8 (Int.ofNat l.length != 16) (by kernel_rfl) (by simp only [Int.ofNat_eq_natCast, bne_iff_ne, ne_eq]; omega) ?_
    refine To.runF 17 [] (fun _ _ => by kernel_rfl) fun f2 g2 l2 => ?_
    exact To.ret [] (.bool false) (by kernel_rfl) (by kernel_rfl) fun w4 hw4 => ⟨_, rfl, hw4.ext, by rw [show mapped l = false by simp [mapped, h16]]⟩
end Go.Proofs.YtkhonkejebdcgaaGreatDoor
/- net's isZeros and To4, of an address that maps none. Conditions: as each says. -/
namespace Go.Proofs.YtkhonkejebdcgaaGreatDoor
open Go Go.SX
set_option maxHeartbeats 8000000
set_option maxRecDepth 100000
theorem elIP : Elem Tryz.prog 43 5 1 1 := Elem.of (z := .int .u8 0) (by kernel_rfl) (by kernel_rfl) rfl
theorem isZeros (l : List UInt8) (a : Option Addr) (cap : Nat) (w : World) (hin : BytesIn w a l) (hlen : l.length ≤ 1152921504606846976) :
    Calls Tryz.prog 71 #[.slice a l.length cap] w (fun e w1 => ∃ v, e = .returned v ∧ Ext [] w w1 ∧ v = .bool (l.all (· == 0))) := by
  refine calls_of0 (args := [.slice a l.length cap]) Tryz.func71 rfl rfl rfl ?_
  refine To.runF 10 [] (fun _ _ => by kernel_rfl) fun f1 g1 l1 => ?_
  refine To.loop (fun k : Nat => l.length - k) (fun k => ([(0, .slice a l.length cap), (3, .int .i64 (Int.ofNat k))], [])) (fun k _ => k ≤ l.length ∧ ∀ j, j < k → l[j]? = some 0) 0 [] (by kernel_rfl) (by kernel_rfl) (by kernel_rfl) rfl (fun _ _ => ⟨Nat.zero_le _, fun j h => by omega⟩) ?_
  rintro k w1 ⟨hk, hall⟩ hx1 back
  refine To.runF 8 [] (fun _ _ => by kernel_rfl) fun f2 g2 l2 => ?_
  by_cases hlt : k < l.length
  · obtain ⟨ad, ha, hck⟩ := hin.one k hlt
    refine To.testT (decide (Int.ofNat k < Int.ofNat l.length)) (by kernel_rfl) (decide_eq_true (Int.ofNat_lt.2 hlt)) ?_
    refine To.runF 7 [] (fun _ _ => by kernel_rfl) fun f3 g3 l3 => ?_
    refine To.indexAt elIP a ad l.length cap k (by kernel_rfl) ha hlt ?_
    refine To.loadOne uU8 rfl (ad.add (k * 1)) (.int .u8 ((l[k]).toNat : Int)) (by kernel_rfl) (fun w2 hw2 => hw2.ext.cell hck (by simp)) ?_
    refine To.runF 2 [] (fun _ _ => by kernel_rfl) fun f4 g4 l4 => ?_
    by_cases hz : l[k] = 0
    · refine To.testF (((l[k]).toNat : Int) != 0) (by kernel_rfl) (by rw [ne0, hz]; rfl) ?_
      refine To.runF 7 [] (fun _ _ => by kernel_rfl) fun f5 g5 l5 => ?_
      refine To.slotE 3 (.int .i64 (IntKind.i64.wrap (Int.ofNat k + 1))) (.int .i64 (Int.ofNat (k + 1))) (by kernel_rfl) (by rw [wrap_succ k (by omega)]) ?_
      exact back _ _ (k + 1) [] (by omega) ⟨by kernel_rfl, by kernel_rfl, by kernel_rfl, by kernel_rfl, by kernel_rfl, rfl⟩ (fun w7 hw7 => ⟨hlt, fun j hj => by
        by_cases hjk : j = k
        · subst hjk; rw [List.getElem?_eq_getElem (by omega), hz]
        · exact hall j (by omega)⟩)
    · refine To.testT (((l[k]).toNat : Int) != 0) (by kernel_rfl) (by rw [ne0, beq_eq_false_iff_ne.2 hz]; rfl) ?_
      refine To.runF 4 [] (fun _ _ => by kernel_rfl) fun f5 g5 l5 => ?_
      exact To.ret [] (.bool false) (by kernel_rfl) (by kernel_rfl) fun w4 hw4 => ⟨_, rfl, hw4.ext, by
        rw [show l.all (· == 0) = false from List.all_eq_false.2 ⟨l[k], List.getElem_mem _, by simpa using hz⟩]⟩
  · have hk1 : k = l.length := by omega
    subst hk1
    refine To.testF (decide (Int.ofNat l.length < Int.ofNat l.length)) (by kernel_rfl) (by simp) ?_
    refine To.runF 5 [] (fun _ _ => by kernel_rfl) fun f3 g3 l3 => ?_
    exact To.ret [] (.bool true) (by kernel_rfl) (by kernel_rfl) fun w4 hw4 => ⟨_, rfl, hw4.ext, by
      rw [show l.all (· == 0) = true from List.all_eq_true.2 fun x hx => by
        obtain ⟨j, hj⟩ := List.mem_iff_getElem?.1 hx
        rw [hall j (List.getElem?_eq_some_iff.1 hj).1] at hj
        simpa using (Option.some.inj hj).symm]⟩
theorem eq255 (u : UInt8) : ((u.toNat : Int) == 255) = (u == 255) := by
  have h := ne255 u
  cases h1 : ((u.toNat : Int) == 255) <;> cases h2 : (u == 255) <;> simp_all [bne]
theorem isZerosN (l : List UInt8) (a : Option Addr) (n cap : Nat) (hn : n = l.length) (w : World) (hin : BytesIn w a l) (hlen : l.length ≤ 1152921504606846976) :
    Calls Tryz.prog 71 #[.slice a n cap] w (fun e w1 => ∃ v, e = .returned v ∧ Ext [] w w1 ∧ v = .bool (l.all (· == 0))) := by
  subst hn; exact isZeros l a cap w hin hlen
theorem to4 (l : List UInt8) (a : Option Addr) (cap : Nat) (w : World) (hin : BytesIn w a l) (hlen : l.length ≤ 1152921504606846976) (hcap : l.length ≤ cap) (hm : mapped l = false) :
    Calls Tryz.prog 60 #[.slice a l.length cap] w (fun e w1 => ∃ v, e = .returned v ∧ Ext [] w w1 ∧ v = if l.length = 4 then .slice a l.length cap else .slice none 0 0) := by
  refine calls_of0 (args := [.slice a l.length cap]) Tryz.func60 rfl rfl rfl ?_
  refine To.runF 11 [] (fun _ _ => by kernel_rfl) fun f1 g1 l1 => ?_
  by_cases h4 : l.length = 4
  · refine To.testT (Int.ofNat l.length == 4) (by kernel_rfl) (by rw [h4]; rfl) ?_
    refine To.runF 5 [] (fun _ _ => by kernel_rfl) fun f2 g2 l2 => ?_
    exact To.ret [] (.slice a l.length cap) (by kernel_rfl) (by kernel_rfl) fun w4 hw4 => ⟨_, rfl, hw4.ext, by rw [if_pos h4]⟩
  refine To.testF (Int.ofNat l.length == 4) (by kernel_rfl) (by simp only [Int.ofNat_eq_natCast, beq_eq_false_iff_ne, ne_eq]; omega) ?_
  refine To.runF 8 [] (fun _ _ => by kernel_rfl) fun f2 g2 l2 => ?_
  by_cases h16 : l.length = 16
  · refine To.slotT 10 (Int.ofNat l.length == 16) (by kernel_rfl) (by rw [h16]; rfl) ?_
    obtain ⟨ad, ha, hc10⟩ := hin.one 10 (by omega)
    obtain ⟨_, ha', hc11⟩ := hin.one 11 (by omega)
    rw [ha] at ha'; cases ha'
    refine To.runF 1 [] (fun _ _ => by kernel_rfl) fun f3 g3 l3 => ?_
    refine To.sliceMid elIP a l.length 0 10 cap (by omega) (by omega) (by kernel_rfl) ?_
    refine To.callN 71 #[.slice (onA a 0 1 cap) 10 (cap - 0)] (by kernel_rfl) (fun _ => by kernel_rfl) (fun w2 hw2 => isZerosN ((l.drop 0).take 10) _ 10 _ (by simp [h16]) w2 (((hin.later hw2.ext).from 0 cap hcap).upTo 10) (by simp; omega)) (fun w2 v2 w3 hw2 hx2 hv2 hnew2 hwi2 => ?_)
    subst hv2
    refine To.runF 2 [] (fun _ _ => by kernel_rfl) fun f4 g4 l4 => ?_
    have hmz : ¬ (((l.drop 0).take 10).all (· == 0) = true ∧ l[10] = 255 ∧ l[11] = 255) := fun ⟨hz, e1, e2⟩ => by
      have : mapped l = true := by
        unfold mapped
        rw [List.getD_eq_getElem?_getD, List.getD_eq_getElem?_getD, List.getElem?_eq_getElem (show 10 < l.length by omega), List.getElem?_eq_getElem (show 11 < l.length by omega)]
        rw [List.drop_zero] at hz
        simp [h16, e1, e2, hz]
      rw [this] at hm; cases hm
    have n4 : (if l.length = 4 then Value.slice a l.length cap else .slice none 0 0) = .slice none 0 0 := if_neg h4
    refine To.slot 15 (((l.drop 0).take 10).all (· == 0)) (by kernel_rfl) (fun hz => ?_) (fun _ => ?_)
    · refine To.runF 1 [] (fun _ _ => by kernel_rfl) fun f5 g5 l5 => ?_
      refine To.indexAt elIP a ad l.length cap 10 (by kernel_rfl) ha (by omega) ?_
      refine To.loadOne uU8 rfl (ad.add (10 * 1)) (.int .u8 ((l[10]).toNat : Int)) (by kernel_rfl) (fun w2 hw2 => hw2.ext.cell hc10 (by simp)) ?_
      refine To.runF 3 [] (fun _ _ => by kernel_rfl) fun f6 g6 l6 => ?_
      by_cases e10 : l[10] = 255
      · refine To.slotT 21 (((l[10]).toNat : Int) == 255) (by kernel_rfl) (by rw [eq255, e10]; rfl) ?_
        refine To.runF 1 [] (fun _ _ => by kernel_rfl) fun f7 g7 l7 => ?_
        refine To.indexAt elIP a ad l.length cap 11 (by kernel_rfl) ha (by omega) ?_
        refine To.loadOne uU8 rfl (ad.add (11 * 1)) (.int .u8 ((l[11]).toNat : Int)) (by kernel_rfl) (fun w2 hw2 => hw2.ext.cell hc11 (by simp)) ?_
        refine To.runF 3 [] (fun _ _ => by kernel_rfl) fun f8 g8 l8 => ?_
        refine To.testF (((l[11]).toNat : Int) == 255) (by kernel_rfl) (by rw [eq255]; exact beq_eq_false_iff_ne.2 fun e => hmz ⟨hz, e10, e⟩) ?_
        refine To.runF 5 [] (fun _ _ => by kernel_rfl) fun f9 g9 l9 => ?_
        exact To.ret [] (.slice none 0 0) (by kernel_rfl) (by kernel_rfl) fun w4 hw4 => ⟨_, rfl, hw4.ext, n4.symm⟩
      · refine To.slotF 21 (((l[10]).toNat : Int) == 255) (by kernel_rfl) (by rw [eq255]; exact beq_eq_false_iff_ne.2 e10) ?_
        refine To.runF 12 [] (fun _ _ => by kernel_rfl) fun f7 g7 l7 => ?_
        exact To.ret [] (.slice none 0 0) (by kernel_rfl) (by kernel_rfl) fun w4 hw4 => ⟨_, rfl, hw4.ext, n4.symm⟩
    · refine To.runF 18 [] (fun _ _ => by kernel_rfl) fun f5 g5 l5 => ?_
      exact To.ret [] (.slice none 0 0) (by kernel_rfl) (by kernel_rfl) fun w4 hw4 => ⟨_, rfl, hw4.ext, n4.symm⟩
  · refine To.slotF 10 (Int.ofNat l.length == 16) (by kernel_rfl) (by simp only [Int.ofNat_eq_natCast, beq_eq_false_iff_ne, ne_eq]; omega) ?_
    refine To.runF 23 [] (fun _ _ => by kernel_rfl) fun f3 g3 l3 => ?_
    exact To.ret [] (.slice none 0 0) (by kernel_rfl) (by kernel_rfl) fun w4 hw4 => ⟨_, rfl, hw4.ext, (if_neg h4).symm⟩
end Go.Proofs.YtkhonkejebdcgaaGreatDoor
/- Bytes under a mask; a mask of so many ones. Conditions: as each says. -/
namespace Go.Proofs.YtkhonkejebdcgaaGreatDoor
open Go Go.SX
set_option maxHeartbeats 8000000
set_option maxRecDepth 100000
theorem ofInt8 (a : UInt8) : BitVec.ofInt IntKind.u8.bits (a.toNat : Int) = a.toBitVec := by
  apply BitVec.eq_of_toNat_eq
  have h := a.toNat_lt
  show (BitVec.ofInt 8 (a.toNat : Int)).toNat = a.toNat
  simp [BitVec.toNat_ofInt]
theorem wrap8 (a : UInt8) : IntKind.u8.wrap (a.toNat : Int) = (a.toNat : Int) := by
  have h := a.toNat_lt
  rw [IntWalk.u8_in _ ⟨by omega, by omega⟩]
theorem and8 (a b : UInt8) : IntKind.u8.wrap (((BitVec.ofInt IntKind.u8.bits (a.toNat : Int) &&& BitVec.ofInt IntKind.u8.bits (b.toNat : Int)).toNat : Nat) : Int) = ((a &&& b).toNat : Int) := by
  rw [ofInt8, ofInt8]
  exact wrap8 (a &&& b)
def masked (l m : List UInt8) : List UInt8 := List.zipWith (· &&& ·) l m
theorem held_none9 {r : SX.Fin} {g : Nat} (h : r.heldC = []) : ∀ i x, nth r.heldC i = some x → x.b ≠ g := fun i x hx => by rw [h] at hx; cases i <;> cases hx
theorem maMasked (l m : List UInt8) (a b : Option Addr) (ca cb : Nat) (w : World) (hl : BytesIn w a l) (hm : BytesIn w b m) (he : l.length = m.length) (hlen : l.length ≤ 100000) :
    Calls Tryz.prog 22 #[.slice a l.length ca, .slice b m.length cb] w (fun e w1 => ∃ v, e = .returned v ∧ Ext [] w w1 ∧ ∃ g, v = .slice (some ⟨g, 0, none⟩) l.length l.length ∧ w1.heap[g]? = some (.cells ⟨ucells (masked l m)⟩ 5 (0, 0)) ∧ w.heap.size ≤ g) := by
  refine calls_of0 (args := [.slice a l.length ca, .slice b m.length cb]) Tryz.func22 rfl rfl rfl ?_
  refine To.runF 8 [] (fun _ _ => by kernel_rfl) fun f1 g1 l1 => ?_
  refine To.makeFull elB l.length (by kernel_rfl) (by omega) (by simp only [maxLen]; omega) ?_
  intro g rest hrl hg
  refine To.runF 10 [] (fun _ _ => by kernel_rfl) fun f2 g2 l2 => ?_
  refine To.loop (fun k : Nat × List Value => l.length - k.1) (fun k => ([(0, .slice a l.length ca), (1, .slice b m.length cb), (5, .slice (some ⟨g, 0, none⟩) l.length l.length), (11, .int .i64 (Int.ofNat l.length)), (12, .int .i64 (Int.ofNat k.1))], [some ⟨g, .cells ⟨k.2⟩ 5 (0, 0), true⟩])) (fun k _ => k.1 ≤ l.length ∧ k.2.length = l.length ∧ ∀ j (h : j < k.1) (h1 : j < l.length), k.2[j]? = some (.int .u8 ((l[j] &&& m[j]'(by omega)).toNat : Int))) (0, rest) [0] (by kernel_rfl) (by kernel_rfl) (by kernel_rfl) rfl (fun _ _ => ⟨Nat.zero_le _, by rw [Nat.mul_one] at hrl; exact hrl, fun j h => absurd h (Nat.not_lt_zero _)⟩) ?_
  rintro ⟨k, cs⟩ w1 ⟨hk, hcl, hall⟩ hx1 back
  have hk : k ≤ l.length := hk
  have hcl : cs.length = l.length := hcl
  refine To.runF 5 [] (fun _ _ => by kernel_rfl) fun f3 g3 l3 => ?_
  by_cases hlt : k < l.length
  · obtain ⟨ad, ha, hca⟩ := hl.one k hlt
    obtain ⟨bd, hb, hcb⟩ := hm.one k (by omega)
    refine To.testT (decide (Int.ofNat k < Int.ofNat l.length)) (by kernel_rfl) (decide_eq_true (Int.ofNat_lt.2 hlt)) ?_
    refine To.runF 15 [0, 0, 0, 1, 2, 3, 6, 7] (fun _ _ => by kernel_rfl) fun f4 g4 l4 => ?_
    refine To.indexAtE 4 elB a ad l.length ca k (by kernel_rfl) ha hlt ?_
    refine To.indexAtE 8 elB b bd m.length cb k (by kernel_rfl) hb (by omega) ?_
    refine To.pick 1 (by kernel_rfl) ⟨⟨trivial, ?_⟩, ?_⟩
    · refine To.loadOne uU8 rfl (ad.add (k * 1)) (.int .u8 ((l[k]).toNat : Int)) (by kernel_rfl) (fun w2 hw2 => hw2.ext.cell hca (by simp)) ?_
      refine To.loadOne uU8 rfl (bd.add (k * 1)) (.int .u8 ((m[k]).toNat : Int)) (by kernel_rfl) (fun w2 hw2 => hw2.ext.cell hcb (by simp)) ?_
      refine To.runF 1 [] (fun _ _ => by kernel_rfl) fun f5 g5 l5 => ?_
      refine To.slotE 25 (.int .u8 (IntKind.u8.wrap (((BitVec.ofInt IntKind.u8.bits ((l[k]).toNat : Int) &&& BitVec.ofInt IntKind.u8.bits ((m[k]).toNat : Int)).toNat : Nat) : Int))) (.int .u8 ((l[k] &&& m[k]).toNat : Int)) (by kernel_rfl) (by rw [and8]) ?_
      refine To.indexAt elB (some ⟨g, 0, none⟩) ⟨g, 0, none⟩ l.length l.length k (by kernel_rfl) rfl hlt ?_
      refine To.storeOne 0 (t := 5) (e := 5) (by kernel_rfl) g k cs (cs.set k (.int .u8 ((l[k] &&& m[k]).toNat : Int))) (.int .u8 ((l[k] &&& m[k]).toNat : Int)) (by kernel_rfl) (by kernel_rfl) (by omega) rfl rfl rfl (held_none9 (by kernel_rfl)) ?_
      refine To.runF 6 [] (fun _ _ => by kernel_rfl) fun f6 g6 l6 => ?_
      refine To.slotE 12 (.int .i64 (IntKind.i64.wrap (Int.ofNat k + 1))) (.int .i64 (Int.ofNat (k + 1))) (by kernel_rfl) (by rw [wrap_succ k (by omega)]) ?_
      exact back _ _ (k + 1, cs.set k (.int .u8 ((l[k] &&& m[k]).toNat : Int))) [0] (by simp only; omega) ⟨by kernel_rfl, by kernel_rfl, by kernel_rfl, by kernel_rfl, by kernel_rfl, rfl⟩ (fun w7 hw7 => ⟨hlt, by simp only [List.length_set]; exact hcl, fun j hj h1 => by
        by_cases hjk : j = k
        · subst hjk; simp only; rw [List.getElem?_set_self (by omega)]
        · simp only; rw [List.getElem?_set_ne (fun e => hjk e.symm)]; exact hall j (by simp only at hj; omega) h1⟩)
    · refine To.loadOne uU8 rfl (bd.add (k * 1)) (.int .u8 ((m[k]).toNat : Int)) (by kernel_rfl) (fun w2 hw2 => hw2.ext.cell hcb (by simp)) ?_
      refine To.loadOne uU8 rfl (ad.add (k * 1)) (.int .u8 ((l[k]).toNat : Int)) (by kernel_rfl) (fun w2 hw2 => hw2.ext.cell hca (by simp)) ?_
      refine To.runF 1 [] (fun _ _ => by kernel_rfl) fun f5 g5 l5 => ?_
      refine To.slotE 25 (.int .u8 (IntKind.u8.wrap (((BitVec.ofInt IntKind.u8.bits ((l[k]).toNat : Int) &&& BitVec.ofInt IntKind.u8.bits ((m[k]).toNat : Int)).toNat : Nat) : Int))) (.int .u8 ((l[k] &&& m[k]).toNat : Int)) (by kernel_rfl) (by rw [and8]) ?_
      refine To.indexAt elB (some ⟨g, 0, none⟩) ⟨g, 0, none⟩ l.length l.length k (by kernel_rfl) rfl hlt ?_
      refine To.storeOne 0 (t := 5) (e := 5) (by kernel_rfl) g k cs (cs.set k (.int .u8 ((l[k] &&& m[k]).toNat : Int))) (.int .u8 ((l[k] &&& m[k]).toNat : Int)) (by kernel_rfl) (by kernel_rfl) (by omega) rfl rfl rfl (held_none9 (by kernel_rfl)) ?_
      refine To.runF 6 [] (fun _ _ => by kernel_rfl) fun f6 g6 l6 => ?_
      refine To.slotE 12 (.int .i64 (IntKind.i64.wrap (Int.ofNat k + 1))) (.int .i64 (Int.ofNat (k + 1))) (by kernel_rfl) (by rw [wrap_succ k (by omega)]) ?_
      exact back _ _ (k + 1, cs.set k (.int .u8 ((l[k] &&& m[k]).toNat : Int))) [0] (by simp only; omega) ⟨by kernel_rfl, by kernel_rfl, by kernel_rfl, by kernel_rfl, by kernel_rfl, rfl⟩ (fun w7 hw7 => ⟨hlt, by simp only [List.length_set]; exact hcl, fun j hj h1 => by
        by_cases hjk : j = k
        · subst hjk; simp only; rw [List.getElem?_set_self (by omega)]
        · simp only; rw [List.getElem?_set_ne (fun e => hjk e.symm)]; exact hall j (by simp only at hj; omega) h1⟩)
  · have hk1 : k = l.length := by omega
    subst hk1
    refine To.testF (decide (Int.ofNat l.length < Int.ofNat l.length)) (by kernel_rfl) (by simp) ?_
    refine To.runF 6 [] (fun _ _ => by kernel_rfl) fun f4 g4 l4 => ?_
    have hcs : cs = ucells (masked l m) := by
      apply List.ext_getElem?
      intro j
      by_cases hj : j < l.length
      · rw [hall j hj hj]
        unfold ucells masked
        rw [List.getElem?_map, List.getElem?_zipWith, List.getElem?_eq_getElem hj, List.getElem?_eq_getElem (show j < m.length by omega)]
        rfl
      · rw [List.getElem?_eq_none (by omega), List.getElem?_eq_none (by unfold ucells masked; simp; omega)]
    exact To.ret [0] (.slice (some ⟨g, 0, none⟩) l.length l.length) (by kernel_rfl) (by kernel_rfl) fun w4 hw4 => ⟨_, rfl, hw4.ext, g, rfl, by rw [← hcs]; exact hw4.blk (j := 0) (b := g) (o := .cells ⟨cs⟩ 5 (0, 0)) (q := true) (by kernel_rfl), hg⟩
end Go.Proofs.YtkhonkejebdcgaaGreatDoor
/- A mask of so many ones. Conditions: as each says. -/
namespace Go.Proofs.YtkhonkejebdcgaaGreatDoor
open Go Go.SX
set_option maxHeartbeats 8000000
set_option maxRecDepth 100000
theorem spotadd {ad : Addr} (h : ad.spot = none) (i : Nat) : (ad.add i).spot = none := by unfold Addr.add; split <;> simp_all
theorem or8 (a b : UInt8) : IntKind.u8.wrap (((BitVec.ofInt IntKind.u8.bits (a.toNat : Int) ||| BitVec.ofInt IntKind.u8.bits (b.toNat : Int)).toNat : Nat) : Int) = ((a ||| b).toNat : Int) := by
  rw [ofInt8, ofInt8]
  exact wrap8 (a ||| b)
/-- The byte number i of a mask of n ones, when k of its bits are laid. -/
def pb (n i : Nat) : Nat → UInt8
  | 0 => 0
  | k + 1 => if 8 * i + k < n then pb n i k ||| UInt8.ofNat (2 ^ (7 - k)) else pb n i k
def maskOf (n size : Nat) : List UInt8 := (List.range size).map fun i => pb n i 8
theorem maMask (n size : Nat) (w : World) (hn : n ≤ 1000) (hs : size ≤ 100) :
    Calls Tryz.prog 25 #[.int .i64 (Int.ofNat n), .int .i64 (Int.ofNat size)] w (fun e w1 => ∃ v, e = .returned v ∧ Ext [] w w1 ∧ ∃ g, v = .slice (some ⟨g, 0, none⟩) size size ∧ w1.heap[g]? = some (.cells ⟨ucells (maskOf n size)⟩ 5 (0, 0)) ∧ w.heap.size ≤ g) := by
  refine calls_of0 (args := [.int .i64 (Int.ofNat n), .int .i64 (Int.ofNat size)]) Tryz.func25 rfl rfl rfl ?_
  refine To.runF 7 [] (fun _ _ => by kernel_rfl) fun f1 g1 l1 => ?_
  refine To.makeZero elB (.int .u8 0) (by kernel_rfl) rfl size (by kernel_rfl) (by omega) (by simp only [maxLen]; omega) ?_
  intro g hg
  refine To.runF 10 [] (fun _ _ => by kernel_rfl) fun f2 g2 l2 => ?_
  refine To.loop (fun k : Nat × List Value => size - k.1) (fun k => ([(0, .int .i64 (Int.ofNat n)), (5, .slice (some ⟨g, 0, none⟩) size size), (11, .int .i64 (Int.ofNat size)), (12, .int .i64 (Int.ofNat k.1))], [some ⟨g, .cells ⟨k.2⟩ 5 (0, 0), true⟩])) (fun k _ => k.1 ≤ size ∧ k.2.length = size ∧ (∀ j, j < k.1 → k.2[j]? = some (.int .u8 ((pb n j 8).toNat : Int))) ∧ ∀ j, k.1 ≤ j → j < size → k.2[j]? = some (.int .u8 0)) (0, List.replicate size (.int .u8 0)) [0] (by kernel_rfl) (by kernel_rfl) (by kernel_rfl) rfl (fun _ _ => ⟨Nat.zero_le _, by simp, fun j h => absurd h (Nat.not_lt_zero _), fun j _ h => by simp [h]⟩) ?_
  rintro ⟨i, cs⟩ w1 ⟨hi, hcl, hdone, hzero⟩ hx1 back
  have hi : i ≤ size := hi
  have hcl : cs.length = size := hcl
  refine To.runF 5 [] (fun _ _ => by kernel_rfl) fun f3 g3 l3 => ?_
  by_cases hlt : i < size
  · refine To.testT (decide (Int.ofNat i < Int.ofNat size)) (by kernel_rfl) (decide_eq_true (Int.ofNat_lt.2 hlt)) ?_
    refine To.runF 13 [] (fun _ _ => by kernel_rfl) fun f4 g4 l4 => ?_
    refine To.loop (fun k : Nat × List Value => 8 - k.1) (fun k => ([(0, .int .i64 (Int.ofNat n)), (5, .slice (some ⟨g, 0, none⟩) size size), (11, .int .i64 (Int.ofNat size)), (12, .int .i64 (Int.ofNat i)), (6, .int .i64 (Int.ofNat i)), (15, .int .i64 (Int.ofNat k.1))], [some ⟨g, .cells ⟨k.2⟩ 5 (0, 0), true⟩])) (fun k _ => k.1 ≤ 8 ∧ k.2.length = size ∧ k.2[i]? = some (.int .u8 ((pb n i k.1).toNat : Int)) ∧ (∀ j, j < i → k.2[j]? = some (.int .u8 ((pb n j 8).toNat : Int))) ∧ ∀ j, i < j → j < size → k.2[j]? = some (.int .u8 0)) (0, cs) [0] (by kernel_rfl) (by kernel_rfl) (by kernel_rfl) rfl (fun _ _ => ⟨Nat.zero_le _, hcl, hzero i (Nat.le_refl _) hlt, hdone, fun j h1 h2 => hzero j (Nat.le_of_lt h1) h2⟩) ?_
    rintro ⟨k, cs2⟩ w2 ⟨hk, hcl2, hat, hdone2, hzero2⟩ hx2 back2
    have hk : k ≤ 8 := hk
    have hcl2 : cs2.length = size := hcl2
    have hat : cs2[i]? = some (.int .u8 ((pb n i k).toNat : Int)) := hat
    refine To.runF 5 [] (fun _ _ => by kernel_rfl) fun f5 g5 l5 => ?_
    by_cases hlt2 : k < 8
    · refine To.testT (decide (Int.ofNat k < 8)) (by kernel_rfl) (decide_eq_true (by simp only [Int.ofNat_eq_natCast]; omega)) ?_
      refine To.runF 17 [] (fun _ _ => by kernel_rfl) fun f6 g6 l6 => ?_
      have hsum : IntKind.i64.wrap (IntKind.i64.wrap (8 * Int.ofNat i) + Int.ofNat k) = Int.ofNat (8 * i + k) := by
        simp only [Int.ofNat_eq_natCast]
        rw [IntWalk.i64_in (8 * (i : Int)) ⟨by omega, by omega⟩, IntWalk.i64_in _ ⟨by omega, by omega⟩]; omega
      by_cases hb : 8 * i + k < n
      · refine To.testT (decide (IntKind.i64.wrap (IntKind.i64.wrap (8 * Int.ofNat i) + Int.ofNat k) < Int.ofNat n)) (by kernel_rfl) (by rw [hsum]; exact decide_eq_true (Int.ofNat_lt.2 hb)) ?_
        refine To.runF 5 [0, 0, 0, 1, 4, 5] (fun _ _ => by kernel_rfl) fun f7 g7 l7 => ?_
        refine To.slotE 29 (.int .i64 (IntKind.i64.wrap (7 - Int.ofNat k))) (.int .i64 (Int.ofNat (7 - k))) (by kernel_rfl) (by simp only [Int.ofNat_eq_natCast]; rw [IntWalk.i64_in _ ⟨by omega, by omega⟩]; congr 1; omega) ?_
        refine To.lawCE 6 (.int .u8 ((UInt8.ofNat (2 ^ (7 - k))).toNat : Int)) (by kernel_rfl) (fun w9 => by
          rcases (by omega : k = 0 ∨ k = 1 ∨ k = 2 ∨ k = 3 ∨ k = 4 ∨ k = 5 ∨ k = 6 ∨ k = 7) with rfl | rfl | rfl | rfl | rfl | rfl | rfl | rfl <;> kernel_rfl) ?_
        refine To.indexAtE 2 elB (some ⟨g, 0, none⟩) ⟨g, 0, none⟩ size size i (by kernel_rfl) rfl hlt ?_
        refine To.pick 0 (by kernel_rfl) ⟨trivial, ?_⟩
        refine To.loadOne uU8 rfl ((⟨g, 0, none⟩ : Addr).add (i * 1)) (.int .u8 ((pb n i k).toNat : Int)) (by kernel_rfl) (fun w3 hw3 => hw3.cellAt0 (j := 0) (b := g) (l := cs2) (e := 5) (f := (0, 0)) (q := true) (by kernel_rfl) (by rw [Nat.mul_one]; exact hat)) ?_
        refine To.runF 1 [] (fun _ _ => by kernel_rfl) fun f8 g8 l8 => ?_
        refine To.slotE 31 (.int .u8 (IntKind.u8.wrap (((BitVec.ofInt IntKind.u8.bits ((pb n i k).toNat : Int) ||| BitVec.ofInt IntKind.u8.bits ((UInt8.ofNat (2 ^ (7 - k))).toNat : Int)).toNat : Nat) : Int))) (.int .u8 ((pb n i k ||| UInt8.ofNat (2 ^ (7 - k))).toNat : Int)) (by kernel_rfl) (by rw [or8]) ?_
        refine To.indexAt elB (some ⟨g, 0, none⟩) ⟨g, 0, none⟩ size size i (by kernel_rfl) rfl hlt ?_
        refine To.storeOne 0 (t := 5) (e := 5) (by kernel_rfl) g i cs2 (cs2.set i (.int .u8 ((pb n i k ||| UInt8.ofNat (2 ^ (7 - k))).toNat : Int))) (.int .u8 ((pb n i k ||| UInt8.ofNat (2 ^ (7 - k))).toNat : Int)) (by kernel_rfl) (by kernel_rfl) (by omega) rfl rfl rfl (held_none9 (by kernel_rfl)) ?_
        refine To.runF 6 [] (fun _ _ => by kernel_rfl) fun f9 g9 l9 => ?_
        refine To.slotE 15 (.int .i64 (IntKind.i64.wrap (Int.ofNat k + 1))) (.int .i64 (Int.ofNat (k + 1))) (by kernel_rfl) (by rw [wrap_succ k (by omega)]) ?_
        exact back2 _ _ (k + 1, cs2.set i (.int .u8 ((pb n i k ||| UInt8.ofNat (2 ^ (7 - k))).toNat : Int))) [0] (by simp only; omega) ⟨by kernel_rfl, by kernel_rfl, by kernel_rfl, by kernel_rfl, by kernel_rfl, rfl⟩ (fun w7 hw7 => ⟨hlt2, by simp only [List.length_set]; exact hcl2, by simp only [pb]; rw [if_pos hb, List.getElem?_set_self (by omega)], fun j hj => by
          simp only; rw [List.getElem?_set_ne (by omega)]; exact hdone2 j hj, fun j h1 h2 => by
          simp only; rw [List.getElem?_set_ne (by omega)]; exact hzero2 j h1 h2⟩)
      · refine To.testF (decide (IntKind.i64.wrap (IntKind.i64.wrap (8 * Int.ofNat i) + Int.ofNat k) < Int.ofNat n)) (by kernel_rfl) (by rw [hsum]; exact decide_eq_false (fun h => hb (Int.ofNat_lt.1 h))) ?_
        refine To.runF 6 [] (fun _ _ => by kernel_rfl) fun f7 g7 l7 => ?_
        refine To.slotE 15 (.int .i64 (IntKind.i64.wrap (Int.ofNat k + 1))) (.int .i64 (Int.ofNat (k + 1))) (by kernel_rfl) (by rw [wrap_succ k (by omega)]) ?_
        exact back2 _ _ (k + 1, cs2) [0] (by simp only; omega) ⟨by kernel_rfl, by kernel_rfl, by kernel_rfl, by kernel_rfl, by kernel_rfl, rfl⟩ (fun w7 hw7 => ⟨hlt2, hcl2, by simp only [pb]; rw [if_neg hb]; exact hat, hdone2, hzero2⟩)
    · have hk8 : k = 8 := by omega
      subst hk8
      refine To.testF (decide (Int.ofNat 8 < 8)) (by kernel_rfl) (by simp) ?_
      refine To.runF 6 [] (fun _ _ => by kernel_rfl) fun f6 g6 l6 => ?_
      refine To.slotE 12 (.int .i64 (IntKind.i64.wrap (Int.ofNat i + 1))) (.int .i64 (Int.ofNat (i + 1))) (by kernel_rfl) (by rw [wrap_succ i (by omega)]) ?_
      exact back _ _ (i + 1, cs2) [0] (by simp only; omega) ⟨by kernel_rfl, by kernel_rfl, by kernel_rfl, by kernel_rfl, by kernel_rfl, rfl⟩ (fun w7 hw7 => ⟨hlt, hcl2, fun j hj => by
        by_cases hji : j = i
        · subst hji; exact hat
        · exact hdone2 j (by simp only at hj; omega), fun j h1 h2 => hzero2 j (by simp only at h1; omega) h2⟩)
  · have hk1 : i = size := by omega
    subst hk1
    refine To.testF (decide (Int.ofNat i < Int.ofNat i)) (by kernel_rfl) (by simp) ?_
    refine To.runF 6 [] (fun _ _ => by kernel_rfl) fun f4 g4 l4 => ?_
    have hcs : cs = ucells (maskOf n i) := by
      apply List.ext_getElem?
      intro j
      by_cases hj : j < i
      · rw [hdone j hj]
        unfold ucells maskOf
        rw [List.getElem?_map, List.getElem?_map, List.getElem?_range hj]
        rfl
      · rw [List.getElem?_eq_none (by omega), List.getElem?_eq_none (by unfold ucells maskOf; simp; omega)]
    exact To.ret [0] (.slice (some ⟨g, 0, none⟩) i i) (by kernel_rfl) (by kernel_rfl) fun w4 hw4 => ⟨_, rfl, hw4.ext, g, rfl, by rw [← hcs]; exact hw4.blk (j := 0) (b := g) (o := .cells ⟨cs⟩ 5 (0, 0)) (q := true) (by kernel_rfl), hg⟩
end Go.Proofs.YtkhonkejebdcgaaGreatDoor
