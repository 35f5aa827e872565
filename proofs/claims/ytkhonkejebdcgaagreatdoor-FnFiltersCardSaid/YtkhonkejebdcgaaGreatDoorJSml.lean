/- The text of a network, and that it tells the network. Conditions: as each says. -/
import Derived.Test.YtkhonkejebdcgaaGreatDoorJText
/- How many ones a mask has, as package net counts them. Conditions: the mask lies in memory. -/
namespace Go.Proofs.YtkhonkejebdcgaaGreatDoor
open Go Go.SX Go.IpText
set_option maxHeartbeats 8000000
set_option maxRecDepth 100000
theorem elIM : Elem Tryz.prog 44 5 1 1 := Elem.of (z := .int .u8 0) (by kernel_rfl) (by kernel_rfl) rfl
def onesGo : Nat → UInt8 → Nat → Nat × UInt8
  | 0, v, c => (c, v)
  | f + 1, v, c => if v &&& 128 = 0 then (c, v) else onesGo f (v <<< 1) (c + 1)
def smlGo : List UInt8 → Nat → Option Nat
  | [], n => some n
  | v :: r, n => if v = 255 then smlGo r (n + 8) else if (onesGo 9 v n).2 ≠ 0 then none else if r.all (· == 0) then some (onesGo 9 v n).1 else none
theorem sml4 : ∀ n, n < 33 → smlGo (maskOf n 4) 0 = some n := by decide +kernel
theorem sml16 : ∀ n, n < 129 → smlGo (maskOf n 16) 0 = some n := by decide +kernel
theorem shl1 (v : UInt8) : IntKind.u8.wrap ((v.toNat : Int) * 2) = ((v <<< 1).toNat : Int) := by
  have h : ∀ n, n < 256 → IntKind.u8.wrap ((n : Nat) * 2 : Int) = ((UInt8.ofNat n <<< 1).toNat : Int) := by decide +kernel
  have := h v.toNat v.toNat_lt
  rwa [UInt8.ofNat_toNat] at this
theorem shl1_nat (v : UInt8) : (v <<< 1).toNat = v.toNat * 2 % 256 := by
  have h : ∀ n, n < 256 → (UInt8.ofNat n <<< 1).toNat = n * 2 % 256 := by decide +kernel
  have := h v.toNat v.toNat_lt
  rwa [UInt8.ofNat_toNat] at this
theorem smlGo_le : ∀ (l : List UInt8) (n : Nat), l = [] → smlGo l n = some n := fun l n h => by rw [h]; rfl
theorem simpleMask (m : List UInt8) (a : Option Addr) (ca : Nat) (w : World) (hin : BytesIn w a m) (hl : m.length ≤ 16) :
    Calls Tryz.prog 78 #[.slice a m.length ca] w (fun e w1 => ∃ v, e = .returned v ∧ Ext [] w w1 ∧ v = match smlGo m 0 with | some n => .int .i64 (Int.ofNat n) | none => .int .i64 (-1)) := by
  refine calls_of0 (args := [.slice a m.length ca]) Tryz.func78 rfl rfl rfl ?_
  refine To.runF 16 [] (fun _ _ => by kernel_rfl) fun f1 g1 l1 => ?_
  refine To.loop (fun k : Nat × Nat => m.length - k.1) (fun k => ([(0, .slice a m.length ca), (3, .int .i64 (Int.ofNat k.2)), (6, .slice a m.length ca), (7, .int .i64 (Int.ofNat m.length)), (8, .int .i64 (Int.ofNat k.1))], [])) (fun k _ => k.1 ≤ m.length ∧ k.2 ≤ 8 * k.1 ∧ smlGo (m.drop k.1) k.2 = smlGo m 0) (0, 0) [] (by kernel_rfl) (by kernel_rfl) (by kernel_rfl) rfl (fun _ _ => ⟨Nat.zero_le _, Nat.zero_le _, rfl⟩) ?_
  rintro ⟨k, c⟩ w1 ⟨hk, hc, hs⟩ hx1 back
  have hk : k ≤ m.length := hk
  have hc : c ≤ 8 * k := hc
  have hs : smlGo (m.drop k) c = smlGo m 0 := hs
  refine To.runF 5 [] (fun _ _ => by kernel_rfl) fun f2 g2 l2 => ?_
  by_cases hlt : k < m.length
  · obtain ⟨ad, ha, hck⟩ := hin.one k hlt
    have hdr : m.drop k = m[k] :: m.drop (k + 1) := List.drop_eq_getElem_cons hlt
    refine To.testT (decide (Int.ofNat k < Int.ofNat m.length)) (by kernel_rfl) (decide_eq_true (Int.ofNat_lt.2 hlt)) ?_
    refine To.runF 6 [] (fun _ _ => by kernel_rfl) fun f3 g3 l3 => ?_
    refine To.indexAt elIM a ad m.length ca k (by kernel_rfl) ha hlt ?_
    refine To.loadOne uU8 rfl (ad.add (k * 1)) (.int .u8 ((m[k]).toNat : Int)) (by kernel_rfl) (fun w2 hw2 => hw2.ext.cell hck (by simp)) ?_
    refine To.runF 9 [] (fun _ _ => by kernel_rfl) fun f4 g4 l4 => ?_
    by_cases h255 : m[k] = 255
    · refine To.testT (((m[k]).toNat : Int) == 255) (by kernel_rfl) (by rw [eq255, h255]; rfl) ?_
      refine To.runF 11 [] (fun _ _ => by kernel_rfl) fun f5 g5 l5 => ?_
      refine To.slotE 3 (.int .i64 (IntKind.i64.wrap (Int.ofNat c + 8))) (.int .i64 (Int.ofNat (c + 8))) (by kernel_rfl) (by simp only [Int.ofNat_eq_natCast]; rw [IntWalk.i64_in _ ⟨by omega, by omega⟩]; rfl) ?_
      refine To.slotE 8 (.int .i64 (IntKind.i64.wrap (Int.ofNat k + 1))) (.int .i64 (Int.ofNat (k + 1))) (by kernel_rfl) (by rw [wrap_succ k (by omega)]) ?_
      exact back _ _ (k + 1, c + 8) [] (by simp only; omega) ⟨by kernel_rfl, by kernel_rfl, by kernel_rfl, by kernel_rfl, by kernel_rfl, rfl⟩ (fun w7 hw7 => ⟨hlt, by simp only; omega, by simp only; rw [← hs, hdr, smlGo, if_pos h255]⟩)
    · refine To.testF (((m[k]).toNat : Int) == 255) (by kernel_rfl) (by rw [eq255]; exact beq_eq_false_iff_ne.2 h255) ?_
      have hs2 : smlGo m 0 = if (onesGo 9 m[k] c).2 ≠ 0 then none else if (m.drop (k + 1)).all (· == 0) then some (onesGo 9 m[k] c).1 else none := by rw [← hs, hdr, smlGo, if_neg h255]
      refine To.runF 3 [] (fun _ _ => by kernel_rfl) fun f5 g5 l5 => ?_
      refine To.loop (fun q : Nat × UInt8 × Nat => q.1) (fun q => ([(0, .slice a m.length ca), (3, .int .i64 (Int.ofNat q.2.2)), (4, .int .i64 (Int.ofNat k)), (5, .int .u8 (q.2.1.toNat : Int))], [])) (fun q _ => 1 ≤ q.1 ∧ q.1 ≤ 9 ∧ q.2.2 ≤ 1000 ∧ q.2.2 + q.1 ≤ c + 9 ∧ q.2.1.toNat % 2 ^ (9 - q.1) = 0 ∧ onesGo q.1 q.2.1 q.2.2 = onesGo 9 m[k] c) (9, m[k], c) [] (by kernel_rfl) (by kernel_rfl) (by kernel_rfl) rfl (fun _ _ => ⟨by simp only; omega, by simp only; omega, by simp only; omega, by simp only; omega, by simp [Nat.mod_one], rfl⟩) ?_
      rintro ⟨f, v, c2⟩ w3 ⟨hf1, hf9, hc2, hc3, hv, ho⟩ hx3 back2
      have hf1 : 1 ≤ f := hf1
      have hf9 : f ≤ 9 := hf9
      have hc2 : c2 ≤ 1000 := hc2
      have hc3 : c2 + f ≤ c + 9 := hc3
      have hv : v.toNat % 2 ^ (9 - f) = 0 := hv
      have ho : onesGo f v c2 = onesGo 9 m[k] c := ho
      have h128 : IntKind.u8.wrap (((BitVec.ofInt IntKind.u8.bits (v.toNat : Int) &&& BitVec.ofInt IntKind.u8.bits 128).toNat : Nat) : Int) = ((v &&& 128).toNat : Int) := and8 v 128
      refine To.runF 7 [] (fun _ _ => by kernel_rfl) fun f6 g6 l6 => ?_
      by_cases hb : v &&& 128 = 0
      · refine To.testF (IntKind.u8.wrap (((BitVec.ofInt IntKind.u8.bits (v.toNat : Int) &&& BitVec.ofInt IntKind.u8.bits 128).toNat : Nat) : Int) != 0) (by kernel_rfl) (by rw [h128, ne0, hb]; rfl) ?_
        have hov : onesGo 9 m[k] c = (c2, v) := by
          rw [← ho]
          cases f with
          | zero => omega
          | succ f => rw [onesGo, if_pos hb]
        rw [hov] at hs2
        refine To.runF 7 [] (fun _ _ => by kernel_rfl) fun f7 g7 l7 => ?_
        by_cases hv0 : v = 0
        · refine To.testF ((v.toNat : Int) != 0) (by kernel_rfl) (by rw [ne0, hv0]; rfl) ?_
          refine To.runF 9 [] (fun _ _ => by kernel_rfl) fun f8 g8 l8 => ?_
          rw [if_neg (by simpa using hv0)] at hs2
          refine To.slotE 4 (.int .i64 (IntKind.i64.wrap (Int.ofNat k + 1))) (.int .i64 (Int.ofNat (k + 1))) (by kernel_rfl) (by rw [wrap_succ k (by omega)]) ?_
          refine To.loop (fun i : Nat => m.length - i) (fun i => ([(0, .slice a m.length ca), (3, .int .i64 (Int.ofNat c2)), (4, .int .i64 (Int.ofNat i))], [])) (fun i _ => k + 1 ≤ i ∧ i ≤ m.length ∧ ∀ j, k + 1 ≤ j → j < i → m[j]? = some 0) (k + 1) [] (by kernel_rfl) (by kernel_rfl) (by kernel_rfl) rfl (fun _ _ => ⟨Nat.le_refl _, hlt, fun j h1 h2 => by omega⟩) ?_
          rintro i w5 ⟨hki, him, hall⟩ hx5 back3
          refine To.runF 8 [] (fun _ _ => by kernel_rfl) fun f9 g9 l9 => ?_
          by_cases hil : i < m.length
          · obtain ⟨ad2, ha2, hci⟩ := hin.one i hil
            refine To.testT (decide (Int.ofNat i < Int.ofNat m.length)) (by kernel_rfl) (decide_eq_true (Int.ofNat_lt.2 hil)) ?_
            refine To.runF 7 [] (fun _ _ => by kernel_rfl) fun f10 g10 l10 => ?_
            refine To.indexAt elIM a ad2 m.length ca i (by kernel_rfl) ha2 hil ?_
            refine To.loadOne uU8 rfl (ad2.add (i * 1)) (.int .u8 ((m[i]).toNat : Int)) (by kernel_rfl) (fun w2 hw2 => hw2.ext.cell hci (by simp)) ?_
            refine To.runF 2 [] (fun _ _ => by kernel_rfl) fun f11 g11 l11 => ?_
            by_cases hz : m[i] = 0
            · refine To.testF (((m[i]).toNat : Int) != 0) (by kernel_rfl) (by rw [ne0, hz]; rfl) ?_
              refine To.runF 7 [] (fun _ _ => by kernel_rfl) fun f12 g12 l12 => ?_
              refine To.slotE 4 (.int .i64 (IntKind.i64.wrap (Int.ofNat i + 1))) (.int .i64 (Int.ofNat (i + 1))) (by kernel_rfl) (by rw [wrap_succ i (by omega)]) ?_
              exact back3 _ _ (i + 1) [] (by omega) ⟨by kernel_rfl, by kernel_rfl, by kernel_rfl, by kernel_rfl, by kernel_rfl, rfl⟩ (fun w7 hw7 => ⟨by omega, by omega, fun j h1 h2 => by
                by_cases hji : j = i
                · subst hji; rw [List.getElem?_eq_getElem hil, hz]
                · exact hall j h1 (by omega)⟩)
            · refine To.testT (((m[i]).toNat : Int) != 0) (by kernel_rfl) (by rw [ne0, beq_eq_false_iff_ne.2 hz]; rfl) ?_
              refine To.runF 4 [] (fun _ _ => by kernel_rfl) fun f12 g12 l12 => ?_
              exact To.ret [] (.int .i64 (-1)) (by kernel_rfl) (by kernel_rfl) fun w4 hw4 => ⟨_, rfl, hw4.ext, by
                have hf : (m.drop (k + 1)).all (· == 0) = false := List.all_eq_false.2 ⟨m[i], List.mem_iff_getElem?.2 ⟨i - (k + 1), by rw [List.getElem?_drop, show k + 1 + (i - (k + 1)) = i by omega, List.getElem?_eq_getElem hil]⟩, by simpa using hz⟩
                rw [hs2, hf]; rfl⟩
          · have hi1 : i = m.length := by omega
            subst hi1
            refine To.testF (decide (Int.ofNat m.length < Int.ofNat m.length)) (by kernel_rfl) (by simp) ?_
            have hf : (m.drop (k + 1)).all (· == 0) = true := List.all_eq_true.2 fun x hx => by
              obtain ⟨j, hj⟩ := List.mem_iff_getElem?.1 hx
              rw [List.getElem?_drop] at hj
              rw [hall (k + 1 + j) (by omega) (List.getElem?_eq_some_iff.1 hj).1] at hj
              simpa using (Option.some.inj hj).symm
            refine To.runF 7 [] (fun _ _ => by kernel_rfl) fun f10 g10 l10 => ?_
            exact To.ret [] (.int .i64 (Int.ofNat c2)) (by kernel_rfl) (by kernel_rfl) fun w4 hw4 => ⟨_, rfl, hw4.ext, by rw [hs2, hf]; rfl⟩
        · refine To.testT ((v.toNat : Int) != 0) (by kernel_rfl) (by rw [ne0, beq_eq_false_iff_ne.2 hv0]; rfl) ?_
          refine To.runF 4 [] (fun _ _ => by kernel_rfl) fun f8 g8 l8 => ?_
          exact To.ret [] (.int .i64 (-1)) (by kernel_rfl) (by kernel_rfl) fun w4 hw4 => ⟨_, rfl, hw4.ext, by rw [hs2, if_pos hv0]⟩
      · refine To.testT (IntKind.u8.wrap (((BitVec.ofInt IntKind.u8.bits (v.toNat : Int) &&& BitVec.ofInt IntKind.u8.bits 128).toNat : Nat) : Int) != 0) (by kernel_rfl) (by rw [h128, ne0, beq_eq_false_iff_ne.2 hb]; rfl) ?_
        have hf2 : 2 ≤ f := by
          by_cases h2 : 2 ≤ f
          · exact h2
          · exfalso
            have hf1' : f = 1 := by omega
            subst hf1'
            have hlt := v.toNat_lt
            have hv1 : v.toNat % 256 = 0 := hv
            have hv0 : v.toNat = 0 := by omega
            exact hb (by rw [UInt8.toNat_inj.1 (show v.toNat = (0 : UInt8).toNat from hv0)]; rfl)
        refine To.runF 14 [] (fun _ _ => by kernel_rfl) fun f7 g7 l7 => ?_
        refine To.slotE 3 (.int .i64 (IntKind.i64.wrap (Int.ofNat c2 + 1))) (.int .i64 (Int.ofNat (c2 + 1))) (by kernel_rfl) (by rw [wrap_succ c2 (by omega)]) ?_
        refine To.slotE 5 (.int .u8 (IntKind.u8.wrap ((v.toNat : Int) * 2))) (.int .u8 ((v <<< 1).toNat : Int)) (by kernel_rfl) (by rw [shl1]) ?_
        exact back2 _ _ (f - 1, v <<< 1, c2 + 1) [] (by simp only; omega) ⟨by kernel_rfl, by kernel_rfl, by kernel_rfl, by kernel_rfl, by kernel_rfl, rfl⟩ (fun w7 hw7 => ⟨by simp only; omega, by simp only; omega, by simp only; omega, by simp only; omega, by
          simp only
          rw [shl1_nat]
          rcases (by omega : f = 2 ∨ f = 3 ∨ f = 4 ∨ f = 5 ∨ f = 6 ∨ f = 7 ∨ f = 8 ∨ f = 9) with rfl | rfl | rfl | rfl | rfl | rfl | rfl | rfl <;> simp only [Nat.reduceSub, Nat.reducePow] at hv ⊢ <;> omega, by
          simp only
          rw [← ho]
          cases f with
          | zero => omega
          | succ f => rw [onesGo, if_neg hb]; rfl⟩)
  · have hk1 : k = m.length := by omega
    subst hk1
    refine To.testF (decide (Int.ofNat m.length < Int.ofNat m.length)) (by kernel_rfl) (by simp) ?_
    have hfin : smlGo m 0 = some c := by rw [← hs, List.drop_length]; rfl
    refine To.runF 6 [] (fun _ _ => by kernel_rfl) fun f3 g3 l3 => ?_
    exact To.ret [] (.int .i64 (Int.ofNat c)) (by kernel_rfl) (by kernel_rfl) fun w4 hw4 => ⟨_, rfl, hw4.ext, by rw [hfin]⟩
end Go.Proofs.YtkhonkejebdcgaaGreatDoor
/- The text of a network, as the package writes it. Conditions: a network whose bytes and mask lie in memory. -/
namespace Go.Proofs.YtkhonkejebdcgaaGreatDoor
open Go Go.SX Go.IpText
set_option maxHeartbeats 8000000
set_option maxRecDepth 100000
theorem sixGo_len (g : Nat → Nat) (hg : ∀ i, g i ≤ 65535) (fr to : Nat) : ∀ f i s, (sixGo g fr to f i s).length ≤ s.length + 6 * f + 2
  | 0, i, s => by rw [sixGo]; omega
  | f + 1, i, s => by
    rw [sixGo]
    split
    · split
      · split
        · rw [List.length_append]; simp only [List.length_cons, List.length_nil]; omega
        · have := sixGo_len g hg fr to f (to + 1) (s ++ [58, 58] ++ hexOf (g to))
          have h4 := hexOf4 (hg to)
          simp only [List.length_append, List.length_cons, List.length_nil] at this
          omega
      · have := sixGo_len g hg fr to f (i + 1) ((if 0 < i then s ++ [58] else s) ++ hexOf (g i))
        have h4 := hexOf4 (hg i)
        have h5 : (if 0 < i then s ++ ([58] : List UInt8) else s).length ≤ s.length + 1 := by split <;> simp
        rw [List.length_append] at this
        omega
    · omega
theorem ipText_len {ip : List UInt8} (h : ip.length = 4 ∨ ip.length = 16) : (ipText ip).length ≤ 1000 := by
  rcases h with h | h
  · rw [four_at h]
    have l0 := itoa_len (ip[0]); have l1 := itoa_len (ip[1]); have l2 := itoa_len (ip[2]); have l3 := itoa_len (ip[3])
    simp only [List.length_append, List.length_singleton]; omega
  · unfold ipText
    rw [if_neg (by omega)]
    have := sixGo_len (groupOf ip) (groupOf_le ip) (runOf (groupOf ip)).1 (runOf (groupOf ip)).2 9 0 []
    unfold sixText
    simp only [List.length_nil] at this
    omega
theorem ipStringT (ip t : List UInt8) (h : t = ipText ip) (a : Option Addr) (ca : Nat) (w : World) (ht : Tab w) (hin : BytesIn w a ip) (hl : ip.length = 4 ∨ ip.length = 16) (hca : ip.length ≤ ca) (hm : mapped ip = false) :
    Calls Tryz.prog 68 #[.slice a ip.length ca] w (fun e w1 => ∃ v, e = .returned v ∧ Ext [] w w1 ∧ v = .string ⟨⟨t⟩⟩) := by
  subst h; exact ipString ip a ca w ht hin hl hca hm
theorem maskSize (m : List UInt8) (n : Nat) (a : Option Addr) (ca : Nat) (w : World) (hin : BytesIn w a m) (hl : m.length ≤ 16) (hn : smlGo m 0 = some n) :
    Calls Tryz.prog 67 #[.slice a m.length ca] w (fun e w1 => ∃ v, e = .returned v ∧ Ext [] w w1 ∧ v = .tuple #[.int .i64 (Int.ofNat n), .int .i64 (Int.ofNat (m.length * 8))]) := by
  refine calls_of0 (args := [.slice a m.length ca]) Tryz.func67 rfl rfl rfl ?_
  refine To.runF 8 [] (fun _ _ => by kernel_rfl) fun f1 g1 l1 => ?_
  refine To.callN 78 #[.slice a m.length ca] (by kernel_rfl) (fun _ => by kernel_rfl) (fun w2 hw2 => simpleMask m a ca w2 (hin.later hw2.ext) hl) (fun w2 v2 w3 hw2 hx2 hv2 hnew2 hwi2 => ?_)
  rw [hn] at hv2
  subst hv2
  refine To.runF 14 [] (fun _ _ => by kernel_rfl) fun f2 g2 l2 => ?_
  have h8 : IntKind.i64.wrap (Int.ofNat m.length * 8) = Int.ofNat (m.length * 8) := by simp only [Int.ofNat_eq_natCast]; rw [IntWalk.i64_in _ ⟨by omega, by omega⟩]; omega
  refine To.slotE 3 (.int .i64 (IntKind.i64.wrap (Int.ofNat m.length * 8))) (.int .i64 (Int.ofNat (m.length * 8))) (by kernel_rfl) (by rw [h8]) ?_
  exact To.ret [] (.tuple #[.int .i64 (Int.ofNat n), .int .i64 (Int.ofNat (m.length * 8))]) (by kernel_rfl) (by kernel_rfl) fun w4 hw4 => ⟨_, rfl, hw4.ext, rfl⟩
theorem uIP : Tryz.prog.underlying 43 = some (.slice 5) := by kernel_rfl
theorem uIM : Tryz.prog.underlying 44 = some (.slice 5) := by kernel_rfl
theorem addz (p : Addr) : p.add 0 = p := rfl
/-- A network lies at this address: its bytes here, its mask there. -/
structure NetAt (w : World) (p : Addr) (ip mask : List UInt8) (ai : Addr) (ci : Nat) (am : Addr) (cm : Nat) : Prop where
  c0 : w.cell? p = some (.slice (some ai) ip.length ci)
  c1 : w.cell? (p.add 1) = some (.slice (some am) mask.length cm)
  bi : BytesIn w (some ai) ip
  bm : BytesIn w (some am) mask
  hi : ip.length ≤ ci
  hm : mask.length ≤ cm
  ne : ai.block ≠ am.block
theorem NetAt.later {w w' : World} {p : Addr} {ip mask : List UInt8} {ai am : Addr} {ci cm : Nat} (h : NetAt w p ip mask ai ci am cm) (hx : Ext [] w w') : NetAt w' p ip mask ai ci am cm :=
  ⟨hx.cell h.c0 (by simp), hx.cell h.c1 (by simp), h.bi.later hx, h.bm.later hx, h.hi, h.hm, h.ne⟩
def NetIn (w : World) (p : Addr) (ip mask : List UInt8) : Prop := ∃ ai ci am cm, NetAt w p ip mask ai ci am cm
theorem NetIn.later {w w' : World} {p : Addr} {ip mask : List UInt8} (h : NetIn w p ip mask) (hx : Ext [] w w') : NetIn w' p ip mask :=
  let ⟨ai, ci, am, cm, h1⟩ := h; ⟨ai, ci, am, cm, h1.later hx⟩
def netText (ip : List UInt8) (n : Nat) : List UInt8 := ipText ip ++ [47] ++ Lib.itoa (Int.ofNat n)
theorem netString (ip mask : List UInt8) (n : Nat) (p : Addr) (w : World) (ht : Tab w) (hin : NetIn w p ip mask) (hnet : Net ip mask) (hn : n ≤ 8 * ip.length) (hmk : mask = maskOf n ip.length) :
    Calls Tryz.prog 56 #[.pointer (some p)] w (fun e w1 => ∃ v, e = .returned v ∧ Ext [] w w1 ∧ v = .string ⟨⟨netText ip n⟩⟩) := by
  refine calls_of0 (args := [.pointer (some p)]) Tryz.func56 rfl rfl rfl ?_
  obtain ⟨adi, ci, adm, cm, hN⟩ := hin
  obtain ⟨hc0, hc1, hbi, hbm, hci, hcm, _⟩ := hN
  have hlen := hnet.len
  have hsame := hnet.same
  have hsml : smlGo mask 0 = some n := by
    rw [hmk]
    rcases hlen with h | h
    · rw [h]; exact sml4 n (by omega)
    · rw [h]; exact sml16 n (by omega)
  refine To.runF 17 [] (fun _ _ => by kernel_rfl) fun f1 g1 l1 => ?_
  refine To.loadOne uIP rfl (p.add 0) (.slice (some adi) ip.length ci) (by kernel_rfl) (fun w2 hw2 => by rw [addz]; exact hw2.ext.cell hc0 (by simp)) ?_
  refine To.callN 60 #[.slice (some adi) ip.length ci] (by kernel_rfl) (fun _ => by kernel_rfl) (fun w2 hw2 => to4 ip (some adi) ci w2 (hbi.later hw2.ext) (by omega) hci hnet.plain) (fun w2 v2 w3 hw2 hx2 hv2 hnew2 hwi2 => ?_)
  by_cases h4 : ip.length = 4
  · rw [if_pos h4] at hv2
    subst hv2
    refine To.runF 15 [] (fun _ _ => by kernel_rfl) fun f2 g2 l2 => ?_
    refine To.loadOne uIM rfl (p.add 1) (.slice (some adm) mask.length cm) (by kernel_rfl) (fun w4 hw4 => hw4.ext.cell hc1 (by simp)) ?_
    refine To.runF 9 [] (fun _ _ => by kernel_rfl) fun f3 g3 l3 => ?_
    refine To.slotF 30 (Int.ofNat mask.length == 16) (by kernel_rfl) (by simp only [Int.ofNat_eq_natCast, beq_eq_false_iff_ne, ne_eq]; omega) ?_
    refine To.runF 16 [] (fun _ _ => by kernel_rfl) fun f4 g4 l4 => ?_
    refine To.testF (Int.ofNat mask.length != Int.ofNat ip.length) (by kernel_rfl) (by rw [hsame]; simp) ?_
    refine To.runF 4 [] (fun _ _ => by kernel_rfl) fun f5 g5 l5 => ?_
    refine To.callN 67 #[.slice (some adm) mask.length cm] (by kernel_rfl) (fun _ => by kernel_rfl) (fun w5 hw5 => maskSize mask n (some adm) cm w5 (hbm.later hw5.ext) (by omega) hsml) (fun w5 v5 w6 hw5 hx5 hv5 hnew5 hwi5 => ?_)
    subst hv5
    refine To.runF 12 [] (fun _ _ => by kernel_rfl) fun f6 g6 l6 => ?_
    refine To.testF (Int.ofNat (mask.length * 8) == 0) (by kernel_rfl) (by simp only [Int.ofNat_eq_natCast, beq_eq_false_iff_ne, ne_eq]; omega) ?_
    refine To.runF 4 [] (fun _ _ => by kernel_rfl) fun f7 g7 l7 => ?_
    obtain ⟨ti, hti⟩ : ∃ t : List UInt8, t = ipText ip := ⟨_, rfl⟩
    obtain ⟨tn, htn⟩ : ∃ t : List UInt8, t = Lib.itoa (Int.ofNat n) := ⟨_, rfl⟩
    have hli : ti.length ≤ 1000 := by rw [hti]; exact ipText_len hlen
    have hln : tn.length ≤ 21 := by rw [htn]; exact Lib.itoa_length_le _ (by simp only [Int.ofNat_eq_natCast]; omega) (by simp only [Int.ofNat_eq_natCast]; omega)
    refine To.callN 68 #[.slice (some adi) ip.length ci] (by kernel_rfl) (fun _ => by kernel_rfl) (fun w7 hw7 => ipStringT ip ti hti (some adi) ci w7 (ht.later hw7.ext) (hbi.later hw7.ext) hlen hci hnet.plain) (fun w7 v7 w8 hw7 hx7 hv7 hnew7 hwi7 => ?_)
    subst hv7
    refine To.addText (t := 9) ti ([47] : List UInt8) ⟨⟨ti⟩⟩ ⟨⟨([47] : List UInt8)⟩⟩ rfl rfl (by kernel_rfl) (by simp only [List.length_singleton]; omega) ?_
    refine To.runF 1 [] (fun _ _ => by kernel_rfl) fun f8 g8 l8 => ?_
    refine To.callN 70 #[.int .i64 (Int.ofNat n)] (by kernel_rfl) (fun _ => by kernel_rfl) (fun w9 hw9 => itoaT n tn htn w9 (ht.later hw9.ext) (by omega)) (fun w9 v9 w10 hw9 hx9 hv9 hnew9 hwi9 => ?_)
    subst hv9
    refine To.addText (t := 9) (ti ++ ([47] : List UInt8)) tn ⟨⟨ti ++ ([47] : List UInt8)⟩⟩ ⟨⟨tn⟩⟩ rfl rfl (by kernel_rfl) (by simp only [List.length_append, List.length_singleton]; omega) ?_
    refine To.runF 2 [] (fun _ _ => by kernel_rfl) fun f9 g9 l9 => ?_
    exact To.ret [] (.string ⟨⟨ti ++ ([47] : List UInt8) ++ tn⟩⟩) (by kernel_rfl) (by kernel_rfl) fun w11 hw11 => ⟨_, rfl, hw11.ext, by rw [hti, htn]; rfl⟩
  · have h16 : ip.length = 16 := by omega
    rw [if_neg h4] at hv2
    subst hv2
    refine To.runF 14 [] (fun _ _ => by kernel_rfl) fun f2 g2 l2 => ?_
    refine To.loadOne uIP rfl (p.add 0) (.slice (some adi) ip.length ci) (by kernel_rfl) (fun w4 hw4 => by rw [addz]; exact hw4.ext.cell hc0 (by simp)) ?_
    refine To.runF 8 [] (fun _ _ => by kernel_rfl) fun f3 g3 l3 => ?_
    refine To.testF (Int.ofNat ip.length != 16) (by kernel_rfl) (by rw [h16]; rfl) ?_
    refine To.runF 6 [] (fun _ _ => by kernel_rfl) fun f4 g4 l4 => ?_
    refine To.loadOne uIM rfl (p.add 1) (.slice (some adm) mask.length cm) (by kernel_rfl) (fun w4 hw4 => hw4.ext.cell hc1 (by simp)) ?_
    refine To.runF 9 [] (fun _ _ => by kernel_rfl) fun f5 g5 l5 => ?_
    refine To.slotT 30 (Int.ofNat mask.length == 16) (by kernel_rfl) (by rw [hsame, h16]; rfl) ?_
    refine To.runF 5 [] (fun _ _ => by kernel_rfl) fun f6 g6 l6 => ?_
    refine To.testF (Int.ofNat ip.length == 4) (by kernel_rfl) (by simp only [Int.ofNat_eq_natCast, beq_eq_false_iff_ne, ne_eq]; omega) ?_
    refine To.runF 10 [] (fun _ _ => by kernel_rfl) fun f7 g7 l7 => ?_
    refine To.testF (Int.ofNat mask.length != Int.ofNat ip.length) (by kernel_rfl) (by rw [hsame]; simp) ?_
    refine To.runF 4 [] (fun _ _ => by kernel_rfl) fun f8 g8 l8 => ?_
    refine To.callN 67 #[.slice (some adm) mask.length cm] (by kernel_rfl) (fun _ => by kernel_rfl) (fun w5 hw5 => maskSize mask n (some adm) cm w5 (hbm.later hw5.ext) (by omega) hsml) (fun w5 v5 w6 hw5 hx5 hv5 hnew5 hwi5 => ?_)
    subst hv5
    refine To.runF 12 [] (fun _ _ => by kernel_rfl) fun f9 g9 l9 => ?_
    refine To.testF (Int.ofNat (mask.length * 8) == 0) (by kernel_rfl) (by simp only [Int.ofNat_eq_natCast, beq_eq_false_iff_ne, ne_eq]; omega) ?_
    refine To.runF 4 [] (fun _ _ => by kernel_rfl) fun f10 g10 l10 => ?_
    obtain ⟨ti, hti⟩ : ∃ t : List UInt8, t = ipText ip := ⟨_, rfl⟩
    obtain ⟨tn, htn⟩ : ∃ t : List UInt8, t = Lib.itoa (Int.ofNat n) := ⟨_, rfl⟩
    have hli : ti.length ≤ 1000 := by rw [hti]; exact ipText_len hlen
    have hln : tn.length ≤ 21 := by rw [htn]; exact Lib.itoa_length_le _ (by simp only [Int.ofNat_eq_natCast]; omega) (by simp only [Int.ofNat_eq_natCast]; omega)
    refine To.callN 68 #[.slice (some adi) ip.length ci] (by kernel_rfl) (fun _ => by kernel_rfl) (fun w7 hw7 => ipStringT ip ti hti (some adi) ci w7 (ht.later hw7.ext) (hbi.later hw7.ext) hlen hci hnet.plain) (fun w7 v7 w8 hw7 hx7 hv7 hnew7 hwi7 => ?_)
    subst hv7
    refine To.addText (t := 9) ti ([47] : List UInt8) ⟨⟨ti⟩⟩ ⟨⟨([47] : List UInt8)⟩⟩ rfl rfl (by kernel_rfl) (by simp only [List.length_singleton]; omega) ?_
    refine To.runF 1 [] (fun _ _ => by kernel_rfl) fun f11 g11 l11 => ?_
    refine To.callN 70 #[.int .i64 (Int.ofNat n)] (by kernel_rfl) (fun _ => by kernel_rfl) (fun w9 hw9 => itoaT n tn htn w9 (ht.later hw9.ext) (by omega)) (fun w9 v9 w10 hw9 hx9 hv9 hnew9 hwi9 => ?_)
    subst hv9
    refine To.addText (t := 9) (ti ++ ([47] : List UInt8)) tn ⟨⟨ti ++ ([47] : List UInt8)⟩⟩ ⟨⟨tn⟩⟩ rfl rfl (by kernel_rfl) (by simp only [List.length_append, List.length_singleton]; omega) ?_
    refine To.runF 2 [] (fun _ _ => by kernel_rfl) fun f12 g12 l12 => ?_
    exact To.ret [] (.string ⟨⟨ti ++ ([47] : List UInt8) ++ tn⟩⟩) (by kernel_rfl) (by kernel_rfl) fun w11 hw11 => ⟨_, rfl, hw11.ext, by rw [hti, htn]; rfl⟩
end Go.Proofs.YtkhonkejebdcgaaGreatDoor
/- The texts of networks are one to one. Conditions: networks. -/
namespace Go.Proofs.YtkhonkejebdcgaaGreatDoor
open Go Go.IpText
set_option maxHeartbeats 8000000
set_option maxRecDepth 100000
def undec (l : List UInt8) : Nat := l.foldl (fun a c => a * 10 + (c.toNat - 48)) 0
theorem dig10 : ∀ d, d < 10 → (UInt8.ofNat (48 + d)).toNat - 48 = d ∧ UInt8.ofNat (48 + d) ≠ 46 ∧ UInt8.ofNat (48 + d) ≠ 47 ∧ UInt8.ofNat (48 + d) ≠ 58 := by decide +kernel
theorem dec_eq (u : Nat) : Lib.decDigits u = if u < 10 then [UInt8.ofNat (48 + u)] else Lib.decDigits (u / 10) ++ [UInt8.ofNat (48 + u % 10)] := by
  rw [Lib.decDigits]; split <;> rfl
theorem undec_dec (n : Nat) : undec (Lib.decDigits n) = n := by
  induction n using Nat.strongRecOn with
  | ind n ih =>
    rw [dec_eq]
    by_cases h : n < 10
    · rw [if_pos h]; simp only [undec, List.foldl_cons, List.foldl_nil, (dig10 n h).1]; omega
    · rw [if_neg h]
      have := ih (n / 10) (by omega)
      unfold undec at this ⊢
      rw [List.foldl_append, this]
      simp only [List.foldl_cons, List.foldl_nil, (dig10 (n % 10) (by omega)).1]
      omega
theorem dec_no (n : Nat) : ∀ c ∈ Lib.decDigits n, c ≠ 46 ∧ c ≠ 47 ∧ c ≠ 58 := by
  induction n using Nat.strongRecOn with
  | ind n ih =>
    rw [dec_eq]
    by_cases h : n < 10
    · rw [if_pos h]; intro c hc; rw [List.mem_singleton.1 hc]; exact (dig10 n h).2
    · rw [if_neg h]
      intro c hc
      rcases List.mem_append.1 hc with hc | hc
      · exact ih (n / 10) (by omega) c hc
      · rw [List.mem_singleton.1 hc]; exact (dig10 (n % 10) (by omega)).2
theorem itoa_is (n : Nat) : Lib.itoa (Int.ofNat n) = Lib.decDigits n := by
  unfold Lib.itoa
  rw [if_neg (by simp only [Int.ofNat_eq_natCast]; omega)]
  rfl
theorem dec_inj {a b : Nat} (h : Lib.decDigits a = Lib.decDigits b) : a = b := by rw [← undec_dec a, h, undec_dec]
/-- Two texts cut at their first mark. -/
theorem cut_eq {c : UInt8} : ∀ {a b x y : List UInt8}, (∀ u ∈ a, u ≠ c) → (∀ u ∈ b, u ≠ c) → a ++ c :: x = b ++ c :: y → a = b ∧ x = y
  | [], [], x, y, _, _, h => by simpa using h
  | [], v :: b, x, y, _, hb, h => by
    simp only [List.nil_append, List.cons_append, List.cons.injEq] at h
    exact absurd h.1.symm (hb v (List.mem_cons_self ..))
  | u :: a, [], x, y, ha, _, h => by
    simp only [List.nil_append, List.cons_append, List.cons.injEq] at h
    exact absurd h.1 (ha u (List.mem_cons_self ..))
  | u :: a, v :: b, x, y, ha, hb, h => by
    simp only [List.cons_append, List.cons.injEq] at h
    obtain ⟨h1, h2⟩ := cut_eq (fun w hw => ha w (List.mem_cons_of_mem _ hw)) (fun w hw => hb w (List.mem_cons_of_mem _ hw)) h.2
    exact ⟨by rw [h.1, h1], h2⟩
theorem hexd47 : ∀ d, d < 16 → Go.IpText.hexDigit d ≠ 47 := by decide +kernel
theorem hex47 (n : Nat) : ∀ c ∈ hexOf n, c ≠ 47 := by
  induction n using Nat.strongRecOn with
  | ind n ih =>
    rw [hexOf_eq]
    by_cases h : n < 16
    · rw [if_pos h]; intro c hc; rw [List.mem_singleton.1 hc]; exact hexd47 n h
    · rw [if_neg h]
      intro c hc
      rcases List.mem_append.1 hc with hc | hc
      · exact ih (n / 16) (by omega) c hc
      · rw [List.mem_singleton.1 hc]; exact hexd47 _ (by omega)
theorem sixGo47 (g : Nat → Nat) (fr to : Nat) : ∀ f i s, (∀ c ∈ s, c ≠ 47) → ∀ c ∈ sixGo g fr to f i s, c ≠ 47
  | 0, i, s, h => by rw [sixGo]; exact h
  | f + 1, i, s, h => by
    rw [sixGo]
    split
    · split
      · split
        · intro c hc
          rcases List.mem_append.1 hc with hc | hc
          · exact h c hc
          · simp only [List.mem_cons, List.not_mem_nil, or_false, or_self] at hc; rw [hc]; decide
        · refine sixGo47 g fr to f (to + 1) _ fun c hc => ?_
          simp only [List.mem_append, List.mem_cons, List.not_mem_nil, or_false, or_self] at hc
          rcases hc with (hc | hc) | hc
          · exact h c hc
          · rw [hc]; decide
          · exact hex47 _ c hc
      · refine sixGo47 g fr to f (i + 1) _ fun c hc => ?_
        rcases List.mem_append.1 hc with hc | hc
        · split at hc
          · rcases List.mem_append.1 hc with hc | hc
            · exact h c hc
            · rw [List.mem_singleton.1 hc]; decide
          · exact h c hc
        · exact hex47 _ c hc
    · exact h
theorem ipText47 {ip : List UInt8} (h : ip.length = 4 ∨ ip.length = 16) : ∀ c ∈ ipText ip, c ≠ 47 := by
  rcases h with h | h
  · rw [four_at h]
    intro c hc
    simp only [itoa_is, List.mem_append, List.mem_singleton] at hc
    rcases hc with (((((hc | hc) | hc) | hc) | hc) | hc) | hc
    · exact (dec_no _ c hc).2.1
    · rw [hc]; decide
    · exact (dec_no _ c hc).2.1
    · rw [hc]; decide
    · exact (dec_no _ c hc).2.1
    · rw [hc]; decide
    · exact (dec_no _ c hc).2.1
  · unfold ipText
    rw [if_neg (by omega)]
    exact sixGo47 _ _ _ 9 0 [] fun c hc => by cases hc
theorem six_groups (g : Nat → Nat) : groups (pieces (sixText g (runOf g).1 (runOf g).2)) = (List.range 8).map g := by
  rcases runOf_spec g with ⟨h1, h2⟩ | ⟨h1, h2, h3⟩
  · rw [h1, h2]; exact sixText_none g 255
  · exact sixText_run g _ _ h1 h2 h3
theorem four_no58 {ip : List UInt8} (h : ip.length = 4) : ∀ c ∈ ipText ip, c ≠ 58 := by
  rw [four_at h]
  intro c hc
  simp only [itoa_is, List.mem_append, List.mem_singleton] at hc
  rcases hc with (((((hc | hc) | hc) | hc) | hc) | hc) | hc
  · exact (dec_no _ c hc).2.2
  · rw [hc]; decide
  · exact (dec_no _ c hc).2.2
  · rw [hc]; decide
  · exact (dec_no _ c hc).2.2
  · rw [hc]; decide
  · exact (dec_no _ c hc).2.2
theorem four_inj {a b : List UInt8} (ha : a.length = 4) (hb : b.length = 4) (h : ipText a = ipText b) : a = b := by
  rw [four_at ha, four_at hb] at h
  simp only [itoa_is, List.append_assoc, List.singleton_append] at h
  obtain ⟨e0, h⟩ := cut_eq (fun u hu => (dec_no _ u hu).1) (fun u hu => (dec_no _ u hu).1) h
  obtain ⟨e1, h⟩ := cut_eq (fun u hu => (dec_no _ u hu).1) (fun u hu => (dec_no _ u hu).1) h
  obtain ⟨e2, e3⟩ := cut_eq (fun u hu => (dec_no _ u hu).1) (fun u hu => (dec_no _ u hu).1) h
  have f0 := UInt8.toNat_inj.1 (dec_inj e0)
  have f1 := UInt8.toNat_inj.1 (dec_inj e1)
  have f2 := UInt8.toNat_inj.1 (dec_inj e2)
  have f3 := UInt8.toNat_inj.1 (dec_inj e3)
  match a, b, ha, hb with
  | [a0, a1, a2, a3], [b0, b1, b2, b3], _, _ =>
    simp only [List.getElem_cons_zero, List.getElem_cons_succ] at f0 f1 f2 f3
    rw [f0, f1, f2, f3]
theorem group_inj {a b : List UInt8} (ha : a.length = 16) (hb : b.length = 16) (h : ∀ i, i < 8 → groupOf a i = groupOf b i) : a = b := by
  apply List.ext_getElem (by omega)
  intro j h1 h2
  have hg := h (j / 2) (by omega)
  rw [groupOf_at (by omega), groupOf_at (by omega)] at hg
  have l1 := (a[2 * (j / 2) + 1]'(by omega)).toNat_lt
  have l2 := (b[2 * (j / 2) + 1]'(by omega)).toNat_lt
  have e1 : (a[2 * (j / 2)]'(by omega)).toNat = (b[2 * (j / 2)]'(by omega)).toNat := by omega
  have e2 : (a[2 * (j / 2) + 1]'(by omega)).toNat = (b[2 * (j / 2) + 1]'(by omega)).toNat := by omega
  rcases (by omega : j = 2 * (j / 2) ∨ j = 2 * (j / 2) + 1) with hj | hj
  · have : ∀ k (hk : k = j) (x : k < a.length) (y : k < b.length), a[k].toNat = b[k].toNat → a[j] = b[j] := fun k hk x y e => by subst hk; exact UInt8.toNat_inj.1 e
    exact this _ hj.symm (by omega) (by omega) e1
  · have : ∀ k (hk : k = j) (x : k < a.length) (y : k < b.length), a[k].toNat = b[k].toNat → a[j] = b[j] := fun k hk x y e => by subst hk; exact UInt8.toNat_inj.1 e
    exact this _ hj.symm (by omega) (by omega) e2
theorem ip_inj {a b : List UInt8} (ha : a.length = 4 ∨ a.length = 16) (hb : b.length = 4 ∨ b.length = 16) (h : ipText a = ipText b) : a = b := by
  have six : ∀ {x : List UInt8}, x.length = 16 → groups (pieces (ipText x)) = (List.range 8).map (groupOf x) := fun {x} hx => by
    unfold ipText; rw [if_neg (by omega)]; exact six_groups _
  have four : ∀ {x : List UInt8}, x.length = 4 → (groups (pieces (ipText x))).length ≤ 1 := fun {x} hx => by
    rw [pieces_last (four_no58 hx)]
    unfold groups
    have hne : (ipText x).isEmpty = false := by
      cases hE : (ipText x).isEmpty with
      | false => rfl
      | true =>
        have h0 := List.isEmpty_iff.1 hE
        rw [four_at hx] at h0
        simp at h0
    simp [hne]
  rcases ha with ha | ha <;> rcases hb with hb | hb
  · exact four_inj ha hb h
  · exfalso
    have := four ha
    rw [h, six hb] at this
    simp at this
  · exfalso
    have := four hb
    rw [← h, six ha] at this
    simp at this
  · refine group_inj ha hb fun i hi => ?_
    have e := six ha
    rw [h, six hb] at e
    have := congrArg (·[i]?) e
    simpa [List.getElem?_map, List.getElem?_range hi] using this.symm
/-- Equal texts: equal networks. -/
theorem net_inj {a b : List UInt8} {n m : Nat} (ha : a.length = 4 ∨ a.length = 16) (hb : b.length = 4 ∨ b.length = 16) (h : netText a n = netText b m) : a = b ∧ n = m := by
  unfold netText at h
  simp only [List.append_assoc, List.singleton_append] at h
  obtain ⟨e1, e2⟩ := cut_eq (ipText47 ha) (ipText47 hb) h
  rw [itoa_is, itoa_is] at e2
  exact ⟨ip_inj ha hb e1, dec_inj e2⟩
end Go.Proofs.YtkhonkejebdcgaaGreatDoor
