/- The text of an address of 128 bits, and what the package makes of bytes. Conditions: as each says. -/
import Derived.Test.YtgodhbgnhapemaaGreatDoorJText
import Derived.Test.YtgodhbgnhapemaaGreatDoorSxC
set_option linter.unusedVariables false
set_option linter.unusedSimpArgs false
/- The reference's text of an address of 128 bits is the package's: the same run of zeros, the same text around it. Conditions: none. -/
namespace Go.Proofs.YtgodhbgnhapemaaGreatDoor
open Go Go.SX Go.IpText
set_option maxHeartbeats 8000000
set_option maxRecDepth 100000
/-- The reference's run: the first of the longest, of two and more groups. -/
def runS (g : Nat → Nat) : Nat → Nat → Nat → Nat → Nat × Nat
  | 0, _, fr, most => (fr, most)
  | f + 1, i, fr, most => if most < zerosFrom g 8 i - i then runS g f (i + 1) i (zerosFrom g 8 i - i) else runS g f (i + 1) fr most
/-- Both runs, side by side. -/
def SameRun (fr tu at_ most : Nat) : Prop := (fr = 255 ∧ tu = 255 ∧ at_ = 255 ∧ most = 1) ∨ (fr < tu ∧ tu ≤ 8 ∧ at_ = fr ∧ most = tu - fr ∧ 2 ≤ most)
theorem run_same (g : Nat → Nat) : ∀ f i fr tu at_ most, i + f ≤ 8 → SameRun fr tu at_ most → SameRun (runGo g f i fr tu).1 (runGo g f i fr tu).2 (runS g f i at_ most).1 (runS g f i at_ most).2
  | 0, i, fr, tu, at_, most, _, h => h
  | f + 1, i, fr, tu, at_, most, hi, h => by
    rw [runGo, runS]
    obtain ⟨h1, h2, _⟩ := zerosFrom_spec g 8 i (by omega)
    by_cases hc : most < zerosFrom g 8 i - i
    · rw [if_pos hc, if_pos (by rcases h with h | h <;> omega)]
      exact run_same g f (i + 1) _ _ _ _ (by omega) (.inr (by rcases h with h | h <;> omega))
    · rw [if_neg hc, if_neg (by rcases h with h | h <;> omega)]
      exact run_same g f (i + 1) _ _ _ _ (by omega) h
/-- The reference's text, from a group on. -/
def sixS (g : Nat → Nat) (at_ most : Nat) : Nat → Nat → List UInt8 → List UInt8
  | 0, _, s => s
  | n + 1, i, s => if i < 8 then
      if i = at_ then sixS g at_ most n (at_ + most) (s ++ [58, 58])
      else sixS g at_ most n (i + 1) ((if 0 < i ∧ i ≠ at_ + most then s ++ [58] else s) ++ hexOf (g i))
    else s
theorem sixS_end (g : Nat → Nat) (at_ most n i : Nat) (s : List UInt8) (h : 8 ≤ i) : sixS g at_ most n i s = s := by
  cases n with
  | zero => rfl
  | succ n => rw [sixS, if_neg (by omega)]
theorem six_same (g : Nat → Nat) (fr tu at_ most : Nat) (hr : SameRun fr tu at_ most) : ∀ n m i s, 8 - i < n → 8 - i < m → (i ≤ fr ∨ tu < i) → sixGo g fr tu n i s = sixS g at_ most m i s
  | 0, m, i, s, h, _, _ => by omega
  | n + 1, 0, i, s, _, h, _ => by omega
  | n + 1, m + 1, i, s, hn, hm, hi => by
    rw [sixGo, sixS]
    by_cases h8 : i < 8
    · rw [if_pos h8, if_pos h8]
      by_cases hf : i = fr
      · have ha : i = at_ := by rcases hr with h | h <;> omega
        rw [if_pos hf, if_pos ha]
        have hto : at_ + most = tu := by rcases hr with h | h <;> omega
        rw [hto]
        by_cases ht : 8 ≤ tu
        · rw [if_pos ht, sixS_end g at_ most m tu _ ht]
        · rw [if_neg ht]
          cases m with
          | zero => omega
          | succ m =>
            have ha2 : ¬ tu = at_ := by rcases hr with h | h <;> omega
            rw [sixS, if_pos (show tu < 8 by omega), if_neg ha2, if_neg (show ¬ (0 < tu ∧ tu ≠ at_ + most) by omega)]
            exact six_same g fr tu at_ most hr n m (tu + 1) _ (by rcases hr with h | h <;> omega) (by rcases hr with h | h <;> omega) (.inr (by omega))
      · have ha : ¬ i = at_ := by rcases hr with h | h <;> omega
        rw [if_neg hf, if_neg ha]
        have hc : (0 < i ∧ i ≠ at_ + most) = (0 < i) := propext ⟨fun h => h.1, fun h => ⟨h, by rcases hr with h | h <;> omega⟩⟩
        simp only [hc]
        exact six_same g fr tu at_ most hr n m (i + 1) _ (by omega) (by omega) (by rcases hr with h | h <;> omega)
    · rw [if_neg h8, if_neg h8]
/-- The reference's text of eight groups is the package's. -/
theorem six_eq (g : Nat → Nat) : sixText g (runOf g).1 (runOf g).2 = sixS g (runS g 8 0 255 1).1 (runS g 8 0 255 1).2 9 0 [] :=
  six_same g _ _ _ _ (run_same g 8 0 255 255 255 1 (by omega) (.inl ⟨rfl, rfl, rfl, rfl⟩)) 9 9 0 [] (by omega) (by omega) (.inl (by omega))
/-- The digits of a number, in the order in which the reference writes them. -/
def hexS : Nat → Nat → List UInt8 → List UInt8
  | 0, _, s => s
  | f + 1, n, s => if n = 0 then s else hexS f (n / 16) (Go.IpText.hexDigit (n % 16) :: s)
theorem hexS_eq : ∀ f n s, 0 < n → n < 16 ^ f → hexS f n s = hexOf n ++ s
  | 0, n, s, h, h2 => by omega
  | f + 1, n, s, h, h2 => by
    rw [hexS, if_neg (by omega), hexOf_eq]
    by_cases h16 : n < 16
    · have e : n / 16 = 0 := by omega
      rw [if_pos h16, e, Nat.mod_eq_of_lt h16]
      cases f with
      | zero => rfl
      | succ f => rw [hexS, if_pos rfl]; rfl
    · rw [if_neg h16, hexS_eq f (n / 16) _ (by omega) (by rw [Nat.pow_succ] at h2; omega)]
      simp
end Go.Proofs.YtgodhbgnhapemaaGreatDoor
/- Plain: decimal digits as the reference writes them, hexadecimal ones, numbers of bytes. Conditions: none. -/
namespace Go.Proofs.YtgodhbgnhapemaaGreatDoor
open Go Go.SX Go.IpText
set_option maxHeartbeats 8000000
set_option maxRecDepth 100000
/-- The digits of a number, none for 0. -/
def decTail (n : Nat) : List UInt8 := if n = 0 then [] else Lib.decDigits n
theorem decDigits_last (n : Nat) : Lib.decDigits n = decTail (n / 10) ++ [UInt8.ofNat (48 + n % 10)] := by
  unfold decTail
  by_cases h : n < 10
  · rw [Lib.decDigits_one h, if_pos (by omega), Nat.mod_eq_of_lt h]; rfl
  · rw [if_neg (by omega)]
    conv => lhs; rw [Lib.decDigits]
    rw [dif_neg h]
theorem decTail_last {n : Nat} (h : n ≠ 0) : decTail n = decTail (n / 10) ++ [UInt8.ofNat (48 + n % 10)] := by
  conv => lhs; unfold decTail
  rw [if_neg h]; exact decDigits_last n
def hexTail (n : Nat) : List UInt8 := if n = 0 then [] else hexOf n
theorem hexOf_last (n : Nat) : hexOf n = hexTail (n / 16) ++ [Go.IpText.hexDigit (n % 16)] := by
  unfold hexTail
  by_cases h : n < 16
  · rw [hexOf_eq, if_pos h, if_pos (by omega), Nat.mod_eq_of_lt h]; rfl
  · rw [if_neg (by omega)]
    conv => lhs; rw [hexOf_eq]
    rw [if_neg h]
theorem hexTail_last {n : Nat} (h : n ≠ 0) : hexTail n = hexTail (n / 16) ++ [Go.IpText.hexDigit (n % 16)] := by
  conv => lhs; unfold hexTail
  rw [if_neg h]; exact hexOf_last n
/-- The number that bytes mean. -/
def numOf (l : List UInt8) : Nat := l.foldl (fun n x => n * 256 + x.toNat) 0
theorem numOf_snoc (l : List UInt8) (x : UInt8) : numOf (l ++ [x]) = numOf l * 256 + x.toNat := by unfold numOf; rw [List.foldl_append]; rfl
theorem numFold_lt : ∀ (l : List UInt8) (m : Nat), l.foldl (fun n x => n * 256 + x.toNat) m < (m + 1) * 256 ^ l.length
  | [], m => by simp
  | x :: l, m => by
    have h := numFold_lt l (m * 256 + x.toNat)
    have hx := x.toNat_lt
    rw [List.foldl_cons, List.length_cons, Nat.pow_succ, Nat.mul_comm (256 ^ l.length) 256, ← Nat.mul_assoc]
    exact Nat.lt_of_lt_of_le h (Nat.mul_le_mul_right _ (by omega))
theorem numOf_lt (l : List UInt8) : numOf l < 256 ^ l.length := by
  have h := numFold_lt l 0
  rw [Nat.zero_add, Nat.one_mul] at h
  exact h
theorem numOf_le {l : List UInt8} (h : l.length ≤ 8) : numOf l < 18446744073709551616 :=
  Nat.lt_of_lt_of_le (numOf_lt l) (Nat.le_trans (Nat.pow_le_pow_right (by decide) h) (by decide))
/-- The text of the value of an address of 128 bits. -/
def sixOf (ip : List UInt8) : List UInt8 := if mapped ip then [58, 58, 102, 102, 102, 102, 58] ++ fourText (ip.drop 12) else ipText ip
end Go.Proofs.YtgodhbgnhapemaaGreatDoor
/- What the transcoders write: the text of an IP address of 32 bits, of a name, of a zone. Conditions: as each says. -/
namespace Go.Proofs.YtgodhbgnhapemaaGreatDoor
open Go Go.SX
set_option maxHeartbeats 8000000
set_option maxRecDepth 100000
theorem ip4BtS (ip : List UInt8) (a : Option Addr) (ca : Nat) (w : World) (ht : Tab w) (hin : BytesIn w a ip) (hl : ip.length = 4) (hca : ip.length ≤ ca) :
    Calls Tryz.prog 127 #[.slice a ip.length ca] w (fun e w1 => ∃ v, e = .returned v ∧ Ext [] w w1 ∧ v = .tuple #[.string ⟨⟨ipText ip⟩⟩, .nilIface]) := by
  refine calls_of0 (args := [.slice a ip.length ca]) Tryz.func127 rfl rfl rfl ?_
  refine To.runF 8 [] (fun _ _ => by kernel_rfl) fun f1 g1 l1 => ?_
  refine To.callN 170 #[.slice a ip.length ca] (by kernel_rfl) (fun _ => by kernel_rfl) (fun w2 hw2 => ipString ip a ca w2 (ht.later hw2.ext) (hin.later hw2.ext) (.inl hl) hca (by unfold mapped; simp [hl])) (fun w2 v2 w3 hw2 hx2 hv2 hnew2 hwi2 => ?_)
  subst hv2
  refine To.runF 3 [] (fun _ _ => by kernel_rfl) fun f2 g2 l2 => ?_
  exact To.ret [] (.tuple #[.string ⟨⟨ipText ip⟩⟩, .nilIface]) (by kernel_rfl) (by kernel_rfl) fun w4 hw4 => ⟨_, rfl, hw4.ext, rfl⟩
theorem dnsBtS (val : List UInt8) (a : Option Addr) (ca : Nat) (w : World) (hin : BytesIn w a val) :
    Calls Tryz.prog 131 #[.slice a val.length ca] w (fun e w1 => ∃ v, e = .returned v ∧ Ext [] w w1 ∧ v = .tuple #[.string ⟨⟨val⟩⟩, .nilIface]) := by
  refine calls_of0 (args := [.slice a val.length ca]) Tryz.func131 rfl rfl rfl ?_
  refine To.runF 8 [] (fun _ _ => by kernel_rfl) fun f1 g1 l1 => ?_
  refine To.textOf (src := 28) (dst := 9) (e := 5) a val.length ca val rfl uBytes uString uU8 (by kernel_rfl) (fun w8 hw8 j u hj => (hin.later hw8.ext).at_ j u hj) hin.none ?_
  refine To.runF 3 [] (fun _ _ => by kernel_rfl) fun f2 g2 l2 => ?_
  exact To.ret [] (.tuple #[.string ⟨⟨val⟩⟩, .nilIface]) (by kernel_rfl) (by kernel_rfl) fun w4 hw4 => ⟨_, rfl, hw4.ext, rfl⟩
theorem ip6zoneBtS (val : List UInt8) (a : Option Addr) (ca : Nat) (w : World) (hin : BytesIn w a val) (h0 : 0 < val.length) :
    Calls Tryz.prog 136 #[.slice a val.length ca] w (fun e w1 => ∃ v, e = .returned v ∧ Ext [] w w1 ∧ v = .tuple #[.string ⟨⟨val⟩⟩, .nilIface]) := by
  refine calls_of0 (args := [.slice a val.length ca]) Tryz.func136 rfl rfl rfl ?_
  refine To.runF 12 [] (fun _ _ => by kernel_rfl) fun f1 g1 l1 => ?_
  refine To.testF (Int.ofNat val.length == 0) (by kernel_rfl) (by simp only [Int.ofNat_eq_natCast, beq_eq_false_iff_ne, ne_eq]; omega) ?_
  refine To.runF 4 [] (fun _ _ => by kernel_rfl) fun f2 g2 l2 => ?_
  refine To.textOf (src := 28) (dst := 9) (e := 5) a val.length ca val rfl uBytes uString uU8 (by kernel_rfl) (fun w8 hw8 j u hj => (hin.later hw8.ext).at_ j u hj) hin.none ?_
  refine To.runF 3 [] (fun _ _ => by kernel_rfl) fun f3 g3 l3 => ?_
  exact To.ret [] (.tuple #[.string ⟨⟨val⟩⟩, .nilIface]) (by kernel_rfl) (by kernel_rfl) fun w4 hw4 => ⟨_, rfl, hw4.ext, rfl⟩
end Go.Proofs.YtgodhbgnhapemaaGreatDoor
/- What the transcoder of an IP address of 128 bits writes, where it maps none. Conditions: as it says. -/
namespace Go.Proofs.YtgodhbgnhapemaaGreatDoor
open Go Go.SX
set_option maxHeartbeats 8000000
set_option maxRecDepth 100000
theorem ip6BtS (ip : List UInt8) (a : Option Addr) (ca : Nat) (w : World) (ht : Tab w) (hin : BytesIn w a ip) (hl : ip.length = 16) (hca : ip.length ≤ ca) (hm : mapped ip = false) :
    Calls Tryz.prog 134 #[.slice a ip.length ca] w (fun e w1 => ∃ v, e = .returned v ∧ Ext [] w w1 ∧ v = .tuple #[.string ⟨⟨ipText ip⟩⟩, .nilIface]) := by
  refine calls_of0 (args := [.slice a ip.length ca]) Tryz.func134 rfl rfl rfl ?_
  refine To.runF 14 [] (fun _ _ => by kernel_rfl) fun f1 g1 l1 => ?_
  refine To.callN 169 #[.slice a ip.length ca] (by kernel_rfl) (fun _ => by kernel_rfl) (fun w2 hw2 => to4 ip a ca w2 (hin.later hw2.ext) (by omega) hca hm) (fun w2 v2 w3 hw2 hx2 hv2 hnew2 hwi2 => ?_)
  rw [if_neg (by omega)] at hv2
  subst hv2
  refine To.runF 12 [] (fun _ _ => by kernel_rfl) fun f2 g2 l2 => ?_
  refine To.callN 170 #[.slice a ip.length ca] (by kernel_rfl) (fun _ => by kernel_rfl) (fun w4 hw4 => ipString ip a ca w4 (ht.later hw4.ext) (hin.later hw4.ext) (.inr hl) hca hm) (fun w4 v4 w5 hw4 hx4 hv4 hnew4 hwi4 => ?_)
  subst hv4
  refine To.runF 3 [] (fun _ _ => by kernel_rfl) fun f3 g3 l3 => ?_
  exact To.ret [] (.tuple #[.string ⟨⟨ipText ip⟩⟩, .nilIface]) (by kernel_rfl) (by kernel_rfl) fun w6 hw6 => ⟨_, rfl, hw6.ext, rfl⟩
/-- An address of 128 bits that maps one of 32: its last four bytes. -/
theorem mapped_is {l : List UInt8} (hm : mapped l = true) : l.length = 16 ∧ ((l.drop 0).take 10).all (· == 0) = true ∧ ∀ h : 11 < l.length, l[10] = 255 ∧ l[11] = 255 := by
  unfold mapped at hm
  simp only [Bool.and_eq_true, decide_eq_true_eq, beq_iff_eq] at hm
  obtain ⟨⟨⟨h1, h2⟩, h3⟩, h4⟩ := hm
  refine ⟨h1, h4, fun h => ⟨?_, ?_⟩⟩
  · rw [List.getD_eq_getElem?_getD, List.getElem?_eq_getElem (show 10 < l.length by omega)] at h2; exact h2
  · rw [List.getD_eq_getElem?_getD, List.getElem?_eq_getElem (show 11 < l.length by omega)] at h3; exact h3
theorem to4M (l : List UInt8) (a : Option Addr) (cap : Nat) (w : World) (hin : BytesIn w a l) (hcap : l.length ≤ cap) (hm : mapped l = true) :
    Calls Tryz.prog 169 #[.slice a l.length cap] w (fun e w1 => ∃ v, e = .returned v ∧ Ext [] w w1 ∧ v = .slice (onA a 12 1 cap) 4 (cap - 12)) := by
  obtain ⟨h16, hz, h255⟩ := mapped_is hm
  obtain ⟨e10, e11⟩ := h255 (by omega)
  refine calls_of0 (args := [.slice a l.length cap]) Tryz.func169 rfl rfl rfl ?_
  refine To.runF 11 [] (fun _ _ => by kernel_rfl) fun f1 g1 l1 => ?_
  refine To.testF (Int.ofNat l.length == 4) (by kernel_rfl) (by simp only [Int.ofNat_eq_natCast, beq_eq_false_iff_ne, ne_eq]; omega) ?_
  refine To.runF 8 [] (fun _ _ => by kernel_rfl) fun f2 g2 l2 => ?_
  refine To.slotT 10 (Int.ofNat l.length == 16) (by kernel_rfl) (by rw [h16]; rfl) ?_
  obtain ⟨ad, ha, hc10⟩ := hin.one 10 (by omega)
  obtain ⟨_, ha', hc11⟩ := hin.one 11 (by omega)
  rw [ha] at ha'; cases ha'
  refine To.runF 1 [] (fun _ _ => by kernel_rfl) fun f3 g3 l3 => ?_
  refine To.sliceMid elIP a l.length 0 10 cap (by omega) (by omega) (by kernel_rfl) ?_
  refine To.callN 203 #[.slice (onA a 0 1 cap) 10 (cap - 0)] (by kernel_rfl) (fun _ => by kernel_rfl) (fun w2 hw2 => isZerosN ((l.drop 0).take 10) _ 10 _ (by simp [h16]) w2 (((hin.later hw2.ext).from 0 cap hcap).upTo 10) (by simp; omega)) (fun w2 v2 w3 hw2 hx2 hv2 hnew2 hwi2 => ?_)
  subst hv2
  refine To.runF 2 [] (fun _ _ => by kernel_rfl) fun f4 g4 l4 => ?_
  refine To.slotT 15 (((l.drop 0).take 10).all (· == 0)) (by kernel_rfl) hz ?_
  refine To.runF 1 [] (fun _ _ => by kernel_rfl) fun f5 g5 l5 => ?_
  refine To.indexAt elIP a ad l.length cap 10 (by kernel_rfl) ha (by omega) ?_
  refine To.loadOne uU8 rfl (ad.add (10 * 1)) (.int .u8 ((l[10]).toNat : Int)) (by kernel_rfl) (fun w2 hw2 => hw2.ext.cell hc10 (by simp)) ?_
  refine To.runF 3 [] (fun _ _ => by kernel_rfl) fun f6 g6 l6 => ?_
  refine To.slotT 21 (((l[10]).toNat : Int) == 255) (by kernel_rfl) (by rw [eq255, e10]; rfl) ?_
  refine To.runF 1 [] (fun _ _ => by kernel_rfl) fun f7 g7 l7 => ?_
  refine To.indexAt elIP a ad l.length cap 11 (by kernel_rfl) ha (by omega) ?_
  refine To.loadOne uU8 rfl (ad.add (11 * 1)) (.int .u8 ((l[11]).toNat : Int)) (by kernel_rfl) (fun w2 hw2 => hw2.ext.cell hc11 (by simp)) ?_
  refine To.runF 3 [] (fun _ _ => by kernel_rfl) fun f8 g8 l8 => ?_
  refine To.testT (((l[11]).toNat : Int) == 255) (by kernel_rfl) (by rw [eq255, e11]; rfl) ?_
  refine To.runF 3 [] (fun _ _ => by kernel_rfl) fun f9 g9 l9 => ?_
  refine To.sliceMid elIP a l.length 12 16 cap (by omega) (by omega) (by kernel_rfl) ?_
  refine To.runF 2 [] (fun _ _ => by kernel_rfl) fun f10 g10 l10 => ?_
  exact To.ret [] (.slice (onA a 12 1 cap) 4 (cap - 12)) (by kernel_rfl) (by kernel_rfl) fun w4 hw4 => ⟨_, rfl, hw4.ext, rfl⟩
theorem ipStringN (ip : List UInt8) (n : Nat) (hn : n = ip.length) (a : Option Addr) (ca : Nat) (w : World) (ht : Tab w) (hin : BytesIn w a ip) (hl : ip.length = 4 ∨ ip.length = 16) (hca : ip.length ≤ ca) (hm : mapped ip = false) :
    Calls Tryz.prog 170 #[.slice a n ca] w (fun e w1 => ∃ v, e = .returned v ∧ Ext [] w w1 ∧ v = .string ⟨⟨ipText ip⟩⟩) := by
  subst hn; exact ipString ip a ca w ht hin hl hca hm
theorem fourText_le (b : List UInt8) : (fourText b).length ≤ 100 := by
  unfold fourText
  simp only [List.length_append, List.length_singleton]
  have h0 := itoa_len (b.getD 0 0)
  have h1 := itoa_len (b.getD 1 0)
  have h2 := itoa_len (b.getD 2 0)
  have h3 := itoa_len (b.getD 3 0)
  simp only [Int.ofNat_eq_natCast] at h0 h1 h2 h3
  omega
theorem ip6BtSM (ip : List UInt8) (a : Option Addr) (ca : Nat) (w : World) (ht : Tab w) (hin : BytesIn w a ip) (hca : ip.length ≤ ca) (hm : mapped ip = true) :
    Calls Tryz.prog 134 #[.slice a ip.length ca] w (fun e w1 => ∃ v, e = .returned v ∧ Ext [] w w1 ∧ v = .tuple #[.string ⟨⟨sixOf ip⟩⟩, .nilIface]) := by
  have h16 := (mapped_is hm).1
  obtain ⟨ad, ha, _⟩ := hin.one 0 (by omega)
  refine calls_of0 (args := [.slice a ip.length ca]) Tryz.func134 rfl rfl rfl ?_
  have hon : onA a 12 1 ca = some (ad.add 12) := by unfold onA; rw [if_neg (by omega), ha]; rfl
  have hd4 : (ip.drop 12).length = 4 := by rw [List.length_drop, h16]
  have hdin : BytesIn w (some (ad.add 12)) (ip.drop 12) := by rw [← hon]; exact hin.from 12 ca hca
  have hT : ipText (ip.drop 12) = fourText (ip.drop 12) := by unfold ipText; rw [if_pos hd4]
  refine To.runF 14 [] (fun _ _ => by kernel_rfl) fun f1 g1 l1 => ?_
  refine To.callN 169 #[.slice a ip.length ca] (by kernel_rfl) (fun _ => by kernel_rfl) (fun w2 hw2 => to4M ip a ca w2 (hin.later hw2.ext) hca hm) (fun w2 v2 w3 hw2 hx2 hv2 hnew2 hwi2 => ?_)
  rw [hon] at hv2
  subst hv2
  refine To.runF 11 [] (fun _ _ => by kernel_rfl) fun f2 g2 l2 => ?_
  refine To.callN 170 #[.slice (some (ad.add 12)) 4 (ca - 12)] (by kernel_rfl) (fun _ => by kernel_rfl) (fun w4 hw4 => ipStringN (ip.drop 12) 4 hd4.symm (some (ad.add 12)) (ca - 12) w4 (ht.later hw4.ext) (hdin.later hw4.ext) (.inl hd4) (by omega) (by unfold mapped; rw [hd4]; rfl)) (fun w4 v4 w5 hw4 hx4 hv4 hnew4 hwi4 => ?_)
  rw [hT] at hv4
  subst hv4
  refine To.addText (t := 9) ([58, 58, 102, 102, 102, 102, 58] : List UInt8) (fourText (ip.drop 12)) ⟨⟨([58, 58, 102, 102, 102, 102, 58] : List UInt8)⟩⟩ ⟨⟨fourText (ip.drop 12)⟩⟩ rfl rfl (by kernel_rfl) (by have := fourText_le (ip.drop 12); simp only [List.length_cons, List.length_nil]; omega) ?_
  refine To.runF 3 [] (fun _ _ => by kernel_rfl) fun f3 g3 l3 => ?_
  exact To.ret [] (.tuple #[.string ⟨⟨([58, 58, 102, 102, 102, 102, 58] : List UInt8) ++ fourText (ip.drop 12)⟩⟩, .nilIface]) (by kernel_rfl) (by kernel_rfl) fun w6 hw6 => ⟨_, rfl, hw6.ext, by unfold sixOf; rw [if_pos hm]⟩
theorem ip6BtSAny (ip : List UInt8) (a : Option Addr) (ca : Nat) (w : World) (ht : Tab w) (hin : BytesIn w a ip) (hl : ip.length = 16) (hca : ip.length ≤ ca) :
    Calls Tryz.prog 134 #[.slice a ip.length ca] w (fun e w1 => ∃ v, e = .returned v ∧ Ext [] w w1 ∧ v = .tuple #[.string ⟨⟨sixOf ip⟩⟩, .nilIface]) := by
  cases hm : mapped ip with
  | true => exact ip6BtSM ip a ca w ht hin hca hm
  | false =>
    unfold sixOf
    rw [if_neg (by rw [hm]; decide)]
    exact ip6BtS ip a ca w ht hin hl hca hm
end Go.Proofs.YtgodhbgnhapemaaGreatDoor
