/- Transcoders: IPv4, ports, names, sizes of a network. Conditions: as each says. -/
import Derived.Test.YtgodhbgnhapemaaGreatDoorJCut
import Derived.Test.YtgodhbgnhapemaaGreatDoorJSix
import Derived.Test.YtgodhbgnhapemaaGreatDoorJPieces
import Derived.Test.YtgodhbgnhapemaaGreatDoorJDig
import Derived.Below
set_option linter.unusedVariables false
set_option linter.unusedSimpArgs false
/- The four numbers of a dotted text are read. Conditions: the plain reading succeeds; the row lies in an array of one's own. -/
namespace Go.Proofs.YtgodhbgnhapemaaGreatDoor
open Go Go.SX Go.IpText
set_option maxHeartbeats 8000000
set_option maxRecDepth 100000
/-- The plain reading of four decimal numbers. -/
def fieldsGo : List UInt8 → Option UInt8 → Nat → Nat → List UInt8 → Option (List UInt8)
  | [], _, val, _, outs => if outs.length < 3 then none else some (outs ++ [UInt8.ofNat val])
  | c :: r, prev, val, digits, outs =>
    if 48 ≤ c.toNat ∧ c.toNat ≤ 57 then
      if digits = 1 ∧ val = 0 then none
      else if 255 < val * 10 + (c.toNat - 48) then none
      else fieldsGo r (some c) (val * 10 + (c.toNat - 48)) (digits + 1) outs
    else if c = 46 then
      if prev = none ∨ r = [] ∨ prev = some 46 ∨ outs.length = 3 then none
      else fieldsGo r (some c) 0 0 (outs ++ [UInt8.ofNat val])
    else none
/-- What stands ahead of a place. -/
def prevAt (s : List UInt8) (i : Nat) : Option UInt8 := if i = 0 then none else s[i - 1]?
/-- The cells of the array: what stands ahead, what is read, what is left. -/
def fCells (pre : List Value) (outs : List UInt8) (z : List Value) : List Value := pre ++ (ucells outs ++ z.drop outs.length)
theorem held0 {r : Fin} {g : Nat} (h : r.heldC = []) : ∀ i x, nth r.heldC i = some x → x.b ≠ g := fun i x hx => by rw [h] at hx; cases i <;> cases hx
theorem fCells_set (pre : List Value) (outs : List UInt8) (z : List Value) (val o : Nat) (ho : pre.length = o) (hz : outs.length < z.length) (hv : val ≤ 255) :
    (fCells pre outs z).set (o + outs.length) (.int .u8 (Int.ofNat val)) = fCells pre (outs ++ [UInt8.ofNat val]) z := by
  unfold fCells
  have hu : (ucells outs).length = outs.length := by simp [ucells]
  rw [List.set_append_right _ _ (by omega), show o + outs.length - pre.length = outs.length from by omega, List.set_append_right _ _ (by omega), hu, Nat.sub_self, List.drop_eq_getElem_cons hz, List.set_cons_zero]
  congr 1
  have h8 : (UInt8.ofNat val).toNat = val := by simp [UInt8.toNat_ofNat']; omega
  rw [List.length_append, show [UInt8.ofNat val].length = 1 from rfl]
  have : ucells (outs ++ [UInt8.ofNat val]) = ucells outs ++ [.int .u8 (Int.ofNat val)] := by simp [ucells, h8]
  rw [this, List.append_assoc]; rfl
theorem fields4 (s res : List UInt8) (g o : Nat) (pre z : List Value) (ca : Nat) (w : World) (hl : s.length ≤ 1000) (hgo : fieldsGo s none 0 0 [] = some res) (hg : w.heap[g]? = some (.cells ⟨fCells pre [] z⟩ 167 (0, 0))) (ho : pre.length = o) (hz : 4 ≤ z.length) :
    Calls Tryz.prog 263 #[.string ⟨⟨s⟩⟩, .slice (some ⟨g, o, none⟩) 4 ca] w (fun e w1 => ∃ v, e = .returned v ∧ Ext [g] w w1 ∧ v = .bool true ∧ w1.heap[g]? = some (.cells ⟨fCells pre res z⟩ 167 (0, 0)) ∧ res.length = 4) := by
  refine calls_of1 (args := [.string ⟨⟨s⟩⟩, .slice (some ⟨g, o, none⟩) 4 ca]) g _ hg Tryz.func263 rfl rfl rfl ?_
  refine To.runF 16 [] (fun _ _ => by kernel_rfl) fun f1 g1 l1 => ?_
  refine To.loop (ι := Nat × Nat × Nat × List UInt8) (fun i => s.length - i.1) (fun i => ([(0, .string ⟨⟨s⟩⟩), (1, .slice (some ⟨g, o, none⟩) 4 ca), (5, .int .i64 (Int.ofNat i.2.1)), (6, .int .i64 (Int.ofNat i.2.2.2.length)), (7, .int .i64 (Int.ofNat i.2.2.1)), (8, .int .i64 (Int.ofNat i.1))], [some ⟨g, .cells ⟨fCells pre i.2.2.2 z⟩ 167 (0, 0), true⟩])) (fun i w1 => i.1 ≤ s.length ∧ i.2.1 ≤ 255 ∧ i.2.2.1 ≤ i.1 ∧ i.2.2.2.length ≤ 3 ∧ fieldsGo (s.drop i.1) (prevAt s i.1) i.2.1 i.2.2.1 i.2.2.2 = some res) (0, 0, 0, []) [0] (by kernel_rfl) (by kernel_rfl) (by kernel_rfl) rfl (fun _ _ => ⟨Nat.zero_le _, by decide, Nat.le_refl _, by decide, hgo⟩) ?_
  rintro ⟨i, val, digits, outs⟩ w1 ⟨hi, hv, hd, hol, hgo1⟩ hx1 back
  have hi : i ≤ s.length := hi
  have hv : val ≤ 255 := hv
  have hd : digits ≤ i := hd
  have hol : outs.length ≤ 3 := hol
  have hgo1 : fieldsGo (s.drop i) (prevAt s i) val digits outs = some res := hgo1
  refine To.runF 8 [] (fun _ _ => by kernel_rfl) fun f2 g2 l2 => ?_
  by_cases hlt : i < s.length
  · refine To.testT (decide (Int.ofNat i < Int.ofNat (ByteArray.mk ⟨s⟩).size)) (by kernel_rfl) (decide_eq_true (Int.ofNat_lt.2 hlt)) ?_
    obtain ⟨c, hc⟩ : ∃ c, c = s[i] := ⟨_, rfl⟩
    have hdr : s.drop i = c :: s.drop (i + 1) := by rw [hc]; exact List.drop_eq_getElem_cons hlt
    rw [hdr, fieldsGo] at hgo1
    refine To.runF 8 [] (fun _ _ => by kernel_rfl) fun f3 g3 l3 => ?_
    have hcs : Int.ofNat (UInt8.toNat ((ByteArray.mk ⟨s⟩)[i]'hlt)) = Int.ofNat c.toNat := by rw [hc]; rfl
    refine To.indexStr uStr ⟨⟨s⟩⟩ i hlt (by kernel_rfl) ?_
    refine To.slotE 18 (.int .u8 (Int.ofNat (UInt8.toNat ((ByteArray.mk ⟨s⟩)[i]'hlt)))) (.int .u8 (Int.ofNat c.toNat)) (by kernel_rfl) (by rw [hcs]) ?_
    refine To.runF 2 [] (fun _ _ => by kernel_rfl) fun f4 g4 l4 => ?_
    by_cases hdig : 48 ≤ c.toNat ∧ c.toNat ≤ 57
    · rw [if_pos hdig] at hgo1
      refine To.slotT 20 (decide (Int.ofNat c.toNat ≥ 48)) (by kernel_rfl) (decide_eq_true (by simp only [Int.ofNat_eq_natCast]; omega)) ?_
      refine To.runF 2 [] (fun _ _ => by kernel_rfl) fun f5 g5 l5 => ?_
      refine To.indexStr uStr ⟨⟨s⟩⟩ i hlt (by kernel_rfl) ?_
      refine To.slotE 23 (.int .u8 (Int.ofNat (UInt8.toNat ((ByteArray.mk ⟨s⟩)[i]'hlt)))) (.int .u8 (Int.ofNat c.toNat)) (by kernel_rfl) (by rw [hcs]) ?_
      refine To.runF 4 [] (fun _ _ => by kernel_rfl) fun f6 g6 l6 => ?_
      refine To.testT (decide (Int.ofNat c.toNat ≤ 57)) (by kernel_rfl) (decide_eq_true (by simp only [Int.ofNat_eq_natCast]; omega)) ?_
      refine To.runF 6 [] (fun _ _ => by kernel_rfl) fun f7 g7 l7 => ?_
      by_cases h10 : digits = 1 ∧ val = 0
      · rw [if_pos h10] at hgo1; cases hgo1
      rw [if_neg h10] at hgo1
      by_cases h25 : 255 < val * 10 + (c.toNat - 48)
      · rw [if_pos h25] at hgo1; cases hgo1
      rw [if_neg h25] at hgo1
      have hwv : IntKind.i64.wrap (IntKind.i64.wrap (Int.ofNat (val * 10) + IntKind.i64.wrap (Int.ofNat c.toNat)) - 48) = Int.ofNat (val * 10 + (c.toNat - 48)) := by
        rw [IntWalk.i64_in (Int.ofNat c.toNat) ⟨by simp only [Int.ofNat_eq_natCast]; omega, by simp only [Int.ofNat_eq_natCast]; omega⟩, IntWalk.i64_in (Int.ofNat (val * 10) + Int.ofNat c.toNat) ⟨by simp only [Int.ofNat_eq_natCast]; omega, by simp only [Int.ofNat_eq_natCast]; omega⟩, IntWalk.i64_in _ ⟨by simp only [Int.ofNat_eq_natCast]; omega, by simp only [Int.ofNat_eq_natCast]; omega⟩]
        simp only [Int.ofNat_eq_natCast]; omega
      by_cases hd1 : digits = 1
      · refine To.slotT 28 (Int.ofNat digits == 1) (by kernel_rfl) (beq_iff_eq.2 (by rw [hd1]; rfl)) ?_
        refine To.runF 4 [] (fun _ _ => by kernel_rfl) fun f8 g8 l8 => ?_
        refine To.testF (Int.ofNat val == 0) (by kernel_rfl) (beq_eq_false_iff_ne.2 (by have : val ≠ 0 := fun h => h10 ⟨hd1, h⟩; simp only [Int.ofNat_eq_natCast]; omega)) ?_
        refine To.runF 7 [] (fun _ _ => by kernel_rfl) fun f9 g9 l9 => ?_
        refine To.slotE 33 (.int .i64 (IntKind.i64.wrap (Int.ofNat val * 10))) (.int .i64 (Int.ofNat (val * 10))) (by kernel_rfl) (by rw [IntWalk.i64_in _ ⟨by simp only [Int.ofNat_eq_natCast]; omega, by simp only [Int.ofNat_eq_natCast]; omega⟩]; rfl) ?_
        refine To.indexStr uStr ⟨⟨s⟩⟩ i hlt (by kernel_rfl) ?_
        refine To.slotE 36 (.int .u8 (Int.ofNat (UInt8.toNat ((ByteArray.mk ⟨s⟩)[i]'hlt)))) (.int .u8 (Int.ofNat c.toNat)) (by kernel_rfl) (by rw [hcs]) ?_
        refine To.runF 16 [] (fun _ _ => by kernel_rfl) fun f10 g10 l10 => ?_
        refine To.testF (decide (IntKind.i64.wrap (IntKind.i64.wrap (Int.ofNat (val * 10) + IntKind.i64.wrap (Int.ofNat c.toNat)) - 48) > 255)) (by kernel_rfl) (decide_eq_false (by rw [hwv]; simp only [Int.ofNat_eq_natCast]; omega)) ?_
        refine To.runF 8 [] (fun _ _ => by kernel_rfl) fun f11 g11 l11 => ?_
        refine To.slotE 5 (.int .i64 (IntKind.i64.wrap (IntKind.i64.wrap (Int.ofNat (val * 10) + IntKind.i64.wrap (Int.ofNat c.toNat)) - 48))) (.int .i64 (Int.ofNat (val * 10 + (c.toNat - 48)))) (by kernel_rfl) (by rw [hwv]) ?_
        refine To.slotE 7 (.int .i64 (IntKind.i64.wrap (Int.ofNat digits + 1))) (.int .i64 (Int.ofNat (digits + 1))) (by kernel_rfl) (by rw [wrap_succ digits (by omega)]) ?_
        refine To.slotE 8 (.int .i64 (IntKind.i64.wrap (Int.ofNat i + 1))) (.int .i64 (Int.ofNat (i + 1))) (by kernel_rfl) (by rw [wrap_succ i (by omega)]) ?_
        exact back _ _ (i + 1, val * 10 + (c.toNat - 48), digits + 1, outs) [0] (by show s.length - (i + 1) < s.length - i; omega) ⟨by kernel_rfl, by kernel_rfl, by kernel_rfl, by kernel_rfl, by kernel_rfl, rfl⟩ (fun w7 hw7 => ⟨hlt, by show val * 10 + (c.toNat - 48) ≤ 255; omega, by show digits + 1 ≤ i + 1; omega, hol, by
          show fieldsGo (s.drop (i + 1)) (prevAt s (i + 1)) (val * 10 + (c.toNat - 48)) (digits + 1) outs = some res
          rw [← hgo1, prevAt, if_neg (by omega), Nat.add_sub_cancel, List.getElem?_eq_getElem hlt, ← hc]⟩)
      · refine To.slotF 28 (Int.ofNat digits == 1) (by kernel_rfl) (beq_eq_false_iff_ne.2 (by simp only [Int.ofNat_eq_natCast]; omega)) ?_
        refine To.runF 12 [] (fun _ _ => by kernel_rfl) fun f8 g8 l8 => ?_
        refine To.slotE 33 (.int .i64 (IntKind.i64.wrap (Int.ofNat val * 10))) (.int .i64 (Int.ofNat (val * 10))) (by kernel_rfl) (by rw [IntWalk.i64_in _ ⟨by simp only [Int.ofNat_eq_natCast]; omega, by simp only [Int.ofNat_eq_natCast]; omega⟩]; rfl) ?_
        refine To.indexStr uStr ⟨⟨s⟩⟩ i hlt (by kernel_rfl) ?_
        refine To.slotE 36 (.int .u8 (Int.ofNat (UInt8.toNat ((ByteArray.mk ⟨s⟩)[i]'hlt)))) (.int .u8 (Int.ofNat c.toNat)) (by kernel_rfl) (by rw [hcs]) ?_
        refine To.runF 16 [] (fun _ _ => by kernel_rfl) fun f9 g9 l9 => ?_
        refine To.testF (decide (IntKind.i64.wrap (IntKind.i64.wrap (Int.ofNat (val * 10) + IntKind.i64.wrap (Int.ofNat c.toNat)) - 48) > 255)) (by kernel_rfl) (decide_eq_false (by rw [hwv]; simp only [Int.ofNat_eq_natCast]; omega)) ?_
        refine To.runF 8 [] (fun _ _ => by kernel_rfl) fun f10 g10 l10 => ?_
        refine To.slotE 5 (.int .i64 (IntKind.i64.wrap (IntKind.i64.wrap (Int.ofNat (val * 10) + IntKind.i64.wrap (Int.ofNat c.toNat)) - 48))) (.int .i64 (Int.ofNat (val * 10 + (c.toNat - 48)))) (by kernel_rfl) (by rw [hwv]) ?_
        refine To.slotE 7 (.int .i64 (IntKind.i64.wrap (Int.ofNat digits + 1))) (.int .i64 (Int.ofNat (digits + 1))) (by kernel_rfl) (by rw [wrap_succ digits (by omega)]) ?_
        refine To.slotE 8 (.int .i64 (IntKind.i64.wrap (Int.ofNat i + 1))) (.int .i64 (Int.ofNat (i + 1))) (by kernel_rfl) (by rw [wrap_succ i (by omega)]) ?_
        exact back _ _ (i + 1, val * 10 + (c.toNat - 48), digits + 1, outs) [0] (by show s.length - (i + 1) < s.length - i; omega) ⟨by kernel_rfl, by kernel_rfl, by kernel_rfl, by kernel_rfl, by kernel_rfl, rfl⟩ (fun w7 hw7 => ⟨hlt, by show val * 10 + (c.toNat - 48) ≤ 255; omega, by show digits + 1 ≤ i + 1; omega, hol, by
          show fieldsGo (s.drop (i + 1)) (prevAt s (i + 1)) (val * 10 + (c.toNat - 48)) (digits + 1) outs = some res
          rw [← hgo1, prevAt, if_neg (by omega), Nat.add_sub_cancel, List.getElem?_eq_getElem hlt, ← hc]⟩)
    · rw [if_neg hdig] at hgo1
      by_cases hdot : c = 46
      · rw [if_pos hdot] at hgo1
        refine To.slotF 20 (decide (Int.ofNat c.toNat ≥ 48)) (by kernel_rfl) (decide_eq_false (by rw [hdot]; decide)) ?_
        refine To.runF 12 [] (fun _ _ => by kernel_rfl) fun f5 g5 l5 => ?_
        refine To.indexStr uStr ⟨⟨s⟩⟩ i hlt (by kernel_rfl) ?_
        refine To.slotE 47 (.int .u8 (Int.ofNat (UInt8.toNat ((ByteArray.mk ⟨s⟩)[i]'hlt)))) (.int .u8 46) (by kernel_rfl) (by rw [hcs, hdot]; rfl) ?_
        refine To.runF 10 [] (fun _ _ => by kernel_rfl) fun f6 g6 l6 => ?_
        have hd0 : ¬ (prevAt s i = none ∨ s.drop (i + 1) = [] ∨ prevAt s i = some 46 ∨ outs.length = 3) := fun h => by rw [if_pos h] at hgo1; cases hgo1
        rw [if_neg hd0] at hgo1
        have hi0 : 0 < i := Nat.pos_of_ne_zero fun h => hd0 (.inl (by unfold prevAt; rw [if_pos h]))
        have hi9 : i + 1 < s.length := Nat.lt_of_not_le fun h => hd0 (.inr (.inl (List.drop_of_length_le h)))
        have hpv : s[i - 1]'(by omega) ≠ 46 := fun e => hd0 (.inr (.inr (.inl (by unfold prevAt; rw [if_neg (by omega), List.getElem?_eq_getElem (by omega), e]))))
        have ho3 : outs.length < 3 := by have : outs.length ≠ 3 := fun h => hd0 (.inr (.inr (.inr h))); omega
        refine To.slotF 51 (Int.ofNat i == 0) (by kernel_rfl) (beq_eq_false_iff_ne.2 (by simp only [Int.ofNat_eq_natCast]; omega)) ?_
        refine To.runF 7 [] (fun _ _ => by kernel_rfl) fun f7 g7 l7 => ?_
        have hw1 : IntKind.i64.wrap (((ByteArray.mk ⟨s⟩).size : Int) - 1) = Int.ofNat (s.length - 1) := by
          show IntKind.i64.wrap (((s.length : Nat) : Int) - 1) = _
          rw [IntWalk.i64_in _ ⟨by omega, by omega⟩]; simp only [Int.ofNat_eq_natCast]; omega
        refine To.slotF 58 (Int.ofNat i == IntKind.i64.wrap (((ByteArray.mk ⟨s⟩).size : Int) - 1)) (by kernel_rfl) (by rw [hw1]; exact beq_eq_false_iff_ne.2 (by simp only [Int.ofNat_eq_natCast]; omega)) ?_
        refine To.runF 3 [] (fun _ _ => by kernel_rfl) fun f8 g8 l8 => ?_
        have hw2 : IntKind.i64.wrap (Int.ofNat i - 1) = Int.ofNat (i - 1) := by
          rw [IntWalk.i64_in _ ⟨by simp only [Int.ofNat_eq_natCast]; omega, by simp only [Int.ofNat_eq_natCast]; omega⟩]; simp only [Int.ofNat_eq_natCast]; omega
        refine To.slotE 61 (.int .i64 (IntKind.i64.wrap (Int.ofNat i - 1))) (.int .i64 (Int.ofNat (i - 1))) (by kernel_rfl) (by rw [hw2]) ?_
        refine To.indexStr uStr ⟨⟨s⟩⟩ (i - 1) (by show i - 1 < s.length; omega) (by kernel_rfl) ?_
        refine To.runF 3 [] (fun _ _ => by kernel_rfl) fun f9 g9 l9 => ?_
        refine To.slotF 65 (Int.ofNat (UInt8.toNat ((ByteArray.mk ⟨s⟩)[i - 1]'(by show i - 1 < s.length; omega))) == 46) (by kernel_rfl) (beq_eq_false_iff_ne.2 fun e => hpv (UInt8.toNat_inj.1 (Int.ofNat.inj e))) ?_
        refine To.runF 4 [] (fun _ _ => by kernel_rfl) fun f10 g10 l10 => ?_
        refine To.testF (Int.ofNat outs.length == 3) (by kernel_rfl) (beq_eq_false_iff_ne.2 (by simp only [Int.ofNat_eq_natCast]; omega)) ?_
        refine To.runF 7 [] (fun _ _ => by kernel_rfl) fun f11 g11 l11 => ?_
        refine To.indexAt elB (some ⟨g, o, none⟩) ⟨g, o, none⟩ 4 ca outs.length (by kernel_rfl) rfl (by omega) ?_
        have hptr : (⟨g, o, none⟩ : Addr).add (outs.length * 1) = (⟨g, 0, none⟩ : Addr).add ((o + outs.length) * 1) := by
          simp only [Addr.add, Nat.mul_one]
          by_cases hn0 : outs.length = 0
          · rw [if_pos hn0]
            by_cases ho0 : o + outs.length = 0
            · rw [if_pos ho0, show o = 0 from by omega]
            · rw [if_neg ho0, show 0 + (o + outs.length) = o from by omega]
          · rw [if_neg hn0, if_neg (by omega), Nat.zero_add]
        refine To.slotE 73 (.pointer (some ((⟨g, o, none⟩ : Addr).add (outs.length * 1)))) (.pointer (some ((⟨g, 0, none⟩ : Addr).add ((o + outs.length) * 1)))) (by kernel_rfl) (by rw [hptr]) ?_
        refine To.slotE 72 (.int .u8 (IntKind.u8.wrap (Int.ofNat val))) (.int .u8 (Int.ofNat val)) (by kernel_rfl) (by rw [IntWalk.u8_in _ ⟨by simp only [Int.ofNat_eq_natCast]; omega, by simp only [Int.ofNat_eq_natCast]; omega⟩]) ?_
        refine To.storeOne 0 (t := 5) (e := 167) (by kernel_rfl) g (o + outs.length) (fCells pre outs z) (fCells pre (outs ++ [UInt8.ofNat val]) z) (.int .u8 (Int.ofNat val)) (by kernel_rfl) (by kernel_rfl) (by unfold fCells; simp [ucells]; omega) (fCells_set pre outs z val o ho (by omega) hv).symm rfl rfl (held0 (by kernel_rfl)) ?_
        refine To.runF 18 [] (fun _ _ => by kernel_rfl) fun f12 g12 l12 => ?_
        refine To.slotE 6 (.int .i64 (IntKind.i64.wrap (Int.ofNat outs.length + 1))) (.int .i64 (Int.ofNat (outs ++ [UInt8.ofNat val]).length)) (by kernel_rfl) (by rw [wrap_succ outs.length (by omega), List.length_append]; rfl) ?_
        refine To.slotE 8 (.int .i64 (IntKind.i64.wrap (Int.ofNat i + 1))) (.int .i64 (Int.ofNat (i + 1))) (by kernel_rfl) (by rw [wrap_succ i (by omega)]) ?_
        exact back _ _ (i + 1, 0, 0, outs ++ [UInt8.ofNat val]) [0] (by show s.length - (i + 1) < s.length - i; omega) ⟨by kernel_rfl, by kernel_rfl, by kernel_rfl, by kernel_rfl, by kernel_rfl, rfl⟩ (fun w7 hw7 => ⟨hlt, Nat.zero_le _, Nat.zero_le _, by
          show (outs ++ [UInt8.ofNat val]).length ≤ 3
          rw [List.length_append]
          show outs.length + 1 ≤ 3
          omega, by
          show fieldsGo (s.drop (i + 1)) (prevAt s (i + 1)) 0 0 (outs ++ [UInt8.ofNat val]) = some res
          rw [← hgo1, prevAt, if_neg (by omega), Nat.add_sub_cancel, List.getElem?_eq_getElem hlt, ← hc]⟩)
      · rw [if_neg hdot] at hgo1; cases hgo1
  · have hi1 : i = s.length := by omega
    subst hi1
    rw [List.drop_length, fieldsGo] at hgo1
    refine To.testF (decide (Int.ofNat s.length < Int.ofNat (ByteArray.mk ⟨s⟩).size)) (by kernel_rfl) (decide_eq_false (by show ¬ (Int.ofNat s.length < Int.ofNat s.length); omega)) ?_
    refine To.runF 7 [] (fun _ _ => by kernel_rfl) fun f3 g3 l3 => ?_
    by_cases ho3 : outs.length < 3
    · rw [if_pos ho3] at hgo1; cases hgo1
    rw [if_neg ho3] at hgo1
    have ho3 : outs.length = 3 := by omega
    refine To.testF (decide (Int.ofNat outs.length < 3)) (by kernel_rfl) (decide_eq_false (by simp only [Int.ofNat_eq_natCast]; omega)) ?_
    refine To.runF 7 [] (fun _ _ => by kernel_rfl) fun f4 g4 l4 => ?_
    have hptr : (⟨g, o + Int.toNat 3 * 1, none⟩ : Addr) = (⟨g, 0, none⟩ : Addr).add ((o + 3) * 1) := by show (⟨g, o + 3, none⟩ : Addr) = ⟨g, 0 + (o + 3) * 1, none⟩; rw [Nat.zero_add, Nat.mul_one]
    refine To.slotE 81 (.pointer (some ⟨g, o + Int.toNat 3 * 1, none⟩)) (.pointer (some ((⟨g, 0, none⟩ : Addr).add ((o + 3) * 1)))) (by kernel_rfl) (by rw [hptr]) ?_
    refine To.slotE 80 (.int .u8 (IntKind.u8.wrap (Int.ofNat val))) (.int .u8 (Int.ofNat val)) (by kernel_rfl) (by rw [IntWalk.u8_in _ ⟨by simp only [Int.ofNat_eq_natCast]; omega, by simp only [Int.ofNat_eq_natCast]; omega⟩]) ?_
    refine To.storeOne 0 (t := 5) (e := 167) (by kernel_rfl) g (o + 3) (fCells pre outs z) (fCells pre (outs ++ [UInt8.ofNat val]) z) (.int .u8 (Int.ofNat val)) (by kernel_rfl) (by kernel_rfl) (by unfold fCells; simp [ucells]; omega) (by rw [← ho3]; exact (fCells_set pre outs z val o ho (by omega) hv).symm) rfl rfl (held0 (by kernel_rfl)) ?_
    refine To.runF 5 [] (fun _ _ => by kernel_rfl) fun f5 g5 l5 => ?_
    cases hgo1
    exact To.ret [0] (.bool true) (by kernel_rfl) (by kernel_rfl) fun w4 hw4 => ⟨_, rfl, hw4.ext, rfl, hw4.blk (j := 0) (b := g) (o := .cells ⟨fCells pre (outs ++ [UInt8.ofNat val]) z⟩ 167 (0, 0)) (q := true) (by kernel_rfl), by rw [List.length_append, ho3]; rfl⟩
end Go.Proofs.YtgodhbgnhapemaaGreatDoor
/- Plain: the reading of four decimal numbers answers the dotted text. Conditions: as each says. -/
namespace Go.Proofs.YtgodhbgnhapemaaGreatDoor
open Go Go.SX Go.IpText
set_option maxHeartbeats 8000000
set_option maxRecDepth 100000
theorem dig_is : ∀ d, d < 10 → (UInt8.ofNat (48 + d)).toNat = 48 + d := by decide
theorem fields_run (n : Nat) : n ≤ 255 → ∀ (r : List UInt8) (prev : Option UInt8) (outs : List UInt8), ∃ k, 1 ≤ k ∧ fieldsGo (Lib.decDigits n ++ r) prev 0 0 outs = fieldsGo r (some (UInt8.ofNat (48 + n % 10))) n k outs := by
  induction n using Nat.strongRecOn with
  | ind n ih =>
    intro hn r prev outs
    by_cases h : n < 10
    · refine ⟨1, Nat.le_refl _, ?_⟩
      rw [Lib.decDigits_one h, List.cons_append, List.nil_append, fieldsGo, dig_is n h, if_pos ⟨by omega, by omega⟩, if_neg (by omega), if_neg (by omega), Nat.mod_eq_of_lt h]
      congr 1
      omega
    · have hd : n % 10 < 10 := Nat.mod_lt _ (by decide)
      obtain ⟨k, hk, hg⟩ := ih (n / 10) (by omega) (by omega) (UInt8.ofNat (48 + n % 10) :: r) prev outs
      refine ⟨k + 1, by omega, ?_⟩
      have hdd : Lib.decDigits n = Lib.decDigits (n / 10) ++ [UInt8.ofNat (48 + n % 10)] := by
        rw [decDigits_last]
        unfold decTail
        rw [if_neg (by omega)]
      rw [hdd, List.append_assoc, List.singleton_append, hg, fieldsGo, dig_is _ hd, if_pos ⟨by omega, by omega⟩, if_neg (by omega), if_neg (by omega)]
      congr 1
      omega
theorem fields_dot (n k : Nat) (r outs : List UInt8) (hr : r ≠ []) (ho : outs.length < 3) :
    fieldsGo (46 :: r) (some (UInt8.ofNat (48 + n % 10))) n k outs = fieldsGo r (some 46) 0 0 (outs ++ [UInt8.ofNat n]) := by
  have hd : n % 10 < 10 := Nat.mod_lt _ (by decide)
  rw [fieldsGo, if_neg (by decide), if_pos rfl, if_neg]
  rintro (h | h | h | h)
  · cases h
  · exact hr h
  · have h := congrArg UInt8.toNat (Option.some.inj h)
    rw [dig_is _ hd] at h
    have h : 48 + n % 10 = 46 := h
    omega
  · omega
theorem fields_four (a b c d : UInt8) : fieldsGo (fourText [a, b, c, d]) none 0 0 [] = some [a, b, c, d] := by
  have it : ∀ x : UInt8, Lib.itoa (x.toNat : Int) = Lib.decDigits x.toNat := fun x => Lib.itoa_nonneg ..
  have lt : ∀ x : UInt8, x.toNat ≤ 255 := fun x => by have := x.toNat_lt; omega
  have ne : ∀ n, Lib.decDigits n ≠ [] := fun n => by
    rw [decDigits_last]
    intro h
    have := congrArg List.length h
    simp at this
  have bk : ∀ x : UInt8, UInt8.ofNat x.toNat = x := fun x => by simp
  unfold fourText
  simp only [it, List.append_assoc, List.singleton_append, List.cons_append, List.nil_append, List.getD_cons_zero, List.getD_cons_succ]
  obtain ⟨k1, _, h1⟩ := fields_run a.toNat (lt a) (46 :: (Lib.decDigits b.toNat ++ 46 :: (Lib.decDigits c.toNat ++ 46 :: Lib.decDigits d.toNat))) none []
  obtain ⟨k2, _, h2⟩ := fields_run b.toNat (lt b) (46 :: (Lib.decDigits c.toNat ++ 46 :: Lib.decDigits d.toNat)) (some 46) [a]
  obtain ⟨k3, _, h3⟩ := fields_run c.toNat (lt c) (46 :: Lib.decDigits d.toNat) (some 46) [a, b]
  obtain ⟨k4, _, h4⟩ := fields_run d.toNat (lt d) [] (some 46) [a, b, c]
  rw [h1, fields_dot _ _ _ _ (by simp) (by decide), bk]
  show fieldsGo (Lib.decDigits b.toNat ++ _) (some 46) 0 0 [a] = _
  rw [h2, fields_dot _ _ _ _ (by simp) (Nat.le_of_ble_eq_true rfl), bk]
  show fieldsGo (Lib.decDigits c.toNat ++ _) (some 46) 0 0 [a, b] = _
  rw [h3, fields_dot _ _ _ _ (ne _) (Nat.le_of_ble_eq_true rfl), bk]
  show fieldsGo (Lib.decDigits d.toNat) (some 46) 0 0 [a, b, c] = _
  rw [List.append_nil] at h4
  rw [h4, fieldsGo, if_neg (show ¬ [a, b, c].length < 3 from Nat.lt_irrefl 3), bk]
  rfl
/-- The first letter that an address's text is told by. -/
theorem fourText_first (b : List UInt8) : ∃ pre rest, fourText b = pre ++ 46 :: rest ∧ ∀ x ∈ pre, x ≠ 46 ∧ x ≠ 58 ∧ x ≠ 37 := by
  unfold fourText
  refine ⟨_, _, by simp only [List.append_assoc, List.singleton_append, List.cons_append, List.nil_append]; rfl, ?_⟩
  rw [Lib.itoa_nonneg]
  generalize (b.getD 0 0).toNat = n
  induction n using Nat.strongRecOn with
  | ind n ih =>
    have dig : ∀ d, d < 10 → UInt8.ofNat (48 + d) ≠ 46 ∧ UInt8.ofNat (48 + d) ≠ 58 ∧ UInt8.ofNat (48 + d) ≠ 37 := by decide
    by_cases h : n < 10
    · rw [Lib.decDigits_one h]; intro c hc; rw [List.mem_singleton.1 hc]; exact dig n h
    · rw [decDigits_last]
      unfold decTail
      rw [if_neg (by omega)]
      intro c hc
      rcases List.mem_append.1 hc with hc | hc
      · exact ih (n / 10) (by omega) c hc
      · rw [List.mem_singleton.1 hc]; exact dig (n % 10) (by omega)
end Go.Proofs.YtgodhbgnhapemaaGreatDoor
/- Reading an address's text: dotted. Conditions: as each says. -/
namespace Go.Proofs.YtgodhbgnhapemaaGreatDoor
open Go Go.SX Go.IpText
set_option maxHeartbeats 8000000
set_option maxRecDepth 100000
theorem held0S {r : Fin} {g : Nat} (h : r.heldC = []) : ∀ i x, nth r.heldC i = some x → some x.b ≠ some g := fun i x hx => by rw [h] at hx; cases i <;> cases hx
theorem parse4 (b : List UInt8) (w : World) (hb : b.length = 4) :
    Calls Tryz.prog 202 #[.string ⟨⟨fourText b⟩⟩] w (fun e w1 => ∃ v, e = .returned v ∧ Ext [] w w1 ∧ v = .tuple #[.agg ⟨ucells ([0, 0, 0, 0, 0, 0, 0, 0, 0, 0, 255, 255] ++ b)⟩, .bool true, .bool true]) := by
  refine calls_of0 (args := [.string ⟨⟨fourText b⟩⟩]) Tryz.func202 rfl rfl rfl ?_
  obtain ⟨x0, x1, x2, x3, rfl⟩ : ∃ x0 x1 x2 x3, b = [x0, x1, x2, x3] := by
    match b, hb with
    | [x0, x1, x2, x3], _ => exact ⟨x0, x1, x2, x3, rfl⟩
  obtain ⟨s, hs⟩ : ∃ s, s = fourText [x0, x1, x2, x3] := ⟨_, rfl⟩
  obtain ⟨pre, rest, hpr, hpre⟩ := fourText_first [x0, x1, x2, x3]
  rw [← hs] at hpr ⊢
  have hgo : fieldsGo s none 0 0 [] = some [x0, x1, x2, x3] := by
    rw [hs]; exact fields_four x0 x1 x2 x3
  have hsz : (ByteArray.mk ⟨s⟩).size = s.length := rfl
  have hsl : s.length ≤ 1000 := by rw [hs]; have := fourText_len [x0, x1, x2, x3]; omega
  have hpl : pre.length < s.length := by rw [hpr, List.length_append, List.length_cons]; omega
  refine To.runF 12 [] (fun _ _ => by kernel_rfl) fun f1 g1 l1 => ?_
  refine To.loop (fun k : Nat => s.length - k) (fun k => ([(0, .string ⟨⟨s⟩⟩), (2, .pointer (some ⟨f1 0, 0, none⟩)), (3, .bool false), (4, .bool false), (5, .int .i64 (Int.ofNat k))], [some ⟨f1 0, .cells ⟨ucells (List.replicate 16 0)⟩ 167 (0, 0), true⟩])) (fun k _ => k ≤ pre.length) 0 [0] (by kernel_rfl) (by kernel_rfl) (by kernel_rfl) rfl (fun _ _ => Nat.zero_le _) ?_
  rintro k w1 hk hx1 back
  have hk : k ≤ pre.length := hk
  have hks : k < s.length := by omega
  refine To.runF 8 [] (fun _ _ => by kernel_rfl) fun f2 g2 l2 => ?_
  refine To.testT (decide (Int.ofNat k < Int.ofNat (ByteArray.mk ⟨s⟩).size)) (by kernel_rfl) (decide_eq_true (Int.ofNat_lt.2 hks)) ?_
  obtain ⟨c, hc⟩ : ∃ c, c = s[k] := ⟨_, rfl⟩
  have hcs : Int.ofNat (UInt8.toNat ((ByteArray.mk ⟨s⟩)[k]'hks)) = Int.ofNat c.toNat := by rw [hc]; rfl
  refine To.runF 7 [] (fun _ _ => by kernel_rfl) fun f3 g3 l3 => ?_
  refine To.indexStr uStr ⟨⟨s⟩⟩ k hks (by kernel_rfl) ?_
  refine To.runF 7 [] (fun _ _ => by kernel_rfl) fun f4 g4 l4 => ?_
  by_cases hkp : k = pre.length
  · have hc46 : c = 46 := by rw [hc]; simp only [hpr, hkp]; rw [List.getElem_append_right (Nat.le_refl _)]; simp
    refine To.testT (Int.ofNat (UInt8.toNat ((ByteArray.mk ⟨s⟩)[k]'hks)) == 46) (by kernel_rfl) (by rw [hcs, hc46]; rfl) ?_
    refine To.runF 11 [0, 0] (fun _ _ => by kernel_rfl) fun f5 g5 l5 => ?_
    refine To.callGC 263 #[.string ⟨⟨s⟩⟩, .slice (some ⟨f1 0, 12, none⟩) 4 4] (some (f1 0)) (some 0) (Φ := fun _ v w1 => v = .bool true ∧ w1.heap[f1 0]? = some (.cells ⟨ucells ([0, 0, 0, 0, 0, 0, 0, 0, 0, 0, 255, 255] ++ [x0, x1, x2, x3])⟩ 167 (0, 0))) (by kernel_rfl) (fun _ => by kernel_rfl)
      (fun w4 hw4 => (fields4 s [x0, x1, x2, x3] (f1 0) 12 (ucells [0, 0, 0, 0, 0, 0, 0, 0, 0, 0, 255, 255]) (ucells [0, 0, 0, 0]) 4 w4 hsl hgo (hw4.blk (j := 0) (b := f1 0) (o := .cells ⟨fCells (ucells [0, 0, 0, 0, 0, 0, 0, 0, 0, 0, 255, 255]) [] (ucells [0, 0, 0, 0])⟩ 167 (0, 0)) (q := true) (by kernel_rfl)) rfl (by decide)).mono fun e w1 ⟨v, h1, h2, h3, h4, h5⟩ => ⟨v, h1, h2.grown1, h3, by rw [h4]; simp [fCells, ucells, hb]⟩)
      (fun w _ i x hx => nums_all (Q := fun n => some n ≠ some (f1 0)) (l := [none]) (by kernel_rfl) trivial i x hx) (fun w9 _ q hq => .inl (by cases hq; exact l1 0)) (fun w _ => held0S (by kernel_rfl)) (fun w4 v4 w5 hw4 hg4 hΦ => ?_)
    obtain ⟨rfl, hrow⟩ := hΦ
    refine To.withAt (f1 0) (.cells ⟨ucells ([0, 0, 0, 0, 0, 0, 0, 0, 0, 0, 255, 255] ++ [x0, x1, x2, x3])⟩ 167 (0, 0)) true hrow (nums_all (Q := fun n => n ≠ f1 0) (l := [none]) (by kernel_rfl) trivial) (fun _ => .inl (l1 0)) ?_
    refine To.runF 10 [1, 1, 1, 1, 1, 1, 1, 1, 1, 1, 1, 1, 1, 1, 1, 1, 1, 1, 1, 1, 1, 1, 1, 1, 1, 1, 1, 1, 1, 1, 1, 1] (fun _ _ => by kernel_rfl) fun f6 g6 l6 => ?_
    exact To.ret [1, 1, 1, 1, 1, 1, 1, 1, 1, 1, 1, 1, 1, 1, 1, 1] (.tuple #[.agg ⟨ucells ([0, 0, 0, 0, 0, 0, 0, 0, 0, 0, 255, 255] ++ [x0, x1, x2, x3])⟩, .bool true, .bool true]) (by kernel_rfl) (by kernel_rfl) fun w8 hw8 => ⟨_, rfl, hw8.ext, rfl⟩
  · have hcp : c ∈ pre := by
      rw [hc]; simp only [hpr]; rw [List.getElem_append_left (by omega)]; exact List.getElem_mem _
    have hne : ∀ u : UInt8, c ≠ u → (Int.ofNat (UInt8.toNat ((ByteArray.mk ⟨s⟩)[k]'hks)) == Int.ofNat u.toNat) = false := fun u hu => by
      rw [hcs]; exact beq_eq_false_iff_ne.2 fun e => hu (UInt8.toNat_inj.1 (Int.ofNat.inj e))
    refine To.testF (Int.ofNat (UInt8.toNat ((ByteArray.mk ⟨s⟩)[k]'hks)) == 46) (by kernel_rfl) (hne 46 (hpre c hcp).1) ?_
    refine To.runF 5 [] (fun _ _ => by kernel_rfl) fun f5 g5 l5 => ?_
    refine To.testF (Int.ofNat (UInt8.toNat ((ByteArray.mk ⟨s⟩)[k]'hks)) == 58) (by kernel_rfl) (hne 58 (hpre c hcp).2.1) ?_
    refine To.runF 5 [] (fun _ _ => by kernel_rfl) fun f6 g6 l6 => ?_
    refine To.testF (Int.ofNat (UInt8.toNat ((ByteArray.mk ⟨s⟩)[k]'hks)) == 37) (by kernel_rfl) (hne 37 (hpre c hcp).2.2) ?_
    refine To.runF 8 [] (fun _ _ => by kernel_rfl) fun f7 g7 l7 => ?_
    refine To.slotE 5 (.int .i64 (IntKind.i64.wrap (Int.ofNat k + 1))) (.int .i64 (Int.ofNat (k + 1))) (by kernel_rfl) (by rw [wrap_succ k (by omega)]) ?_
    exact back _ _ (k + 1) [0] (by omega) ⟨by kernel_rfl, by kernel_rfl, by kernel_rfl, by kernel_rfl, by kernel_rfl, rfl⟩ (fun w7 hw7 => by show k + 1 ≤ pre.length; omega)
theorem ip4StB (b : List UInt8) (w : World) (hb : b.length = 4) :
    Calls Tryz.prog 126 #[.string ⟨⟨fourText b⟩⟩] w (fun e w1 => ∃ v, e = .returned v ∧ Ext [] w w1 ∧ ∃ ad c, v = .tuple #[.slice (some ad) b.length c, .nilIface] ∧ BytesIn w1 (some ad) b ∧ b.length ≤ c ∧ w.heap.size ≤ ad.block) := by
  obtain ⟨x0, x1, x2, x3, rfl⟩ : ∃ x0 x1 x2 x3, b = [x0, x1, x2, x3] := by
    match b, hb with
    | [x0, x1, x2, x3], _ => exact ⟨x0, x1, x2, x3, rfl⟩
  refine calls_of0 (args := [.string ⟨⟨fourText [x0, x1, x2, x3]⟩⟩]) Tryz.func126 rfl rfl rfl ?_
  refine To.runF 16 [] (fun _ _ => by kernel_rfl) fun f1 g1 l1 => ?_
  refine To.callN 202 #[.string ⟨⟨fourText [x0, x1, x2, x3]⟩⟩] (by kernel_rfl) (fun _ => by kernel_rfl) (fun w2 hw2 => parse4 [x0, x1, x2, x3] w2 hb) (fun w2 v2 w3 hw2 hx2 hv2 hnew2 hwi2 => ?_)
  subst hv2
  refine To.runF 23 [0, 0, 0, 0, 0, 0, 0, 0, 0, 0, 0, 0, 0, 0, 0, 0] (fun _ _ => by kernel_rfl) fun f2 g2 l2 => ?_
  obtain ⟨l, hl⟩ : ∃ l : List UInt8, l = [0, 0, 0, 0, 0, 0, 0, 0, 0, 0, 255, 255, x0, x1, x2, x3] := ⟨_, rfl⟩
  have hl16 : l.length = 16 := by rw [hl]; rfl
  refine To.callN 169 #[.slice (some ⟨f2 0, 0, none⟩) 16 16] (by kernel_rfl) (fun _ => by kernel_rfl) (fun w2 hw2 => by
    have h := to4M l (some ⟨f2 0, 0, none⟩) 16 w2 (bytesOfZ (rest := []) (by rw [hl]; exact hw2.blk (j := 0) (b := f2 0) (o := .cells ⟨ucells [0, 0, 0, 0, 0, 0, 0, 0, 0, 0, 255, 255, x0, x1, x2, x3] ++ []⟩ 167 (0, 0)) (q := true) (by kernel_rfl))) (by omega) (by rw [hl]; rfl)
    rw [hl16] at h
    exact h) (fun w4 v4 w5 hw4 hx4 hv4 hnew4 hwi4 => ?_)
  subst hv4
  refine To.runF 16 [] (fun _ _ => by kernel_rfl) fun f3 g3 l3 => ?_
  exact To.ret [] (.tuple #[.slice (some ⟨f2 0, 12, none⟩) 4 4, .nilIface]) (by kernel_rfl) (by kernel_rfl) fun w8 hw8 => ⟨_, rfl, hw8.ext, ⟨f2 0, 12, none⟩, 4, rfl, by
    have h : BytesIn w8 (some ⟨f2 0, 0, none⟩) l := bytesOfZ (rest := []) (by rw [hl]; exact hw8.blk (j := 0) (b := f2 0) (o := .cells ⟨ucells [0, 0, 0, 0, 0, 0, 0, 0, 0, 0, 255, 255, x0, x1, x2, x3] ++ []⟩ 167 (0, 0)) (q := true) (by kernel_rfl))
    have h := h.from 12 16 (by omega)
    rw [hl] at h
    exact h, Nat.le_refl _, Nat.le_trans hwi2 (Nat.le_trans hx2.size (l2 0))⟩
theorem nums_of {hp : List (Option Blk)} {l : List (Option Nat)} {Q : Nat → Prop} (hn : nums hp = l) (h : ∀ j x, nth hp j = some x → Q x.b) : NumsAll Q l := by
  subst hn
  induction hp with
  | nil => trivial
  | cons y r ih =>
    cases y with
    | none => exact ih fun j x hx => h (j + 1) x hx
    | some b => exact ⟨h 0 b rfl, ih fun j x hx => h (j + 1) x hx⟩
theorem BytesIn.kept {w w' : World} {ad : Addr} {l : List UInt8} (h : BytesIn w (some ad) l) (hk : Kept (fun n => n = ad.block) w w') : BytesIn w' (some ad) l :=
  ⟨fun j u hj => let ⟨ad', h1, h2⟩ := h.at_ j u hj; ⟨ad', h1, by cases h1; exact hk.cell (by unfold Addr.add; split <;> rfl) h2⟩, h.none⟩
def xIp4 : Value := .agg #[.func (.func 126) #[] #[], .func (.func 127) #[] #[], .nilFunc]
theorem trIp4 (val : List UInt8) (hl : val.length = 4) : Tr1 xIp4 val (fourText val) := by
  refine ⟨fun w ht => ?_, fun w a ca ht hin hca => ?_, fun w a ca ht hin hca => ?_⟩
  · refine calls_of0 (args := [xIp4, .string ⟨⟨fourText val⟩⟩]) Tryz.func356 rfl rfl rfl ?_
    refine To.runF 11 [0] (fun _ _ => by kernel_rfl) fun f1 g1 l1 => ?_
    refine To.callN 126 #[.string ⟨⟨fourText val⟩⟩] (by kernel_rfl) (fun _ => by kernel_rfl) (fun w2 hw2 => ip4StB val w2 hl) (fun w2 v2 w3 hw2 hx2 hv2 hnew2 hwi2 => ?_)
    obtain ⟨ad, c, rfl, hin2, hc2, hn2⟩ := hv2
    refine To.runF 5 [] (fun _ _ => by kernel_rfl) fun f2 g2 l2 => ?_
    exact To.ret [] (.tuple #[.slice (some ad) val.length c, .nilIface]) (by kernel_rfl) (by kernel_rfl) fun w9 hw9 => ⟨_, rfl, hw9.ext, ad, c, rfl, hin2.kept (hw9.fr.kept (Q := fun n => n = ad.block) (l := [some (f1 0)]) (by kernel_rfl) (nums_of (by kernel_rfl) (hnew2 ad.block hn2))), hc2, Nat.le_trans hwi2 hn2⟩
  · refine calls_of0 (args := [xIp4, .slice a val.length ca]) Tryz.func355 rfl rfl rfl ?_
    refine To.runF 11 [0] (fun _ _ => by kernel_rfl) fun f1 g1 l1 => ?_
    refine To.callN 127 #[.slice a val.length ca] (by kernel_rfl) (fun _ => by kernel_rfl) (fun w2 hw2 => ip4BtS val a ca w2 (ht.later hw2.ext) (hin.later hw2.ext) hl hca) (fun w2 v2 w3 hw2 hx2 hv2 hnew2 hwi2 => ?_)
    subst hv2
    refine To.runF 5 [] (fun _ _ => by kernel_rfl) fun f2 g2 l2 => ?_
    exact To.ret [] (.tuple #[.string ⟨⟨ipText val⟩⟩, .nilIface]) (by kernel_rfl) (by kernel_rfl) fun w4 hw4 => ⟨_, rfl, hw4.ext, _, rfl⟩
  · refine calls_of0 (args := [xIp4, .slice a val.length ca]) Tryz.func357 rfl rfl rfl ?_
    refine To.runF 17 [0] (fun _ _ => by kernel_rfl) fun f1 g1 l1 => ?_
    exact To.ret [] .nilIface (by kernel_rfl) (by kernel_rfl) fun w4 hw4 => ⟨_, rfl, hw4.ext, rfl⟩
end Go.Proofs.YtgodhbgnhapemaaGreatDoor
/- What the transcoders of names, ports and masks do. Conditions: as each says. -/
namespace Go.Proofs.YtgodhbgnhapemaaGreatDoor
open Go Go.SX Go.IpText Go.RowKit
set_option maxHeartbeats 8000000
set_option maxRecDepth 100000
theorem extBelow {w w' : World} (h : Below w.heap.size w w') : Ext [] w w' := ⟨h.os, h.tape, h.output, h.size, fun k hk _ => h.block k hk⟩
theorem decDigits_le {n : Nat} (hn : n < 18446744073709551616) : (Lib.decDigits n).length ≤ 20 := by
  have h := decDigits_last n
  exact decTail_len (m := 0) (by simp [decTail]) hn
theorem parse16 (n : Nat) (hn : n < 65536) (w : World) :
    Calls Tryz.prog 171 #[.string ⟨⟨Lib.decDigits n⟩⟩, .int .i64 10, .int .i64 16] w (fun e w1 => ∃ v, e = .returned v ∧ Ext [] w w1 ∧ v = .tuple #[.int .u64 (Int.ofNat n), .nilIface]) :=
  (Any.strconv_ParseUint_10_at16_ok Tryz.laysPu14 ⟨⟨Lib.decDigits n⟩⟩ (by have := decDigits_le (n := n) (by omega); show (Lib.decDigits n).length ≤ _; omega) n (parse_digits 16 n (by decide) (by omega)) w).mono fun e w1 ⟨h1, h2⟩ => ⟨_, h1, by
    rcases h2 with rfl | rfl
    · exact Ext.refl _ _
    · exact extBelow (Lib.bytesWorld_below _ _ _), rfl⟩
theorem parse8 (n : Nat) (hn : n < 256) (w : World) :
    Calls Tryz.prog 171 #[.string ⟨⟨Lib.decDigits n⟩⟩, .int .i64 10, .int .i64 8] w (fun e w1 => ∃ v, e = .returned v ∧ Ext [] w w1 ∧ v = .tuple #[.int .u64 (Int.ofNat n), .nilIface]) :=
  (Any.strconv_ParseUint_10_at8_ok Tryz.laysPu14 ⟨⟨Lib.decDigits n⟩⟩ (by have := decDigits_le (n := n) (by omega); show (Lib.decDigits n).length ≤ _; omega) n (parse_digits 8 n (by decide) (by omega)) w).mono fun e w1 ⟨h1, h2⟩ => ⟨_, h1, by
    rcases h2 with rfl | rfl
    · exact Ext.refl _ _
    · exact extBelow (Lib.bytesWorld_below _ _ _), rfl⟩
theorem parse64 (n : Nat) (hn : n < 18446744073709551616) (w : World) :
    Calls Tryz.prog 171 #[.string ⟨⟨Lib.decDigits n⟩⟩, .int .i64 10, .int .i64 64] w (fun e w1 => ∃ v, e = .returned v ∧ Ext [] w w1 ∧ v = .tuple #[.int .u64 (Int.ofNat n), .nilIface]) :=
  (Any.strconv_ParseUint_10_at64_ok Tryz.laysPu14 ⟨⟨Lib.decDigits n⟩⟩ (by have := decDigits_le (n := n) (by omega); show (Lib.decDigits n).length ≤ _; omega) n (parse_digits 64 n (by decide) (by omega)) w).mono fun e w1 ⟨h1, h2⟩ => ⟨_, h1, by
    rcases h2 with rfl | rfl
    · exact Ext.refl _ _
    · exact extBelow (Lib.bytesWorld_below _ _ _), rfl⟩
theorem putBE16 (n : Nat) (hn : n < 65536) (g c : Nat) (x0 x1 : Value) (w : World) (hg : w.heap[g]? = some (.cells ⟨[x0, x1]⟩ 5 (0, 0))) :
    Calls Tryz.prog 172 #[.agg #[], .slice (some ⟨g, 0, none⟩) 2 c, .int .u16 (Int.ofNat n)] w (fun e w1 => ∃ v, e = .returned v ∧ w.grownBy w1 (some g) ∧ v = .tuple #[] ∧ w1.heap[g]? = some (.cells ⟨ucells (Lib.beBytes 2 n)⟩ 5 (0, 0))) := by
  have hlt := at_lt hg
  refine (Any.binary_BE_PutUint16 Tryz.laysB37 g 0 2 c n hn x0 x1 w (Nat.le_refl _) (by rw [cell_of_row w g 0 _ _ (0, 0) hg]; rfl) (by rw [cell_of_row w g _ _ _ (0, 0) hg]; rfl) (by unfold World.frozen?; simp [hg]) (by unfold World.frozen?; simp [hg])).mono (fun e w1 h => ?_)
  obtain ⟨rfl, rfl⟩ := h
  have hl2 : (Lib.beBytes 2 n).length = 2 := rfl
  have hg2 : (w.alloc (.cells #[] (Tryz.laysB37_ren.t 37))).heap[g]? = some (.cells ⟨[x0, x1]⟩ 5 (0, 0)) := by
    show (w.heap.push _)[g]? = _
    rw [Array.getElem?_push_lt hlt, ← Array.getElem?_eq_getElem hlt, hg]
  have hlt2 := at_lt hg2
  rw [setCells_row (t := 5) (z := (0, 0)) _ 0 [x0, x1] _ hg2 (by simp [Lib.byteCells, hl2])]
  refine ⟨_, rfl, ⟨rfl, rfl, rfl, by simp only [World.alloc, Array.size_setIfInBounds, Array.size_push]; omega, fun k hk hne => ?_⟩, rfl, ?_⟩
  · show ((w.heap.push _).setIfInBounds g _)[k]? = _
    rw [Array.getElem?_setIfInBounds_ne (fun e => hne (by rw [e])), Array.getElem?_push_lt hk, ← Array.getElem?_eq_getElem hk]
  · show ((w.heap.push _).setIfInBounds g _)[g]? = _
    rw [Array.getElem?_setIfInBounds, if_pos rfl, if_pos (show g < (w.heap.push _).size from hlt2)]
    rfl
end Go.Proofs.YtgodhbgnhapemaaGreatDoor
/- The transcoders of names, masks and ports. Conditions: as each says. -/
namespace Go.Proofs.YtgodhbgnhapemaaGreatDoor
open Go Go.SX Go.IpText Go.RowKit
set_option maxHeartbeats 8000000
set_option maxRecDepth 100000
theorem dnsVal (val : List UInt8) (ad : Addr) (ca : Nat) (w : World) (hin : BytesIn w (some ad) val) (h0 : 0 < val.length) (hno : ∀ x ∈ val, x ≠ 47) :
    Calls Tryz.prog 132 #[.slice (some ad) val.length ca] w (fun e w1 => ∃ v, e = .returned v ∧ Ext [] w w1 ∧ v = .nilIface) := by
  refine calls_of0 (args := [.slice (some ad) val.length ca]) Tryz.func132 rfl rfl rfl ?_
  refine To.runF 11 [] (fun _ _ => by kernel_rfl) fun f1 g1 l1 => ?_
  refine To.testF ((val.length : Int) == 0) (by kernel_rfl) (beq_eq_false_iff_ne.2 (by omega)) ?_
  refine To.runF 5 [] (fun _ _ => by kernel_rfl) fun f2 g2 l2 => ?_
  refine To.callN 175 #[.slice (some ad) val.length ca, .int .u8 47] (by kernel_rfl) (fun _ => by kernel_rfl) (fun w2 hw2 => noSlash val ad ca w2 (hin.later hw2.ext) hno) (fun w2 v2 w3 hw2 hx2 hv2 hnew2 hwi2 => ?_)
  subst hv2
  refine To.runF 8 [] (fun _ _ => by kernel_rfl) fun f3 g3 l3 => ?_
  exact To.ret [] .nilIface (by kernel_rfl) (by kernel_rfl) fun w4 hw4 => ⟨_, rfl, hw4.ext, rfl⟩
def xDns : Value := .agg #[.func (.func 130) #[] #[], .func (.func 131) #[] #[], .func (.func 132) #[] #[]]
theorem trDns (val : List UInt8) (h0 : 0 < val.length) (hno : ∀ x ∈ val, x ≠ 47) (hl : val.length ≤ 2147483647) : Tr1 xDns val val := by
  refine ⟨fun w ht => ?_, fun w a ca ht hin hca => ?_, fun w a ca ht hin hca => ?_⟩
  · refine calls_of0 (args := [xDns, .string ⟨⟨val⟩⟩]) Tryz.func356 rfl rfl rfl ?_
    refine To.runF 20 [0] (fun _ _ => by kernel_rfl) fun f1 g1 l1 => ?_
    refine To.bytesOf (src := 9) (dst := 28) (e := 5) ⟨⟨val⟩⟩ uString uBytes uU8 (by kernel_rfl) ?_
    intro gx cx rx hcx hrx hgx
    refine To.runF 6 [] (fun _ _ => by kernel_rfl) fun f2 g2 l2 => ?_
    refine To.callN 132 #[.slice (some ⟨gx, 0, none⟩) val.length cx] (by kernel_rfl) (fun _ => by kernel_rfl) (fun w2 hw2 => dnsVal val ⟨gx, 0, none⟩ cx w2 (bytesOfZ (hw2.blk (j := 1) (b := gx) (o := .cells ⟨ucells val ++ rx⟩ 5 (cx, cx + 1)) (q := true) (by kernel_rfl))) h0 hno) (fun w2 v2 w3 hw2 hx2 hv2 hnew2 hwi2 => ?_)
    subst hv2
    refine To.runF 21 [] (fun _ _ => by kernel_rfl) fun f3 g3 l3 => ?_
    exact To.ret [] (.tuple #[.slice (some ⟨gx, 0, none⟩) val.length cx, .nilIface]) (by kernel_rfl) (by kernel_rfl) fun w9 hw9 => ⟨_, rfl, hw9.ext, ⟨gx, 0, none⟩, cx, rfl, bytesOfZ (hw9.blk (j := 1) (b := gx) (o := .cells ⟨ucells val ++ rx⟩ 5 (cx, cx + 1)) (q := true) (by kernel_rfl)), hcx, hgx⟩
  · refine calls_of0 (args := [xDns, .slice a val.length ca]) Tryz.func355 rfl rfl rfl ?_
    refine To.runF 11 [0] (fun _ _ => by kernel_rfl) fun f1 g1 l1 => ?_
    refine To.callN 131 #[.slice a val.length ca] (by kernel_rfl) (fun _ => by kernel_rfl) (fun w2 hw2 => dnsBtS val a ca w2 (hin.later hw2.ext)) (fun w2 v2 w3 hw2 hx2 hv2 hnew2 hwi2 => ?_)
    subst hv2
    refine To.runF 5 [] (fun _ _ => by kernel_rfl) fun f2 g2 l2 => ?_
    exact To.ret [] (.tuple #[.string ⟨⟨val⟩⟩, .nilIface]) (by kernel_rfl) (by kernel_rfl) fun w4 hw4 => ⟨_, rfl, hw4.ext, _, rfl⟩
  · refine calls_of0 (args := [xDns, .slice a val.length ca]) Tryz.func357 rfl rfl rfl ?_
    refine To.runF 19 [0, 0] (fun _ _ => by kernel_rfl) fun f1 g1 l1 => ?_
    obtain ⟨ad, ha, _⟩ := hin.one 0 h0
    subst ha
    refine To.callN 132 #[.slice (some ad) val.length ca] (by kernel_rfl) (fun _ => by kernel_rfl) (fun w2 hw2 => dnsVal val ad ca w2 (hin.later hw2.ext) h0 hno) (fun w2 v2 w3 hw2 hx2 hv2 hnew2 hwi2 => ?_)
    subst hv2
    refine To.runF 2 [] (fun _ _ => by kernel_rfl) fun f2 g2 l2 => ?_
    exact To.ret [] .nilIface (by kernel_rfl) (by kernel_rfl) fun w4 hw4 => ⟨_, rfl, hw4.ext, rfl⟩
def xPort : Value := .agg #[.func (.func 128) #[] #[], .func (.func 129) #[] #[], .nilFunc]
theorem trPort (val : List UInt8) (hl : val.length = 2) : Tr1 xPort val (Lib.decDigits (numOf val)) := by
  have hn : numOf val < 65536 := by
    match val, hl with
    | [x, y], _ => have := x.toNat_lt; have := y.toNat_lt; simp [numOf]; omega
  refine ⟨fun w ht => ?_, fun w a ca ht hin hca => ?_, fun w a ca ht hin hca => ?_⟩
  · refine calls_of0 (args := [xPort, .string ⟨⟨Lib.decDigits (numOf val)⟩⟩]) Tryz.func356 rfl rfl rfl ?_
    refine To.runF 20 [0] (fun _ _ => by kernel_rfl) fun f1 g1 l1 => ?_
    refine To.callN 171 #[.string ⟨⟨Lib.decDigits (numOf val)⟩⟩, .int .i64 10, .int .i64 16] (by kernel_rfl) (fun _ => by kernel_rfl) (fun w2 hw2 => parse16 (numOf val) hn w2) (fun w2 v2 w3 hw2 hx2 hv2 hnew2 hwi2 => ?_)
    subst hv2
    refine To.runF 25 [] (fun _ _ => by kernel_rfl) fun f2 g2 l2 => ?_
    have hne : f1 0 ≠ f2 0 := hnew2 (f2 0) (Nat.le_trans hx2.size (l2 0)) 0 ⟨f1 0, .cells ⟨[.func (.func 128) #[] #[], .func (.func 129) #[] #[], .nilFunc]⟩ 126 (0, 0), true⟩ (by kernel_rfl)
    have hw16 : IntKind.u16.wrap (Int.ofNat (numOf val)) = Int.ofNat (numOf val) := IntWalk.u16_in _ ⟨by simp only [Int.ofNat_eq_natCast]; omega, by simp only [Int.ofNat_eq_natCast]; omega⟩
    refine To.slotE 19 (.int .u16 (IntKind.u16.wrap (Int.ofNat (numOf val)))) (.int .u16 (Int.ofNat (numOf val))) (by kernel_rfl) (by rw [hw16]) ?_
    refine To.callGC 172 #[.agg #[], .slice (some ⟨f2 0, 0, none⟩) 2 2, .int .u16 (Int.ofNat (numOf val))] (some (f2 0)) (some 1) (Φ := fun _ v w1 => v = .tuple #[] ∧ w1.heap[f2 0]? = some (.cells ⟨ucells (Lib.beBytes 2 (numOf val))⟩ 5 (0, 0))) (by kernel_rfl) (fun _ => by kernel_rfl)
      (fun w4 hw4 => putBE16 (numOf val) hn (f2 0) 2 (.int .u8 0) (.int .u8 0) w4 (hw4.blk (j := 1) (b := f2 0) (o := .cells ⟨[.int .u8 0, .int .u8 0]⟩ 5 (0, 0)) (q := true) (by kernel_rfl)))
      (fun w _ i x hx => nums_all (Q := fun n => some n ≠ some (f2 0)) (l := [some (f1 0), none]) (by kernel_rfl) ⟨fun e => hne (Option.some.inj e), trivial⟩ i x hx) (fun w9 _ q hq => .inl (by cases hq; exact Nat.le_trans hwi2 (Nat.le_trans hx2.size (l2 0)))) (fun w _ => held0S (by kernel_rfl)) (fun w4 v4 w5 hw4 hg4 hΦ => ?_)
    obtain ⟨rfl, hrow⟩ := hΦ
    refine To.withAt (f2 0) (.cells ⟨ucells (Lib.beBytes 2 (numOf val))⟩ 5 (0, 0)) true hrow (nums_all (Q := fun n => n ≠ f2 0) (l := [some (f1 0), none]) (by kernel_rfl) ⟨hne, trivial⟩) (fun _ => .inl (Nat.le_trans hwi2 (Nat.le_trans hx2.size (l2 0)))) ?_
    refine To.runF 13 [] (fun _ _ => by kernel_rfl) fun f3 g3 l3 => ?_
    have hbe : Lib.beBytes 2 (numOf val) = val := by have := be_back val; rw [hl] at this; exact this
    have hres : (.tuple #[.slice (some ⟨f2 0, 0, none⟩) 2 2, .nilIface] : Value) = .tuple #[.slice (some ⟨f2 0, 0, none⟩) val.length 2, .nilIface] := by rw [hl]
    exact To.ret [] (.tuple #[.slice (some ⟨f2 0, 0, none⟩) 2 2, .nilIface]) (by kernel_rfl) (by kernel_rfl) fun w9 hw9 => ⟨_, rfl, hw9.ext, ⟨f2 0, 0, none⟩, 2, hres, bytesOfZ (rest := []) (e := 5) (z := (0, 0)) (by
      have h := hw9.blk (j := 2) (b := f2 0) (o := .cells ⟨ucells (Lib.beBytes 2 (numOf val)) ++ []⟩ 5 (0, 0)) (q := true) (by kernel_rfl)
      rw [hbe] at h
      exact h), by omega, Nat.le_trans hwi2 (Nat.le_trans hx2.size (l2 0))⟩
  · refine calls_of0 (args := [xPort, .slice a val.length ca]) Tryz.func355 rfl rfl rfl ?_
    refine To.runF 11 [0] (fun _ _ => by kernel_rfl) fun f1 g1 l1 => ?_
    refine To.callN 129 #[.slice a val.length ca] (by kernel_rfl) (fun _ => by kernel_rfl) (fun w2 hw2 => portBtS2 val a ca w2 (ht.later hw2.ext) (hin.later hw2.ext) hl) (fun w2 v2 w3 hw2 hx2 hv2 hnew2 hwi2 => ?_)
    subst hv2
    refine To.runF 5 [] (fun _ _ => by kernel_rfl) fun f2 g2 l2 => ?_
    exact To.ret [] (.tuple #[.string ⟨⟨Lib.decDigits (numOf val)⟩⟩, .nilIface]) (by kernel_rfl) (by kernel_rfl) fun w4 hw4 => ⟨_, rfl, hw4.ext, _, rfl⟩
  · refine calls_of0 (args := [xPort, .slice a val.length ca]) Tryz.func357 rfl rfl rfl ?_
    refine To.runF 17 [0] (fun _ _ => by kernel_rfl) fun f1 g1 l1 => ?_
    exact To.ret [] .nilIface (by kernel_rfl) (by kernel_rfl) fun w4 hw4 => ⟨_, rfl, hw4.ext, rfl⟩
def xCidr : Value := .agg #[.func (.func 138) #[] #[], .func (.func 139) #[] #[], .func (.func 140) #[] #[]]
theorem trCidr (x : UInt8) : Tr1 xCidr [x] (Lib.decDigits x.toNat) := by
  have hn : x.toNat < 256 := x.toNat_lt
  refine ⟨fun w ht => ?_, fun w a ca ht hin hca => ?_, fun w a ca ht hin hca => ?_⟩
  · refine calls_of0 (args := [xCidr, .string ⟨⟨Lib.decDigits x.toNat⟩⟩]) Tryz.func356 rfl rfl rfl ?_
    refine To.runF 20 [0] (fun _ _ => by kernel_rfl) fun f1 g1 l1 => ?_
    refine To.callN 171 #[.string ⟨⟨Lib.decDigits x.toNat⟩⟩, .int .i64 10, .int .i64 8] (by kernel_rfl) (fun _ => by kernel_rfl) (fun w2 hw2 => parse8 x.toNat hn w2) (fun w2 v2 w3 hw2 hx2 hv2 hnew2 hwi2 => ?_)
    subst hv2
    refine To.runF 28 [] (fun _ _ => by kernel_rfl) fun f2 g2 l2 => ?_
    have hw8 : IntKind.u8.wrap (Int.ofNat x.toNat) = Int.ofNat x.toNat := IntWalk.u8_in _ ⟨by simp only [Int.ofNat_eq_natCast]; omega, by simp only [Int.ofNat_eq_natCast]; omega⟩
    exact To.ret [] (.tuple #[.slice (some ⟨f2 0, 0, none⟩) 1 1, .nilIface]) (by kernel_rfl) (by kernel_rfl) fun w9 hw9 => ⟨_, rfl, hw9.ext, ⟨f2 0, 0, none⟩, 1, rfl, bytesOfZ (l := [x]) (rest := []) (e := 5) (z := (0, 0)) (by
      have h := hw9.blk (j := 1) (b := f2 0) (o := .cells ⟨[.int .u8 (IntKind.u8.wrap (Int.ofNat x.toNat))]⟩ 5 (0, 0)) (q := true) (by kernel_rfl)
      rw [hw8] at h
      exact h), Nat.le_refl _, Nat.le_trans hwi2 (Nat.le_trans hx2.size (l2 0))⟩
  · refine calls_of0 (args := [xCidr, .slice a 1 ca]) Tryz.func355 rfl rfl rfl ?_
    refine To.runF 52 [0] (fun _ _ => by kernel_rfl) fun f1 g1 l1 => ?_
    obtain ⟨ad, ha, hc⟩ := hin.one 0 (Nat.lt_succ_self 0)
    refine To.indexAt elB a ad 1 ca 0 (by kernel_rfl) ha (by omega) ?_
    refine To.loadOne uU8 rfl (ad.add (0 * 1)) (.int .u8 (x.toNat : Int)) (by kernel_rfl) (fun w2 hw2 => hw2.ext.cell hc (by simp)) ?_
    refine To.runF 1 [] (fun _ _ => by kernel_rfl) fun f2 g2 l2 => ?_
    have hwx : IntKind.i64.wrap ((x.toNat : Nat) : Int) = Int.ofNat x.toNat := IntWalk.i64_in _ ⟨by omega, by omega⟩
    refine To.slotE 13 (.int .i64 (IntKind.i64.wrap ((x.toNat : Nat) : Int))) (.int .i64 (Int.ofNat x.toNat)) (by kernel_rfl) (by rw [hwx]) ?_
    refine To.callN 178 #[.int .i64 (Int.ofNat x.toNat)] (by kernel_rfl) (fun _ => by kernel_rfl) (fun w2 hw2 => itoa x.toNat w2 (ht.later hw2.ext) (by omega)) (fun w2 v2 w3 hw2 hx2 hv2 hnew2 hwi2 => ?_)
    subst hv2
    refine To.runF 9 [] (fun _ _ => by kernel_rfl) fun f3 g3 l3 => ?_
    exact To.ret [] (.tuple #[.string ⟨⟨Lib.itoa (Int.ofNat x.toNat)⟩⟩, .nilIface]) (by kernel_rfl) (by kernel_rfl) fun w4 hw4 => ⟨_, rfl, hw4.ext, _, rfl⟩
  · refine calls_of0 (args := [xCidr, .slice a 1 ca]) Tryz.func357 rfl rfl rfl ?_
    refine To.runF 40 [0, 0] (fun _ _ => by kernel_rfl) fun f1 g1 l1 => ?_
    exact To.ret [] .nilIface (by kernel_rfl) (by kernel_rfl) fun w4 hw4 => ⟨_, rfl, hw4.ext, rfl⟩
end Go.Proofs.YtgodhbgnhapemaaGreatDoor
