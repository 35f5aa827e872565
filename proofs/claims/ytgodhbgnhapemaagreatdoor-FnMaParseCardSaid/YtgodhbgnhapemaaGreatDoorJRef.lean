/- The reference's text and bytes of a simple address. Conditions: a simple address. -/
import Derived.Test.YtgodhbgnhapemaaGreatDoorJDig
import Derived.Test.YtgodhbgnhapemaaGreatDoorJPieces
set_option linter.unusedVariables false
set_option linter.unusedSimpArgs false
/- The reference's text of a value, and of an address. Conditions: a simple one. -/
namespace Go.Proofs.YtgodhbgnhapemaaGreatDoor
open Go Go.SX Go.IpText
set_option maxHeartbeats 8000000
set_option maxRecDepth 100000
theorem simple_le {c : Int} {val : List UInt8} (h : SimpleP c val) (hs : 0 < szOf c) (h41 : c ≠ 41) : val.length ≤ 8 := by
  obtain ⟨h1, h2, h3⟩ := h.simple.fixed (by omega)
  have : ∀ p ∈ specSizes, 0 < p.2 → p.1 ≠ 41 → p.1 ≠ 444 → p.1 ≠ 445 → (p.2 / 8).toNat ≤ 8 := by decide
  rw [h1]
  exact this _ h.simple.mem hs h41 h2 h3
theorem maValue (c : Int) (val : List UInt8) (va : Option Addr) (cv : Nat) (w : World) (hin : BytesIn w va val) (hcv : val.length ≤ cv) (h : SimpleP c val) :
    Calls Tryz.prog 17 #[.agg #[.int .i64 c, .slice va val.length cv]] w (fun e w1 => ∃ v, e = .returned v ∧ Ext [] w w1 ∧ v = .string ⟨⟨valText c val⟩⟩) := by
  refine calls_of0 (args := [.agg #[.int .i64 c, .slice va val.length cv]]) Tryz.func17 rfl rfl rfl ?_
  refine To.runF 9 [0] (fun _ _ => by kernel_rfl) fun f1 g1 l1 => ?_
  refine To.callN 16 #[.int .i64 c] (by kernel_rfl) (fun _ => by kernel_rfl) (fun w2 hw2 => maProtocol c (szOf c) h.simple.mem w2) (fun w2 v2 w3 hw2 hx2 hv2 hnew2 hwi2 => ?_)
  subst hv2
  refine To.runF 16 [1, 1, 1, 1, 1, 1] (fun _ _ => by kernel_rfl) fun f2 g2 l2 => ?_
  by_cases h0 : szOf c = 0
  · refine To.testT (szOf c == 0) (by kernel_rfl) (by rw [h0]; rfl) ?_
    refine To.runF 4 [] (fun _ _ => by kernel_rfl) fun f3 g3 l3 => ?_
    exact To.ret [] (.string ⟨⟨[]⟩⟩) (by kernel_rfl) (by kernel_rfl) fun w4 hw4 => ⟨_, rfl, hw4.ext, by unfold valText; rw [if_pos h0]⟩
  refine To.testF (szOf c == 0) (by kernel_rfl) (beq_eq_false_iff_ne.2 h0) ?_
  refine To.runF 7 [0] (fun _ _ => by kernel_rfl) fun f3 g3 l3 => ?_
  by_cases h4 : c = 4
  · have hl : val.length = 4 := by have := (h.simple.fixed (by rw [h4]; decide)).1; rw [h4] at this; exact this
    refine To.testT (c == 4) (by kernel_rfl) (by rw [h4]; rfl) ?_
    refine To.runF 4 [0] (fun _ _ => by kernel_rfl) fun f4 g4 l4 => ?_
    refine To.callN 28 #[.slice va val.length cv] (by kernel_rfl) (fun _ => by kernel_rfl) (fun w2 hw2 => maFour val va cv w2 (hin.later hw2.ext) hl) (fun w2 v2 w3 hw2 hx2 hv2 hnew2 hwi2 => ?_)
    subst hv2
    refine To.runF 2 [] (fun _ _ => by kernel_rfl) fun f5 g5 l5 => ?_
    exact To.ret [] (.string ⟨⟨fourText val⟩⟩) (by kernel_rfl) (by kernel_rfl) fun w4 hw4 => ⟨_, rfl, hw4.ext, by unfold valText; rw [if_neg h0, if_pos h4]⟩
  refine To.testF (c == 4) (by kernel_rfl) (beq_eq_false_iff_ne.2 h4) ?_
  refine To.runF 7 [0] (fun _ _ => by kernel_rfl) fun f4 g4 l4 => ?_
  by_cases h41 : c = 41
  · have hl : val.length = 16 := by have := (h.simple.fixed (by rw [h41]; decide)).1; rw [h41] at this; exact this
    refine To.testT (c == 41) (by kernel_rfl) (by rw [h41]; rfl) ?_
    refine To.runF 4 [0] (fun _ _ => by kernel_rfl) fun f5 g5 l5 => ?_
    refine To.callN 29 #[.slice va val.length cv] (by kernel_rfl) (fun _ => by kernel_rfl) (fun w2 hw2 => maSix val va cv w2 (hin.later hw2.ext) hl hcv) (fun w2 v2 w3 hw2 hx2 hv2 hnew2 hwi2 => ?_)
    subst hv2
    refine To.runF 2 [] (fun _ _ => by kernel_rfl) fun f6 g6 l6 => ?_
    exact To.ret [] (.string ⟨⟨sixOf val⟩⟩) (by kernel_rfl) (by kernel_rfl) fun w4 hw4 => ⟨_, rfl, hw4.ext, by unfold valText; rw [if_neg h0, if_neg h4, if_pos h41]⟩
  refine To.testF (c == 41) (by kernel_rfl) (beq_eq_false_iff_ne.2 h41) ?_
  refine To.runF 7 [1] (fun _ _ => by kernel_rfl) fun f5 g5 l5 => ?_
  by_cases hs : 0 < szOf c
  · have hl : val.length ≤ 8 := simple_le h hs h41
    refine To.testT (decide (szOf c > 0)) (by kernel_rfl) (decide_eq_true hs) ?_
    refine To.runF 4 [0] (fun _ _ => by kernel_rfl) fun f6 g6 l6 => ?_
    refine To.callN 31 #[.slice va val.length cv] (by kernel_rfl) (fun _ => by kernel_rfl) (fun w2 hw2 => maNumber val va cv w2 (hin.later hw2.ext) hl) (fun w2 v2 w3 hw2 hx2 hv2 hnew2 hwi2 => ?_)
    subst hv2
    refine To.callN 30 #[.int .u64 (Int.ofNat (numOf val))] (by kernel_rfl) (fun _ => by kernel_rfl) (fun w2 hw2 => maDigits (numOf val) w2 (numOf_le hl)) (fun w2 v2 w3 hw2 hx2 hv2 hnew2 hwi2 => ?_)
    subst hv2
    refine To.runF 2 [] (fun _ _ => by kernel_rfl) fun f7 g7 l7 => ?_
    exact To.ret [] (.string ⟨⟨Lib.decDigits (numOf val)⟩⟩) (by kernel_rfl) (by kernel_rfl) fun w4 hw4 => ⟨_, rfl, hw4.ext, by unfold valText; rw [if_neg h0, if_neg h4, if_neg h41, if_pos hs]⟩
  refine To.testF (decide (szOf c > 0)) (by kernel_rfl) (decide_eq_false hs) ?_
  refine To.runF 6 [0] (fun _ _ => by kernel_rfl) fun f6 g6 l6 => ?_
  refine To.textOf (src := 28) (dst := 9) (e := 5) va val.length cv val rfl uBytes uString uU8 (by kernel_rfl) (fun w8 hw8 j u hj => (hin.later hw8.ext).at_ j u hj) hin.none ?_
  refine To.runF 2 [] (fun _ _ => by kernel_rfl) fun f7 g7 l7 => ?_
  exact To.ret [] (.string ⟨⟨val⟩⟩) (by kernel_rfl) (by kernel_rfl) fun w4 hw4 => ⟨_, rfl, hw4.ext, by unfold valText; rw [if_neg h0, if_neg h4, if_neg h41, if_neg hs]⟩
end Go.Proofs.YtgodhbgnhapemaaGreatDoor
/- The reference's text of a simple address. Conditions: a simple one, its values are not too long. -/
namespace Go.Proofs.YtgodhbgnhapemaaGreatDoor
open Go Go.SX Go.IpText
set_option maxHeartbeats 8000000
set_option maxRecDepth 100000
/-- A slice holds these components, and no value's capacity is less than its length. -/
structure CompsC (w : World) (a : Option Addr) (l : Comps) : Prop where
  at_ : ∀ (j : Nat) (c : Int) (val : List UInt8), l[j]? = some (c, val) → ∃ ad va cv, a = some ad ∧ ad.spot = none ∧ w.cell? (ad.add (j * 2)) = some (.int .i64 c) ∧ w.cell? (ad.add (j * 2 + 1)) = some (.slice va val.length cv) ∧ BytesIn w va val ∧ val.length ≤ cv
theorem CompsC.later {w w' : World} {a : Option Addr} {l : Comps} (h : CompsC w a l) (hx : Ext [] w w') : CompsC w' a l :=
  ⟨fun j c val hj => let ⟨ad, va, cv, h1, h2, h3, h4, h5, h6⟩ := h.at_ j c val hj; ⟨ad, va, cv, h1, h2, hx.cell h3 (by simp), hx.cell h4 (by simp), h5.later hx, h6⟩⟩
theorem CompsC.toIn {w : World} {a : Option Addr} {l : Comps} (h : CompsC w a l) : CompsIn w a l :=
  ⟨fun j c val hj => let ⟨ad, va, cv, h1, h2, h3, h4, h5, _⟩ := h.at_ j c val hj; ⟨ad, va, cv, h1, h2, h3, h4, h5⟩⟩
theorem textOf_snoc (l : Comps) (p : Int × List UInt8) : textOf (l ++ [p]) = textOf l ++ compText p := by simp [textOf]
theorem sixGo_len (g : Nat → Nat) (hg : ∀ i, g i ≤ 65535) (fr tu : Nat) : ∀ n i (s : List UInt8), (sixGo g fr tu n i s).length ≤ s.length + 6 * n
  | 0, i, s => Nat.le_refl _
  | n + 1, i, s => by
    rw [sixGo]
    have h4 : ∀ j, (hexOf (g j)).length ≤ 4 := fun j => hexOf4 (hg j)
    split
    · split
      · split
        · simp only [List.length_append, List.length_cons, List.length_nil]; omega
        · have := sixGo_len g hg fr tu n (tu + 1) (s ++ [58, 58] ++ hexOf (g tu))
          have := h4 tu
          simp only [List.length_append, List.length_cons, List.length_nil] at *
          omega
      · have h1 := sixGo_len g hg fr tu n (i + 1) ((if 0 < i then s ++ [58] else s) ++ hexOf (g i))
        have h2 := h4 i
        have h3 : (if 0 < i then s ++ [58] else s).length ≤ s.length + 1 := by split <;> simp
        rw [List.length_append] at h1
        omega
    · omega
theorem valText_len {c : Int} {val : List UInt8} (h : SimpleP c val) (hv : val.length ≤ 2147483647) : (valText c val).length ≤ 2147483747 := by
  unfold valText
  split
  · simp
  · split
    · have := fourText_len val; omega
    · split
      · unfold sixOf
        split
        · have := fourText_len (val.drop 12)
          rw [List.length_append]; simp only [List.length_cons, List.length_nil]; omega
        · rename_i e41 _
          have hl := (h.simple.fixed (by rw [e41]; decide)).1
          rw [e41] at hl
          have hl : val.length = 16 := hl
          unfold ipText
          rw [if_neg (by omega)]
          have := sixGo_len (groupOf val) (groupOf_le val) (runOf (groupOf val)).1 (runOf (groupOf val)).2 9 0 []
          unfold sixText
          simp only [List.length_nil] at this
          omega
      · rename_i h41
        split
        · rename_i hs
          have hl := simple_le h hs h41
          rw [Lib.decDigits_length]
          have hn := numOf_le hl
          by_cases h0 : 1 ≤ numOf val
          · have := Lib.numDigits_eq (numOf val) h0 hn; split at this <;> omega
          · rw [Lib.nDigits_small (by omega)]; omega
        · omega
theorem nameOf_len {c : Int} (h : (c, szOf c) ∈ specSizes) : (nameOf c).length ≤ 20 := by
  have : ∀ p ∈ specSizes, (nameOf p.1).length ≤ 20 := by decide
  exact this _ h
theorem maText (l : Comps) (a : Option Addr) (cap : Nat) (w : World) (hin : CompsC w a l) (hs : SimpleA l) (hl : l.length ≤ 12) (hv : ∀ p ∈ l, p.2.length ≤ 2147483647) :
    Calls Tryz.prog 8 #[.slice a l.length cap] w (fun e w1 => ∃ v, e = .returned v ∧ Ext [] w w1 ∧ v = .string ⟨⟨textOf l⟩⟩) := by
  refine calls_of0 (args := [.slice a l.length cap]) Tryz.func8 rfl rfl rfl ?_
  refine To.runF 16 [] (fun _ _ => by kernel_rfl) fun f1 g1 l1 => ?_
  refine To.loop (fun k : Nat => l.length - k) (fun k => ([(3, .string ⟨⟨textOf (l.take k)⟩⟩), (8, .slice a l.length cap), (9, .int .i64 (Int.ofNat l.length)), (10, .int .i64 (Int.ofNat k))], [])) (fun k _ => k ≤ l.length ∧ (textOf (l.take k)).length ≤ 3000000000 * k) 0 [] (by kernel_rfl) (by kernel_rfl) (by kernel_rfl) rfl (fun _ _ => ⟨Nat.zero_le _, Nat.le_refl _⟩) ?_
  rintro k w1 ⟨hk, htl⟩ hx1 back
  refine To.runF 5 [] (fun _ _ => by kernel_rfl) fun f2 g2 l2 => ?_
  by_cases hlt : k < l.length
  · obtain ⟨p, hp⟩ : ∃ p, l[k]? = some p := ⟨l[k], by simp [hlt]⟩
    obtain ⟨ad, va, cv, ha, hsp, hc0, hc1, hb, hcv⟩ := hin.at_ k p.1 p.2 hp
    have hpm := List.mem_of_getElem? hp
    have hps := hs.all p hpm
    refine To.testT (decide (Int.ofNat k < Int.ofNat l.length)) (by kernel_rfl) (decide_eq_true (Int.ofNat_lt.2 hlt)) ?_
    refine To.runF 5 [] (fun _ _ => by kernel_rfl) fun f3 g3 l3 => ?_
    refine To.indexAt elC a ad l.length cap k (by kernel_rfl) ha hlt ?_
    refine To.loadAgg (t := 34) (by kernel_rfl) 2 (by kernel_rfl) (ad.add (k * 2)) [.int .i64 p.1, .slice va p.2.length cv] rfl (by kernel_rfl) (fun w2 hw2 j v hj => by
      rw [add_add hsp]
      rcases j with _ | _ | j
      · cases hj; exact hw2.ext.cell hc0 (by simp)
      · cases hj; exact hw2.ext.cell hc1 (by simp)
      · cases hj) ?_
    refine To.runF 7 [0, 0, 0] (fun _ _ => by kernel_rfl) fun f4 g4 l4 => ?_
    refine To.callN 16 #[.int .i64 p.1] (by kernel_rfl) (fun _ => by kernel_rfl) (fun w2 hw2 => maProtocol p.1 (szOf p.1) hps.simple.mem w2) (fun w2 v2 w3 hw2 hx2 hv2 hnew2 hwi2 => ?_)
    subst hv2
    refine To.runF 12 [1, 1, 1, 1, 1, 1] (fun _ _ => by kernel_rfl) fun f5 g5 l5 => ?_
    have hnl := nameOf_len hps.simple.mem
    have hk12 : (textOf (l.take k)).length ≤ 36000000000 := by omega
    refine To.addText (t := 9) ([47] : List UInt8) (nameOf p.1) ⟨⟨([47] : List UInt8)⟩⟩ ⟨⟨nameOf p.1⟩⟩ rfl rfl (by kernel_rfl) (by simp only [List.length_cons, List.length_nil]; omega) ?_
    refine To.addText (t := 9) (textOf (l.take k)) (([47] : List UInt8) ++ nameOf p.1) ⟨⟨textOf (l.take k)⟩⟩ ⟨⟨([47] : List UInt8) ++ nameOf p.1⟩⟩ rfl rfl (by kernel_rfl) (by simp only [List.length_append, List.length_cons, List.length_nil]; omega) ?_
    refine To.runF 9 [1] (fun _ _ => by kernel_rfl) fun f6 g6 l6 => ?_
    obtain ⟨A, hA⟩ : ∃ A : List UInt8, A = textOf (l.take k) ++ (([47] : List UInt8) ++ nameOf p.1) := ⟨_, rfl⟩
    have hAl : A.length ≤ (textOf (l.take k)).length + 21 := by rw [hA]; simp only [List.length_append, List.length_cons, List.length_nil]; omega
    obtain ⟨B, hB⟩ : ∃ B : List UInt8, B = A ++ (if szOf p.1 ≠ 0 ∧ p.1 ≠ 400 then [47] else []) := ⟨_, rfl⟩
    have hBl : B.length ≤ (textOf (l.take k)).length + 22 := by rw [hB, List.length_append]; split <;> simp only [List.length_cons, List.length_nil] <;> omega
    rw [← hA]
    refine To.meet 2 (ι := Unit) (fun _ => ([(3, .string ⟨⟨B⟩⟩), (5, .pointer (some ⟨f4 0, 0, none⟩)), (8, .slice a l.length cap), (9, .int .i64 (Int.ofNat l.length)), (10, .int .i64 (Int.ofNat k))], [some ⟨f4 0, .cells ⟨[.int .i64 p.1, .slice va p.2.length cv]⟩ 34 (0, 0), true⟩])) (fun _ _ => True) (fun join => ?_) (fun _ w8 _ hx8 => ?_)
    · by_cases h0 : szOf p.1 = 0
      · refine To.slotF 28 (szOf p.1 != 0) (by kernel_rfl) (by rw [h0]; rfl) ?_
        refine To.runF 7 [] (fun _ _ => by kernel_rfl) fun f7 g7 l7 => ?_
        refine To.slotE 3 (.string ⟨⟨A⟩⟩) (.string ⟨⟨B⟩⟩) (by kernel_rfl) (by rw [hB, if_neg (fun h => h.1 h0), List.append_nil]) ?_
        exact join _ _ () [0] ⟨by kernel_rfl, by kernel_rfl, by kernel_rfl, by kernel_rfl, by kernel_rfl, rfl⟩ (fun _ _ => trivial)
      · refine To.slotT 28 (szOf p.1 != 0) (by kernel_rfl) (bne_iff_ne.2 h0) ?_
        refine To.runF 5 [1] (fun _ _ => by kernel_rfl) fun f7 g7 l7 => ?_
        by_cases h4 : p.1 = 400
        · refine To.testF (!p.1 == 400) (by kernel_rfl) (by rw [h4]; rfl) ?_
          refine To.runF 1 [] (fun _ _ => by kernel_rfl) fun f8 g8 l8 => ?_
          refine To.slotE 3 (.string ⟨⟨A⟩⟩) (.string ⟨⟨B⟩⟩) (by kernel_rfl) (by rw [hB, if_neg (fun h => h.2 h4), List.append_nil]) ?_
          exact join _ _ () [0] ⟨by kernel_rfl, by kernel_rfl, by kernel_rfl, by kernel_rfl, by kernel_rfl, rfl⟩ (fun _ _ => trivial)
        · refine To.testT (!p.1 == 400) (by kernel_rfl) (by rw [beq_eq_false_iff_ne.2 h4]; rfl) ?_
          refine To.runF 2 [] (fun _ _ => by kernel_rfl) fun f8 g8 l8 => ?_
          refine To.addText (t := 9) A ([47] : List UInt8) ⟨⟨A⟩⟩ ⟨⟨([47] : List UInt8)⟩⟩ rfl rfl (by kernel_rfl) (by simp only [List.length_cons, List.length_nil]; omega) ?_
          refine To.runF 2 [] (fun _ _ => by kernel_rfl) fun f9 g9 l9 => ?_
          refine To.slotE 3 (.string ⟨⟨A ++ ([47] : List UInt8)⟩⟩) (.string ⟨⟨B⟩⟩) (by kernel_rfl) (by rw [hB, if_pos ⟨h0, h4⟩]) ?_
          exact join _ _ () [0] ⟨by kernel_rfl, by kernel_rfl, by kernel_rfl, by kernel_rfl, by kernel_rfl, rfl⟩ (fun _ _ => trivial)
    refine To.runF 3 [0, 0] (fun _ _ => by kernel_rfl) fun f7 g7 l7 => ?_
    refine To.callN 17 #[.agg #[.int .i64 p.1, .slice va p.2.length cv]] (by kernel_rfl) (fun _ => by kernel_rfl) (fun w2 hw2 => maValue p.1 p.2 va cv w2 (hb.later hw2.ext) hcv hps) (fun w2 v2 w3 hw2 hx2 hv2 hnew2 hwi2 => ?_)
    subst hv2
    have hvl := valText_len hps (hv p hpm)
    refine To.addText (t := 9) B (valText p.1 p.2) ⟨⟨B⟩⟩ ⟨⟨valText p.1 p.2⟩⟩ rfl rfl (by kernel_rfl) (by omega) ?_
    refine To.runF 7 [] (fun _ _ => by kernel_rfl) fun f8 g8 l8 => ?_
    have htk : textOf (l.take (k + 1)) = B ++ valText p.1 p.2 := by
      rw [List.take_add_one, hp]
      show textOf (l.take k ++ [p]) = _
      rw [textOf_snoc, hB, hA]
      unfold compText
      simp only [List.append_assoc, List.cons_append, List.nil_append]
    refine To.slotE 10 (.int .i64 (IntKind.i64.wrap (Int.ofNat k + 1))) (.int .i64 (Int.ofNat (k + 1))) (by kernel_rfl) (by rw [wrap_succ k (by omega)]) ?_
    refine To.slotE 3 (.string ⟨⟨B ++ valText p.1 p.2⟩⟩) (.string ⟨⟨textOf (l.take (k + 1))⟩⟩) (by kernel_rfl) (by rw [htk]) ?_
    exact back _ _ (k + 1) [] (by omega) ⟨by kernel_rfl, by kernel_rfl, by kernel_rfl, by kernel_rfl, by kernel_rfl, rfl⟩ (fun w7 hw7 => ⟨hlt, by rw [htk, List.length_append]; omega⟩)
  · have hk1 : k = l.length := by omega
    subst hk1
    refine To.testF (decide (Int.ofNat l.length < Int.ofNat l.length)) (by kernel_rfl) (by simp) ?_
    refine To.runF 6 [] (fun _ _ => by kernel_rfl) fun f3 g3 l3 => ?_
    exact To.ret [] (.string ⟨⟨textOf (l.take l.length)⟩⟩) (by kernel_rfl) (by kernel_rfl) fun w4 hw4 => ⟨_, rfl, hw4.ext, by rw [List.take_length]⟩
end Go.Proofs.YtgodhbgnhapemaaGreatDoor
/- The reference's varint, and the bytes of an address. Conditions: as each says. -/
namespace Go.Proofs.YtgodhbgnhapemaaGreatDoor
open Go Go.SX Go.IpText
set_option maxHeartbeats 8000000
set_option maxRecDepth 100000
/-- One cell each. -/
def ones (l : List UInt8) : List (List Value) := l.map fun u => [.int .u8 (u.toNat : Int)]
theorem ones_flat (l : List UInt8) : (ones l).flatten = ucells l := by
  unfold ones ucells
  induction l with
  | nil => rfl
  | cons x l ih => simp only [List.map_cons, List.flatten_cons, ih]; rfl
theorem maVarint (n : Nat) (w : World) (hn : n < 18446744073709551616) :
    Calls Tryz.prog 20 #[.int .u64 (Int.ofNat n)] w (fun e w1 => ∃ v, e = .returned v ∧ Ext [] w w1 ∧ ∃ g c rest, v = .slice (some ⟨g, 0, none⟩) (Lib.uvarint n).length c ∧ w1.heap[g]? = some (.cells ⟨ucells (Lib.uvarint n) ++ rest⟩ 5 (0, 0)) ∧ w.heap.size ≤ g) := by
  refine calls_of0 (args := [.int .u64 (Int.ofNat n)]) Tryz.func20 rfl rfl rfl ?_
  refine To.runF 10 [] (fun _ _ => by kernel_rfl) fun f1 g1 l1 => ?_
  refine To.loop (ι := Nat × OR × List UInt8) (fun i => i.1) (fun i => ([(0, .int .u64 (Int.ofNat i.1)), (3, .slice i.2.1.a i.2.1.n i.2.1.c)], [i.2.1.ob])) (fun i w1 => ORow 1 5 i.2.1.a i.2.1.n i.2.1.c i.2.1.ob i.2.1.css ∧ i.1 < 18446744073709551616 ∧ i.2.1.css = ones i.2.2 ∧ Lib.uvarint n = i.2.2 ++ Lib.uvarint i.1 ∧ ∀ g, i.2.1.a = some ⟨g, 0, none⟩ → w.heap.size ≤ g) (n, ⟨none, 0, 0, none, []⟩, []) [9] (by kernel_rfl) (by kernel_rfl) (by kernel_rfl) rfl (fun _ _ => ⟨ORow.nil _ _, hn, rfl, rfl, fun g h => by cases h⟩) ?_
  rintro ⟨m, ⟨oa, on, oc, oob, css⟩, pre⟩ w1 ⟨hO, hm, hcss, huv, hog⟩ hx1 back
  have hO : ORow 1 5 oa on oc oob css := hO
  have hm : m < 18446744073709551616 := hm
  have hcss : css = ones pre := hcss
  have huv : Lib.uvarint n = pre ++ Lib.uvarint m := huv
  have hog : ∀ g, oa = some ⟨g, 0, none⟩ → w.heap.size ≤ g := hog
  refine To.runF 6 [] (fun _ _ => by kernel_rfl) fun f2 g2 l2 => ?_
  by_cases h128 : 128 ≤ m
  · refine To.testT (decide (Int.ofNat m ≥ 128)) (by kernel_rfl) (decide_eq_true (by simp only [Int.ofNat_eq_natCast]; omega)) ?_
    refine To.runF 10 [] (fun _ _ => by kernel_rfl) fun f3 g3 l3 => ?_
    have hul : (Lib.uvarint n).length ≤ 10 := Lib.uvarint_length64 hn
    have hon : on = pre.length := by rw [← hO.len, hcss]; simp [ones]
    have hpl : pre.length ≤ 10 := by rw [huv, List.length_append] at hul; omega
    refine To.appendAny (ty := 28) elB 0 oa on oc oob css hO ⟨f3 0, 0, none⟩ 1 [.int .u8 (IntKind.u8.wrap (IntKind.u8.wrap (Int.tmod (Int.ofNat m) 128) + 128))] (on + 1) (by kernel_rfl) (by kernel_rfl) rfl rfl
      (fun w8 hw8 j u hj => hw8.cellAt0 (j := 1) (b := f3 0) (l := [.int .u8 (IntKind.u8.wrap (IntKind.u8.wrap (Int.tmod (Int.ofNat m) 128) + 128))]) (e := 5) (f := (0, 0)) (q := true) (by kernel_rfl) hj)
      (fun u hu => by simp only [List.mem_singleton] at hu; rw [hu]; rfl) (by simp only [maxLen]; omega) (by omega) (held_nilO (by kernel_rfl)) ?_
    intro w8 g' c' rest' hfr ho' hO'
    refine To.runF 8 [] (fun _ _ => by kernel_rfl) fun f4 g4 l4 => ?_
    have hd : IntKind.u64.wrap (Int.tdiv (Int.ofNat m) 128) = Int.ofNat (m / 128) := by
      show IntKind.u64.wrap (Int.ofNat (m / 128)) = _
      exact IntWalk.u64_in _ ⟨by simp only [Int.ofNat_eq_natCast]; omega, by simp only [Int.ofNat_eq_natCast]; omega⟩
    have hby : IntKind.u8.wrap (IntKind.u8.wrap (Int.tmod (Int.ofNat m) 128) + 128) = (((m % 128 + 128).toUInt8).toNat : Int) := by
      show IntKind.u8.wrap (IntKind.u8.wrap (Int.ofNat (m % 128)) + 128) = _
      rw [IntWalk.u8_in (Int.ofNat (m % 128)) ⟨by simp only [Int.ofNat_eq_natCast]; omega, by simp only [Int.ofNat_eq_natCast]; omega⟩, IntWalk.u8_in _ ⟨by simp only [Int.ofNat_eq_natCast]; omega, by simp only [Int.ofNat_eq_natCast]; omega⟩]
      have : ((m % 128 + 128).toUInt8).toNat = m % 128 + 128 := by simp [Nat.toUInt8, UInt8.toNat_ofNat']; omega
      rw [this]; simp only [Int.ofNat_eq_natCast]; omega
    refine To.slotE 0 (.int .u64 (IntKind.u64.wrap (Int.tdiv (Int.ofNat m) 128))) (.int .u64 (Int.ofNat (m / 128))) (by kernel_rfl) (by rw [hd]) ?_
    exact back _ _ (m / 128, ⟨some ⟨g', 0, none⟩, on + 1, c', some ⟨g', .cells ⟨(css ++ [[Value.int .u8 (IntKind.u8.wrap (IntKind.u8.wrap (Int.tmod (Int.ofNat m) 128) + 128))]]).flatten ++ rest'⟩ 5 (0, 0), true⟩, css ++ [[Value.int .u8 (IntKind.u8.wrap (IntKind.u8.wrap (Int.tmod (Int.ofNat m) 128) + 128))]]⟩, pre ++ [(m % 128 + 128).toUInt8]) [2] (by simp only; omega) ⟨by kernel_rfl, by kernel_rfl, by kernel_rfl, by kernel_rfl, by kernel_rfl, rfl⟩ (fun w7 hw7 => ⟨hO', by simp only; omega, by
      simp only
      rw [hcss, hby]; simp [ones], by
      simp only
      rw [huv, Lib.uvarint_big h128, List.append_assoc]; rfl, fun g hg => by
      cases hg
      rcases ho' with h | h
      · exact hog _ h
      · exact Nat.le_trans hx1.size h⟩)
  · refine To.testF (decide (Int.ofNat m ≥ 128)) (by kernel_rfl) (decide_eq_false (by simp only [Int.ofNat_eq_natCast]; omega)) ?_
    refine To.runF 7 [] (fun _ _ => by kernel_rfl) fun f3 g3 l3 => ?_
    have hul : (Lib.uvarint n).length ≤ 10 := Lib.uvarint_length64 hn
    have hon : on = pre.length := by rw [← hO.len, hcss]; simp [ones]
    have hpl : pre.length ≤ 10 := by rw [huv, List.length_append] at hul; omega
    refine To.appendAny (ty := 28) elB 0 oa on oc oob css hO ⟨f3 0, 0, none⟩ 1 [.int .u8 (IntKind.u8.wrap (Int.ofNat m))] (on + 1) (by kernel_rfl) (by kernel_rfl) rfl rfl
      (fun w8 hw8 j u hj => hw8.cellAt0 (j := 1) (b := f3 0) (l := [.int .u8 (IntKind.u8.wrap (Int.ofNat m))]) (e := 5) (f := (0, 0)) (q := true) (by kernel_rfl) hj)
      (fun u hu => by simp only [List.mem_singleton] at hu; rw [hu]; rfl) (by simp only [maxLen]; omega) (by omega) (held_nilO (by kernel_rfl)) ?_
    intro w8 g' c' rest' hfr ho' hO'
    refine To.runF 2 [] (fun _ _ => by kernel_rfl) fun f4 g4 l4 => ?_
    have hby : IntKind.u8.wrap (Int.ofNat m) = ((m.toUInt8).toNat : Int) := by
      rw [IntWalk.u8_in (Int.ofNat m) ⟨by simp only [Int.ofNat_eq_natCast]; omega, by simp only [Int.ofNat_eq_natCast]; omega⟩]
      have : (m.toUInt8).toNat = m := by simp [Nat.toUInt8, UInt8.toNat_ofNat']; omega
      rw [this]; rfl
    have hall : (css ++ [[Value.int .u8 (IntKind.u8.wrap (Int.ofNat m))]]).flatten = ucells (Lib.uvarint n) := by
      rw [hcss, hby, huv, Lib.uvarint_small (by omega), ← ones_flat]; simp [ones]
    have hlen : on + 1 = (Lib.uvarint n).length := by rw [hon, huv, Lib.uvarint_small (by omega), List.length_append]; rfl
    exact To.ret [] (.slice (some ⟨g', 0, none⟩) (on + 1) c') (by kernel_rfl) (by kernel_rfl) fun w9 hw9 => ⟨_, rfl, hw9.ext, g', c', rest', by rw [hlen],
      by rw [← hall]; exact hw9.blk (j := 2) (b := g') (o := .cells ⟨(css ++ [[Value.int .u8 (IntKind.u8.wrap (Int.ofNat m))]]).flatten ++ rest'⟩ 5 (0, 0)) (q := true) (by kernel_rfl), by
      rcases ho' with h | h
      · exact hog _ h
      · exact Nat.le_trans hx1.size h⟩
/-- The bytes of a component, and of an address. -/
def compBytes (p : Int × List UInt8) : List UInt8 := Lib.uvarint p.1.toNat ++ ((if szOf p.1 < 0 then Lib.uvarint p.2.length else []) ++ p.2)
def bytesA (l : Comps) : List UInt8 := (l.map compBytes).flatten
theorem bytesA_snoc (l : Comps) (p : Int × List UInt8) : bytesA (l ++ [p]) = bytesA l ++ compBytes p := by simp [bytesA]
theorem code_nat {c : Int} (h : (c, szOf c) ∈ specSizes) : c = Int.ofNat c.toNat ∧ c.toNat ≤ 7367777 := by
  have : ∀ p ∈ specSizes, p.1 = Int.ofNat p.1.toNat ∧ p.1.toNat ≤ 7367777 := by decide
  exact this _ h
theorem bytesA_len (l : Comps) (hv : ∀ p ∈ l, p.2.length ≤ 2147483647) (hc : ∀ p ∈ l, (Lib.uvarint p.1.toNat).length ≤ 10) : (bytesA l).length ≤ 2147483700 * l.length := by
  induction l with
  | nil => simp [bytesA]
  | cons p l ih =>
    have h1 := ih (fun q hq => hv q (List.mem_cons_of_mem _ hq)) (fun q hq => hc q (List.mem_cons_of_mem _ hq))
    have h2 := hv p (List.mem_cons_self ..)
    have h3 : (Lib.uvarint p.2.length).length ≤ 10 := Lib.uvarint_length64 (by omega)
    have h4 : (compBytes p).length ≤ (Lib.uvarint p.1.toNat).length + 10 + p.2.length := by
      unfold compBytes
      rw [List.length_append, List.length_append]
      split
      · omega
      · simp only [List.length_nil]; omega
    have h5 : bytesA (p :: l) = compBytes p ++ bytesA l := by simp [bytesA]
    have h6 : (Lib.uvarint p.1.toNat).length ≤ 10 := hc p (List.mem_cons_self ..)
    rw [h5, List.length_append, List.length_cons]
    omega
theorem maBytes (l : Comps) (a : Option Addr) (cap : Nat) (w : World) (hin : CompsC w a l) (hs : SimpleA l) (hl : l.length ≤ 12) (hv : ∀ p ∈ l, p.2.length ≤ 2147483647) :
    Calls Tryz.prog 11 #[.slice a l.length cap] w (fun e w1 => ∃ v, e = .returned v ∧ Ext [] w w1 ∧ ∃ g c rest, v = .slice (some ⟨g, 0, none⟩) (bytesA l).length c ∧ w1.heap[g]? = some (.cells ⟨ucells (bytesA l) ++ rest⟩ 5 (0, 0)) ∧ w.heap.size ≤ g) := by
  refine calls_of0 (args := [.slice a l.length cap]) Tryz.func11 rfl rfl rfl ?_
  refine To.runF 17 [] (fun _ _ => by kernel_rfl) fun f1 g1 l1 => ?_
  refine To.loop (ι := Nat × Nat × Nat × List Value) (fun i => l.length - i.1) (fun i => ([(3, .slice (some ⟨i.2.1, 0, none⟩) (bytesA (l.take i.1)).length i.2.2.1), (9, .slice a l.length cap), (10, .int .i64 (Int.ofNat l.length)), (11, .int .i64 (Int.ofNat i.1))], [some ⟨i.2.1, .cells ⟨ucells (bytesA (l.take i.1)) ++ i.2.2.2⟩ 5 (0, 0), true⟩])) (fun i w1 => i.1 ≤ l.length ∧ (ucells (bytesA (l.take i.1)) ++ i.2.2.2).length = i.2.2.1 * 1 ∧ (bytesA (l.take i.1)).length ≤ i.2.2.1 ∧ i.2.2.1 ≤ maxLen ∧ w.heap.size ≤ i.2.1) (0, f1 0, 0, []) [0] (by kernel_rfl) (by kernel_rfl) (by kernel_rfl) rfl (fun _ _ => ⟨Nat.zero_le _, rfl, Nat.le_refl _, Nat.zero_le _, l1 0⟩) ?_
  rintro ⟨k, g, c, rest⟩ w1 ⟨hk, hrl, hnc, hcm, hgw⟩ hx1 back
  have hk : k ≤ l.length := hk
  have hrl : (ucells (bytesA (l.take k)) ++ rest).length = c * 1 := hrl
  have hnc : (bytesA (l.take k)).length ≤ c := hnc
  have hcm : c ≤ maxLen := hcm
  have hgw : w.heap.size ≤ g := hgw
  refine To.runF 5 [] (fun _ _ => by kernel_rfl) fun f2 g2 l2 => ?_
  by_cases hlt : k < l.length
  · obtain ⟨p, hp⟩ : ∃ p, l[k]? = some p := ⟨l[k], by simp [hlt]⟩
    obtain ⟨ad, va, cv, ha, hsp, hc0, hc1, hb, hcv⟩ := hin.at_ k p.1 p.2 hp
    have hpm := List.mem_of_getElem? hp
    have hps := hs.all p hpm
    refine To.testT (decide (Int.ofNat k < Int.ofNat l.length)) (by kernel_rfl) (decide_eq_true (Int.ofNat_lt.2 hlt)) ?_
    refine To.runF 5 [] (fun _ _ => by kernel_rfl) fun f3 g3 l3 => ?_
    refine To.indexAt elC a ad l.length cap k (by kernel_rfl) ha hlt ?_
    refine To.loadAgg (t := 34) (by kernel_rfl) 2 (by kernel_rfl) (ad.add (k * 2)) [.int .i64 p.1, .slice va p.2.length cv] rfl (by kernel_rfl) (fun w2 hw2 j v hj => by
      rw [add_add hsp]
      rcases j with _ | _ | j
      · cases hj; exact hw2.ext.cell hc0 (by simp)
      · cases hj; exact hw2.ext.cell hc1 (by simp)
      · cases hj) ?_
    refine To.runF 7 [1, 1, 1] (fun _ _ => by kernel_rfl) fun f4 g4 l4 => ?_
    refine To.callN 16 #[.int .i64 p.1] (by kernel_rfl) (fun _ => by kernel_rfl) (fun w2 hw2 => maProtocol p.1 (szOf p.1) hps.simple.mem w2) (fun w2 v2 w3 hw2 hx2 hv2 hnew2 hwi2 => ?_)
    subst hv2
    refine To.runF 13 [2, 2, 2, 2, 2, 1] (fun _ _ => by kernel_rfl) fun f5 g5 l5 => ?_
    obtain ⟨hcn, hcl⟩ := code_nat hps.simple.mem
    have hcn2 : p.1 = (p.1.toNat : Int) := hcn
    have hwc : IntKind.u64.wrap p.1 = Int.ofNat p.1.toNat := by rw [IntWalk.u64_in _ ⟨by omega, by omega⟩]; exact hcn
    have hbl := bytesA_len (l.take k) (fun q hq => hv q (List.mem_of_mem_take hq)) (fun q hq => Lib.uvarint_length64 (by have := (code_nat (hs.all q (List.mem_of_mem_take hq)).simple.mem).2; omega))
    have htl : (l.take k).length ≤ 12 := by rw [List.length_take]; omega
    have hul : (Lib.uvarint p.1.toNat).length ≤ 10 := Lib.uvarint_length64 (by omega)
    have hvl := hv p hpm
    obtain ⟨A, hA⟩ : ∃ A, A = bytesA (l.take k) := ⟨_, rfl⟩
    rw [← hA] at hbl hrl hnc
    have hAl : A.length ≤ 25769804400 := by omega
    rw [← hA]
    refine To.slotE 24 (.int .u64 (IntKind.u64.wrap p.1)) (.int .u64 (Int.ofNat p.1.toNat)) (by kernel_rfl) (by rw [hwc]) ?_
    refine To.callN 20 #[.int .u64 (Int.ofNat p.1.toNat)] (by kernel_rfl) (fun _ => by kernel_rfl) (fun w2 hw2 => maVarint p.1.toNat w2 (by omega)) (fun w2 v2 w3 hw2 hx2 hv2 hnew2 hwi2 => ?_)
    obtain ⟨gv, cvv, rv, rfl, hgv, hgvl⟩ := hv2
    refine To.withAt gv (.cells ⟨ucells (Lib.uvarint p.1.toNat) ++ rv⟩ 5 (0, 0)) false hgv (hnew2 gv hgvl) (fun h => by cases h) ?_
    refine To.appendE (ty := 28) elB 0 g A.length c (ucells A) rest (some ⟨gv, 0, none⟩) (Lib.uvarint p.1.toNat).length cvv (ucells (Lib.uvarint p.1.toNat)) (A ++ Lib.uvarint p.1.toNat).length (ucells (A ++ Lib.uvarint p.1.toNat)) (by kernel_rfl) (by kernel_rfl) (by rw [List.length_append]) (ucells_append _ _) (by rw [ucells_length, Nat.mul_one]) hrl hnc hcm (by rw [ucells_length, Nat.mul_one])
      (fun w hw j u hj => ⟨_, rfl, hw.cellAt0 (j := 3) (b := gv) (l := ucells (Lib.uvarint p.1.toNat) ++ rv) (e := 5) (f := (0, 0)) (q := false) (by kernel_rfl) (by rw [List.getElem?_append_left (List.getElem?_eq_some_iff.1 hj).1]; exact hj)⟩) (fun h => by cases h) (ucells_one _) (by simp only [maxLen]; omega) (by omega) (held_nil (by kernel_rfl)) ?_
    intro w4 w5 g5 c5 r5 hw5 hg5 ho5 hl5 hn5 hm5
    refine To.runF 9 [2] (fun _ _ => by kernel_rfl) fun f6 g6 l6 => ?_
    obtain ⟨B, hB⟩ : ∃ B, B = A ++ Lib.uvarint p.1.toNat := ⟨_, rfl⟩
    have hBl : B.length = A.length + (Lib.uvarint p.1.toNat).length := by rw [hB, List.length_append]
    rw [← hB] at hl5 hn5 ⊢
    obtain ⟨M, hM⟩ : ∃ M, M = B ++ (if szOf p.1 < 0 then Lib.uvarint p.2.length else []) := ⟨_, rfl⟩
    have hu2 : (Lib.uvarint p.2.length).length ≤ 10 := Lib.uvarint_length64 (by omega)
    have hMl : M.length ≤ B.length + 10 := by
      rw [hM, List.length_append]
      split
      · omega
      · simp only [List.length_nil]; omega
    have hg5w : w.heap.size ≤ g5 ∨ g5 = g := by
      rcases ho5 with h | h
      · exact .inr h
      · exact .inl (by rw [h]; exact hw5.ext.size)
    refine To.meet 1 (ι := Nat × Nat × List Value) (fun i => ([(3, .slice (some ⟨i.1, 0, none⟩) M.length i.2.1), (5, .pointer (some ⟨f4 0, 0, none⟩)), (9, .slice a l.length cap), (10, .int .i64 (Int.ofNat l.length)), (11, .int .i64 (Int.ofNat k))], [some ⟨i.1, .cells ⟨ucells M ++ i.2.2⟩ 5 (0, 0), true⟩, some ⟨f4 0, .cells ⟨[.int .i64 p.1, .slice va p.2.length cv]⟩ 34 (0, 0), true⟩])) (fun i w8 => (ucells M ++ i.2.2).length = i.2.1 * 1 ∧ M.length ≤ i.2.1 ∧ i.2.1 ≤ maxLen ∧ w.heap.size ≤ i.1) (fun join => ?_) (fun i w8 hi8 hx8 => ?_)
    · by_cases hneg : szOf p.1 < 0
      · refine To.testT (decide (szOf p.1 < 0)) (by kernel_rfl) (decide_eq_true hneg) ?_
        refine To.runF 6 [1] (fun _ _ => by kernel_rfl) fun f7 g7 l7 => ?_
        have hwl : IntKind.u64.wrap (p.2.length : Int) = Int.ofNat p.2.length := by rw [IntWalk.u64_in _ ⟨by omega, by omega⟩]; rfl
        refine To.slotE 34 (.int .u64 (IntKind.u64.wrap (p.2.length : Int))) (.int .u64 (Int.ofNat p.2.length)) (by kernel_rfl) (by rw [hwl]) ?_
        refine To.callN 20 #[.int .u64 (Int.ofNat p.2.length)] (by kernel_rfl) (fun _ => by kernel_rfl) (fun w2 hw2 => maVarint p.2.length w2 (by omega)) (fun w6 v6 w7 hw6 hx6 hv6 hnew6 hwi6 => ?_)
        obtain ⟨gu, cu, ru, rfl, hgu, hgul⟩ := hv6
        refine To.withAt gu (.cells ⟨ucells (Lib.uvarint p.2.length) ++ ru⟩ 5 (0, 0)) false hgu (hnew6 gu hgul) (fun h => by cases h) ?_
        have hMB : B ++ Lib.uvarint p.2.length = M := by rw [hM, if_pos hneg]
        refine To.appendE (ty := 28) elB 4 g5 B.length c5 (ucells B) r5 (some ⟨gu, 0, none⟩) (Lib.uvarint p.2.length).length cu (ucells (Lib.uvarint p.2.length)) M.length (ucells M) (by kernel_rfl) (by kernel_rfl) (by rw [← hMB, List.length_append]) (by rw [← hMB]; exact ucells_append _ _) (by rw [ucells_length, Nat.mul_one]) hl5 hn5 hm5 (by rw [ucells_length, Nat.mul_one])
          (fun w hw j u hj => ⟨_, rfl, hw.cellAt0 (j := 5) (b := gu) (l := ucells (Lib.uvarint p.2.length) ++ ru) (e := 5) (f := (0, 0)) (q := false) (by kernel_rfl) (by rw [List.getElem?_append_left (List.getElem?_eq_some_iff.1 hj).1]; exact hj)⟩) (fun h => by cases h) (ucells_one _) (by simp only [maxLen]; omega) (by omega) (held_nil (by kernel_rfl)) ?_
        intro w8 w9 g8 c8 r8 hw8 hg8 ho8 hl8 hn8 hm8
        refine To.runF 2 [] (fun _ _ => by kernel_rfl) fun f8 g9 l8 => ?_
        exact join _ _ (g8, c8, r8) [6, 1] ⟨by kernel_rfl, by kernel_rfl, by kernel_rfl, by kernel_rfl, by kernel_rfl, rfl⟩ (fun _ _ => ⟨hl8, hn8, hm8, by
          rcases ho8 with h | h
          · rw [h]; rcases hg5w with h | h <;> (simp only; omega)
          · simp only; rw [h]; exact hw8.ext.size⟩)
      · refine To.testF (decide (szOf p.1 < 0)) (by kernel_rfl) (decide_eq_false hneg) ?_
        refine To.runF 1 [] (fun _ _ => by kernel_rfl) fun f7 g7 l7 => ?_
        have hMB : M = B := by rw [hM, if_neg hneg, List.append_nil]
        subst hMB
        exact join _ _ (g5, c5, r5) [4, 1] ⟨by kernel_rfl, by kernel_rfl, by kernel_rfl, by kernel_rfl, by kernel_rfl, rfl⟩ (fun _ _ => ⟨hl5, hn5, hm5, by rcases hg5w with h | h <;> (simp only; omega)⟩)
    obtain ⟨g6, c6, r6⟩ := i
    obtain ⟨hl6, hn6, hm6, hg6⟩ := hi8
    have hl6 : (ucells M ++ r6).length = c6 * 1 := hl6
    have hn6 : M.length ≤ c6 := hn6
    have hm6 : c6 ≤ maxLen := hm6
    have hg6 : w.heap.size ≤ g6 := hg6
    refine To.runF 4 [1] (fun _ _ => by kernel_rfl) fun f7 g7 l7 => ?_
    have htk : bytesA (l.take (k + 1)) = M ++ p.2 := by
      rw [List.take_add_one, hp]
      show bytesA (l.take k ++ [p]) = _
      rw [bytesA_snoc, ← hA, hM, hB]
      unfold compBytes
      simp only [List.append_assoc]
    refine To.appendE (ty := 28) elB 0 g6 M.length c6 (ucells M) r6 va p.2.length cv (ucells p.2) (M ++ p.2).length (ucells (M ++ p.2)) (by kernel_rfl) (by kernel_rfl) (by rw [List.length_append]) (ucells_append _ _) (by rw [ucells_length, Nat.mul_one]) hl6 hn6 hm6 (by rw [ucells_length, Nat.mul_one])
      (fun w hw => (hb.later hw.ext).cells) (fun h => by rw [hb.none h]; rfl) (ucells_one _) (by simp only [maxLen]; omega) (by omega) (held_nil (by kernel_rfl)) ?_
    intro w8 w9 g8 c8 r8 hw8 hg8 ho8 hl8 hn8 hm8
    refine To.runF 7 [] (fun _ _ => by kernel_rfl) fun f8 g9 l8 => ?_
    rw [← htk] at hl8 hn8 ⊢
    refine To.slotE 11 (.int .i64 (IntKind.i64.wrap (Int.ofNat k + 1))) (.int .i64 (Int.ofNat (k + 1))) (by kernel_rfl) (by rw [wrap_succ k (by omega)]) ?_
    exact back _ _ (k + 1, g8, c8, r8) [2] (by simp only; omega) ⟨by kernel_rfl, by kernel_rfl, by kernel_rfl, by kernel_rfl, by kernel_rfl, rfl⟩ (fun w7 hw7 => ⟨hlt, hl8, hn8, hm8, by
      rcases ho8 with h | h
      · simp only; rw [h]; exact hg6
      · simp only; rw [h]; exact hw8.ext.size⟩)
  · have hk1 : k = l.length := by omega
    subst hk1
    refine To.testF (decide (Int.ofNat l.length < Int.ofNat l.length)) (by kernel_rfl) (by simp) ?_
    refine To.runF 6 [] (fun _ _ => by kernel_rfl) fun f3 g3 l3 => ?_
    exact To.ret [] (.slice (some ⟨g, 0, none⟩) (bytesA (l.take l.length)).length c) (by kernel_rfl) (by kernel_rfl) fun w4 hw4 => ⟨_, rfl, hw4.ext, g, c, rest, by rw [List.take_length], by
      have h := hw4.blk (j := 0) (b := g) (o := .cells ⟨ucells (bytesA (l.take l.length)) ++ rest⟩ 5 (0, 0)) (q := true) (by kernel_rfl)
      rw [List.take_length] at h; exact h, hgw⟩
end Go.Proofs.YtgodhbgnhapemaaGreatDoor
