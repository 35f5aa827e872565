/- More rules of the symbolic executor: rows of owned cells, ways that meet, what stays of a type, arrays, copies, deferred calls. Conditions: as each says. -/
import Derived.Test.YtgodhbgnhapemaaGreatDoorSxB
import Derived.Laws.Concat
import Derived.Laws.Strings
import Derived.Below
import Derived.Laws.CopyRow
import Derived.Lib.AppendStr
set_option linter.unusedVariables false
set_option linter.unusedSimpArgs false
/- Slices of slices at any address; a new row of zeros, told. Conditions: as each says. -/
namespace Go.SX
open Go.RowKit
theorem mapAdd0 (a : Option Addr) : a.map (·.add 0) = a := by
  cases a with
  | none => rfl
  | some x => simp [Addr.add]
/-- 's[:m]'. -/
theorem To.sliceUpTo {E : Env} {r : Fin} {t e : TypeId} {size bytes : Nat} (el : Elem E.P t e size bytes) (a : Option Addr) (n m cap : Nat) (hm : m ≤ cap) (h : r.oper = some (opV (Instr.sliceAt t (.slice a n cap) none (some (.int .i64 (Int.ofNat m))) none)))
    (k : To E (r.gave (.slice a m cap))) : To E r := by
  refine To.lawV _ _ h (fun w _ => ?_) k
  obtain ⟨inf, z, h1, h2, h3, h4, h5⟩ := el.info
  simp [Instr.sliceAt, run_underlying el.sl, Instr.slice, Instr.sliceBounds, run_sliceBound_in m cap _ hm, sizeOf, typeInfo, h1, mapAdd0]
/-- What an address is behind so many elements. -/
def onA (a : Option Addr) (i size cap : Nat) : Option Addr := if cap = i then a else a.map (·.add (i * size))
/-- 's[i:]'. -/
theorem To.sliceFrom {E : Env} {r : Fin} {t e : TypeId} {size bytes : Nat} (el : Elem E.P t e size bytes) (a : Option Addr) (n i cap : Nat) (hi : i ≤ n) (hn : n ≤ cap) (h : r.oper = some (opV (Instr.sliceAt t (.slice a n cap) (some (.int .i64 (Int.ofNat i))) none none)))
    (k : To E (r.gave (.slice (onA a i size cap) (n - i) (cap - i)))) : To E r := by
  refine To.lawV _ _ h (fun w _ => ?_) k
  obtain ⟨inf, z, h1, h2, h3, h4, h5⟩ := el.info
  simp [Instr.sliceAt, run_underlying el.sl, Instr.slice, Instr.sliceBounds, run_sliceBound_in i n _ hi, sizeOf, typeInfo, h1, h3, onA]
/-- 's[i:j]'. -/
theorem To.sliceMid {E : Env} {r : Fin} {t e : TypeId} {size bytes : Nat} (el : Elem E.P t e size bytes) (a : Option Addr) (n i j cap : Nat) (hi : i ≤ j) (hj : j ≤ cap) (h : r.oper = some (opV (Instr.sliceAt t (.slice a n cap) (some (.int .i64 (Int.ofNat i))) (some (.int .i64 (Int.ofNat j))) none)))
    (k : To E (r.gave (.slice (onA a i size cap) (j - i) (cap - i)))) : To E r := by
  refine To.lawV _ _ h (fun w _ => ?_) k
  obtain ⟨inf, z, h1, h2, h3, h4, h5⟩ := el.info
  simp [Instr.sliceAt, run_underlying el.sl, Instr.slice, Instr.sliceBounds, run_sliceBound_in j cap _ hj, run_sliceBound_in i j _ hi, sizeOf, typeInfo, h1, h3, onA]
/-- 'make([]T, n)', of zeros of one cell. -/
theorem To.makeZero {E : Env} {r : Fin} {t e : TypeId} {bytes : Nat} (el : Elem E.P t e 1 bytes) (z : Value) (hz : (E.P.info? e).map (·.zero) = some (some z)) (hzc : z.cells = #[z]) (n : Nat) (h : r.oper = some (opV (Instr.makeSlice t (.int .i64 (Int.ofNat n)) (.int .i64 (Int.ofNat n)))))
    (hb : bytes * n ≤ 281474976710656) (hn : n ≤ maxLen)
    (k : ∀ g, E.w0.heap.size ≤ g → To E ((r.gave (.slice (some ⟨g, 0, none⟩) n n)).with g (.cells ⟨List.replicate n z⟩ e (0, 0)) true)) : To E r := by
  obtain ⟨i, z', hi, hz', hs, hby, hzs⟩ := el.info
  have e1 : z' = z := by rw [hi] at hz; simp only [Option.map_some, Option.some.injEq] at hz; rw [hz'] at hz; exact Option.some.inj hz
  subst e1
  refine To.madeV (ι := Unit) _ (fun b _ => .slice (some ⟨b, 0, none⟩) n n) (fun _ _ => .cells ⟨List.replicate n z'⟩ e (0, 0)) (fun _ => True) h (fun w hw => ?_) (fun b _ _ hb => k b hb)
  have hr := run_make (P := E.P) w t e i z' el.sl hi hz' .i64 .i64 (n : Int) (n : Int) (by omega) (Int.le_refl _) (by
    have : (i.bytes * n : Nat) ≤ 281474976710656 := by rw [hby]; exact hb
    have h2 : ((i.bytes * n : Nat) : Int) ≤ 281474976710656 := by omega
    rwa [Int.natCast_mul] at h2) (by simp only [maxLen] at hn; omega)
  refine ⟨(), w.drawn, trivial, ?_⟩
  simp only [Int.toNat_natCast] at hr
  rw [show Int.ofNat n = (n : Int) from rfl, hr]
  have hm : madeCells z'.cells (n * i.size) = ⟨List.replicate n z'⟩ := by
    rw [hs, Nat.mul_one, hzc]
    apply Array.ext'
    apply List.ext_getElem?
    intro j
    by_cases hj : j < n
    · simp [madeCells, hj, Nat.mod_one]
    · simp [madeCells, hj]
  rw [hm]
  rfl
end Go.SX
/- An operation of a drawn region that gives a value, whatever it is. Conditions: as each says. -/
namespace Go.SX
def Fin.opmE (r : Fin) (i : Nat) : Go.Sem Next := match r.operE i with | some m => m | none => .halt (.stuck "")
theorem Fin.opmE_spec {r : Fin} {i : Nat} (h : (r.operE i).isSome = true) : r.operE i = some (r.opmE i) := by
  unfold Fin.opmE
  cases hr : r.operE i with
  | none => rw [hr] at h; cases h
  | some m => rfl
theorem To.lawCE {E : Env} {r : Fin} (i : Nat) (v : Value) (h : (r.operE i).isSome = true) (hm : ∀ w, (r.opmE i).run E.P w = .ok (.value v) w) (k : To E (r.gaveE i v)) : To E r :=
  To.lawE i v (Fin.opmE_spec h) hm k
theorem To.lawC {E : Env} {r : Fin} (v : Value) (h : r.oper.isSome = true) (hm : ∀ w, r.opm.run E.P w = .ok (.value v) w) (k : To E (r.gave v)) : To E r :=
  To.law v (Fin.opm_spec h) (fun w _ => hm w) k
/-- A text behind a text. -/
theorem To.addText {E : Env} {r : Fin} {t : TypeId} (x y : List UInt8) (a b : ByteArray) (ha : a = ⟨⟨x⟩⟩) (hb : b = ⟨⟨y⟩⟩) (h : r.oper = some (opV (binOp .add t (.string a) (.string b)))) (hl : x.length + y.length ≤ 9223372036854775807)
    (k : To E (r.gave (.string ⟨⟨x ++ y⟩⟩))) : To E r := by
  subst ha; subst hb
  refine To.lawV _ _ h (fun w _ => ?_) k
  rw [binOp_string_add, run_string_add_sum w _ _ (by simpa [ByteArray.size] using hl), ByteArray.mk_append_mk]
/-- The same within a region that draws its order. -/
theorem To.addTextE {E : Env} {r : Fin} (i : Nat) {t : TypeId} (x y : List UInt8) (a b : ByteArray) (ha : a = ⟨⟨x⟩⟩) (hb : b = ⟨⟨y⟩⟩) (h : r.operE i = some (opV (binOp .add t (.string a) (.string b)))) (hl : x.length + y.length ≤ 9223372036854775807)
    (k : To E (r.gaveE i (.string ⟨⟨x ++ y⟩⟩))) : To E r := by
  subst ha; subst hb
  refine To.lawE i _ h (fun w => run_opV ?_) k
  rw [binOp_string_add, run_string_add_sum w _ _ (by simpa [ByteArray.size] using hl), ByteArray.mk_append_mk]
end Go.SX
/- A call by a contract that turns some blocks at most; the return of a function whose deferred call turns some. Conditions: as each says. -/
namespace Go.SX
open Go.RowKit

/-- Some known blocks are let go. -/
def delL : List (Option Blk) → List Nat → List (Option Blk)
  | hp, [] => hp
  | hp, j :: r => delL (delN hp j) r
theorem nth_delL : ∀ {ds : List Nat} {hp : List (Option Blk)} {i : Nat} {x : Blk}, nth (delL hp ds) i = some x → nth hp i = some x
  | [], _, _, _, h => h
  | _ :: _, _, _, _, h => (nth_delN (nth_delL h)).1
def Fin.delS (ds : List Nat) : Fin → Fin
  | .at_ todo x => .at_ todo { x with s := { x.s with hp := delL x.s.hp ds } }
  | .dr D k x => .dr D k { x with s := { x.s with hp := delL x.s.hp ds } }
  | .bad => .bad
theorem Facts.grownS {E : Env} {hp : List (Option Blk)} {w w1 : World} {S ds : List Nat} (h : Facts E hp w) (hg : Ext S w w1)
    (hne : ∀ i x, nth (delL hp ds) i = some x → x.b ∉ S) (hown : ∀ b, b ∈ S → E.wi.heap.size ≤ b ∨ b ∈ E.ins) : Facts { E with w0 := w1 } (delL hp ds) w1 := by
  refine ⟨Fr.refl _ _, ⟨fun j b hb => ?_, fun i j x y hx hy hne' => h.tr.ne i j x y (nth_delL hx) (nth_delL hy) hne'⟩, ?_, fun j b hb hq => h.own j b (nth_delL hb) hq⟩
  · rw [hg.block b.b (h.lt (nth_delL hb)) (hne j b hb)]
    exact h.tr.blk j b (nth_delL hb)
  · refine ⟨hg.os.trans h.ext.os, hg.tape.trans h.ext.tape, hg.output.trans h.ext.output, Nat.le_trans h.ext.size hg.size, fun k hk hn => ?_⟩
    rw [hg.block k (Nat.lt_of_lt_of_le hk h.ext.size) (fun e => ?_), h.ext.block k hk hn]
    have hk' : k < E.wi.heap.size := hk
    rcases hown k e with ho | ho
    · omega
    · exact hn ho
theorem SH.grownS {hb : List (Option Blk)} {w w1 : World} {S : List Nat} (h : SH hb w) (hg : Ext S w w1) (hne : ∀ i x, nth hb i = some x → x.b ∉ S) : SH hb w1 := fun j b hj => by
  have h1 := h j b hj
  rw [hg.block b.b (Array.getElem?_eq_some_iff.1 h1).1 (hne j b hj)]
  exact h1
/-- A call by a contract that turns these blocks at most; what is known of them is let go. -/
theorem To.callS {E : Env} {r : Fin} (g : FuncId) (args : Array Value) (S ds : List Nat) {Φ : World → Value → World → Prop} (h : r.oper.isSome = true) (hm : ∀ w, r.opm.run E.P w = .ok (.enter g args) w)
    (hc : ∀ w, Facts E r.hp w → Calls E.P g args w fun e w1 => ∃ v, e = .returned v ∧ Ext S w w1 ∧ Φ w v w1)
    (hne : ∀ w, Facts E r.hp w → ∀ i x, nth (delL r.hp ds) i = some x → x.b ∉ S) (hown : ∀ w, Facts E r.hp w → ∀ b, b ∈ S → E.wi.heap.size ≤ b ∨ b ∈ E.ins)
    (hh : ∀ w, Facts E r.hp w → ∀ i x, nth r.heldC i = some x → x.b ∉ S)
    (k : ∀ w v w1, Facts E r.hp w → Ext S w w1 → Φ w v w1 → To { E with w0 := w1 } ((r.gave v).delS ds)) : To E r := by
  refine To.op (Fin.opm_spec h) fun c o x as a w Q hcur hsl hd hW hF hw hS => ?_
  have e := hp_of_sl hsl
  rw [hm w]
  simp only [Oper.upon]
  refine (hc w (e ▸ hw)).mono ?_
  rintro en w1 ⟨v, rfl, hg, hΦ⟩
  have hf : Facts { E with w0 := w1 } (delL x.s.hp ds) w1 := hw.grownS hg (e ▸ hne w (e ▸ hw)) (hown w (e ▸ hw))
  have k := (k w v w1 (e ▸ hw) hg hΦ).out
  have hh := hh w (e ▸ hw)
  simp only [Fin.gave, hcur, hsl, back] at k
  simp only [Fin.heldC, hcur] at hh
  show Cont E.P (RS E.P E.R as) c (a.put o.dst v) w1
  rw [← hd]
  unfold Cont
  cases hdr : c.dr with
  | none =>
    rw [hdr] at k
    exact k as _ _ hW (hF.put c.dst v) hf
  | some D =>
    rw [hdr] at k hh
    exact k as _ _ hW (hF.put c.dst v) hf ((hS D hdr).grownS hg hh)

theorem hp_delS {r : Fin} {ds : List Nat} (i : Nat) (x : Blk) (h : nth (r.delS ds).hp i = some x) : nth (delL r.hp ds) i = some x := by
  cases r with
  | at_ _ _ => exact h
  | dr _ _ _ => exact h
  | bad => cases i <;> cases h
/-- The block at this place has this content. -/
def setBN : List (Option Blk) → Nat → Obj → List (Option Blk)
  | [], _, _ => []
  | x :: r, 0, o => (match x with | some y => some ⟨y.b, o, y.rw⟩ | none => none) :: r
  | x :: r, n + 1, o => x :: setBN r n o
theorem nth_setBN {o' : Obj} : ∀ {hp : List (Option Blk)} {j i : Nat} {x : Blk}, nth (setBN hp j o') i = some x → (i ≠ j ∧ nth hp i = some x) ∨ (i = j ∧ ∃ y, nth hp j = some y ∧ x = ⟨y.b, o', y.rw⟩)
  | [], j, i, x, h => by cases i <;> cases h
  | y :: r, 0, i, x, h => by
    cases i with
    | succ i => exact .inl ⟨by omega, h⟩
    | zero =>
      cases y with
      | none => cases h
      | some y => exact .inr ⟨rfl, y, rfl, (Option.some.inj h).symm⟩
  | y :: r, j + 1, i, x, h => by
    cases i with
    | zero => exact .inl ⟨by omega, h⟩
    | succ i =>
      rcases nth_setBN (hp := r) (j := j) (i := i) h with ⟨h1, h2⟩ | ⟨h1, h2⟩
      · exact .inl ⟨by omega, h2⟩
      · exact .inr ⟨by omega, h2⟩
def Fin.setB (j : Nat) (o : Obj) : Fin → Fin
  | .at_ todo x => .at_ todo { x with s := { x.s with hp := setBN x.s.hp j o } }
  | .dr D k x => .dr D k { x with s := { x.s with hp := setBN x.s.hp j o } }
  | .bad => .bad
theorem Facts.turned {E : Env} {hp : List (Option Blk)} {w w1 : World} {j b : Nat} {o o' : Obj} (h : Facts E hp w) (hj : nth hp j = some ⟨b, o, true⟩) (hg : Ext [b] w w1) (ho : w1.heap[b]? = some o') : Facts { E with w0 := w1 } (setBN hp j o') w1 := by
  refine ⟨Fr.refl _ _, ⟨fun i x hx => ?_, fun i k x y hx hy hne => ?_⟩, ?_, fun i x hx hq => ?_⟩
  · rcases nth_setBN hx with ⟨h1, h2⟩ | ⟨h1, y, h2, rfl⟩
    · rw [hg.block x.b (h.lt h2) (by simpa using h.tr.ne i j x _ h2 hj h1)]
      exact h.tr.blk i x h2
    · rw [hj] at h2; cases h2; exact ho
  · have key : ∀ {i : Nat} {x : Blk}, nth (setBN hp j o') i = some x → ∃ x', nth hp i = some x' ∧ x'.b = x.b := by
      intro i x hx
      rcases nth_setBN hx with ⟨h1, h2⟩ | ⟨h1, y, h2, rfl⟩
      · exact ⟨x, h2, rfl⟩
      · exact ⟨y, h1 ▸ h2, rfl⟩
    obtain ⟨x', hx', ex⟩ := key hx
    obtain ⟨y', hy', ey⟩ := key hy
    rw [← ex, ← ey]
    exact h.tr.ne i k x' y' hx' hy' hne
  · refine ⟨hg.os.trans h.ext.os, hg.tape.trans h.ext.tape, hg.output.trans h.ext.output, Nat.le_trans h.ext.size hg.size, fun k hk hn => ?_⟩
    rw [hg.block k (Nat.lt_of_lt_of_le hk h.ext.size) (fun e => ?_), h.ext.block k hk hn]
    have hk' : k < E.wi.heap.size := hk
    simp only [List.mem_singleton] at e
    subst e
    rcases h.own j _ hj rfl with ho | ho
    · simp only at ho; omega
    · exact hn ho
  · rcases nth_setBN hx with ⟨h1, h2⟩ | ⟨h1, y, h2, rfl⟩
    · exact h.own i x h2 hq
    · exact h.own j y h2 hq
/-- A call by a contract that turns one known block, whose new content is known. -/
theorem To.callT {E : Env} {r : Fin} (g : FuncId) (args : Array Value) (j b : Nat) (o o' : Obj) {Φ : World → Value → World → Prop} (h : r.oper.isSome = true) (hm : ∀ w, r.opm.run E.P w = .ok (.enter g args) w)
    (hj : nth r.hp j = some ⟨b, o, true⟩) (hh : r.heldC = [])
    (hc : ∀ w, Facts E r.hp w → Calls E.P g args w fun e w1 => ∃ v, e = .returned v ∧ Ext [b] w w1 ∧ w1.heap[b]? = some o' ∧ Φ w v w1)
    (k : ∀ w v w1, Facts E r.hp w → Ext [b] w w1 → Φ w v w1 → To { E with w0 := w1 } ((r.gave v).setB j o')) : To E r := by
  refine To.op (Fin.opm_spec h) fun c p x as a w Q hcur hsl hd hW hF hw hS => ?_
  have e := hp_of_sl hsl
  rw [hm w]
  simp only [Oper.upon]
  refine (hc w (e ▸ hw)).mono ?_
  rintro en w1 ⟨v, rfl, hg, ho, hΦ⟩
  have hf : Facts { E with w0 := w1 } (setBN x.s.hp j o') w1 := hw.turned (e ▸ hj) hg ho
  have k := (k w v w1 (e ▸ hw) hg hΦ).out
  simp only [Fin.gave, hcur, hsl, back] at k
  simp only [Fin.heldC, hcur] at hh
  show Cont E.P (RS E.P E.R as) c (a.put p.dst v) w1
  rw [← hd]
  unfold Cont
  cases hdr : c.dr with
  | none =>
    rw [hdr] at k
    exact k as _ _ hW (hF.put c.dst v) hf
  | some D =>
    rw [hdr] at k hh
    exact k as _ _ hW (hF.put c.dst v) hf ((hS D hdr).grownS hg (fun i x hx => by simp only at hh; rw [hh] at hx; cases i <;> cases hx))
/-- The orders of a region come together at an operation. -/
theorem To.joinX {E : Env} {r : Fin} (n : Nat) (ls : List Bool) (st : (Nat → Nat) → List (Nat × Value) × List (Option Blk))
    (h : (∀ (w' : World) (s : Fin) (i : Nat → Nat) (sel : List Nat), FitsD s r n ls (st i).1 (st i).2 sel → To { E with w0 := w' } s) → To E r)
    (k : ∀ (i : Nat → Nat) (w1 : World), Ext E.ins E.wi w1 → To { E with w0 := w1 } (r.reD n ls (st i).1 (st i).2)) : To E r :=
  To.joinD n ls st k h
/-- What the function hands back, when no block is looked at. -/
def Fin.outN (P : Program) (r : Fin) : Out Value :=
  match r.endedAt with
  | none => .bad
  | some x =>
    match P.funcs[x.f]? with
    | none => .bad
    | some fn =>
      match knowsSlots x.tm (fn.results.toList.map slotOf) with
      | false => .bad
      | true => sevR P (results fn ⟨listOf x.tm 0 x.nt⟩) ⟨[], id, id, [], [], []⟩
/-- The return of the function itself: one deferred call, which may turn blocks. -/
theorem To.retDG {E : Env} {r : Fin} (d : Deferred) (fv : Fn) (cap : Array Value) (g : FuncId) (args : Array Value) (v : Value) (hd : r.lastD = some d) (ht : d.target = .fn fv cap)
    (hi : ∀ w, (invoke d.target d.args).run E.P w = .ok (.enter g args) w)
    (hv : (r.outN E.P).val = some v) (he : (r.outN E.P).met = (r.outN E.P).meant) (hn : r.waits = false)
    (hc : ∀ w, Facts E r.hp w → CallsD E.P g args .returning w fun e u' w' => (∃ u, e = .returned u) ∧ u' = .returning ∧ E.R (.returned v) w') : To E r := by
  cases hx : r.endedAt with
  | none => simp only [Fin.lastD, hx] at hd; cases hd
  | some x =>
    have hhp : r.hp = x.s.hp := by
      unfold Fin.endedAt at hx
      split at hx <;> simp only [Option.some.injEq, reduceCtorEq] at hx <;> subst hx <;> rfl
    simp only [Fin.lastD, hx] at hd
    simp only [Fin.outN, hx] at hv he
    unfold Fin.waits at hn
    rw [hx] at hn
    simp only at hn
    cases hfn : E.P.funcs[x.f]? with
    | none => simp only [hfn] at hv; cases hv
    | some fn =>
      simp only [hfn] at hv he
      cases hk : knowsSlots x.tm (fn.results.toList.map slotOf) with
      | false => simp only [hk] at hv; cases hv
      | true =>
        simp only [hk] at hv he
        cases hs' : sevR E.P (results fn ⟨listOf x.tm 0 x.nt⟩) ⟨[], id, id, [], [], []⟩ with
        | bad => rw [hs'] at hv; cases hv
        | panic u s1 => rw [hs'] at hv; cases hv
        | ok u s1 =>
          rw [hs'] at hv he
          simp only [Out.val, Option.some.injEq] at hv
          subst hv
          have hdf : x.df = [d] := by
            split at hd
            · simp only [Option.some.injEq] at hd; subst hd; assumption
            · cases hd
          refine ended_way hx fun as a w hW hF hw => Ret.leaves hfn ?_
          rw [hF.defers, hdf]
          refine ⟨by simp, fv, cap, g, args, ht, hi w, (hc w (hhp ▸ hw)).mono ?_⟩
          rintro e u' w1 ⟨⟨u2, rfl⟩, rfl, hR⟩
          refine ⟨u, ?_, ?_⟩
          · rw [results_known hF hk]
            exact (sevR_sound E.P _ ⟨[], id, id, [], [], []⟩ _ _ w1 (fun j b hj => by cases j <;> cases hj) hs').2.2 he
          · cases hst : x.st with
            | cons _ _ => rw [hst] at hn; cases hn
            | nil =>
              rw [hst] at hW
              cases as with
              | nil => exact hR
              | cons _ _ => exact hW.elim

/-- A function that may write some blocks that are known. -/
theorem calls_of2 {P : Program} {f : FuncId} {fn : Func} {c : Code} {args : List Value} {w : World} {R : Ending → World → Prop} {nt : Nat} (g1 g2 : Nat) (o1 o2 : Obj) (h1 : w.heap[g1]? = some o1) (h2 : w.heap[g2]? = some o2) (h12 : g1 ≠ g2)
    (hf : P.funcs[f]? = some fn) (hb : fn.body = some c) (hn : fn.ntmps = nt) (hl : Nat.ble args.length nt = true)
    (h : To { P := P, R := R, wi := w, ins := [g1, g2], w0 := w } (start f nt c args [some ⟨g1, o1, true⟩, some ⟨g2, o2, true⟩])) : Calls P f args.toArray w R := by
  refine calls_of [g1, g2] [some ⟨g1, o1, true⟩, some ⟨g2, o2, true⟩] hf hb hn hl ⟨fun j b hj => ?_, fun i j x y hx hy hne => ?_⟩ (fun j b hj _ => ?_) h
  · rcases j with _ | _ | j
    · cases hj; exact h1
    · cases hj; exact h2
    · cases j <;> cases hj
  · rcases i with _ | _ | i <;> rcases j with _ | _ | j
    · exact absurd rfl hne
    · cases hx; cases hy; exact h12
    · cases j <;> cases hy
    · cases hx; cases hy; exact fun e => h12 e.symm
    · exact absurd rfl hne
    · cases j <;> cases hy
    · cases i <;> cases hx
    · cases i <;> cases hx
    · cases i <;> cases hx
  · rcases j with _ | _ | j
    · cases hj; simp
    · cases hj; simp
    · cases j <;> cases hj
end Go.SX
/- Slices of slices, taken first in a region that draws its order. Conditions: as each says. -/
namespace Go.SX
open Go.RowKit
/-- 's[:m]'. -/
theorem To.sliceUpToE {E : Env} {r : Fin} (o : Nat) {t e : TypeId} {size bytes : Nat} (el : Elem E.P t e size bytes) (a : Option Addr) (n m cap : Nat) (hm : m ≤ cap) (h : r.operE o = some (opV (Instr.sliceAt t (.slice a n cap) none (some (.int .i64 (Int.ofNat m))) none)))
    (k : To E (r.gaveE o (.slice a m cap))) : To E r := by
  refine To.lawES o _ _ h (fun w _ => ?_) k
  obtain ⟨inf, z, h1, h2, h3, h4, h5⟩ := el.info
  simp [Instr.sliceAt, run_underlying el.sl, Instr.slice, Instr.sliceBounds, run_sliceBound_in m cap _ hm, sizeOf, typeInfo, h1, mapAdd0]
/-- 's[i:]'. -/
theorem To.sliceFromE {E : Env} {r : Fin} (o : Nat) {t e : TypeId} {size bytes : Nat} (el : Elem E.P t e size bytes) (a : Option Addr) (n i cap : Nat) (hi : i ≤ n) (hn : n ≤ cap) (h : r.operE o = some (opV (Instr.sliceAt t (.slice a n cap) (some (.int .i64 (Int.ofNat i))) none none)))
    (k : To E (r.gaveE o (.slice (onA a i size cap) (n - i) (cap - i)))) : To E r := by
  refine To.lawES o _ _ h (fun w _ => ?_) k
  obtain ⟨inf, z, h1, h2, h3, h4, h5⟩ := el.info
  simp [Instr.sliceAt, run_underlying el.sl, Instr.slice, Instr.sliceBounds, run_sliceBound_in i n _ hi, sizeOf, typeInfo, h1, h3, onA]
end Go.SX
/- A slice that is nil, or a row of one's own: appending one element to it, reading it. Conditions: as each says. -/
namespace Go.SX
open Go.RowKit

theorem delN_none : ∀ {hp : List (Option Blk)} {j : Nat}, nth hp j = none → delN hp j = hp
  | [], _, _ => rfl
  | x :: r, 0, h => by
    have : x = none := h
    subst this; rfl
  | x :: r, n + 1, h => by
    have h' : nth r n = none := h
    simp only [delN]
    rw [delN_none h']
theorem del_none {r : Fin} {j : Nat} (h : nth r.hp j = none) : r.del (some j) = r := by
  cases r with
  | bad => rfl
  | at_ todo x =>
    have h' : nth x.s.hp j = none := h
    simp only [Fin.del, delO, delN_none h']
  | dr D k x =>
    have h' : nth x.s.hp j = none := h
    simp only [Fin.del, delO, delN_none h']
/-- nil, or a row of one's own of these elements. -/
structure ORow (sz : Nat) (ty : TypeId) (a : Option Addr) (n c : Nat) (ob : Option Blk) (css : List (List Value)) : Prop where
  is : (a = none ∧ n = 0 ∧ c = 0 ∧ ob = none ∧ css = []) ∨ ∃ g rest, a = some ⟨g, 0, none⟩ ∧ ob = some ⟨g, .cells ⟨css.flatten ++ rest⟩ ty (0, 0), true⟩ ∧ css.length = n ∧ (∀ cs ∈ css, cs.length = sz) ∧
    (css.flatten ++ rest).length = c * sz ∧ n ≤ c ∧ c ≤ maxLen
theorem ORow.nil (sz : Nat) (ty : TypeId) : ORow sz ty none 0 0 none [] := ⟨.inl ⟨rfl, rfl, rfl, rfl, rfl⟩⟩
theorem ORow.len {sz : Nat} {ty : TypeId} {a : Option Addr} {n c : Nat} {ob : Option Blk} {css : List (List Value)} (h : ORow sz ty a n c ob css) : css.length = n := by
  rcases h.is with ⟨_, rfl, _, _, rfl⟩ | ⟨_, _, _, _, h, _⟩
  · rfl
  · exact h
theorem ORow.le {sz : Nat} {ty : TypeId} {a : Option Addr} {n c : Nat} {ob : Option Blk} {css : List (List Value)} (h : ORow sz ty a n c ob css) : n ≤ c := by
  rcases h.is with ⟨_, rfl, _, _, rfl⟩ | ⟨_, _, _, _, _, _, _, h, _⟩
  · exact Nat.zero_le _
  · exact h
/-- A cell of such a row. -/
theorem ORow.cell {E : Env} {hp : List (Option Blk)} {w : World} {sz : Nat} {ty : TypeId} {a : Option Addr} {n c : Nat} {ob : Option Blk} {css : List (List Value)} (hO : ORow sz ty a n c ob css) (hw : Facts E hp w) {j : Nat} (hj : nth hp j = ob)
    {i m : Nat} {cs : List Value} {u : Value} (hc : css[i]? = some cs) (hm : cs[m]? = some u) {ad : Addr} (ha : a = some ad) : w.cell? (ad.add (i * sz + m)) = some u := by
  rcases hO.is with ⟨_, _, _, _, rfl⟩ | ⟨g, rest, h1, h2, h3, h4, h5, _⟩
  · cases hc
  · rw [ha] at h1
    cases h1
    subst h2
    have hl := h4 cs (List.mem_of_getElem? hc)
    have hm' : m < sz := by have := (List.getElem?_eq_some_iff.1 hm).1; omega
    have hf := flat_get h4 hc hm'
    rw [hm] at hf
    exact hw.cellAt0 (e := ty) (f := (0, 0)) (q := true) hj (by rw [List.getElem?_append_left (List.getElem?_eq_some_iff.1 hf).1]; exact hf)
theorem flat_take {α : Type} {css : List (List α)} (j : Nat) {q : Nat} {u : α} (h : (css.take j).flatten[q]? = some u) : css.flatten[q]? = some u := by
  have e : css.flatten = (css.take j).flatten ++ (css.drop j).flatten := by rw [← List.flatten_append, List.take_append_drop]
  rw [e, List.getElem?_append_left (List.getElem?_eq_some_iff.1 h).1]; exact h
theorem flat_drop {α : Type} {css : List (List α)} {sz : Nat} (hs : ∀ cs ∈ css, cs.length = sz) {j : Nat} (hj : j ≤ css.length) {q : Nat} {u : α} (h : (css.drop j).flatten[q]? = some u) : css.flatten[j * sz + q]? = some u := by
  have e : css.flatten = (css.take j).flatten ++ (css.drop j).flatten := by rw [← List.flatten_append, List.take_append_drop]
  have hl : (css.take j).flatten.length = j * sz := by
    rw [flat_length (fun cs hc => hs cs (List.mem_of_mem_take hc)), List.length_take, Nat.min_eq_left hj]
  rw [e, List.getElem?_append_right (by omega), hl, Nat.add_sub_cancel_left]; exact h
theorem ORow.flat {E : Env} {hp : List (Option Blk)} {w : World} {sz : Nat} {ty : TypeId} {a : Option Addr} {n c : Nat} {ob : Option Blk} {css : List (List Value)} (hO : ORow sz ty a n c ob css) (hw : Facts E hp w) {j : Nat} (hj : nth hp j = ob)
    {q : Nat} {u : Value} (h : css.flatten[q]? = some u) : ∃ g, a = some ⟨g, 0, none⟩ ∧ w.cell? ((⟨g, 0, none⟩ : Addr).add q) = some u := by
  rcases hO.is with ⟨_, _, _, _, rfl⟩ | ⟨g, rest, h1, h2, h3, h4, h5, _⟩
  · cases h
  · subst h2
    exact ⟨g, h1, hw.cellAt0 (e := ty) (f := (0, 0)) (q := true) hj (by rw [List.getElem?_append_left (List.getElem?_eq_some_iff.1 h).1]; exact h)⟩
theorem ORow.each {sz : Nat} {ty : TypeId} {a : Option Addr} {n c : Nat} {ob : Option Blk} {css : List (List Value)} (hO : ORow sz ty a n c ob css) : ∀ cs ∈ css, cs.length = sz := by
  rcases hO.is with ⟨_, _, _, _, rfl⟩ | ⟨_, _, _, _, _, h, _⟩
  · intro cs h; cases h
  · exact h
/-- What stands ahead of element j. -/
theorem ORow.front {E : Env} {hp : List (Option Blk)} {w : World} {sz : Nat} {ty : TypeId} {a : Option Addr} {n c : Nat} {ob : Option Blk} {css : List (List Value)} (hO : ORow sz ty a n c ob css) (hw : Facts E hp w) {i : Nat} (hi : nth hp i = ob) (j : Nat) :
    ∀ q u, (css.take j).flatten[q]? = some u → ∃ ad, a = some ad ∧ w.cell? (ad.add q) = some u := fun q u h =>
  let ⟨g, h1, h2⟩ := hO.flat hw hi (flat_take j h); ⟨_, h1, h2⟩
/-- What stands behind it. -/
theorem ORow.rear {E : Env} {hp : List (Option Blk)} {w : World} {sz : Nat} {ty : TypeId} {a : Option Addr} {n c : Nat} {ob : Option Blk} {css : List (List Value)} (hO : ORow sz ty a n c ob css) (hw : Facts E hp w) {i : Nat} (hi : nth hp i = ob) {j : Nat} (hj : j ≤ n) :
    ∀ q u, (css.drop j).flatten[q]? = some u → ∃ ad, onA a j sz c = some ad ∧ w.cell? (ad.add q) = some u := fun q u h => by
  have hl := hO.len
  have hle := hO.le
  obtain ⟨g, h1, h2⟩ := hO.flat hw hi (flat_drop hO.each (by omega) h)
  unfold onA
  by_cases hc : c = j
  · have : css.drop j = [] := List.drop_eq_nil_of_le (by omega)
    rw [this] at h; cases h
  · rw [if_neg hc, h1]
    exact ⟨_, rfl, by rw [add_add rfl]; exact h2⟩
theorem ORow.rearNone {sz : Nat} {ty : TypeId} {a : Option Addr} {n c : Nat} {ob : Option Blk} {css : List (List Value)} (hO : ORow sz ty a n c ob css) {j : Nat} (h : onA a j sz c = none) : n - j = 0 := by
  rcases hO.is with ⟨_, rfl, _⟩ | ⟨g, rest, rfl, _⟩
  · omega
  · unfold onA at h; split at h <;> cases h
/-- The start of such a row, where an element is. -/
theorem ORow.start {sz : Nat} {ty : TypeId} {a : Option Addr} {n c : Nat} {ob : Option Blk} {css : List (List Value)} (hO : ORow sz ty a n c ob css) (hn : 0 < n) : ∃ g, a = some ⟨g, 0, none⟩ := by
  rcases hO.is with ⟨_, h, _⟩ | ⟨g, rest, h1, _⟩
  · omega
  · exact ⟨g, h1⟩
/-- The slice, in the world where it stands. -/
theorem ORow.row {α : Type} {E : Env} {hp : List (Option Blk)} {w : World} {sz : Nat} {ty : TypeId} {a : Option Addr} {n c : Nat} {ob : Option Blk} {css : List (List Value)} (hO : ORow sz ty a n c ob css) (hw : Facts E hp w) {j : Nat} (hj : nth hp j = ob)
    {L : List α} (hL : css.length = L.length) (I : World → α → List Value → Prop) (hI : ∀ (j : Nat) (cs : List Value) (x : α), css[j]? = some cs → L[j]? = some x → I w x cs) : RowsN I sz ty 0 w (.slice a n c) L := by
  have hn := hO.len
  rcases hO.is with ⟨rfl, rfl, rfl, rfl, rfl⟩ | ⟨g, rest, rfl, rfl, h3, h4, h5, h6, h7⟩
  · refine .inl ⟨?_, rfl⟩
    cases L with
    | nil => rfl
    | cons _ _ => cases hL
  · refine .inr ⟨g, c, rest, css, by rw [← hn, hL], ⟨hw.blk hj, hL, h4, h5, by omega, h7, Nat.zero_le _, hI⟩⟩
/-- A slice that is nil or a row of one's own, as a loop carries it. -/
structure OR where
  a : Option Addr
  n : Nat
  c : Nat
  ob : Option Blk
  css : List (List Value)
def OR.none : OR := ⟨.none, 0, 0, .none, []⟩
def OR.val (r : OR) : Value := .slice r.a r.n r.c
/-- 'append(s, x)'. -/
theorem To.appendAny {E : Env} {r : Fin} {t ty e : TypeId} {size bytes : Nat} (el : Elem E.P t e size bytes) (j : Nat) (a : Option Addr) (n c : Nat) (ob : Option Blk) (css : List (List Value)) (hO : ORow size e a n c ob css) (ad : Addr) (c2 : Nat) (cs : List Value) (N : Nat)
    (h : r.oper = some (opV (Builtin.append_ #[t, t] ty #[.slice a n c, .slice (some ad) 1 c2]))) (hj : nth r.hp j = ob) (hN : N = n + 1) (hl : cs.length = size)
    (hnews : ∀ w, Facts E r.hp w → ∀ j u, cs[j]? = some u → w.cell? (ad.add j) = some u) (h1 : ∀ u ∈ cs, u.oneCell' = true) (h63 : n + 1 ≤ maxLen) (hbytes : (n + 1) * bytes ≤ 140737488355328)
    (hh : ∀ w, Facts E r.hp w → ∀ i x, nth r.heldC i = some x → ∀ y, ob = some y → x.b ≠ y.b)
    (k : ∀ w1 g' c' rest', Fr r.hp E.w0 w1 → (a = some ⟨g', 0, none⟩ ∨ E.w0.heap.size ≤ g') → ORow size e (some ⟨g', 0, none⟩) N c' (some ⟨g', .cells ⟨(css ++ [cs]).flatten ++ rest'⟩ e (0, 0), true⟩) (css ++ [cs]) →
      To { E with w0 := w1 } (((r.gave (.slice (some ⟨g', 0, none⟩) N c')).del (some j)).with g' (.cells ⟨(css ++ [cs]).flatten ++ rest'⟩ e (0, 0)) true)) : To E r := by
  have hfl : (css ++ [cs]).flatten = css.flatten ++ cs := by simp
  have hoi : r.oper.isSome = true := by rw [h]; rfl
  rcases hO.is with ⟨rfl, rfl, rfl, rfl, rfl⟩ | ⟨g, rest, rfl, rfl, h3, h4, h5, h6, h7⟩
  · refine To.append0 el ad 1 c2 cs h (by rw [hl]; omega) hnews (by decide) (by simp [maxLen]) (by omega) fun g' c' rest' k1 k2 k3 k4 => ?_
    have hr : (cs ++ rest').length = c' * size := k1
    have hk := k E.w0 g' c' rest' (Fr.refl _ _) (.inr k4) ⟨.inr ⟨g', rest', rfl, rfl, by rw [hN]; rfl, fun x hx => by simp only [List.nil_append, List.mem_singleton] at hx; rw [hx]; exact hl, by rw [hfl]; simpa using hr, by rw [hN]; exact k2, k3⟩⟩
    rw [del_none (by rw [hp_gave hoi]; exact hj)] at hk
    rw [hfl] at hk
    simp only [List.flatten_nil, List.nil_append] at hk
    rw [show N = 1 by rw [hN]] at hk
    exact hk
  · refine To.appendE el j g n c css.flatten rest (some ad) 1 c2 cs N (css ++ [cs]).flatten h hj hN hfl (by rw [flat_length h4, h3]) h5 h6 h7 (by rw [hl]; omega) (fun w hw i u hu => ⟨ad, rfl, hnews w hw i u hu⟩) (fun e => by cases e) h1 h63 hbytes
      (fun w hw i x hx => hh w hw i x hx _ rfl) fun w w1 g' c' rest' hw hg ho k1 k2 k3 => ?_
    refine k w1 g' c' rest' ?_ ?_ ⟨.inr ⟨g', rest', rfl, rfl, by simp [h3, hN], fun x hx => ?_, k1, by rw [hN] at *; exact k2, k3⟩⟩
    · refine ⟨hg.os.trans hw.fr.os, hg.tape.trans hw.fr.tape, hg.output.trans hw.fr.output, Nat.le_trans hw.fr.size hg.size, fun b hb hn => ?_⟩
      rw [hg.block b (Nat.lt_of_lt_of_le hb hw.fr.size) (fun e => hn j _ hj rfl (by cases e; rfl))]
      exact hw.fr.block b hb hn
    · rcases ho with ho | ho
      · exact .inl (by rw [ho])
      · exact .inr (by rw [ho]; exact hw.fr.size)
    · rcases List.mem_append.1 hx with hx | hx
      · exact h4 x hx
      · simp only [List.mem_singleton] at hx; rw [hx]; exact hl
theorem held_nilO {E : Env} {r : Fin} {ob : Option Blk} (h : r.heldC = []) : ∀ w, Facts E r.hp w → ∀ i x, nth r.heldC i = some x → ∀ y, ob = some y → x.b ≠ y.b := fun _ _ i x hx => by rw [h] at hx; cases i <;> cases hx
/-- Ways meet again behind the first n pieces of what is left to do; what holds there is carried along. -/
theorem To.meet {E : Env} {r : Fin} (n : Nat) {ι : Type} (st : ι → List (Nat × Value) × List (Option Blk)) (Φ : ι → World → Prop)
    (h : (∀ (w' : World) (s : Fin) (i : ι) (sel : List Nat), Fits s r (r.todo.drop n) (st i).1 (st i).2 sel → (∀ w, Facts { E with w0 := w' } s.hp w → Φ i w) → To { E with w0 := w' } s) → To E r)
    (k : ∀ i w1, Φ i w1 → Ext E.ins E.wi w1 → To { E with w0 := w1 } (r.re (r.todo.drop n) (st i).1 (st i).2)) : To E r := To.cut (r.todo.drop n) st Φ k h
end Go.SX
/- Blocks of some types stay as they were. Conditions: as each says. -/
namespace Go.SX
open Go.RowKit

/-- Blocks of these types are as they were. -/
def KeptTy (T : TypeId → Prop) (w w' : World) : Prop := ∀ (b : Nat) (c : Array Value) (t : TypeId) (z : Nat × Nat), T t → w.heap[b]? = some (.cells c t z) → w'.heap[b]? = some (.cells c t z)
theorem KeptTy.refl (T : TypeId → Prop) (w : World) : KeptTy T w w := fun _ _ _ _ _ h => h
theorem KeptTy.trans {T : TypeId → Prop} {w w' w'' : World} (h : KeptTy T w w') (k : KeptTy T w' w'') : KeptTy T w w'' := fun b c t z ht hb => k b c t z ht (h b c t z ht hb)
theorem Ext.keptTy {T : TypeId → Prop} {w w' : World} (h : Ext [] w w') : KeptTy T w w' := fun _ _ _ _ _ hb => h.at hb (by simp)
/-- This block is new, or of another type. -/
def OffTy (T : TypeId → Prop) (w : World) (n : Nat) : Prop := w.heap.size ≤ n ∨ ∃ (c : Array Value) (t : TypeId) (z : Nat × Nat), w.heap[n]? = some (.cells c t z) ∧ ¬ T t
theorem OffTy.ne {T : TypeId → Prop} {w : World} {n b : Nat} (h : OffTy T w n) {c : Array Value} {t : TypeId} {z : Nat × Nat} (ht : T t) (hb : w.heap[b]? = some (.cells c t z)) : n ≠ b := fun e => by
  subst e
  rcases h with h | ⟨c', t', z', h1, h2⟩
  · have := at_lt hb; omega
  · rw [hb] at h1; cases h1; exact h2 ht
theorem Ext.keptTyS {T : TypeId → Prop} {S : List Nat} {w w' : World} (h : Ext S w w') (hS : ∀ b ∈ S, OffTy T w b) : KeptTy T w w' := fun b c t z ht hb => h.at hb (fun hm => (hS b hm).ne ht hb rfl)
theorem Fr.keptTy {T : TypeId → Prop} {hp : List (Option Blk)} {w w' : World} {l : List (Option Nat)} (h : Fr hp w w') (hn : nums hp = l) (hq : NumsAll (OffTy T w) l) : KeptTy T w w' := fun b c t z ht hb =>
  h.at hb (fun j x hj _ e => (nums_all hn hq j x hj).ne ht hb e)
theorem numsCons {Q : Nat → Prop} {o : Option Nat} {r : List (Option Nat)} (h : ∀ n, o = some n → Q n) (hr : NumsAll Q r) : NumsAll Q (o :: r) := by
  cases o with
  | none => exact hr
  | some n => exact ⟨h n rfl, hr⟩
theorem numsMono {Q R : Nat → Prop} (h : ∀ n, Q n → R n) : ∀ {l : List (Option Nat)}, NumsAll Q l → NumsAll R l
  | [], _ => trivial
  | none :: r, hq => numsMono (l := r) h hq
  | some _ :: r, hq => ⟨h _ hq.1, numsMono (l := r) h hq.2⟩
/-- What is said of the block is so. -/
def OTrue (ob : Option Blk) (w : World) : Prop := ∀ x, ob = some x → w.heap[x.b]? = some x.o
theorem OTrue.none (w : World) : OTrue none w := fun _ h => by cases h
theorem OTrue.of {E : Env} {hp : List (Option Blk)} {w : World} (h : Facts E hp w) {j : Nat} {ob : Option Blk} (hj : nth hp j = ob) : OTrue ob w := fun x hx => h.tr.blk j x (hj.trans hx)
def numO (ob : Option Blk) : Option Nat := match ob with | some b => some b.b | Option.none => Option.none
theorem ORow.off {T : TypeId → Prop} {sz : Nat} {ty : TypeId} {a : Option Addr} {n c : Nat} {ob : Option Blk} {css : List (List Value)} {w : World} (hO : ORow sz ty a n c ob css) (ht : OTrue ob w) (hT : ¬ T ty) : ∀ m, numO ob = some m → OffTy T w m := fun m hm => by
  rcases hO.is with ⟨_, _, _, rfl, _⟩ | ⟨g, rest, _, rfl, _⟩
  · cases hm
  · cases hm
    exact .inr ⟨_, _, _, ht _ rfl, hT⟩
theorem ORow.offA {T : TypeId → Prop} {sz : Nat} {ty : TypeId} {a : Option Addr} {n c : Nat} {ob : Option Blk} {css : List (List Value)} {w : World} (hO : ORow sz ty a n c ob css) (ht : OTrue ob w) (hT : ¬ T ty) {g : Nat} (h : a = some ⟨g, 0, none⟩) : OffTy T w g := by
  rcases hO.is with ⟨h0, _⟩ | ⟨g', rest, h1, h2, _⟩
  · rw [h0] at h; cases h
  · rw [h1] at h; cases h
    exact hO.off ht hT g (by rw [h2]; rfl)
theorem ORow.numO {sz : Nat} {ty : TypeId} {a : Option Addr} {n c : Nat} {ob : Option Blk} {css : List (List Value)} (hO : ORow sz ty a n c ob css) {g : Nat} (h : a = some ⟨g, 0, Option.none⟩) : Go.SX.numO ob = some g := by
  rcases hO.is with ⟨h0, _⟩ | ⟨g', rest, h1, h2, _⟩
  · rw [h0] at h; cases h
  · rw [h1] at h; cases h; rw [h2]; rfl
theorem nums0 {Q : Nat → Prop} {r : List (Option Nat)} (hr : NumsAll Q r) : NumsAll Q (none :: r) := hr
theorem ORow.keptTy {T : TypeId → Prop} {sz : Nat} {ty : TypeId} {a : Option Addr} {n c : Nat} {ob : Option Blk} {css : List (List Value)} {w w' : World} (hO : ORow sz ty a n c ob css) (ht : OTrue ob w) (hT : T ty) (hk : KeptTy T w w') : OTrue ob w' := fun x hx => by
  rcases hO.is with ⟨_, _, _, rfl, _⟩ | ⟨g, rest, _, rfl, _⟩
  · cases hx
  · cases hx
    exact hk _ _ _ _ hT (ht _ rfl)
/-- A later world, in which the blocks of these types are as they were. -/
structure Later (T : TypeId → Prop) (w w' : World) : Prop where
  kept : KeptTy T w w'
  size : w.heap.size ≤ w'.heap.size
theorem Later.refl (T : TypeId → Prop) (w : World) : Later T w w := ⟨KeptTy.refl T w, Nat.le_refl _⟩
theorem Later.fr {T : TypeId → Prop} {w w' w'' : World} (h : Later T w w') {hp : List (Option Blk)} {l : List (Option Nat)} (hf : Fr hp w' w'') (hn : nums hp = l) (hq : NumsAll (OffTy T w) l) : Later T w w'' :=
  ⟨fun b c t z ht hb => hf.at (h.kept b c t z ht hb) (fun j x hj _ e => (nums_all hn hq j x hj).ne ht hb e), Nat.le_trans h.size hf.size⟩
theorem Later.ext {T : TypeId → Prop} {w w' w'' : World} (h : Later T w w') (hx : Ext [] w' w'') : Later T w w'' := ⟨h.kept.trans hx.keptTy, Nat.le_trans h.size hx.size⟩
theorem Later.extS {T : TypeId → Prop} {w w' w'' : World} (h : Later T w w') {S : List Nat} (hx : Ext S w' w'') (hS : ∀ b ∈ S, OffTy T w b) : Later T w w'' :=
  ⟨fun b c t z ht hb => hx.at (h.kept b c t z ht hb) (fun hm => (hS b hm).ne ht hb rfl), Nat.le_trans h.size hx.size⟩
theorem Later.grown {T : TypeId → Prop} {w w' w'' : World} (h : Later T w w') {row : Option Nat} (hg : w'.grownBy w'' row) (hr : ∀ b, row = some b → OffTy T w b) : Later T w w'' :=
  ⟨fun b c t z ht hb => grown_at hg (h.kept b c t z ht hb) (fun e => (hr b e.symm).ne ht hb rfl), Nat.le_trans h.size hg.size⟩
theorem Later.new {T : TypeId → Prop} {w w' : World} (h : Later T w w') {n : Nat} (hn : w'.heap.size ≤ n) : OffTy T w n := .inl (Nat.le_trans h.size hn)
theorem held_inO {E : Env} {r : Fin} {ob : Option Blk} (js : List Nat) (jg : Nat) (h : r.heldC = pickH r.hp js) (hg : nth r.hp jg = ob) (hn : jg ∉ js) : ∀ w, Facts E r.hp w → ∀ i x, nth r.heldC i = some x → ∀ y, ob = some y → x.b ≠ y.b := fun w hw i x hx y hy => by
  rw [h] at hx
  obtain ⟨j, h1, h2⟩ := nth_pickH hx
  exact hw.tr.ne j jg x y h2 (hg.trans hy) (fun e => hn (e ▸ h1))
/-- Ways meet again within a region, behind these operations; what holds of the world is carried along. -/
theorem To.meetI {E : Env} {r : Fin} {ι : Type} (n : Nat) (ls : List Bool) (st : ι → List (Nat × Value) × List (Option Blk)) (Φ : ι → World → Prop)
    (h : (∀ (w' : World) (s : Fin) (i : ι) (sel : List Nat), FitsD s r n ls (st i).1 (st i).2 sel → (∀ w, Facts { E with w0 := w' } s.hp w → Φ i w) → To { E with w0 := w' } s) → To E r)
    (k : ∀ i (w1 : World), Φ i w1 → Ext E.ins E.wi w1 → To { E with w0 := w1 } (r.reD n ls (st i).1 (st i).2)) : To E r :=
  h fun w' s i sel hf hΦ => by
    cases r with
    | bad =>
      cases s with
      | dr _ _ _ => cases hf.region
      | _ => cases hf.isDr
    | at_ todo x =>
      cases s with
      | dr _ _ _ => cases hf.region
      | _ => cases hf.isDr
    | dr D k0 x =>
      cases s with
      | bad => cases hf.isDr
      | at_ todo' y => cases hf.isDr
      | dr D' k' y =>
        have hr := hf.region
        have hb := hf.base
        simp only [Fin.region, Fin.reD, Option.some.injEq, Prod.mk.injEq] at hr
        simp only [Fin.base, Option.some.injEq, Prod.mk.injEq] at hb
        obtain ⟨rfl, rfl⟩ := hr
        obtain ⟨b1, b2, b3, b4⟩ := hb
        refine ⟨fun as a w hW hF hw hS => ?_⟩
        have hk := (k i w (hΦ w hw) hw.ext).out as a w
        rw [← b1, ← b2, ← b3, ← b4] at hk
        exact hk hW (hF.same fun t v hl => look_fits (r := .dr ⟨D.ops, n, ls, D.hd, D.hb, none, D.rl⟩ k' y) hf.slots hl)
          (Facts.less (E := E) (w' := w') (r := .dr ⟨D.ops, n, ls, D.hd, D.hb, none, D.rl⟩ k' y) hw hf.blocks hf.apart) hS
theorem To.meetD {E : Env} {r : Fin} (n : Nat) (ls : List Bool) (st : List (Nat × Value) × List (Option Blk)) (Φ : World → Prop)
    (h : (∀ (w' : World) (s : Fin) (sel : List Nat), FitsD s r n ls st.1 st.2 sel → (∀ w, Facts { E with w0 := w' } s.hp w → Φ w) → To { E with w0 := w' } s) → To E r)
    (k : ∀ (w1 : World), Φ w1 → Ext E.ins E.wi w1 → To { E with w0 := w1 } (r.reD n ls st.1 st.2)) : To E r :=
  To.meetI (ι := Unit) n ls (fun _ => st) (fun _ => Φ) (fun j => h fun w' s sel hf hΦ => j w' s () sel hf hΦ) (fun _ => k)
end Go.SX
/- An array's element, by an index that is not known. Conditions: as each says. -/
namespace Go.SX
open Go.RowKit

/-- t is an array of len elements of type e, of so many cells each. -/
structure ArrOf (P : Program) (t e : TypeId) (len size : Nat) : Prop where
  ar : P.underlying t = some (.array len e)
  info : ∃ i, P.info? e = some i ∧ i.size = size
theorem ArrOf.of {P : Program} {t e : TypeId} {len size : Nat} (h : P.underlying t = some (.array len e)) (hi : (P.info? e).map (·.size) = some size) : ArrOf P t e len size := by
  refine ⟨h, ?_⟩
  cases hx : P.info? e with
  | none => rw [hx] at hi; cases hi
  | some i => rw [hx] at hi; exact ⟨i, rfl, by simpa using hi⟩
theorem run_indexArr {P : Program} {t e : TypeId} {len size : Nat} (el : ArrOf P t e len size) (ad : Addr) (i : Nat) (hi : i < len) (w : World) : (Instr.indexAt t (.pointer (some ad)) (.int .i64 (Int.ofNat i))).run P w = .ok (.pointer (some (ad.add (i * size)))) w := by
  obtain ⟨inf, h1, h2⟩ := el.info
  simp [Instr.indexAt, Instr.sureAddr, run_underlying el.ar, asIntOf, sizeOf, typeInfo, h1, h2, hi]
/-- 'a[i]', its place. -/
theorem To.indexArr {E : Env} {r : Fin} {t e : TypeId} {len size : Nat} (el : ArrOf E.P t e len size) (ad : Addr) (i : Nat) (h : r.oper = some (opV (Instr.indexAt t (.pointer (some ad)) (.int .i64 (Int.ofNat i))))) (hi : i < len)
    (k : To E (r.gave (.pointer (some (ad.add (i * size)))))) : To E r :=
  To.lawV _ _ h (fun w _ => run_indexArr el ad i hi w) k
theorem To.indexArrE {E : Env} {r : Fin} (n : Nat) {t e : TypeId} {len size : Nat} (el : ArrOf E.P t e len size) (ad : Addr) (i : Nat) (h : r.operE n = some (opV (Instr.indexAt t (.pointer (some ad)) (.int .i64 (Int.ofNat i))))) (hi : i < len)
    (k : To E (r.gaveE n (.pointer (some (ad.add (i * size)))))) : To E r :=
  To.lawES n _ _ h (fun w _ => run_indexArr el ad i hi w) k
end Go.SX
/- A call by a contract that turns nothing that was there when the function began, and leaves the known blocks as they are but for some that are let go. Conditions: as each says. -/
namespace Go.SX
open Go.RowKit

theorem Facts.grownK {E : Env} {hp : List (Option Blk)} {w w1 : World} {ds : List Nat} (h : Facts E hp w) (hg : Below E.wi.heap.size w w1)
    (hk : ∀ i x, nth (delL hp ds) i = some x → w1.heap[x.b]? = some x.o) : Facts { E with w0 := w1 } (delL hp ds) w1 := by
  refine ⟨Fr.refl _ _, ⟨hk, fun i j x y hx hy hne' => h.tr.ne i j x y (nth_delL hx) (nth_delL hy) hne'⟩, ?_, fun j b hb hq => h.own j b (nth_delL hb) hq⟩
  refine ⟨hg.os.trans h.ext.os, hg.tape.trans h.ext.tape, hg.output.trans h.ext.output, Nat.le_trans h.ext.size hg.size, fun k hk hn => ?_⟩
  rw [hg.block k hk, h.ext.block k hk hn]
theorem To.callK {E : Env} {r : Fin} (g : FuncId) (args : Array Value) (ds : List Nat) {Φ : World → Value → World → Prop} (h : r.oper.isSome = true) (hm : ∀ w, r.opm.run E.P w = .ok (.enter g args) w)
    (hc : ∀ w, Facts E r.hp w → Calls E.P g args w fun e w1 => ∃ v, e = .returned v ∧ Below E.wi.heap.size w w1 ∧ (∀ i x, nth (delL r.hp ds) i = some x → w1.heap[x.b]? = some x.o) ∧ Φ w v w1)
    (hh : r.heldC = [])
    (k : ∀ w v w1, Facts E r.hp w → Below E.wi.heap.size w w1 → Φ w v w1 → To { E with w0 := w1 } ((r.gave v).delS ds)) : To E r := by
  refine To.op (Fin.opm_spec h) fun c o x as a w Q hcur hsl hd hW hF hw hS => ?_
  have e := hp_of_sl hsl
  rw [hm w]
  simp only [Oper.upon]
  refine (hc w (e ▸ hw)).mono ?_
  rintro en w1 ⟨v, rfl, hg, hkp, hΦ⟩
  have hf : Facts { E with w0 := w1 } (delL x.s.hp ds) w1 := hw.grownK hg (e ▸ hkp)
  have k := (k w v w1 (e ▸ hw) hg hΦ).out
  simp only [Fin.gave, hcur, hsl, back] at k
  simp only [Fin.heldC, hcur] at hh
  show Cont E.P (RS E.P E.R as) c (a.put o.dst v) w1
  rw [← hd]
  unfold Cont
  cases hdr : c.dr with
  | none =>
    rw [hdr] at k
    exact k as _ _ hW (hF.put c.dst v) hf
  | some D =>
    rw [hdr] at k hh
    exact k as _ _ hW (hF.put c.dst v) hf (fun j b hj => by simp only at hh; rw [hh] at hj; cases j <;> cases hj)
/-- 's[:j]' of a text. -/
theorem To.sliceStrTo {E : Env} {r : Fin} {t : TypeId} (hu : E.P.underlying t = some .string) (s : ByteArray) (j : Nat) (hj : j ≤ s.size) (h : r.oper = some (opV (Instr.sliceAt t (.string s) none (some (.int .i64 (Int.ofNat j))) none)))
    (k : To E (r.gave (.string (s.extract 0 j)))) : To E r := by
  refine To.lawV _ _ h (fun w _ => ?_) k
  simp [Instr.sliceAt, run_underlying hu, Instr.slice, Instr.sliceBounds, run_sliceBound_in j s.size _ hj]
end Go.SX
/- 'make' with room, and 'copy' into a row that is known. Conditions: as each says. -/
namespace Go.SX
open Go.RowKit

/-- 'make([]T, n, c)', of elements of one cell. -/
theorem To.makeCap {E : Env} {r : Fin} {t e : TypeId} {bytes : Nat} (el : Elem E.P t e 1 bytes) (n c : Nat) (hnc : n ≤ c) (h : r.oper = some (opV (Instr.makeSlice t (.int .i64 (Int.ofNat n)) (.int .i64 (Int.ofNat c)))))
    (hb : bytes * c ≤ 281474976710656) (hn : c ≤ maxLen)
    (k : ∀ g rest, rest.length = c → E.w0.heap.size ≤ g → To E ((r.gave (.slice (some ⟨g, 0, none⟩) n c)).with g (.cells ⟨rest⟩ e (0, 0)) true)) : To E r := by
  obtain ⟨i, z, hi, hz, hs, hby, hzs⟩ := el.info
  refine To.madeV (ι := List Value) _ (fun b _ => .slice (some ⟨b, 0, none⟩) n c) (fun _ i => .cells ⟨i⟩ e (0, 0)) (fun i => i.length = c) h (fun w hw => ?_) (fun b i hi hb => k b i hi hb)
  have hr := run_make (P := E.P) w t e i z el.sl hi hz .i64 .i64 (n : Int) (c : Int) (by omega) (Int.ofNat_le.2 hnc) (by
    have : (i.bytes * c : Nat) ≤ 281474976710656 := by rw [hby]; exact hb
    have h2 : ((i.bytes * c : Nat) : Int) ≤ 281474976710656 := by omega
    rwa [Int.natCast_mul] at h2) (by simp only [maxLen] at hn; omega)
  refine ⟨(madeCells z.cells (c * i.size)).toList, w.drawn, by rw [Array.length_toList, size_madeCells, hs, Nat.mul_one], ?_⟩
  simp only [Int.toNat_natCast] at hr
  rw [show Int.ofNat n = (n : Int) from rfl, show Int.ofNat c = (c : Int) from rfl, hr]
  rfl
/-- 'copy(s[o:], p)', s's row being known. -/
theorem To.copyRow {E : Env} {r : Fin} {dT sT ty elem : TypeId} (j g o dLen dCap : Nat) (a : Addr) (sLen sCap : Nat) (l l' : List Value) (t : TypeId) (cs : List Value)
    (hu : E.P.underlying dT = some (.slice elem)) (hs : (E.P.info? elem).map (·.size) = some 1)
    (h : r.oper = some (opV (Builtin.copy_ #[dT, sT] ty #[.slice (some ⟨g, o, none⟩) dLen dCap, .slice (some a) sLen sCap])))
    (hj : nth r.hp j = some ⟨g, .cells ⟨l⟩ t (0, 0), true⟩) (hn : cs.length = Nat.min sLen dLen)
    (hsrc : ∀ w, Facts E r.hp w → ∀ i v, cs[i]? = some v → w.cell? (a.add i) = some v) (hfit : o + cs.length ≤ l.length) (h1 : ∀ v ∈ cs, v.oneCell' = true)
    (hl' : l.take o ++ cs ++ l.drop (o + cs.length) = l') (hh : ∀ i x, nth r.heldC i = some x → x.b ≠ g)
    (k : To E ((r.gave (.int .i64 (Int.ofNat cs.length))).set j (.cells ⟨l'⟩ t (0, 0)))) : To E r := by
  refine To.wrote j g (.cells ⟨l⟩ t (0, 0)) (.cells ⟨l'⟩ t (0, 0)) _ h hj (fun w hw => ⟨w.drawn, ?_⟩) hh k
  have hb := hw.tr.blk j _ hj
  have hr := run_copy_row (P := E.P) w dT sT ty elem g o dLen dCap a sLen sCap ⟨l⟩ t cs hu hs hb hn (hsrc w hw) hfit h1
  rw [run_opV hr, setRow_is hb]
  simp only [hl']
  rfl
end Go.SX
/- A text appended to a row that is known and has room. Conditions: as each says. -/
namespace Go.SX
open Go.RowKit

theorem run_append_text {P : Program} (w : World) (t u ty e tag : TypeId) (i : TypeInfo) (ht : P.underlying t = some (.slice e)) (hu : P.underlying u = some .string) (hi : P.info? e = some i) (hs1 : i.size = 1)
    (g n cap : Nat) (cur : Array Value) (hg : w.heap[g]? = some (.cells cur tag (0, 0))) (s : ByteArray) (hroom : n + s.size ≤ cap) (hfit : n + s.size ≤ cur.size) :
    (Builtin.append_ #[t, u] ty #[.slice (some ⟨g, 0, none⟩) n cap, .string s]).run P w =
      .ok (.slice (some ⟨g, 0, none⟩) (n + s.size) cap) (w.setRow g (cur.toList.take n ++ Lib.strCells s ++ cur.toList.drop (n + s.size)).toArray) := by
  have hf := Lib.run_firstCells_string (P := P) w 1 s
  have hst := run_storeCells_at P g n tag (Lib.strCells s) 0 cur w hg (by simpa [Lib.strCells_length] using hfit) (Lib.strCells_oneCell s)
  simp only [Nat.add_zero, Lib.strCells_length] at hst
  simp [Builtin.append_, run_underlying ht, run_underlying hu, sizeOf, typeInfo, hi, hs1, Builtin.lenOf, hroom, hf, Addr.add_lit, hst]
/-- 'append(b, s...)', where b's row is known and has room. -/
theorem To.appendText {E : Env} {r : Fin} {t u ty e : TypeId} (tag : TypeId) (ht : E.P.underlying t = some (.slice e)) (hu : E.P.underlying u = some .string) (hs1 : (E.P.info? e).map (·.size) = some 1)
    (j g n cap : Nat) (l l' : List Value) (s : ByteArray) (N : Nat)
    (h : r.oper = some (opV (Builtin.append_ #[t, u] ty #[.slice (some ⟨g, 0, none⟩) n cap, .string s])))
    (hj : nth r.hp j = some ⟨g, .cells ⟨l⟩ tag (0, 0), true⟩) (hN : n + s.size = N) (hroom : n + s.size ≤ cap) (hfit : n + s.size ≤ l.length)
    (hl' : l.take n ++ scells s ++ l.drop (n + s.size) = l') (hh : ∀ i x, nth r.heldC i = some x → x.b ≠ g)
    (k : To E ((r.gave (.slice (some ⟨g, 0, none⟩) N cap)).set j (.cells ⟨l'⟩ tag (0, 0)))) : To E r := by
  subst hN
  cases hi : E.P.info? e with
  | none => rw [hi] at hs1; cases hs1
  | some i =>
    rw [hi] at hs1
    have hs : i.size = 1 := by simpa using hs1
    refine To.wrote j g (.cells ⟨l⟩ tag (0, 0)) (.cells ⟨l'⟩ tag (0, 0)) _ h hj (fun w hw => ⟨w.drawn, ?_⟩) hh k
    have hb := hw.tr.blk j _ hj
    have hr := run_append_text (P := E.P) w t u ty e tag i ht hu hi hs g n cap ⟨l⟩ hb s hroom hfit
    rw [run_opV hr, setRow_is hb]
    simp only [← hl']
    rfl
end Go.SX
/- The return of a function with one deferred call that is quiet; what is known ahead of that call is carried over it. Conditions: the deferred call turns nothing that was there. -/
namespace Go.SX
open Go.RowKit

theorem To.retDQ {E : Env} {r : Fin} (d : Deferred) (fv : Fn) (cap : Array Value) (g : FuncId) (args : Array Value) (hs : List Nat) (v : Value) (hd : r.lastD = some d) (ht : d.target = .fn fv cap)
    (hi : ∀ w, (invoke d.target d.args).run E.P w = .ok (.enter g args) w) (hc : ∀ w, Facts E r.hp w → Quiet E.P g args w)
    (hv : (r.outD E.P hs).val = some v) (he : (r.outD E.P hs).met = (r.outD E.P hs).meant) (hn : r.waits = false)
    (h : ∀ w w1, Facts E r.hp w → Ext [] w w1 → E.R (.returned v) w1) : To E r := by
  cases hx : r.endedAt with
  | none => simp only [Fin.lastD, hx] at hd; cases hd
  | some x =>
    have hhp : r.hp = x.s.hp := by
      unfold Fin.endedAt at hx
      split at hx <;> simp only [Option.some.injEq, reduceCtorEq] at hx <;> subst hx <;> rfl
    simp only [Fin.lastD, hx] at hd
    simp only [Fin.outD, hx] at hv he
    unfold Fin.waits at hn
    rw [hx] at hn
    simp only at hn
    cases hfn : E.P.funcs[x.f]? with
    | none => simp only [hfn] at hv; cases hv
    | some fn =>
      simp only [hfn] at hv he
      cases hk : knowsSlots x.tm (fn.results.toList.map slotOf) with
      | false => simp only [hk] at hv; cases hv
      | true =>
        simp only [hk] at hv he
        cases hs' : sevR E.P (results fn ⟨listOf x.tm 0 x.nt⟩) ⟨x.s.hp, id, id, hs, [], []⟩ with
        | bad => rw [hs'] at hv; cases hv
        | panic u s1 => rw [hs'] at hv; cases hv
        | ok u s1 =>
          rw [hs'] at hv he
          simp only [Out.val, Option.some.injEq] at hv
          subst hv
          have hdf : x.df = [d] := by
            split at hd
            · simp only [Option.some.injEq] at hd; subst hd; assumption
            · cases hd
          refine ended_way hx fun as a w hW hF hw => Ret.leaves hfn ?_
          rw [hF.defers, hdf]
          refine ⟨by simp, fv, cap, g, args, ht, hi w, (hc w (hhp ▸ hw)).mono ?_⟩
          rintro e u' w1 ⟨⟨u2, rfl⟩, rfl, hext⟩
          obtain ⟨h1, _⟩ := hw.called hext
          refine ⟨u, ?_, ?_⟩
          · rw [results_known hF hk]
            exact (sevR_sound E.P _ ⟨x.s.hp, id, id, hs, [], []⟩ _ _ w1 h1.tr.blk hs').2.2 he
          · cases hst : x.st with
            | cons _ _ => rw [hst] at hn; cases hn
            | nil =>
              rw [hst] at hW
              cases as with
              | nil => exact h w w1 (hhp ▸ hw) hext
              | cons _ _ => exact hW.elim
end Go.SX
