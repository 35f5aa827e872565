/- Rules of the symbolic executor: tests, calls, loops, slices, strings, appends, stores. Conditions: as each says. -/
import Derived.Test.YtgodhbgnhapemaaGreatDoorSxA
import Derived.Recover
import Derived.Laws.AppendOwn
import Derived.Laws.BytesArg
import Derived.Laws.IdiomStrings
import Derived.IntWalk
import Derived.Laws.MakeOwn
import Derived.Laws.CopyRow
import Derived.Laws.IdiomCopy
set_option linter.unusedVariables false
set_option linter.unusedSimpArgs false
/- The rules by which code is led from stop to stop: a stretch that the kernel runs, a test, a guard, a call by its contract, a loop, the return. Conditions: one goroutine. -/
namespace Go.SX
open Go.RowKit

/-- From what was reached the function ends as it should. -/
structure To (E : Env) (r : Fin) : Prop where
  out : LeadsF E r

/-! ### The start -/
def start (f : FuncId) (nt : Nat) (c : Code) (args : List Value) (hp : List (Option Blk)) : Fin := .at_ [.code c] ⟨f, nt, slots 0 args, [], ⟨hp, id, id, [], [], []⟩, []⟩
/-- The contract of a function from the way of its body. ins: the blocks that it is given to write. -/
theorem calls_of {P : Program} {f : FuncId} {fn : Func} {c : Code} {args : List Value} {w : World} {R : Ending → World → Prop} {nt : Nat} (ins : List Nat) (hp : List (Option Blk))
    (hf : P.funcs[f]? = some fn) (hb : fn.body = some c) (hn : fn.ntmps = nt) (hl : Nat.ble args.length nt = true) (ht : Tr hp w) (ho : ∀ j b, nth hp j = some b → b.rw = true → b.b ∈ ins)
    (h : To { P := P, R := R, wi := w, ins := ins, w0 := w } (start f nt c args hp)) : Calls P f args.toArray w R := by
  refine Way.calls hf hb ?_
  subst hn
  exact h.out [] _ w trivial (HoldF.enter hl) ⟨Fr.refl _ _, ht, Ext.refl _ _, fun j b hb hrw => .inr (ho j b hb hrw)⟩
theorem Tr.nil (w : World) : Tr [] w := ⟨(fun j b h => by cases j <;> cases h), (fun i j x y h => by cases i <;> cases h)⟩
/-- A function that is given nothing to write. -/
theorem calls_of0 {P : Program} {f : FuncId} {fn : Func} {c : Code} {args : List Value} {w : World} {R : Ending → World → Prop} {nt : Nat}
    (hf : P.funcs[f]? = some fn) (hb : fn.body = some c) (hn : fn.ntmps = nt) (hl : Nat.ble args.length nt = true)
    (h : To { P := P, R := R, wi := w, ins := [], w0 := w } (start f nt c args [])) : Calls P f args.toArray w R :=
  calls_of [] [] hf hb hn hl (Tr.nil w) (fun j b h => by cases j <;> cases h) h

/-! ### A stretch -/
def Fin.fresh (hs : List Nat) (f g : Nat → Nat) : Fin → Fin
  | .at_ todo x => .at_ todo { x with s := ⟨x.s.hp, f, g, hs, [], []⟩ }
  | .dr D k x => .dr D k { x with s := ⟨x.s.hp, f, g, hs, [], []⟩ }
  | .bad => .bad
def Fin.go (P : Program) (n : Nat) (hs : List Nat) (f g : Nat → Nat) (r : Fin) : Fin := run P n (r.fresh hs f g)
/-- A stretch that the kernel runs; new blocks have numbers that were none at the time at hand. -/
theorem To.runF {E : Env} {r : Fin} (n : Nat) (hs : List Nat) (he : ∀ f g, (r.go E.P n hs f g).met = (r.go E.P n hs f g).meant) (h : ∀ f g, (∀ k, E.w0.heap.size ≤ f k) → To E (r.go E.P n hs f g)) : To E r := by
  have key : LeadsF E (r.fresh hs id id) := by
    refine run_sound E n (r.fresh hs id id) fun f g => ?_
    have h1 := he (up E f) g
    have h2 := (h (up E f) g (up_le E f)).out
    have e : (r.fresh hs id id).with_ (up E f) g = r.fresh hs (up E f) g := by cases r <;> rfl
    rw [e]
    exact ⟨h1, h2⟩
  cases r with
  | bad => exact ⟨key⟩
  | at_ todo x => exact ⟨key⟩
  | dr D k x => exact ⟨key⟩
theorem To.run {E : Env} {r : Fin} (n : Nat) (hs : List Nat) (he : ∀ f g, (r.go E.P n hs f g).met = (r.go E.P n hs f g).meant) (h : ∀ f g, To E (r.go E.P n hs f g)) : To E r :=
  To.runF n hs he fun f g _ => h f g

/-! ### A test -/
def Fin.test : Fin → Option Bool
  | .at_ (.code (.cond y _ _) :: _) x =>
    match knows x.tm y with
    | false => none
    | true => match evalT x.tm y with | .bool t => some t | _ => none
  | _ => none
def Fin.yes : Fin → Fin
  | .at_ (.code (.cond _ a _) :: k) x => .at_ (.code a :: k) x
  | _ => .bad
def Fin.no : Fin → Fin
  | .at_ (.code (.cond _ _ b) :: k) x => .at_ (.code b :: k) x
  | _ => .bad
theorem To.test {E : Env} {r : Fin} (c : Bool) (hc : r.test = some c) (h1 : c = true → To E r.yes) (h2 : c = false → To E r.no) : To E r := by
  unfold Fin.test at hc
  split at hc
  · rename_i y p q k x
    refine ⟨fun as a w hW hF hw => ?_⟩
    split at hc
    · cases hc
    · rename_i hk
      have hev := evalT_eq hF hk
      split at hc
      · rename_i t ht
        simp only [Option.some.injEq] at hc
        subst hc
        rw [ht] at hev
        refine Way.skip1 (fun cs => step_cond hev) ?_
        cases t with
        | true => exact (h1 rfl).out as a w hW hF hw
        | false => exact (h2 rfl).out as a w hW hF hw
      · cases hc
  · cases hc

/-! ### A guard -/
def guardSlot (ops : Array Oper) (o : Oper) : Option Nat :=
  match o.guard with
  | none => none
  | some (j, _) => match ops[j]? with | none => none | some oj => oj.dst
def Fin.guard : Fin → Option Bool
  | .at_ (.inRegion ops (i :: _) :: _) x =>
    match ops[i]? with
    | none => none
    | some o =>
      match guardSlot ops o with
      | none => none
      | some t => match look x.tm t with | some (.bool b) => some b | _ => none
  | _ => none
/-- The guard's slot is known to hold b. -/
def Fin.known (b : Bool) : Fin → Fin
  | .at_ (.inRegion ops (i :: r) :: k) x =>
    match ops[i]? with
    | none => .bad
    | some o =>
      match guardSlot ops o with
      | none => .bad
      | some t => .at_ (.inRegion ops (i :: r) :: k) { x with tm := (t, .bool b) :: drop x.tm t }
  | _ => .bad
theorem HoldF.same {nt : Nat} {tm tm' : List (Nat × Value)} {df : List Deferred} {a : Act} (h : HoldF nt tm df a)
    (hs : ∀ t v, look tm' t = some v → look tm t = some v) : HoldF nt tm' df a := ⟨h.size, h.defers, fun t v hl => h.slot t v (hs t v hl)⟩
theorem look_set {tm : List (Nat × Value)} {t : Nat} {v : Value} (h : look tm t = some v) : ∀ t' v', look ((t, v) :: drop tm t) t' = some v' → look tm t' = some v' := by
  intro t' v' hl
  simp only [look] at hl
  cases hb : Nat.beq t t' with
  | true =>
    rw [hb] at hl
    have := Nat.eq_of_beq_eq_true hb
    subst this
    simp only [Option.some.injEq] at hl
    rw [h, hl]
  | false =>
    rw [hb] at hl
    exact (look_drop hl).1
theorem To.guard {E : Env} {r : Fin} (c : Bool) (hc : r.guard = some c) (h1 : c = true → To E (r.known true)) (h2 : c = false → To E (r.known false)) : To E r := by
  unfold Fin.guard at hc
  split at hc
  · rename_i ops i rr k x
    split at hc
    · cases hc
    · rename_i o ho
      split at hc
      · cases hc
      · rename_i t ht
        split at hc
        · rename_i b hb
          simp only [Option.some.injEq] at hc
          subst hc
          refine ⟨fun as a w hW hF hw => ?_⟩
          cases b with
          | true =>
            have h := (h1 rfl).out
            simp only [Fin.known, ho, ht] at h
            exact h as a w hW (hF.same (look_set hb)) hw
          | false =>
            have h := (h2 rfl).out
            simp only [Fin.known, ho, ht] at h
            exact h as a w hW (hF.same (look_set hb)) hw
        · cases hc
  · cases hc

/-! ### A slot that holds a truth value -/
def Fin.tm : Fin → List (Nat × Value)
  | .at_ _ x => x.tm
  | .dr _ _ x => x.tm
  | .bad => []
def Fin.truth (t : Nat) (r : Fin) : Option Bool :=
  match look r.tm t with
  | some (.bool b) => some b
  | _ => none
def Fin.holds (t : Nat) (b : Bool) : Fin → Fin
  | .at_ todo x => .at_ todo { x with tm := (t, .bool b) :: drop x.tm t }
  | .dr D k x => .dr D k { x with tm := (t, .bool b) :: drop x.tm t }
  | .bad => .bad
theorem To.slot {E : Env} {r : Fin} (t : Nat) (c : Bool) (hc : r.truth t = some c) (h1 : c = true → To E (r.holds t true)) (h2 : c = false → To E (r.holds t false)) : To E r := by
  unfold Fin.truth at hc
  split at hc
  · rename_i b hb
    simp only [Option.some.injEq] at hc
    subst hc
    cases r with
    | bad => cases hb
    | at_ todo x =>
      refine ⟨fun as a w hW hF hw => ?_⟩
      cases b with
      | true => exact (h1 rfl).out as a w hW (hF.same (look_set hb)) hw
      | false => exact (h2 rfl).out as a w hW (hF.same (look_set hb)) hw
    | dr D k x =>
      refine ⟨fun as a w hW hF hw hS => ?_⟩
      cases b with
      | true => exact (h1 rfl).out as a w hW (hF.same (look_set hb)) hw hS
      | false => exact (h2 rfl).out as a w hW (hF.same (look_set hb)) hw hS
  · cases hc

/-! ### An operation by a law of its own; a call by its contract -/
/-- The operation at which it stands, and the frame that goes on behind it. -/
def Fin.cur : Fin → Option (Fr1 × Oper)
  | .at_ (.inRegion ops (i :: r) :: k) x =>
    match ops[i]? with
    | none => none
    | some o => some (⟨x.f, x.nt, ops, o.dst, r, k, x.tm, x.df, none⟩, o)
  | .dr D k x =>
    match D.next with
    | [i] =>
      match D.n with
      | 0 => none
      | m + 1 =>
        match D.ops[i]? with
        | none => none
        | some o => some (⟨x.f, x.nt, D.ops, o.dst, [], k, x.tm, x.df, some (D.took i m)⟩, o)
    | _ => none
  | _ => none
def Fin.sl : Fin → Option Sl
  | .at_ _ x => some x
  | .dr _ _ x => some x
  | .bad => none
def Fin.hp : Fin → List (Option Blk)
  | .at_ _ x => x.s.hp
  | .dr _ _ x => x.s.hp
  | .bad => []
/-- The same, without what is owed. -/
def back (c : Fr1) (v : Value) (s : Sh) (rest : List Fr1) : Fin :=
  match c.dr with
  | none => .at_ (.inRegion c.ops c.r :: c.k) ⟨c.f, c.nt, putT c.nt c.tm c.dst v, c.df, s, rest⟩
  | some D => .dr D c.k ⟨c.f, c.nt, putT c.nt c.tm c.dst v, c.df, s, rest⟩
/-- The operation at which it stands, as it is to be carried out. -/
def Fin.oper (r : Fin) : Option (Go.Sem Next) :=
  match r.cur with
  | none => none
  | some (c, o) => match opReady c.ops c.tm o with | true => some (execOp (evalT c.tm) o) | false => none
/-- Behind the operation, which has given v. -/
def Fin.gave (v : Value) (r : Fin) : Fin :=
  match r.cur, r.sl with
  | some (c, _), some x => back c v x.s x.st
  | _, _ => .bad

theorem opReady_spec {ops : Array Oper} {tm : List (Nat × Value)} {o : Oper} (h : opReady ops tm o = true) : gd ops tm o = some true ∧ isSelect o.op = false ∧ knowsAll tm o.op.operands.toList = true := by
  unfold opReady at h
  split at h
  · rename_i hg
    split at h
    · cases h
    · rename_i hs
      exact ⟨hg, hs, h⟩
  · cases h
/-- Behind an operation: the frame's own way on. -/
def Cont2 (E : Env) (as : List (Fr1 × Act)) (c : Fr1) (a : Act) (w : World) : Prop := Cont E.P (RS E.P E.R as) c a w
theorem To.op {E : Env} {r : Fin} {m : Go.Sem Next} (h : r.oper = some m)
    (k : ∀ (c : Fr1) (o : Oper) (x : Sl) (as : List (Fr1 × Act)) (a : Act) (w : World) (Q : Exit → Act → World → Prop), r.cur = some (c, o) → r.sl = some x → c.dst = o.dst → Waits as x.st → HoldF c.nt c.tm c.df a → Facts E x.s.hp w →
      (∀ D, c.dr = some D → SH D.hb w) → o.upon E.P a (Cont E.P (RS E.P E.R as) c) Q (m.run E.P w)) : To E r := by
  unfold Fin.oper at h
  cases hcur : r.cur with
  | none => rw [hcur] at h; cases h
  | some co =>
    obtain ⟨c, o⟩ := co
    rw [hcur] at h
    simp only at h
    cases hr : opReady c.ops c.tm o with
    | false => rw [hr] at h; cases h
    | true =>
      rw [hr] at h
      simp only [Option.some.injEq] at h
      subst h
      obtain ⟨hg, hs, hk⟩ := opReady_spec hr
      unfold Fin.cur at hcur
      split at hcur
      · rename_i ops i rr kk x
        split at hcur
        · cases hcur
        · rename_i o' ho
          simp only [Option.some.injEq, Prod.mk.injEq] at hcur
          obtain ⟨rfl, rfl⟩ := hcur
          refine ⟨fun as a w hW hF hw => ?_⟩
          refine Way.op ho (gd_wanted hF hg) ?_
          rw [exec_eq hF hs hk]
          exact k ⟨x.f, x.nt, ops, o'.dst, rr, kk, x.tm, x.df, none⟩ o' x as a w _ (by simp only [Fin.cur, ho]) rfl rfl hW hF hw (fun D hD => by cases hD)
      · rename_i D kk x
        split at hcur
        · rename_i i hn
          split at hcur
          · cases hcur
          · rename_i m hm
            split at hcur
            · cases hcur
            · rename_i o' ho
              simp only [Option.some.injEq, Prod.mk.injEq] at hcur
              obtain ⟨rfl, rfl⟩ := hcur
              refine ⟨fun as a w hW hF hw hS => ?_⟩
              refine Drawn.only hn hm hS ?_
              unfold wpOp
              simp only [ho]
              simp only [gd_wanted hF hg, if_true]
              refine .inl ?_
              unfold Oper.wp
              rw [exec_eq hF hs hk]
              exact k ⟨x.f, x.nt, D.ops, o'.dst, [], kk, x.tm, x.df, some (D.took i m)⟩ o' x as a w _ (by simp only [Fin.cur, hn, hm, ho]) rfl rfl hW hF hw (fun D' hD => by simp only [Option.some.injEq] at hD; subst hD; exact hS.took)
        · cases hcur
      · cases hcur

theorem gave_out {E : Env} {r : Fin} {v : Value} {c : Fr1} {o : Oper} {x : Sl} {as : List (Fr1 × Act)} {a : Act} {w : World} (h : To E (r.gave v)) (hcur : r.cur = some (c, o)) (hsl : r.sl = some x) (hd : c.dst = o.dst)
    (hW : Waits as x.st) (hF : HoldF c.nt c.tm c.df a) (hw : Facts E x.s.hp w) (hS : ∀ D, c.dr = some D → SH D.hb w) : Cont E.P (RS E.P E.R as) c (a.put o.dst v) w := by
  have h := h.out
  simp only [Fin.gave, hcur, hsl, back] at h
  unfold Cont
  rw [← hd]
  cases hdr : c.dr with
  | none => rw [hdr] at h; exact h as _ w hW (hF.put c.dst v) hw
  | some D => rw [hdr] at h; exact h as _ w hW (hF.put c.dst v) hw (hS D hdr)
theorem hp_of_sl {r : Fin} {x : Sl} (h : r.sl = some x) : r.hp = x.s.hp := by
  cases r <;> simp only [Fin.sl, Option.some.injEq, reduceCtorEq] at h <;> subst h <;> rfl
/-- The operation gives v and leaves the world as it is. -/
theorem To.law {E : Env} {r : Fin} {m : Go.Sem Next} (v : Value) (h : r.oper = some m) (hm : ∀ w, Facts E r.hp w → m.run E.P w = .ok (.value v) w) (k : To E (r.gave v)) : To E r := by
  refine To.op h fun c o x as a w Q hcur hsl hd hW hF hw hS => ?_
  rw [hm w (hp_of_sl hsl ▸ hw)]
  exact gave_out k hcur hsl hd hW hF hw hS

/-- The operation that is taken first among those that may come up; the frame behind it. -/
def Fin.curE (i : Nat) : Fin → Option (Fr1 × Oper)
  | .dr D k x =>
    match D.pk with
    | some _ => none
    | none =>
      match memN i D.next with
      | false => none
      | true =>
        match D.n with
        | 0 => none
        | m + 1 =>
          match D.ops[i]? with
          | none => none
          | some o =>
            match noSel D.ops.toList with
            | false => none
            | true => match freeD D o i with | false => none | true => some (⟨x.f, x.nt, D.ops, o.dst, [], k, x.tm, x.df, some (D.took i m)⟩, o)
  | _ => none
def Fin.operE (i : Nat) (r : Fin) : Option (Go.Sem Next) :=
  match r.curE i with
  | none => none
  | some (c, o) => match opReady c.ops c.tm o with | true => some (execOp (evalT c.tm) o) | false => none
def Fin.gaveE (i : Nat) (v : Value) (r : Fin) : Fin :=
  match r.curE i, r.sl with
  | some (c, _), some x => back c v x.s x.st
  | _, _ => .bad
/-- It gives v in whatever world, and is taken first. -/
theorem To.lawE {E : Env} {r : Fin} {m : Go.Sem Next} (i : Nat) (v : Value) (h : r.operE i = some m) (hm : ∀ w, m.run E.P w = .ok (.value v) w) (k : To E (r.gaveE i v)) : To E r := by
  have k := k.out
  unfold Fin.operE at h
  unfold Fin.gaveE at k
  cases hcur : r.curE i with
  | none => rw [hcur] at h; cases h
  | some co =>
    obtain ⟨c, o⟩ := co
    rw [hcur] at h k
    simp only at h
    cases hr : opReady c.ops c.tm o with
    | false => rw [hr] at h; cases h
    | true =>
      rw [hr] at h
      simp only [Option.some.injEq] at h
      subst h
      obtain ⟨hg, hs, hk⟩ := opReady_spec hr
      unfold Fin.curE at hcur
      split at hcur
      · rename_i D kk x
        split at hcur
        · cases hcur
        · rename_i hpk
          split at hcur
          · cases hcur
          · rename_i hi
            split at hcur
            · cases hcur
            · rename_i n hn
              split at hcur
              · cases hcur
              · rename_i o' ho
                split at hcur
                · cases hcur
                · rename_i hns
                  split at hcur
                  · cases hcur
                  · rename_i hf
                    simp only [Option.some.injEq, Prod.mk.injEq] at hcur
                    obtain ⟨rfl, rfl⟩ := hcur
                    refine ⟨fun as a w hW hF hw hS => ?_⟩
                    refine Drawn.early hpk hi hn hS ho hns hf (v := v) (.inl ⟨gd_wanted hF hg, fun w' _ => ?_⟩) ?_
                    · rw [exec_eq hF hs hk]; exact hm w'
                    · exact k as _ w hW (hF.put o'.dst v) hw hS.took
      · cases hcur
/-- Whichever of those that may come up comes up. -/
def nthN : List Nat → Nat → Option Nat
  | [], _ => none
  | i :: _, 0 => some i
  | _ :: r, n + 1 => nthN r n
def Fin.npicks : Fin → Nat
  | .dr D _ _ =>
    match D.pk, D.n with
    | none, _ + 1 => D.next.length
    | _, _ => 0
  | _ => 0
def Fin.pickAt (j : Nat) : Fin → Fin
  | .dr D k x => match nthN D.next j with | some i => .dr { D with pk := some i } k x | none => .bad
  | _ => .bad
def AllTo (E : Env) (r : Fin) : Nat → Prop
  | 0 => True
  | n + 1 => AllTo E r n ∧ To E (r.pickAt n)
theorem AllTo.get {E : Env} {r : Fin} : ∀ {n j : Nat}, AllTo E r n → j < n → To E (r.pickAt j)
  | n + 1, j, h, hj => by
    by_cases e : j = n
    · subst e; exact h.2
    · exact h.1.get (by omega)
theorem nthN_mem {l : List Nat} {i : Nat} (h : i ∈ l) : ∃ j, j < l.length ∧ nthN l j = some i := by
  induction l with
  | nil => cases h
  | cons x r ih =>
    cases h with
    | head => exact ⟨0, by simp, rfl⟩
    | tail _ h =>
      obtain ⟨j, h1, h2⟩ := ih h
      exact ⟨j + 1, by simpa using h1, h2⟩
theorem To.pick {E : Env} {r : Fin} (n : Nat) (hn : r.npicks = n + 1) (h : AllTo E r (n + 1)) : To E r := by
  cases r with
  | bad => cases hn
  | at_ todo x => cases hn
  | dr D k x =>
    simp only [Fin.npicks] at hn
    split at hn
    · rename_i m hk hm
      refine ⟨fun as a w hW hF hw hS => Drawn.all hk (fun e => by rw [e] at hn; cases hn) hm hS fun i hi => ?_⟩
      obtain ⟨j, hj, hji⟩ := nthN_mem hi
      have := (h.get (j := j) (by omega)).out
      simp only [Fin.pickAt, hji] at this
      exact this as a w hW hF hw hS
    · cases hn

/-- The world that a call has left: nothing but new blocks. -/
theorem Facts.called {E : Env} {hp : List (Option Blk)} {w w1 : World} (h : Facts E hp w) (hx : Ext [] w w1) : Facts { E with w0 := w1 } hp w1 ∧ Fr hp E.w0 w1 := by
  have hlt : ∀ j b, nth hp j = some b → b.b < w.heap.size := fun j b hb => h.lt hb
  have ht : Tr hp w1 := ⟨fun j b hb => (hx.block b.b (hlt j b hb) (by simp)).trans (h.tr.blk j b hb), h.tr.ne⟩
  have hf : Fr hp w w1 := ⟨hx.os, hx.tape, hx.output, hx.size, fun k hk _ => hx.block k hk (by simp)⟩
  have hn := h.next ht hf (Kn.refl _ _) (Kp.refl _)
  exact ⟨⟨Fr.refl _ _, ht, hn.ext, hn.own⟩, hn.fr⟩
theorem SH.called {hb : List (Option Blk)} {w w1 : World} (h : SH hb w) (hx : Ext [] w w1) : SH hb w1 := fun j b hj => by
  have := h j b hj
  rw [hx.block b.b (Array.getElem?_eq_some_iff.1 this).1 (by simp)]
  exact this

/-- A call by its contract: it returns, and turns nothing that was there. -/
theorem To.call {E : Env} {r : Fin} {m : Go.Sem Next} (g : FuncId) (args : Array Value) {Φ : World → Value → World → Prop} (h : r.oper = some m) (hm : ∀ w, m.run E.P w = .ok (.enter g args) w)
    (hc : ∀ w, Facts E r.hp w → Calls E.P g args w fun e w1 => ∃ v, e = .returned v ∧ Ext [] w w1 ∧ Φ w v w1)
    (k : ∀ w v w1, Facts E r.hp w → Ext [] w w1 → Fr r.hp E.w0 w1 → Φ w v w1 → To { E with w0 := w1 } (r.gave v)) : To E r := by
  refine To.op h fun c o x as a w Q hcur hsl hd hW hF hw hS => ?_
  rw [hm w]
  have hw' : Facts E r.hp w := hp_of_sl hsl ▸ hw
  simp only [Oper.upon]
  refine (hc w hw').mono ?_
  rintro e w1 ⟨v, rfl, hx, hΦ⟩
  obtain ⟨h1, h2⟩ := hw'.called hx
  exact gave_out (E := { E with w0 := w1 }) (k w v w1 hw' hx h2 hΦ) hcur hsl hd hW hF (hp_of_sl hsl ▸ h1) (fun D hD => (hS D hD).called hx)

/-! ### The return -/
/-- It stands at a return, nothing deferred, nobody waiting. -/
def Fin.ended : Fin → Option Sl
  | .at_ [] x => match x.df, x.st with | [], [] => some x | _, _ => none
  | .at_ (.code .ret :: _) x => match x.df, x.st with | [], [] => some x | _, _ => none
  | _ => none
def Fin.out (P : Program) (hs : List Nat) (r : Fin) : Out Value :=
  match r.ended with
  | none => .bad
  | some x =>
    match P.funcs[x.f]? with
    | none => .bad
    | some fn =>
      match knowsSlots x.tm (fn.results.toList.map slotOf) with
      | false => .bad
      | true => sevR P (results fn ⟨listOf x.tm 0 x.nt⟩) ⟨x.s.hp, id, id, hs, [], []⟩
def Out.val : Out Value → Option Value
  | .ok v _ => some v
  | _ => none
def Out.met {α : Type} : Out α → List Ob
  | .ok _ s => s.el
  | .panic _ s => s.el
  | .bad => []
def Out.meant {α : Type} : Out α → List Ob
  | .ok _ s => s.er
  | .panic _ s => s.er
  | .bad => []
/-- The return: its value, and what is known of the world then. -/
theorem To.ret {E : Env} {r : Fin} (hs : List Nat) (v : Value) (hv : (r.out E.P hs).val = some v) (he : (r.out E.P hs).met = (r.out E.P hs).meant) (h : ∀ w, Facts E r.hp w → E.R (.returned v) w) : To E r := by
  cases hr : r.ended with
  | none => simp only [Fin.out, hr] at hv; cases hv
  | some x =>
    simp only [Fin.out, hr] at hv he
    cases hfn : E.P.funcs[x.f]? with
    | none => simp only [hfn] at hv; cases hv
    | some fn =>
      simp only [hfn] at hv he
      cases hk : knowsSlots x.tm (fn.results.toList.map slotOf) with
      | false => simp only [hk] at hv; cases hv
      | true =>
        simp only [hk] at hv he
        cases hs' : sevR E.P (results fn ⟨listOf x.tm 0 x.nt⟩) ⟨x.s.hp, id, id, hs, [], []⟩ with
        | bad => rw [hs'] at hv; cases hv
        | panic u s1 => rw [hs'] at hv; cases hv
        | ok u s1 =>
          rw [hs'] at hv he
          simp only [Out.val, Option.some.injEq] at hv
          subst hv
          have key : ∀ as a w, Waits as x.st → HoldF x.nt x.tm x.df a → Facts E x.s.hp w → x.df = [] → x.st = [] → r.hp = x.s.hp → Ret E.P x.f (RS E.P E.R as) a w := by
            intro as a w hW hF hw hd hst hp
            have hrun := (sevR_sound E.P _ ⟨x.s.hp, id, id, hs, [], []⟩ _ _ w hw.tr.blk hs').2.2 he
            cases as with
            | nil => exact Ret.none hfn (hF.defers.trans hd) (by rw [results_known hF hk]; exact hrun) (h w (by rw [hp]; exact hw))
            | cons ca rest => rw [hst] at hW; exact hW.elim
          unfold Fin.ended at hr
          split at hr
          · rename_i y
            split at hr
            · rename_i hd hst
              simp only [Option.some.injEq] at hr
              subst hr
              exact ⟨fun as a w hW hF hw => Way.nil (key as a w hW hF hw hd hst rfl)⟩
            · cases hr
          · rename_i k y
            split at hr
            · rename_i hd hst
              simp only [Option.some.injEq] at hr
              subst hr
              exact ⟨fun as a w hW hF hw => Way.ret (key as a w hW hF hw hd hst rfl)⟩
            · cases hr
          · cases hr

/-! ### A block that is known besides -/
def Fin.with (b : Nat) (o : Obj) (q : Bool) : Fin → Fin
  | .at_ todo x => .at_ todo { x with s := { x.s with hp := snoc x.s.hp ⟨b, o, q⟩ } }
  | .dr D k x => .dr D k { x with s := { x.s with hp := snoc x.s.hp ⟨b, o, q⟩ } }
  | .bad => .bad
theorem Facts.with {E : Env} {hp : List (Option Blk)} {b : Nat} {o : Obj} {q : Bool} {w : World} (hw : Facts E hp w) (h1 : w.heap[b]? = some o) (h2 : ∀ j x, nth hp j = some x → x.b ≠ b)
    (h3 : q = true → E.wi.heap.size ≤ b ∨ b ∈ E.ins) : Facts E (snoc hp ⟨b, o, q⟩) w := by
  refine ⟨⟨hw.fr.os, hw.fr.tape, hw.fr.output, hw.fr.size, fun i hi hn => hw.fr.block i hi fun j y hy => hn j y (nth_snoc_old hy)⟩, ⟨fun j y hy => ?_, fun i j y z hy hz hne => ?_⟩, hw.ext, fun j y hy hq => ?_⟩
  · rcases nth_snoc hy with hy | ⟨rfl, _⟩
    · exact hw.tr.blk j y hy
    · exact h1
  · rcases nth_snoc hy with hy | ⟨rfl, e⟩ <;> rcases nth_snoc hz with hz | ⟨rfl, e'⟩
    · exact hw.tr.ne i j y z hy hz hne
    · exact h2 i y hy
    · exact (h2 j z hz).symm
    · omega
  · rcases nth_snoc hy with hy | ⟨rfl, _⟩
    · exact hw.own j y hy hq
    · exact h3 hq
theorem To.with {E : Env} {r : Fin} (b : Nat) (o : Obj) (q : Bool) (h : ∀ w, Facts E r.hp w → w.heap[b]? = some o ∧ (∀ j x, nth r.hp j = some x → x.b ≠ b) ∧ (q = true → E.wi.heap.size ≤ b ∨ b ∈ E.ins))
    (k : To E (r.with b o q)) : To E r := by
  cases r with
  | bad => exact ⟨k.out⟩
  | at_ todo x =>
    refine ⟨fun as a w hW hF hw => ?_⟩
    obtain ⟨h1, h2, h3⟩ := h w hw
    exact k.out as a w hW hF (hw.with h1 h2 h3)
  | dr D kk x =>
    refine ⟨fun as a w hW hF hw hS => ?_⟩
    obtain ⟨h1, h2, h3⟩ := h w hw
    exact k.out as a w hW hF (hw.with h1 h2 h3) hS

/-! ### Less is known; a loop -/
def Fin.todo : Fin → List Item
  | .at_ todo _ => todo
  | _ => []
/-- The frame: its function, its size, what is deferred, who waits. -/
def Fin.base : Fin → Option (FuncId × Nat × List Deferred × List Fr1)
  | .at_ _ x => some (x.f, x.nt, x.df, x.st)
  | .dr _ _ x => some (x.f, x.nt, x.df, x.st)
  | _ => none
/-- The same frame, with this left to do and this known. -/
def Fin.re (todo : List Item) (tm : List (Nat × Value)) (hp : List (Option Blk)) : Fin → Fin
  | .at_ _ x => .at_ todo ⟨x.f, x.nt, tm, x.df, ⟨hp, id, id, [], [], []⟩, x.st⟩
  | .dr _ _ x => .at_ todo ⟨x.f, x.nt, tm, x.df, ⟨hp, id, id, [], [], []⟩, x.st⟩
  | _ => .bad
def Fin.isLoop : Fin → Bool
  | .at_ (.code (.loop _) :: _) _ => true
  | _ => false
/-- Where a round begins, and where the next one does. -/
def Fin.round : Fin → List Item
  | .at_ (.code (.loop b) :: k) _ => .code b :: .inLoop b :: k
  | _ => []
def Fin.again : Fin → List Item
  | .at_ (.code (.loop b) :: k) _ => .inLoop b :: k
  | _ => []
/-- What is behind the piece of code at which it stands. -/
def Fin.rest : Fin → List Item
  | .at_ (_ :: k) _ => k
  | .dr _ k _ => k
  | _ => []
def fitsT (r : Fin) (tm : List (Nat × Value)) : List (Option Value) := tm.map fun p => look r.tm p.1
def wantT (tm : List (Nat × Value)) : List (Option Value) := tm.map fun p => some p.2
def fitsH (r : Fin) (sel : List Nat) : List (Option Blk) := sel.map fun j => nth r.hp j
def apart : List Nat → Bool
  | [] => true
  | j :: r => match r.contains j with | true => false | false => apart r

theorem look_fits {r : Fin} {tm : List (Nat × Value)} (h : fitsT r tm = wantT tm) {t : Nat} {v : Value} (hl : look tm t = some v) : look r.tm t = some v := by
  induction tm with
  | nil => cases hl
  | cons p rest ih =>
    obtain ⟨k, u⟩ := p
    simp only [fitsT, wantT, List.map_cons, List.cons.injEq] at h
    simp only [look] at hl
    cases hb : Nat.beq k t with
    | true =>
      rw [hb] at hl
      have := Nat.eq_of_beq_eq_true hb
      subst this
      simp only [Option.some.injEq] at hl
      rw [h.1, hl]
    | false => rw [hb] at hl; exact ih h.2 hl
theorem nth_fits {r : Fin} {sel : List Nat} {hp : List (Option Blk)} (h : fitsH r sel = hp) : ∀ {i : Nat} {x : Blk}, nth hp i = some x → ∃ j, sel[i]? = some j ∧ nth r.hp j = some x := by
  subst h
  induction sel with
  | nil => intro i x hx; cases i <;> cases hx
  | cons j rest ih =>
    intro i x hx
    cases i with
    | zero => exact ⟨j, rfl, hx⟩
    | succ i =>
      obtain ⟨j', h1, h2⟩ := ih hx
      exact ⟨j', by simpa using h1, h2⟩
theorem apart_ne {sel : List Nat} (h : apart sel = true) : ∀ {i i' j j' : Nat}, sel[i]? = some j → sel[i']? = some j' → i ≠ i' → j ≠ j' := by
  induction sel with
  | nil => intro i i' j j' h1; simp at h1
  | cons y r ih =>
    simp only [apart] at h
    cases hc : r.contains y with
    | true => rw [hc] at h; cases h
    | false =>
      rw [hc] at h
      have hn : ∀ {i j : Nat}, r[i]? = some j → y ≠ j := fun {i j} hi e => by
        have := List.mem_of_getElem? hi
        rw [← e] at this
        have : r.contains y = true := by simpa using this
        rw [hc] at this
        cases this
      intro i i' j j' h1 h2 hne
      cases i with
      | zero =>
        cases i' with
        | zero => exact absurd rfl hne
        | succ i' =>
          simp only [List.getElem?_cons_zero, Option.some.injEq] at h1
          simp only [List.getElem?_cons_succ] at h2
          subst h1
          exact hn h2
      | succ i =>
        simp only [List.getElem?_cons_succ] at h1
        cases i' with
        | zero =>
          simp only [List.getElem?_cons_zero, Option.some.injEq] at h2
          subst h2
          exact (hn h1).symm
        | succ i' =>
          simp only [List.getElem?_cons_succ] at h2
          exact ih h h1 h2 (by omega)
theorem Facts.less {E : Env} {w' : World} {r : Fin} {hp : List (Option Blk)} {sel : List Nat} {w : World} (h : Facts { E with w0 := w' } r.hp w) (hh : fitsH r sel = hp) (ha : apart sel = true) :
    Facts { E with w0 := w } hp w := by
  refine ⟨Fr.refl _ _, ⟨fun j b hb => ?_, fun i j x y hx hy hne => ?_⟩, h.ext, fun j b hb hq => ?_⟩
  · obtain ⟨j', _, h2⟩ := nth_fits hh hb
    exact h.tr.blk j' b h2
  · obtain ⟨i', h1, h2⟩ := nth_fits hh hx
    obtain ⟨j', h3, h4⟩ := nth_fits hh hy
    exact h.tr.ne i' j' x y h2 h4 (apart_ne ha h1 h3 hne)
  · obtain ⟨j', _, h2⟩ := nth_fits hh hb
    exact h.own j' b h2 hq

def Fin.isAt : Fin → Bool
  | .at_ _ _ => true
  | _ => false
/-- Less is known from here on, and the world is taken anew: w1 is the world where it stands. -/
theorem To.less {E : Env} {r : Fin} (tm : List (Nat × Value)) (hp : List (Option Blk)) (sel : List Nat) (hok : r.isAt = true) (ht : fitsT r tm = wantT tm) (hh : fitsH r sel = hp) (ha : apart sel = true)
    (h : ∀ w1, Facts E r.hp w1 → To { E with w0 := w1 } (r.re r.todo tm hp)) : To E r := by
  cases r with
  | bad => cases hok
  | dr _ _ _ => cases hok
  | at_ todo x => exact ⟨fun as a w hW hF hw => (h w hw).out as a w hW (hF.same fun t v hl => look_fits (r := .at_ todo x) ht hl) (Facts.less (E := E) (w' := E.w0) (r := .at_ todo x) hw hh ha)⟩

/-- Where a state fits what is known at a place: the place, the frame, the slots and the blocks. -/
structure Fits (s r : Fin) (todo : List Item) (tm : List (Nat × Value)) (hp : List (Option Blk)) (sel : List Nat) : Prop where
  todo : s.todo = todo
  base : s.base = r.base
  isAt : s.isAt = true
  slots : fitsT s tm = wantT tm
  blocks : fitsH s sel = hp
  apart : apart sel = true

/-- Ways meet again: what is known where they meet; from there on it is led once. -/
theorem To.cut {E : Env} {r : Fin} {ι : Type} (todo : List Item) (st : ι → List (Nat × Value) × List (Option Blk)) (Φ : ι → World → Prop)
    (k : ∀ i w1, Φ i w1 → Ext E.ins E.wi w1 → To { E with w0 := w1 } (r.re todo (st i).1 (st i).2))
    (h : (∀ (w' : World) (s : Fin) (i : ι) (sel : List Nat), Fits s r todo (st i).1 (st i).2 sel → (∀ w, Facts { E with w0 := w' } s.hp w → Φ i w) → To { E with w0 := w' } s) → To E r) : To E r :=
  h fun w' s i sel hf hΦ => by
    cases s with
    | bad => cases hf.isAt
    | dr _ _ _ => cases hf.isAt
    | at_ todo' y =>
      have key : ∀ x : Sl, some (y.f, y.nt, y.df, y.st) = some (x.f, x.nt, x.df, x.st) → (∀ w, Φ i w → Ext E.ins E.wi w → To { E with w0 := w } (.at_ todo ⟨x.f, x.nt, (st i).1, x.df, ⟨(st i).2, id, id, [], [], []⟩, x.st⟩)) →
          To { E with w0 := w' } (.at_ todo' y) := by
        intro x hb hk
        refine ⟨fun as a w hW hF hw => ?_⟩
        simp only [Option.some.injEq, Prod.mk.injEq] at hb
        obtain ⟨b1, b2, b3, b4⟩ := hb
        have ht : todo' = todo := hf.todo
        subst ht
        have hk := (hk w (hΦ w hw) hw.ext).out as a w
        rw [← b1, ← b2, ← b3, ← b4] at hk
        exact hk hW (hF.same fun t v hl => look_fits (r := .at_ todo' y) hf.slots hl) (Facts.less (E := E) (w' := w') (r := .at_ todo' y) hw hf.blocks hf.apart)
      cases r with
      | bad => cases hf.base
      | dr D0 k0 x => exact key x hf.base (fun w h1 h2 => k i w h1 h2)
      | at_ todo0 x => exact key x hf.base (fun w h1 h2 => k i w h1 h2)
/-- The same where what is behind the piece of code (or the region) at which it stands is reached; the new blocks by their numbers. -/
theorem To.join {E : Env} {r : Fin} (st : (Nat → Nat) → List (Nat × Value) × List (Option Blk))
    (h : (∀ (w' : World) (s : Fin) (i : Nat → Nat) (sel : List Nat), Fits s r r.rest (st i).1 (st i).2 sel → To { E with w0 := w' } s) → To E r)
    (k : ∀ (i : Nat → Nat) (w1 : World), Ext E.ins E.wi w1 → To { E with w0 := w1 } (r.re r.rest (st i).1 (st i).2)) : To E r :=
  To.cut r.rest st (fun _ _ => True) (fun i w1 _ hx => k i w1 hx) (fun j => h fun w' s i sel hf => j w' s i sel hf fun _ _ => trivial)

/-! ### The same within a region: behind these operations -/
def Fin.region : Fin → Option (Dr × List Item)
  | .dr D k _ => some (D, k)
  | _ => none
def Fin.reD (n : Nat) (ls : List Bool) (tm : List (Nat × Value)) (hp : List (Option Blk)) : Fin → Fin
  | .dr D k x => .dr ⟨D.ops, n, ls, D.hd, D.hb, none, D.rl⟩ k ⟨x.f, x.nt, tm, x.df, ⟨hp, id, id, [], [], []⟩, x.st⟩
  | _ => .bad
def Fin.isDr : Fin → Bool
  | .dr _ _ _ => true
  | _ => false
structure FitsD (s r : Fin) (n : Nat) (ls : List Bool) (tm : List (Nat × Value)) (hp : List (Option Blk)) (sel : List Nat) : Prop where
  region : s.region = (r.reD n ls tm hp).region
  base : s.base = r.base
  isDr : s.isDr = true
  slots : fitsT s tm = wantT tm
  blocks : fitsH s sel = hp
  apart : apart sel = true
theorem To.joinD {E : Env} {r : Fin} (n : Nat) (ls : List Bool) (st : (Nat → Nat) → List (Nat × Value) × List (Option Blk))
    (k : ∀ (i : Nat → Nat) (w1 : World), Ext E.ins E.wi w1 → To { E with w0 := w1 } (r.reD n ls (st i).1 (st i).2))
    (h : (∀ (w' : World) (s : Fin) (i : Nat → Nat) (sel : List Nat), FitsD s r n ls (st i).1 (st i).2 sel → To { E with w0 := w' } s) → To E r) : To E r :=
  h fun w' s i sel hf => by
    cases r with
    | bad =>
      cases s with
      | dr _ _ _ => cases hf.region
      | _ => cases hf.isDr
    | at_ todo x =>
      cases s with
      | dr _ _ _ => cases hf.region
      | _ => cases hf.isDr
    | dr D k0 x =>
      cases s with
      | bad => cases hf.isDr
      | at_ todo' y => cases hf.isDr
      | dr D' k' y =>
        have hr := hf.region
        have hb := hf.base
        simp only [Fin.region, Fin.reD, Option.some.injEq, Prod.mk.injEq] at hr
        simp only [Fin.base, Option.some.injEq, Prod.mk.injEq] at hb
        obtain ⟨rfl, rfl⟩ := hr
        obtain ⟨b1, b2, b3, b4⟩ := hb
        refine ⟨fun as a w hW hF hw hS => ?_⟩
        have hk := (k i w hw.ext).out as a w
        rw [← b1, ← b2, ← b3, ← b4] at hk
        exact hk hW (hF.same fun t v hl => look_fits (r := .dr ⟨D.ops, n, ls, D.hd, D.hb, none, D.rl⟩ k' y) hf.slots hl)
          (Facts.less (E := E) (w' := w') (r := .dr ⟨D.ops, n, ls, D.hd, D.hb, none, D.rl⟩ k' y) hw hf.blocks hf.apart) hS

/-- A loop: m goes down with each round; st: what is known at a round's begin; Φ: what holds of the world then. -/
theorem To.loop {E : Env} {r : Fin} {ι : Type} (m : ι → Nat) (st : ι → List (Nat × Value) × List (Option Blk)) (Φ : ι → World → Prop) (i0 : ι) (sel0 : List Nat)
    (hl : r.isLoop = true) (ht0 : fitsT r (st i0).1 = wantT (st i0).1) (hh0 : fitsH r sel0 = (st i0).2) (ha0 : apart sel0 = true) (hΦ0 : ∀ w, Facts E r.hp w → Φ i0 w)
    (body : ∀ i w1, Φ i w1 → Ext E.ins E.wi w1 →
      (∀ (w' : World) (s : Fin) (i' : ι) (sel : List Nat), m i' < m i → Fits s r r.again (st i').1 (st i').2 sel → (∀ w, Facts { E with w0 := w' } s.hp w → Φ i' w) → To { E with w0 := w' } s) →
      To { E with w0 := w1 } (r.re r.round (st i).1 (st i).2)) : To E r := by
  cases r with
  | bad => cases hl
  | dr _ _ _ => cases hl
  | at_ todo x =>
    cases todo with
    | nil => cases hl
    | cons it k =>
      cases it with
      | code c =>
        cases c with
        | loop b =>
          have key : ∀ (n : Nat) (i : ι) (as : List (Fr1 × Act)) (a : Act) (w : World), m i < n → Φ i w → Waits as x.st → HoldF x.nt (st i).1 x.df a → Facts { E with w0 := w } (st i).2 w →
              Way E.P x.f (RS E.P E.R as) (.code b :: .inLoop b :: k) a w := by
            intro n
            induction n with
            | zero => intro i as a w h; omega
            | succ n ih =>
              intro i as a w hn hΦ hW hF hw
              refine (body i w hΦ hw.ext (fun w' s i' sel hlt hf hΦ' => ?_)).out as a w hW hF hw
              cases s with
              | bad => cases hf.isAt
              | dr _ _ _ => cases hf.isAt
              | at_ todo' y =>
                refine ⟨fun as2 a2 w2 hW2 hF2 hw2 => ?_⟩
                have hb := hf.base
                simp only [Fin.base, Option.some.injEq, Prod.mk.injEq] at hb
                obtain ⟨b1, b2, b3, b4⟩ := hb
                have h3 : todo' = .inLoop b :: k := hf.todo
                subst h3
                rw [b4] at hW2
                have hF3 := hF2.same fun t v hl => look_fits (r := .at_ (.inLoop b :: k) y) hf.slots hl
                rw [b2, b3] at hF3
                rw [b1]
                exact Way.skip1 (fun cs => step_inLoop) (ih i' as2 a2 w2 (by omega) (hΦ' w2 hw2) hW2 hF3 (Facts.less (E := E) (w' := w') (r := .at_ (.inLoop b :: k) y) hw2 hf.blocks hf.apart))
          refine ⟨fun as a w hW hF hw => ?_⟩
          exact Way.skip1 (fun cs => step_loop) (key (m i0 + 1) i0 as a w (by omega) (hΦ0 w hw) hW (hF.same fun t v hl => look_fits (r := .at_ (.code (.loop b) :: k) x) ht0 hl)
            (Facts.less (E := E) (w' := E.w0) (r := .at_ (.code (.loop b) :: k) x) hw hh0 ha0))
        | _ => cases hl
      | _ => cases hl
end Go.SX
/- Rules for operations that the kernel does not decide by itself. Conditions: as each says. -/
namespace Go.SX
open Go.RowKit

/-! ### 'x, ok := v.(I)' where v's type lacks a method of I -/
/-- The methods of the interface that the type lacks: is there one? -/
def lacks (P : Program) (t asserted : TypeId) : Bool :=
  match P.underlying asserted with
  | some (.interface want) =>
    match P.info? t with
    | some i => !(want.toList.filter fun (name, sig) => !i.methods.any fun m => m.name == name && m.sig == sig).isEmpty
    | none => false
  | _ => false
def zeroOf (P : Program) (t : TypeId) : Option Value :=
  match P.info? t with
  | some i => i.zero
  | none => none
/-- The operation at which it stands: an assertion with an answer, of a value of this type to that one. -/
def assertsOf (co : Option (Fr1 × Oper)) : Option (TypeId × TypeId) :=
  match co with
  | none => none
  | some (c, o) =>
    match opReady c.ops c.tm o with
    | false => none
    | true =>
      match o.op with
      | .typeAssert y _ asserted true => match evalT c.tm y with | .iface t _ => some (t, asserted) | _ => none
      | _ => none
theorem least_some {l : List String} (h : l ≠ []) : ∃ s, Instr.least l = some s := by
  cases l with
  | nil => exact absurd rfl h
  | cons x r => exact ⟨_, rfl⟩
theorem least_either (p : String → Bool) (g : String → String) {l : List String} (h : l ≠ []) : ∃ s, (Instr.least (l.partition p).2 <|> Instr.least ((l.partition p).1.map g)) = some s := by
  rw [List.partition_eq_filter_filter]
  simp only
  cases h2 : l.filter (fun x => (not ∘ p) x) with
  | cons y r => exact ⟨_, rfl⟩
  | nil =>
    cases h1 : l.filter (fun x => p x) with
    | cons y r => exact ⟨_, rfl⟩
    | nil =>
      exfalso
      cases l with
      | nil => exact h rfl
      | cons y r =>
        simp only [List.filter_cons, Function.comp] at h1 h2
        cases hc : p y with
        | true => rw [hc] at h1; simp at h1
        | false => rw [hc] at h2; simp at h2
theorem missing_some {want : Array (String × TypeId)} {got : Array Method} (h : (want.toList.filter fun (name, sig) => !got.any fun m => m.name == name && m.sig == sig).isEmpty = false) : ∃ s, Instr.missingMethod want got = some s := by
  unfold Instr.missingMethod
  have hne : ((want.toList.filter fun (name, sig) => !got.any fun m => m.name == name && m.sig == sig).map (·.1)) ≠ [] := by
    intro e
    rw [List.map_eq_nil_iff] at e
    rw [e] at h
    cases h
  exact least_either _ _ hne
theorem run_assert_no {P : Program} {t xType asserted : TypeId} {v z : Value} {w : World} (hl : lacks P t asserted = true) (hz : zeroOf P asserted = some z) :
    (Instr.typeAssert (.iface t v) xType asserted true).run P w = .ok (.tuple #[z, .bool false]) w := by
  unfold lacks at hl
  cases hu : P.underlying asserted with
  | none => rw [hu] at hl; cases hl
  | some d =>
    rw [hu] at hl
    cases d with
    | interface want =>
      simp only at hl
      cases hi : P.info? t with
      | none => rw [hi] at hl; cases hl
      | some i =>
        rw [hi] at hl
        simp only [Bool.not_eq_true'] at hl
        obtain ⟨s, hs⟩ := missing_some hl
        unfold zeroOf at hz
        cases hia : P.info? asserted with
        | none => rw [hia] at hz; cases hz
        | some ia =>
          rw [hia] at hz
          simp only at hz
          simp [Instr.typeAssert, run_underlying hu, typeInfo, hi, hs, zeroValue, hia, hz]
    | _ => cases hl
theorem asserts_spec {P : Program} {co : Option (Fr1 × Oper)} {p : TypeId × TypeId} {z : Value} (h : assertsOf co = some p) (hl : lacks P p.1 p.2 = true) (hz : zeroOf P p.2 = some z) :
    ∃ c o, co = some (c, o) ∧ opReady c.ops c.tm o = true ∧ ∀ w, (execOp (evalT c.tm) o).run P w = .ok (.value (.tuple #[z, .bool false])) w := by
  obtain ⟨t, asserted⟩ := p
  unfold assertsOf at h
  split at h
  · cases h
  · rename_i c o
    split at h
    · cases h
    · rename_i hr
      split at h
      · rename_i y xt asserted' ho'
        split at h
        · rename_i t' v hv
          simp only [Option.some.injEq, Prod.mk.injEq] at h
          obtain ⟨h1, h2⟩ := h
          subst h1
          subst h2
          refine ⟨c, o, rfl, hr, fun w => ?_⟩
          simp only [execOp, ho', hv]
          simp [run_assert_no (P := P) (v := v) (xType := xt) (w := w) hl hz]
        · cases h
      · cases h
theorem To.assertNo {E : Env} {r : Fin} (p : TypeId × TypeId) (z : Value) (h : assertsOf r.cur = some p) (hl : lacks E.P p.1 p.2 = true) (hz : zeroOf E.P p.2 = some z) (k : To E (r.gave (.tuple #[z, .bool false]))) : To E r := by
  obtain ⟨c, o, hc, hr, hm⟩ := asserts_spec h hl hz
  exact To.law (m := execOp (evalT c.tm) o) _ (by simp only [Fin.oper, hc, hr]) (fun w _ => hm w) k
theorem To.assertNoE {E : Env} {r : Fin} (i : Nat) (p : TypeId × TypeId) (z : Value) (h : assertsOf (r.curE i) = some p) (hl : lacks E.P p.1 p.2 = true) (hz : zeroOf E.P p.2 = some z) (k : To E (r.gaveE i (.tuple #[z, .bool false]))) : To E r := by
  obtain ⟨c, o, hc, hr, hm⟩ := asserts_spec h hl hz
  exact To.lawE (m := execOp (evalT c.tm) o) i _ (by simp only [Fin.operE, hc, hr]) hm k
end Go.SX
/- A function that has deferred a call, and returns. Conditions: one deferred call, which returns and turns nothing that was there. -/
namespace Go.SX
open Go.RowKit

theorem Ret.leaves {P : Program} {f : FuncId} {R : Ending → World → Prop} {a : Act} {w : World} {fn : Func} (hf : P.funcs[f]? = some fn) (h : Leaves P fn a.tmps R a.defers .returning w) : Ret P f R a w := fun todo cs => by
  obtain ⟨e, w', fr', hR, hs, hfn, hl⟩ := leaves_steps a.defers .returning w { (fr0 f).at a todo with mode := .returning } cs rfl rfl rfl hf rfl h
  exact ⟨e, w', fr', hR, hs, hfn, hl⟩

def Fin.endedAt : Fin → Option Sl
  | .at_ [] x => some x
  | .at_ (.code .ret :: _) x => some x
  | _ => none
def Fin.lastD (r : Fin) : Option Deferred :=
  match r.endedAt with
  | some x => match x.df with | [d] => some d | _ => none
  | none => none
def Fin.outD (P : Program) (hs : List Nat) (r : Fin) : Out Value :=
  match r.endedAt with
  | none => .bad
  | some x =>
    match P.funcs[x.f]? with
    | none => .bad
    | some fn =>
      match knowsSlots x.tm (fn.results.toList.map slotOf) with
      | false => .bad
      | true => sevR P (results fn ⟨listOf x.tm 0 x.nt⟩) ⟨x.s.hp, id, id, hs, [], []⟩
/-- The frame that waits goes on. -/
def Fin.left (v : Value) (r : Fin) : Fin :=
  match r.endedAt with
  | some x => match x.st with | c :: rest => back c v x.s rest | [] => .bad
  | none => .bad
def Fin.heldL (r : Fin) : List (Option Blk) :=
  match r.endedAt with
  | some x => match x.st with | c :: _ => (match c.dr with | some D => pickH x.s.hp D.hd | none => []) | [] => []
  | none => []
def Fin.heldR (r : Fin) : List (Option Blk) :=
  match r.endedAt with
  | some x => match x.st with | c :: _ => (match c.dr with | some D => D.hb | none => []) | [] => []
  | none => []
def Fin.waits (r : Fin) : Bool :=
  match r.endedAt with
  | some x => match x.st with | _ :: _ => true | [] => false
  | none => false

/-- What the deferred call does: it returns, and turns nothing that was there. -/
def Quiet (P : Program) (g : FuncId) (args : Array Value) (w : World) : Prop :=
  CallsD P g args .returning w fun e u' w' => (∃ u, e = .returned u) ∧ u' = .returning ∧ Ext [] w w'

theorem ended_way {E : Env} {r : Fin} {x : Sl} (hx : r.endedAt = some x)
    (h : ∀ as a w, Waits as x.st → HoldF x.nt x.tm x.df a → Facts E x.s.hp w → Ret E.P x.f (RS E.P E.R as) a w) : To E r := by
  unfold Fin.endedAt at hx
  split at hx
  · simp only [Option.some.injEq] at hx
    subst hx
    exact ⟨fun as a w hW hF hw => Way.nil (h as a w hW hF hw)⟩
  · simp only [Option.some.injEq] at hx
    subst hx
    exact ⟨fun as a w hW hF hw => Way.ret (h as a w hW hF hw)⟩
  · cases hx

theorem To.endD {E : Env} {r : Fin} (d : Deferred) (fv : Fn) (cap : Array Value) (g : FuncId) (args : Array Value) (hs : List Nat) (v : Value) (hd : r.lastD = some d) (ht : d.target = .fn fv cap)
    (hi : ∀ w, (invoke d.target d.args).run E.P w = .ok (.enter g args) w) (hc : ∀ w, Facts E r.hp w → Quiet E.P g args w)
    (hv : (r.outD E.P hs).val = some v) (he : (r.outD E.P hs).met = (r.outD E.P hs).meant)
    (h : ∀ (x : Sl) (as : List (Fr1 × Act)) (w1 : World), r.endedAt = some x → Waits as x.st → Facts { E with w0 := w1 } x.s.hp w1 → RS E.P E.R as (.returned v) w1) : To E r := by
  cases hx : r.endedAt with
  | none => simp only [Fin.lastD, hx] at hd; cases hd
  | some x =>
    have hhp : r.hp = x.s.hp := by
      unfold Fin.endedAt at hx
      split at hx <;> simp only [Option.some.injEq, reduceCtorEq] at hx <;> subst hx <;> rfl
    simp only [Fin.lastD, hx] at hd
    simp only [Fin.outD, hx] at hv he
    cases hfn : E.P.funcs[x.f]? with
    | none => simp only [hfn] at hv; cases hv
    | some fn =>
      simp only [hfn] at hv he
      cases hk : knowsSlots x.tm (fn.results.toList.map slotOf) with
      | false => simp only [hk] at hv; cases hv
      | true =>
        simp only [hk] at hv he
        cases hs' : sevR E.P (results fn ⟨listOf x.tm 0 x.nt⟩) ⟨x.s.hp, id, id, hs, [], []⟩ with
        | bad => rw [hs'] at hv; cases hv
        | panic u s1 => rw [hs'] at hv; cases hv
        | ok u s1 =>
          rw [hs'] at hv he
          simp only [Out.val, Option.some.injEq] at hv
          subst hv
          have hdf : x.df = [d] := by
            split at hd
            · simp only [Option.some.injEq] at hd; subst hd; assumption
            · cases hd
          refine ended_way hx fun as a w hW hF hw => Ret.leaves hfn ?_
          rw [hF.defers, hdf]
          refine ⟨by simp, fv, cap, g, args, ht, hi w, (hc w (hhp ▸ hw)).mono ?_⟩
          rintro e u' w1 ⟨⟨u2, rfl⟩, rfl, hext⟩
          obtain ⟨h1, _⟩ := hw.called hext
          refine ⟨u, ?_, h x as w1 hx hW h1⟩
          rw [results_known hF hk]
          exact (sevR_sound E.P _ ⟨x.s.hp, id, id, hs, [], []⟩ _ _ w1 h1.tr.blk hs').2.2 he

/-- The return to the frame that waits. -/
theorem To.leaveD {E : Env} {r : Fin} (d : Deferred) (fv : Fn) (cap : Array Value) (g : FuncId) (args : Array Value) (hs : List Nat) (v : Value) (hd : r.lastD = some d) (ht : d.target = .fn fv cap)
    (hi : ∀ w, (invoke d.target d.args).run E.P w = .ok (.enter g args) w) (hc : ∀ w, Facts E r.hp w → Quiet E.P g args w)
    (hv : (r.outD E.P hs).val = some v) (he : (r.outD E.P hs).met = (r.outD E.P hs).meant) (hh : r.heldL = r.heldR)
    (k : ∀ w1, To { E with w0 := w1 } (r.left v)) : To E r :=
  To.endD d fv cap g args hs v hd ht hi hc hv he fun x as w1 hx hW hw => by
    have k := (k w1).out
    unfold Fin.left at k
    unfold Fin.heldL Fin.heldR at hh
    rw [hx] at k hh
    simp only at k hh
    cases hst : x.st with
    | nil => rw [hst] at k; exact k.elim
    | cons c rest =>
      rw [hst] at k hh hW
      simp only at k hh
      cases as with
      | nil => exact hW.elim
      | cons ca as =>
        obtain ⟨c', a'⟩ := ca
        obtain ⟨rfl, hF', hW'⟩ := hW
        show Cont E.P (RS E.P E.R as) c' (a'.put c'.dst v) w1
        unfold Cont
        unfold back at k
        cases hdr : c'.dr with
        | none => rw [hdr] at k; exact k as _ w1 hW' (hF'.put c'.dst v) hw
        | some D =>
          rw [hdr] at k hh
          simp only at hh
          exact k as _ w1 hW' (hF'.put c'.dst v) hw (hh ▸ SH.pick hw.tr.blk D.hd)
/-- The return of the function itself. -/
theorem To.retD {E : Env} {r : Fin} (d : Deferred) (fv : Fn) (cap : Array Value) (g : FuncId) (args : Array Value) (hs : List Nat) (v : Value) (hd : r.lastD = some d) (ht : d.target = .fn fv cap)
    (hi : ∀ w, (invoke d.target d.args).run E.P w = .ok (.enter g args) w) (hc : ∀ w, Facts E r.hp w → Quiet E.P g args w)
    (hv : (r.outD E.P hs).val = some v) (he : (r.outD E.P hs).met = (r.outD E.P hs).meant) (hn : r.waits = false)
    (h : ∀ w1, Facts { E with w0 := w1 } r.hp w1 → E.R (.returned v) w1) : To E r :=
  To.endD d fv cap g args hs v hd ht hi hc hv he fun x as w1 hx hW hw => by
    unfold Fin.waits at hn
    rw [hx] at hn
    simp only at hn
    have hhp : r.hp = x.s.hp := by
      unfold Fin.endedAt at hx
      split at hx <;> simp only [Option.some.injEq, reduceCtorEq] at hx <;> subst hx <;> rfl
    cases hst : x.st with
    | cons _ _ => rw [hst] at hn; cases hn
    | nil =>
      rw [hst] at hW
      cases as with
      | nil => exact h w1 (hhp ▸ hw)
      | cons _ _ => exact hW.elim
end Go.SX
/- An operation that makes a block, or writes one, by a law of its own. Conditions: as each says. -/
namespace Go.SX
open Go.RowKit

theorem Tr.lt {hp : List (Option Blk)} {w : World} (h : Tr hp w) {j : Nat} {b : Blk} (hj : nth hp j = some b) : b.b < w.heap.size := (Array.getElem?_eq_some_iff.1 (h.blk j b hj)).1
theorem Facts.made {E : Env} {hp : List (Option Blk)} {w : World} (h : Facts E hp w) (o : Obj) (d : Nat) :
    Facts E (snoc hp ⟨w.heap.size, o, true⟩) { w with heap := w.heap.push o, drawn := d } := by
  have ht := h.tr.snoc o
  exact h.next (w1 := { w with heap := w.heap.push o, drawn := d }) ⟨ht.blk, ht.ne⟩
    ⟨rfl, rfl, rfl, by simp, fun k hk _ => by
      show (w.heap.push o)[k]? = _
      rw [Array.getElem?_push, if_neg (by omega)]⟩ (Kn.snoc hp ⟨w.heap.size, o, true⟩) (Kp.snoc _ _)
theorem SH.made {hb : List (Option Blk)} {w : World} (h : SH hb w) (o : Obj) (d : Nat) : SH hb { w with heap := w.heap.push o, drawn := d } := fun j b hj => by
  have h1 := h j b hj
  have hlt := (Array.getElem?_eq_some_iff.1 h1).1
  show (w.heap.push o)[b.b]? = _
  rw [Array.getElem?_push, if_neg (by omega)]
  exact h1

/-- The operation makes one block, and gives a value by its number. -/
theorem To.made {E : Env} {r : Fin} {m : Go.Sem Next} {ι : Type} (V : Nat → ι → Value) (O : Nat → ι → Obj) (Φ : ι → Prop) (h : r.oper = some m)
    (hm : ∀ w, Facts E r.hp w → ∃ (i : ι) (d : Nat), Φ i ∧ m.run E.P w = .ok (.value (V w.heap.size i)) { w with heap := w.heap.push (O w.heap.size i), drawn := d })
    (k : ∀ b i, Φ i → E.w0.heap.size ≤ b → To E ((r.gave (V b i)).with b (O b i) true)) : To E r := by
  refine To.op h fun c o x as a w Q hcur hsl hd hW hF hw hS => ?_
  obtain ⟨i, d, hΦ, hrun⟩ := hm w (hp_of_sl hsl ▸ hw)
  rw [hrun]
  have k := (k w.heap.size i hΦ (hp_of_sl hsl ▸ hw).fr.size).out
  simp only [Fin.gave, hcur, hsl, back] at k
  show Cont E.P (RS E.P E.R as) c (a.put o.dst (V w.heap.size i)) _
  rw [← hd]
  unfold Cont
  cases hdr : c.dr with
  | none =>
    rw [hdr] at k
    exact k as _ _ hW (hF.put c.dst _) (hw.made (O w.heap.size i) d)
  | some D =>
    rw [hdr] at k
    exact k as _ _ hW (hF.put c.dst _) (hw.made (O w.heap.size i) d) ((hS D hdr).made _ _)

/-- The blocks that a region holds, at the operation at which it stands. -/
def Fin.heldC (r : Fin) : List (Option Blk) :=
  match r.cur with
  | some (c, _) => match c.dr with | some D => D.hb | none => []
  | none => []
def Fin.set (j : Nat) (o : Obj) : Fin → Fin
  | .at_ todo x => .at_ todo { x with s := { x.s with hp := setN x.s.hp j o } }
  | .dr D k x => .dr D k { x with s := { x.s with hp := setN x.s.hp j o } }
  | .bad => .bad
theorem Facts.wrote {E : Env} {hp : List (Option Blk)} {w : World} (h : Facts E hp w) {j b : Nat} {o : Obj} (hj : nth hp j = some ⟨b, o, true⟩) (o' : Obj) (d : Nat) :
    Facts E (setN hp j o') { w with heap := w.heap.setIfInBounds b o', drawn := d } := by
  have hlt := h.tr.lt hj
  refine h.next (w1 := { w with heap := w.heap.setIfInBounds b o', drawn := d }) (Tr.set h.tr hj ?_ ?_) ⟨rfl, rfl, rfl, by simp, fun k hk hn => ?_⟩ (Kn.set hj o') (Kp.set hj o')
  · show (w.heap.setIfInBounds b o')[b]? = _
    simp only at hlt
    simp [Array.getElem?_setIfInBounds, hlt]
  · intro i hi
    show (w.heap.setIfInBounds b o')[i]? = _
    exact Array.getElem?_setIfInBounds_ne (Ne.symm hi)
  · show (w.heap.setIfInBounds b o')[k]? = _
    exact Array.getElem?_setIfInBounds_ne (hn j _ hj rfl)
/-- The operation turns one known block, and gives a value. -/
theorem To.wrote {E : Env} {r : Fin} {m : Go.Sem Next} (j b : Nat) (o o' : Obj) (v : Value) (h : r.oper = some m) (hj : nth r.hp j = some ⟨b, o, true⟩)
    (hm : ∀ w, Facts E r.hp w → ∃ d, m.run E.P w = .ok (.value v) { w with heap := w.heap.setIfInBounds b o', drawn := d })
    (hh : ∀ i x, nth r.heldC i = some x → x.b ≠ b) (k : To E ((r.gave v).set j o')) : To E r := by
  refine To.op h fun c op x as a w Q hcur hsl hd hW hF hw hS => ?_
  have hj' : nth x.s.hp j = some ⟨b, o, true⟩ := hp_of_sl hsl ▸ hj
  obtain ⟨d, hrun⟩ := hm w (hp_of_sl hsl ▸ hw)
  rw [hrun]
  have k := k.out
  simp only [Fin.gave, hcur, hsl, back] at k
  simp only [Fin.heldC, hcur] at hh
  show Cont E.P (RS E.P E.R as) c (a.put op.dst v) _
  rw [← hd]
  unfold Cont
  cases hdr : c.dr with
  | none =>
    rw [hdr] at k
    exact k as _ _ hW (hF.put c.dst _) (hw.wrote hj' o' d)
  | some D =>
    rw [hdr] at k hh
    refine k as _ _ hW (hF.put c.dst _) (hw.wrote hj' o' d) (fun i y hy => ?_)
    show (w.heap.setIfInBounds b o')[y.b]? = _
    rw [Array.getElem?_setIfInBounds_ne (hh i y hy).symm]
    exact hS D hdr i y hy
end Go.SX
/- An operation by a law of its own that turns one block at most, and a call by a contract that turns one block at most. Conditions: as each says. -/
namespace Go.SX
open Go.RowKit

/-- One known block is let go. -/
def delN : List (Option Blk) → Nat → List (Option Blk)
  | [], _ => []
  | _ :: r, 0 => none :: r
  | x :: r, n + 1 => x :: delN r n
theorem nth_delN {hp : List (Option Blk)} : ∀ {j i : Nat} {x : Blk}, nth (delN hp j) i = some x → nth hp i = some x ∧ i ≠ j := by
  induction hp with
  | nil => intro j i x h; cases i <;> cases h
  | cons y r ih =>
    intro j i x h
    cases j with
    | zero =>
      cases i with
      | zero => cases h
      | succ i => exact ⟨h, by omega⟩
    | succ j =>
      cases i with
      | zero => exact ⟨h, by omega⟩
      | succ i =>
        obtain ⟨h1, h2⟩ := ih h
        exact ⟨h1, by omega⟩
def delO (hp : List (Option Blk)) : Option Nat → List (Option Blk)
  | none => hp
  | some j => delN hp j
theorem nth_delO {hp : List (Option Blk)} {d : Option Nat} {i : Nat} {x : Blk} (h : nth (delO hp d) i = some x) : nth hp i = some x ∧ d ≠ some i := by
  cases d with
  | none => exact ⟨h, by simp⟩
  | some j => obtain ⟨h1, h2⟩ := nth_delN h; exact ⟨h1, by simpa using Ne.symm h2⟩
def Fin.del (d : Option Nat) : Fin → Fin
  | .at_ todo x => .at_ todo { x with s := { x.s with hp := delO x.s.hp d } }
  | .dr D k x => .dr D k { x with s := { x.s with hp := delO x.s.hp d } }
  | .bad => .bad

theorem Facts.grown {E : Env} {hp : List (Option Blk)} {w w1 : World} {row d : Option Nat} (h : Facts E hp w) (hg : w.grownBy w1 row)
    (hne : ∀ i x, nth (delO hp d) i = some x → some x.b ≠ row) (hown : ∀ b, row = some b → E.wi.heap.size ≤ b ∨ b ∈ E.ins) : Facts { E with w0 := w1 } (delO hp d) w1 := by
  refine ⟨Fr.refl _ _, ⟨fun j b hb => ?_, fun i j x y hx hy hne' => h.tr.ne i j x y (nth_delO hx).1 (nth_delO hy).1 hne'⟩, ?_, fun j b hb hq => h.own j b (nth_delO hb).1 hq⟩
  · rw [hg.block b.b (h.lt (nth_delO hb).1) (hne j b hb)]
    exact h.tr.blk j b (nth_delO hb).1
  · refine ⟨hg.os.trans h.ext.os, hg.tape.trans h.ext.tape, hg.output.trans h.ext.output, Nat.le_trans h.ext.size hg.size, fun k hk hn => ?_⟩
    rw [hg.block k (Nat.lt_of_lt_of_le hk h.ext.size) (fun e => ?_), h.ext.block k hk hn]
    have hk' : k < E.wi.heap.size := hk
    rcases hown k e.symm with ho | ho
    · omega
    · exact hn ho
theorem SH.grown {hb : List (Option Blk)} {w w1 : World} {row : Option Nat} (h : SH hb w) (hg : w.grownBy w1 row) (hne : ∀ i x, nth hb i = some x → some x.b ≠ row) : SH hb w1 := fun j b hj => by
  have h1 := h j b hj
  rw [hg.block b.b (Array.getElem?_eq_some_iff.1 h1).1 (hne j b hj)]
  exact h1

/-- The operation turns the block `row` at most, and gives a value; what is known of that block is let go. -/
theorem To.grew {E : Env} {r : Fin} {m : Go.Sem Next} (row d : Option Nat) {Φ : World → Value → World → Prop} (h : r.oper = some m)
    (hm : ∀ w, Facts E r.hp w → ∃ v w1, m.run E.P w = .ok (.value v) w1 ∧ w.grownBy w1 row ∧ Φ w v w1)
    (hne : ∀ w, Facts E r.hp w → ∀ i x, nth (delO r.hp d) i = some x → some x.b ≠ row) (hown : ∀ w, Facts E r.hp w → ∀ b, row = some b → E.wi.heap.size ≤ b ∨ b ∈ E.ins)
    (hh : ∀ w, Facts E r.hp w → ∀ i x, nth r.heldC i = some x → some x.b ≠ row)
    (k : ∀ w v w1, Facts E r.hp w → w.grownBy w1 row → Φ w v w1 → To { E with w0 := w1 } ((r.gave v).del d)) : To E r := by
  refine To.op h fun c o x as a w Q hcur hsl hd hW hF hw hS => ?_
  have e := hp_of_sl hsl
  obtain ⟨v, w1, hrun, hg, hΦ⟩ := hm w (e ▸ hw)
  rw [hrun]
  have hf : Facts { E with w0 := w1 } (delO x.s.hp d) w1 := hw.grown hg (e ▸ hne w (e ▸ hw)) (hown w (e ▸ hw))
  have k := (k w v w1 (e ▸ hw) hg hΦ).out
  have hh := hh w (e ▸ hw)
  simp only [Fin.gave, hcur, hsl, back] at k
  simp only [Fin.heldC, hcur] at hh
  show Cont E.P (RS E.P E.R as) c (a.put o.dst v) w1
  rw [← hd]
  unfold Cont
  cases hdr : c.dr with
  | none =>
    rw [hdr] at k
    exact k as _ _ hW (hF.put c.dst v) hf
  | some D =>
    rw [hdr] at k hh
    exact k as _ _ hW (hF.put c.dst v) hf ((hS D hdr).grown hg hh)

/-- A call by a contract that turns the block `row` at most. -/
theorem To.callG {E : Env} {r : Fin} {m : Go.Sem Next} (g : FuncId) (args : Array Value) (row d : Option Nat) {Φ : World → Value → World → Prop} (h : r.oper = some m) (hm : ∀ w, m.run E.P w = .ok (.enter g args) w)
    (hc : ∀ w, Facts E r.hp w → Calls E.P g args w fun e w1 => ∃ v, e = .returned v ∧ w.grownBy w1 row ∧ Φ w v w1)
    (hne : ∀ w, Facts E r.hp w → ∀ i x, nth (delO r.hp d) i = some x → some x.b ≠ row) (hown : ∀ w, Facts E r.hp w → ∀ b, row = some b → E.wi.heap.size ≤ b ∨ b ∈ E.ins)
    (hh : ∀ w, Facts E r.hp w → ∀ i x, nth r.heldC i = some x → some x.b ≠ row)
    (k : ∀ w v w1, Facts E r.hp w → w.grownBy w1 row → Φ w v w1 → To { E with w0 := w1 } ((r.gave v).del d)) : To E r := by
  refine To.op h fun c o x as a w Q hcur hsl hd hW hF hw hS => ?_
  have e := hp_of_sl hsl
  rw [hm w]
  simp only [Oper.upon]
  refine (hc w (e ▸ hw)).mono ?_
  rintro en w1 ⟨v, rfl, hg, hΦ⟩
  have hf : Facts { E with w0 := w1 } (delO x.s.hp d) w1 := hw.grown hg (e ▸ hne w (e ▸ hw)) (hown w (e ▸ hw))
  have k := (k w v w1 (e ▸ hw) hg hΦ).out
  have hh := hh w (e ▸ hw)
  simp only [Fin.gave, hcur, hsl, back] at k
  simp only [Fin.heldC, hcur] at hh
  show Cont E.P (RS E.P E.R as) c (a.put o.dst v) w1
  rw [← hd]
  unfold Cont
  cases hdr : c.dr with
  | none =>
    rw [hdr] at k
    exact k as _ _ hW (hF.put c.dst v) hf
  | some D =>
    rw [hdr] at k hh
    exact k as _ _ hW (hF.put c.dst v) hf ((hS D hdr).grown hg hh)

/-- What was known of a world holds of a later one. -/
theorem Fr.at {hp : List (Option Blk)} {w w' : World} (h : Fr hp w w') {b : Nat} {o : Obj} (hb : w.heap[b]? = some o) (hn : ∀ j x, nth hp j = some x → x.rw = true → x.b ≠ b) : w'.heap[b]? = some o :=
  (h.block b (Array.getElem?_eq_some_iff.1 hb).1 hn).trans hb
theorem Ext.at {S : List Nat} {w w' : World} (h : Ext S w w') {b : Nat} {o : Obj} (hb : w.heap[b]? = some o) (hn : b ∉ S) : w'.heap[b]? = some o :=
  (h.block b (Array.getElem?_eq_some_iff.1 hb).1 hn).trans hb
theorem grown_at {w w' : World} {row : Option Nat} (h : w.grownBy w' row) {b : Nat} {o : Obj} (hb : w.heap[b]? = some o) (hn : some b ≠ row) : w'.heap[b]? = some o :=
  (h.block b (Array.getElem?_eq_some_iff.1 hb).1 hn).trans hb
/-- A known block that may be written is new, where the function is given nothing to write. -/
theorem Facts.new {P : Program} {R : Ending → World → Prop} {wi w0 : World} {hp : List (Option Blk)} {w : World} (h : Facts { P := P, R := R, wi := wi, ins := [], w0 := w0 } hp w) {j b : Nat} {o : Obj}
    (hj : nth hp j = some ⟨b, o, true⟩) : wi.heap.size ≤ b := by
  rcases h.own j _ hj rfl with h1 | h1
  · exact h1
  · cases h1

/-- The operation at which it stands, as it is to be carried out (nothing, if it stands at none). -/
def Fin.opm (r : Fin) : Go.Sem Next := match r.oper with | some m => m | none => .halt (.stuck "")
theorem Fin.opm_spec {r : Fin} (h : r.oper.isSome = true) : r.oper = some r.opm := by
  unfold Fin.opm
  cases hr : r.oper with
  | none => rw [hr] at h; cases h
  | some m => rfl
/-- A call by its contract: it returns, and turns nothing that was there. -/
theorem To.callC {E : Env} {r : Fin} (g : FuncId) (args : Array Value) {Φ : World → Value → World → Prop} (h : r.oper.isSome = true) (hm : ∀ w, r.opm.run E.P w = .ok (.enter g args) w)
    (hc : ∀ w, Facts E r.hp w → Calls E.P g args w fun e w1 => ∃ v, e = .returned v ∧ Ext [] w w1 ∧ Φ w v w1)
    (k : ∀ w v w1, Facts E r.hp w → Ext [] w w1 → Fr r.hp E.w0 w1 → Φ w v w1 → To { E with w0 := w1 } (r.gave v)) : To E r :=
  To.call g args (Fin.opm_spec h) hm hc k
theorem To.callGC {E : Env} {r : Fin} (g : FuncId) (args : Array Value) (row d : Option Nat) {Φ : World → Value → World → Prop} (h : r.oper.isSome = true) (hm : ∀ w, r.opm.run E.P w = .ok (.enter g args) w)
    (hc : ∀ w, Facts E r.hp w → Calls E.P g args w fun e w1 => ∃ v, e = .returned v ∧ w.grownBy w1 row ∧ Φ w v w1)
    (hne : ∀ w, Facts E r.hp w → ∀ i x, nth (delO r.hp d) i = some x → some x.b ≠ row) (hown : ∀ w, Facts E r.hp w → ∀ b, row = some b → E.wi.heap.size ≤ b ∨ b ∈ E.ins)
    (hh : ∀ w, Facts E r.hp w → ∀ i x, nth r.heldC i = some x → some x.b ≠ row)
    (k : ∀ w v w1, Facts E r.hp w → w.grownBy w1 row → Φ w v w1 → To { E with w0 := w1 } ((r.gave v).del d)) : To E r :=
  To.callG g args row d (Fin.opm_spec h) hm hc hne hown hh k

/-- An operation that gives a value. -/
def opV (s : Go.Sem Value) : Go.Sem Next := do pure (.value (← s))
theorem run_opV {P : Program} {s : Go.Sem Value} {v : Value} {w w1 : World} (h : s.run P w = .ok v w1) : (opV s).run P w = .ok (.value v) w1 := by
  simp [opV, h]
/-- The operation gives v by a law of its own. -/
theorem To.lawV {E : Env} {r : Fin} (s : Go.Sem Value) (v : Value) (h : r.oper = some (opV s)) (hm : ∀ w, Facts E r.hp w → s.run E.P w = .ok v w) (k : To E (r.gave v)) : To E r :=
  To.law v h (fun w hw => run_opV (hm w hw)) k
theorem To.madeV {E : Env} {r : Fin} {ι : Type} (s : Go.Sem Value) (V : Nat → ι → Value) (O : Nat → ι → Obj) (Φ : ι → Prop) (h : r.oper = some (opV s))
    (hm : ∀ w, Facts E r.hp w → ∃ (i : ι) (d : Nat), Φ i ∧ s.run E.P w = .ok (V w.heap.size i) { w with heap := w.heap.push (O w.heap.size i), drawn := d })
    (k : ∀ b i, Φ i → E.w0.heap.size ≤ b → To E ((r.gave (V b i)).with b (O b i) true)) : To E r :=
  To.made V O Φ h (fun w hw => let ⟨i, d, h1, h2⟩ := hm w hw; ⟨i, d, h1, run_opV h2⟩) k
theorem To.grewV {E : Env} {r : Fin} (s : Go.Sem Value) (row d : Option Nat) {Φ : World → Value → World → Prop} (h : r.oper = some (opV s))
    (hm : ∀ w, Facts E r.hp w → ∃ v w1, s.run E.P w = .ok v w1 ∧ w.grownBy w1 row ∧ Φ w v w1)
    (hne : ∀ w, Facts E r.hp w → ∀ i x, nth (delO r.hp d) i = some x → some x.b ≠ row) (hown : ∀ w, Facts E r.hp w → ∀ b, row = some b → E.wi.heap.size ≤ b ∨ b ∈ E.ins)
    (hh : ∀ w, Facts E r.hp w → ∀ i x, nth r.heldC i = some x → some x.b ≠ row)
    (k : ∀ w v w1, Facts E r.hp w → w.grownBy w1 row → Φ w v w1 → To { E with w0 := w1 } ((r.gave v).del d)) : To E r :=
  To.grew row d h (fun w hw => let ⟨v, w1, h1, h2⟩ := hm w hw; ⟨v, w1, run_opV h1, h2⟩) hne hown hh k
end Go.SX
/- Appending to a slice of the frame's own; bytes of a text; a text of bytes: by laws of their own. Conditions: as each says. -/
namespace Go.SX
open Go.RowKit

/-- A block is known besides: it lies in the world at hand. -/
theorem To.withAt {E : Env} {r : Fin} (b : Nat) (o : Obj) (q : Bool) (hb : E.w0.heap[b]? = some o) (hne : ∀ j x, nth r.hp j = some x → x.b ≠ b) (hown : q = true → E.wi.heap.size ≤ b ∨ b ∈ E.ins)
    (k : To E (r.with b o q)) : To E r :=
  To.with b o q (fun w hw => ⟨hw.fr.at hb (fun j x hj _ => hne j x hj), hne, hown⟩) k

def setRow (w : World) (g : Nat) (l : List Value) (e : TypeId) : World := { w with heap := w.heap.setIfInBounds g (.cells ⟨l⟩ e (0, 0)) }

/-- What an append to a row of one's own does: it stays where it is, or moves to a new block. -/
theorem run_append_at {P : Program} (w : World) (t ty e : TypeId) (i : TypeInfo) (z : Value) (size bytes : Nat) (ht : P.underlying t = some (.slice e)) (hi : P.info? e = some i) (hz : i.zero = some z)
    (hsize : i.size = size) (hby : i.bytes = bytes) (hzs : z.cells.size = size)
    (g n cap : Nat) (xs rest : List Value) (hg : w.heap[g]? = some (.cells ⟨xs ++ rest⟩ e (0, 0))) (hx : xs.length = n * size) (hr : (xs ++ rest).length = cap * size) (hn : n ≤ cap) (hcap : cap ≤ maxLen)
    (a : Option Addr) (m c : Nat) (news : List Value) (hl : news.length = m * size) (hnews : ∀ j u, news[j]? = some u → ∃ ad, a = some ad ∧ w.cell? (ad.add j) = some u) (ha : a = none → m = 0) (h1 : ∀ u ∈ news, u.oneCell' = true)
    (h63 : n + m ≤ maxLen) (hbytes : (n + m) * bytes ≤ 140737488355328) :
    ∃ g' cap' rest' w1, (Builtin.append_ #[t, t] ty #[.slice (some ⟨g, 0, none⟩) n cap, .slice a m c]).run P w = .ok (.slice (some ⟨g', 0, none⟩) (n + m) cap') w1 ∧ w.grownBy w1 (some g) ∧
      (g' = g ∨ g' = w.heap.size) ∧ w1.heap[g']? = some (.cells ⟨(xs ++ news) ++ rest'⟩ e (0, 0)) ∧ ((xs ++ news) ++ rest').length = cap' * size ∧ n + m ≤ cap' ∧ cap' ≤ maxLen := by
  subst hsize
  subst hby
  have holds : ∀ j u, xs[j]? = some u → w.cell? ((⟨g, 0, none⟩ : Addr).add j) = some u := by
    intro j u hu
    have hadd : (⟨g, 0, none⟩ : Addr).add j = ⟨g, j, none⟩ := by unfold Addr.add; split <;> simp_all
    rw [hadd, cell_of_row w g j _ e (0, 0) hg]
    have := List.getElem?_append_left (l₂ := rest) (List.getElem?_eq_some_iff.1 hu).1
    simpa [this] using hu
  by_cases hroom : n + m ≤ cap
  · cases a with
    | none =>
      have hm : m = 0 := ha rfl
      subst hm
      have hnil : news = [] := List.eq_nil_of_length_eq_zero (by simpa using hl)
      subst hnil
      refine ⟨g, cap, rest, w, ?_, ⟨rfl, rfl, rfl, Nat.le_refl _, fun _ _ _ => rfl⟩, .inl rfl, by simpa using hg, by simpa using hr, hn, hcap⟩
      simp [Builtin.append_, run_underlying ht, sizeOf, typeInfo, hi, Builtin.lenOf, Builtin.firstCells, hn, storeCells]
    | some ad =>
      have hnews' : ∀ j u, news[j]? = some u → w.cell? (ad.add j) = some u := fun j u hj => by
        obtain ⟨ad', h, h2⟩ := hnews j u hj
        cases h; exact h2
      have hfit : n * i.size + news.length ≤ (⟨xs ++ rest⟩ : Array Value).size := by
        show n * i.size + news.length ≤ (xs ++ rest).length
        rw [hl, hr, ← Nat.add_mul]; exact Nat.mul_le_mul_right _ hroom
      have hrun := run_append_room (P := P) w t ty e i ht hi g n cap _ hg ad m c news hl hnews' h1 hroom hfit
      refine ⟨g, cap, rest.drop news.length, _, hrun, ⟨rfl, rfl, rfl, by simp, fun k _ hk => setRow_other w g k _ (fun e => hk (by simp [e]))⟩, .inl rfl, ?_, ?_, hroom, hcap⟩
      · rw [setRow_heap w g _ _ e _ hg]
        have e1 : (xs ++ rest).take (n * i.size) = xs := by rw [← hx]; exact List.take_left
        have e2 : (xs ++ rest).drop (n * i.size + news.length) = rest.drop news.length := by
          rw [← hx, List.drop_append, List.drop_eq_nil_of_le (by omega)]
          simp
        simp only [e1, e2, List.append_assoc]
      · simp only [List.length_append, List.length_drop] at hr ⊢
        have : news.length ≤ rest.length := by
          have h5 : (n + m) * i.size ≤ cap * i.size := Nat.mul_le_mul_right _ hroom
          rw [Nat.add_mul] at h5
          omega
        omega
  · have hmp : 0 < m := by omega
    cases a with
    | none => have := ha rfl; omega
    | some ad =>
      have hnews' : ∀ j u, news[j]? = some u → w.cell? (ad.add j) = some u := fun j u hj => by
        obtain ⟨ad', h, h2⟩ := hnews j u hj
        cases h; exact h2
      have hrun := run_append_grow (P := P) w t ty e i z ht hi hz ⟨g, 0, none⟩ n cap xs hx holds ad m c news hl hnews' (by omega) (by simp only [maxLen] at h63; omega) (growslice_fits (by omega) hbytes)
      have hge := grownCap_ge w (n + m) cap e
      refine ⟨_, _, (Builtin.zeroCells z.cells (grownCap w (n + m) cap e - (n + m))).toList, _, hrun, ⟨rfl, rfl, rfl, by simp, fun k hk _ => heap_alloc_old w.drew _ k hk⟩, .inr rfl, ?_, ?_, hge, grownCap_le_maxLen w (n + m) cap e h63⟩
      · refine (heap_alloc_new w.drew _).trans ?_
        congr 2
        apply Array.ext'
        simp
      · have hzl := size_zeroCells z.cells (grownCap w (n + m) cap e - (n + m))
        simp only [List.length_append, hx, hl, Array.length_toList, hzl, hzs, ← Nat.add_mul]
        congr 1
        omega
/-- The same, where the slice is nil. -/
theorem run_append_none {P : Program} (w : World) (t ty e : TypeId) (i : TypeInfo) (z : Value) (size bytes : Nat) (ht : P.underlying t = some (.slice e)) (hi : P.info? e = some i) (hz : i.zero = some z)
    (hsize : i.size = size) (hby : i.bytes = bytes) (hzs : z.cells.size = size)
    (ad : Addr) (m c : Nat) (news : List Value) (hl : news.length = m * size) (hnews : ∀ j u, news[j]? = some u → w.cell? (ad.add j) = some u) (hm : 0 < m)
    (h63 : m ≤ maxLen) (hbytes : m * bytes ≤ 140737488355328) :
    ∃ cap' rest' d, (Builtin.append_ #[t, t] ty #[.slice none 0 0, .slice (some ad) m c]).run P w = .ok (.slice (some ⟨w.heap.size, 0, none⟩) m cap') { w with heap := w.heap.push (.cells ⟨news ++ rest'⟩ e (0, 0)), drawn := d } ∧
      (news ++ rest').length = cap' * size ∧ m ≤ cap' ∧ cap' ≤ maxLen := by
  subst hsize
  subst hby
  have hrun := run_append_nil (P := P) w t ty e i z ht hi hz ad m c news hl hnews hm (by simp only [maxLen] at h63; omega) (by omega)
  have hge := grownCap_ge w m 0 e
  refine ⟨_, (Builtin.zeroCells z.cells (grownCap w m 0 e - m)).toList, w.drawn + 1, hrun.trans ?_, ?_, hge, grownCap_le_maxLen w m 0 e h63⟩
  · congr 1
    simp only [World.alloc, World.drew]
    congr 3
    apply Array.ext'
    simp
  · have hzl := size_zeroCells z.cells (grownCap w m 0 e - m)
    simp only [List.length_append, hl, Array.length_toList, hzl, hzs, ← Nat.add_mul]
    congr 1
    omega

/-- The type of a slice's elements, as far as an append asks. -/
structure Elem (P : Program) (t e : TypeId) (size bytes : Nat) : Prop where
  sl : P.underlying t = some (.slice e)
  info : ∃ i z, P.info? e = some i ∧ i.zero = some z ∧ i.size = size ∧ i.bytes = bytes ∧ z.cells.size = size

theorem Facts.cellAt {E : Env} {hp : List (Option Blk)} {w : World} (h : Facts E hp w) {j b : Nat} {l : List Value} {e : TypeId} {f : Nat × Nat} {q : Bool} (hj : nth hp j = some ⟨b, .cells ⟨l⟩ e f, q⟩) {k : Nat} {u : Value} (hk : l[k]? = some u) :
    w.cell? ⟨b, k, none⟩ = some u := by
  rw [cell_of_row w b k _ e f (h.blk hj)]
  simpa using hk

/-- 'append(s, x...)', where s is a row of one's own, and known. -/
theorem To.append {E : Env} {r : Fin} {t ty e : TypeId} {size bytes : Nat} (el : Elem E.P t e size bytes) (j g n cap : Nat) (xs rest : List Value) (a : Option Addr) (m c : Nat) (news : List Value)
    (h : r.oper = some (opV (Builtin.append_ #[t, t] ty #[.slice (some ⟨g, 0, none⟩) n cap, .slice a m c])))
    (hj : nth r.hp j = some ⟨g, .cells ⟨xs ++ rest⟩ e (0, 0), true⟩) (hx : xs.length = n * size) (hr : (xs ++ rest).length = cap * size) (hn : n ≤ cap) (hcap : cap ≤ maxLen)
    (hl : news.length = m * size) (hnews : ∀ w, Facts E r.hp w → ∀ j u, news[j]? = some u → ∃ ad, a = some ad ∧ w.cell? (ad.add j) = some u) (ha : a = none → m = 0) (h1 : ∀ u ∈ news, u.oneCell' = true)
    (h63 : n + m ≤ maxLen) (hbytes : (n + m) * bytes ≤ 140737488355328) (hh : ∀ w, Facts E r.hp w → ∀ i x, nth r.heldC i = some x → x.b ≠ g)
    (k : ∀ w w1 g' cap' rest', Facts E r.hp w → w.grownBy w1 (some g) → (g' = g ∨ g' = w.heap.size) → ((xs ++ news) ++ rest').length = cap' * size → n + m ≤ cap' → cap' ≤ maxLen →
      To { E with w0 := w1 } (((r.gave (.slice (some ⟨g', 0, none⟩) (n + m) cap')).del (some j)).with g' (.cells ⟨(xs ++ news) ++ rest'⟩ e (0, 0)) true)) : To E r := by
  obtain ⟨i, z, hi, hz, hs, hb, hzs⟩ := el.info
  have hown : ∀ w, Facts E r.hp w → E.wi.heap.size ≤ g ∨ g ∈ E.ins := fun w hw => hw.own j _ hj rfl
  have hne : ∀ w, Facts E r.hp w → ∀ i x, nth (delO r.hp (some j)) i = some x → x.b ≠ g := fun w hw i x hx => by
    obtain ⟨h1, h2⟩ := nth_delO hx
    exact hw.tr.ne i j x _ h1 hj (by simpa using Ne.symm h2)
  refine To.grewV _ (some g) (some j) (Φ := fun w v w1 => ∃ g' cap' rest', v = .slice (some ⟨g', 0, none⟩) (n + m) cap' ∧ (g' = g ∨ g' = w.heap.size) ∧ w1.heap[g']? = some (.cells ⟨(xs ++ news) ++ rest'⟩ e (0, 0)) ∧
    ((xs ++ news) ++ rest').length = cap' * size ∧ n + m ≤ cap' ∧ cap' ≤ maxLen) h (fun w hw => ?_) (fun w hw i x hx e => hne w hw i x hx (by simpa using e)) (fun w hw b hb => by cases hb; exact hown w hw) (fun w hw i x hx e => hh w hw i x hx (by simpa using e)) ?_
  · obtain ⟨g', cap', rest', w1, hrun, hg, hor, hb', h2, h3, h4⟩ := run_append_at (P := E.P) w t ty e i z size bytes el.sl hi hz hs hb hzs g n cap xs rest (hw.blk hj) hx hr hn hcap a m c news hl (hnews w hw) ha h1 h63 hbytes
    exact ⟨_, w1, hrun, hg, g', cap', rest', rfl, hor, hb', h2, h3, h4⟩
  · rintro w v w1 hw hg ⟨g', cap', rest', rfl, hor, hb', h2, h3, h4⟩
    have hcur : ∀ x, (r.gave x).hp = r.hp := by
      intro x
      cases hc : r.cur with
      | none => unfold Fin.oper at h; rw [hc] at h; cases h
      | some co =>
        unfold Fin.gave
        rw [hc]
        cases hs : r.sl with
        | none => cases r <;> simp [Fin.sl] at hs; simp [Fin.cur] at hc
        | some x =>
          have := hp_of_sl hs
          simp only [back]
          cases co.1.dr <;> exact this.symm
    have hdel : ((r.gave (.slice (some ⟨g', 0, none⟩) (n + m) cap')).del (some j)).hp = delO r.hp (some j) := by
      have := hcur (.slice (some ⟨g', 0, none⟩) (n + m) cap')
      rw [← this]
      cases r.gave (.slice (some ⟨g', 0, none⟩) (n + m) cap') <;> simp [Fin.del, Fin.hp]
      simp [delO, delN]
    refine To.withAt g' _ true hb' ?_ (fun _ => ?_) (k w w1 g' cap' rest' hw hg hor h2 h3 h4)
    · rw [hdel]
      intro i x hx
      rcases hor with rfl | rfl
      · exact hne w hw i x hx
      · have := hw.lt (nth_delO hx).1; omega
    · rcases hor with rfl | rfl
      · exact hown w hw
      · exact .inl hw.ext.size
end Go.SX
/- Further operations by laws of their own: an append to nil, the bytes of a text, the text of bytes; a test that is known. Conditions: as each says. -/
namespace Go.SX
open Go.RowKit

/-- 'append(nil, x...)', x not empty. -/
theorem To.append0 {E : Env} {r : Fin} {t ty e : TypeId} {size bytes : Nat} (el : Elem E.P t e size bytes) (a : Addr) (m c : Nat) (news : List Value)
    (h : r.oper = some (opV (Builtin.append_ #[t, t] ty #[.slice none 0 0, .slice (some a) m c])))
    (hl : news.length = m * size) (hnews : ∀ w, Facts E r.hp w → ∀ j u, news[j]? = some u → w.cell? (a.add j) = some u) (hm : 0 < m) (h63 : m ≤ maxLen) (hbytes : m * bytes ≤ 140737488355328)
    (k : ∀ g' cap' rest', (news ++ rest').length = cap' * size → m ≤ cap' → cap' ≤ maxLen → E.w0.heap.size ≤ g' → To E ((r.gave (.slice (some ⟨g', 0, none⟩) m cap')).with g' (.cells ⟨news ++ rest'⟩ e (0, 0)) true)) : To E r := by
  obtain ⟨i, z, hi, hz, hs, hb, hzs⟩ := el.info
  refine To.madeV (ι := Nat × List Value) _ (fun b i => .slice (some ⟨b, 0, none⟩) m i.1) (fun _ i => .cells ⟨news ++ i.2⟩ e (0, 0)) (fun i => (news ++ i.2).length = i.1 * size ∧ m ≤ i.1 ∧ i.1 ≤ maxLen) h (fun w hw => ?_)
    (fun b i hi hb => k b i.1 i.2 hi.1 hi.2.1 hi.2.2 hb)
  obtain ⟨cap', rest', d, hrun, h1, h2, h3⟩ := run_append_none (P := E.P) w t ty e i z size bytes el.sl hi hz hs hb hzs a m c news hl (hnews w hw) hm h63 hbytes
  exact ⟨(cap', rest'), d, ⟨h1, h2, h3⟩, hrun⟩

/-- Bytes as cells. -/
def ucells (l : List UInt8) : List Value := l.map fun b => .int .u8 (Int.ofNat b.toNat)
theorem ucells_length (l : List UInt8) : (ucells l).length = l.length := List.length_map ..
theorem ucells_append (l m : List UInt8) : ucells (l ++ m) = ucells l ++ ucells m := List.map_append
theorem ucells_get {l : List UInt8} {j : Nat} {u : UInt8} (h : l[j]? = some u) : (ucells l)[j]? = some (.int .u8 (u.toNat : Int)) := by
  unfold ucells
  rw [List.getElem?_map, h]
  rfl
theorem ucells_one (l : List UInt8) : ∀ u ∈ ucells l, u.oneCell' = true := by
  intro u hu
  obtain ⟨b, _, rfl⟩ := List.mem_map.1 hu
  rfl
/-- The cells of a text's bytes. -/
def scells (s : ByteArray) : List Value := ucells s.data.toList
theorem scells_length (s : ByteArray) : (scells s).length = s.size := by unfold scells; rw [ucells_length]; exact Array.length_toList
theorem Ext.cell {S : List Nat} {w w' : World} (h : Ext S w w') {a : Addr} {u : Value} (hc : w.cell? a = some u) (hn : a.block ∉ S) : w'.cell? a = some u :=
  (World.cell?_of_block (h.block a.block (World.block_lt_of_cell? w a hc) hn)).trans hc
/-- '[]byte(s)'. -/
theorem To.bytesOf {E : Env} {r : Fin} {src dst e : TypeId} (s : ByteArray) (hs : E.P.underlying src = some .string) (hd : E.P.underlying dst = some (.slice e)) (he : E.P.underlying e = some (.int .u8))
    (h : r.oper = some (opV (convert src dst (.string s))))
    (k : ∀ g cap rest, s.size ≤ cap → (scells s ++ rest).length = cap → E.w0.heap.size ≤ g → To E ((r.gave (.slice (some ⟨g, 0, none⟩) s.size cap)).with g (.cells ⟨scells s ++ rest⟩ e (cap, cap + 1)) true)) : To E r := by
  refine To.madeV (ι := Nat × List Value) _ (fun b i => .slice (some ⟨b, 0, none⟩) s.size i.1) (fun _ i => .cells ⟨scells s ++ i.2⟩ e (i.1, i.1 + 1)) (fun i => s.size ≤ i.1 ∧ (scells s ++ i.2).length = i.1) h (fun w hw => ?_)
    (fun b i hi hb => k b i.1 i.2 hi.1 hi.2 hb)
  have hge := grownCap_ge w s.size 0 e
  have hlen : (scells s ++ List.replicate (grownCap w s.size 0 e - s.size) (Value.int .u8 0)).length = grownCap w s.size 0 e := by
    simp only [List.length_append, scells_length, List.length_replicate]; omega
  have hrow : bytesRow s (grownCap w s.size 0 e) = ⟨scells s ++ List.replicate (grownCap w s.size 0 e - s.size) (Value.int .u8 0)⟩ := by
    apply Array.ext'
    simp [bytesRow, scells, ucells]
  have hrun := run_bytes_of_string (P := E.P) w src dst e s hs hd he
  rw [hrow] at hrun
  refine ⟨(grownCap w s.size 0 e, List.replicate (grownCap w s.size 0 e - s.size) (Value.int .u8 0)), w.drawn + 1, ⟨hge, hlen⟩, hrun.trans ?_⟩
  simp only [World.alloc, World.drew, List.size_toArray, hlen]
/-- 'string(b)', where b's bytes are known. -/
theorem To.textOf {E : Env} {r : Fin} {src dst e : TypeId} (a : Option Addr) (n cap : Nat) (l : List UInt8) (hn : n = l.length) (hs : E.P.underlying src = some (.slice e)) (hd : E.P.underlying dst = some .string) (he : E.P.underlying e = some (.int .u8))
    (h : r.oper = some (opV (convert src dst (.slice a n cap)))) (hc : ∀ w, Facts E r.hp w → ∀ j u, l[j]? = some u → ∃ ad, a = some ad ∧ w.cell? (ad.add j) = some (.int .u8 (u.toNat : Int)))
    (ha : a = none → l = [])
    (k : To E (r.gave (.string ⟨⟨l⟩⟩))) : To E r := by
  refine To.lawV _ _ h (fun w hw => ?_) k
  subst hn
  cases a with
  | none =>
    rw [ha rfl, run_convert_bytes_string w src dst e _ _ cap hs he hd]
    simp [Conv.bytesToString]
    rfl
  | some ad =>
    refine run_convert_bytes_back (P := E.P) w src dst e ad cap l hs he hd (fun j hj => ?_)
    obtain ⟨ad', h1, h2⟩ := hc w hw j l[j] (by simp)
    cases h1
    exact h2
/-- A test whose answer is known. -/
theorem To.testF {E : Env} {r : Fin} (c : Bool) (hc : r.test = some c) (hf : c = false) (k : To E r.no) : To E r := To.test c hc (fun h => by rw [hf] at h; cases h) (fun _ => k)
theorem To.testT {E : Env} {r : Fin} (c : Bool) (hc : r.test = some c) (ht : c = true) (k : To E r.yes) : To E r := To.test c hc (fun _ => k) (fun h => by rw [ht] at h; cases h)
theorem To.slotF {E : Env} {r : Fin} (t : Nat) (c : Bool) (hc : r.truth t = some c) (hf : c = false) (k : To E (r.holds t false)) : To E r := To.slot t c hc (fun h => by rw [hf] at h; cases h) (fun _ => k)
theorem To.slotT {E : Env} {r : Fin} (t : Nat) (c : Bool) (hc : r.truth t = some c) (ht : c = true) (k : To E (r.holds t true)) : To E r := To.slot t c hc (fun _ => k) (fun h => by rw [ht] at h; cases h)
theorem ne_snoc {hp : List (Option Blk)} {c : Blk} {b : Nat} (h : ∀ j x, nth hp j = some x → x.b ≠ b) (hc : c.b ≠ b) : ∀ j x, nth (snoc hp c) j = some x → x.b ≠ b := fun j x hx => by
  rcases nth_snoc hx with hx | ⟨rfl, _⟩
  · exact h j x hx
  · exact hc
theorem Facts.lt' {E : Env} {hp : List (Option Blk)} {w : World} (h : Facts E hp w) {b : Nat} (hb : w.heap.size ≤ b) : ∀ j x, nth hp j = some x → x.b ≠ b := fun j x hx => by
  have := h.lt hx; omega
theorem hp_gave {r : Fin} {v : Value} (h : r.oper.isSome = true) : (r.gave v).hp = r.hp := by
  unfold Fin.oper at h
  cases hc : r.cur with
  | none => rw [hc] at h; cases h
  | some co =>
    unfold Fin.gave
    rw [hc]
    cases hs : r.sl with
    | none => cases r <;> simp [Fin.sl] at hs; simp [Fin.cur] at hc
    | some x =>
      have := hp_of_sl hs
      simp only [back]
      cases co.1.dr <;> exact this.symm
theorem hp_with {r : Fin} {b : Nat} {o : Obj} {q : Bool} {j : Nat} {x : Blk} (h : nth (r.with b o q).hp j = some x) : nth r.hp j = some x ∨ x = ⟨b, o, q⟩ := by
  cases r with
  | bad => exact .inl h
  | at_ todo y => rcases nth_snoc h with h | ⟨h, _⟩; exact .inl h; exact .inr h
  | dr D k y => rcases nth_snoc h with h | ⟨h, _⟩; exact .inl h; exact .inr h
theorem ne_with {r : Fin} {b b' : Nat} {o : Obj} {q : Bool} (h : ∀ j x, nth r.hp j = some x → x.b ≠ b') (hb : b ≠ b') : ∀ j x, nth (r.with b o q).hp j = some x → x.b ≠ b' := fun j x hx => by
  rcases hp_with hx with hx | rfl
  · exact h j x hx
  · exact hb
/-- A call by its contract: it returns, and turns nothing that was there; which numbers new blocks have. -/
theorem To.callN {E : Env} {r : Fin} (g : FuncId) (args : Array Value) {Φ : World → Value → World → Prop} (h : r.oper.isSome = true) (hm : ∀ w, r.opm.run E.P w = .ok (.enter g args) w)
    (hc : ∀ w, Facts E r.hp w → Calls E.P g args w fun e w1 => ∃ v, e = .returned v ∧ Ext [] w w1 ∧ Φ w v w1)
    (k : ∀ w v w1, Facts E r.hp w → Ext [] w w1 → Φ w v w1 → (∀ b, w.heap.size ≤ b → ∀ j x, nth (r.gave v).hp j = some x → x.b ≠ b) → E.wi.heap.size ≤ w.heap.size → To { E with w0 := w1 } (r.gave v)) : To E r :=
  To.callC g args h hm hc fun w v w1 hw hx _ hΦ => k w v w1 hw hx hΦ (fun b hb j x hj => hw.lt' hb j x (by rw [← hp_gave (v := v) h]; exact hj)) hw.ext.size
/-- 'append(s, x...)', as To.append, with the new length and content as they are to be written. -/
theorem To.appendE {E : Env} {r : Fin} {t ty e : TypeId} {size bytes : Nat} (el : Elem E.P t e size bytes) (j g n cap : Nat) (xs rest : List Value) (a : Option Addr) (m c : Nat) (news : List Value) (N : Nat) (ys : List Value)
    (h : r.oper = some (opV (Builtin.append_ #[t, t] ty #[.slice (some ⟨g, 0, none⟩) n cap, .slice a m c])))
    (hj : nth r.hp j = some ⟨g, .cells ⟨xs ++ rest⟩ e (0, 0), true⟩) (hN : N = n + m) (hys : ys = xs ++ news) (hx : xs.length = n * size) (hr : (xs ++ rest).length = cap * size) (hn : n ≤ cap) (hcap : cap ≤ maxLen)
    (hl : news.length = m * size) (hnews : ∀ w, Facts E r.hp w → ∀ j u, news[j]? = some u → ∃ ad, a = some ad ∧ w.cell? (ad.add j) = some u) (ha : a = none → m = 0) (h1 : ∀ u ∈ news, u.oneCell' = true)
    (h63 : n + m ≤ maxLen) (hbytes : (n + m) * bytes ≤ 140737488355328) (hh : ∀ w, Facts E r.hp w → ∀ i x, nth r.heldC i = some x → x.b ≠ g)
    (k : ∀ w w1 g' cap' rest', Facts E r.hp w → w.grownBy w1 (some g) → (g' = g ∨ g' = w.heap.size) → (ys ++ rest').length = cap' * size → N ≤ cap' → cap' ≤ maxLen →
      To { E with w0 := w1 } (((r.gave (.slice (some ⟨g', 0, none⟩) N cap')).del (some j)).with g' (.cells ⟨ys ++ rest'⟩ e (0, 0)) true)) : To E r := by
  subst hN
  subst hys
  exact To.append el j g n cap xs rest a m c news h hj hx hr hn hcap hl hnews ha h1 h63 hbytes hh k
theorem add0 (b j : Nat) : (⟨b, 0, none⟩ : Addr).add j = ⟨b, j, none⟩ := by unfold Addr.add; split <;> simp_all
theorem Facts.cellAt0 {E : Env} {hp : List (Option Blk)} {w : World} (h : Facts E hp w) {j b : Nat} {l : List Value} {e : TypeId} {f : Nat × Nat} {q : Bool} (hj : nth hp j = some ⟨b, .cells ⟨l⟩ e f, q⟩) {k : Nat} {u : Value} (hk : l[k]? = some u) :
    w.cell? ((⟨b, 0, none⟩ : Addr).add k) = some u := by rw [add0]; exact h.cellAt hj hk
theorem held_nil {E : Env} {r : Fin} {g : Nat} (h : r.heldC = []) : ∀ w, Facts E r.hp w → ∀ i x, nth r.heldC i = some x → x.b ≠ g := fun _ _ i x hx => by rw [h] at hx; cases i <;> cases hx
theorem nth_pickH {hp : List (Option Blk)} {js : List Nat} : ∀ {i : Nat} {x : Blk}, nth (pickH hp js) i = some x → ∃ j ∈ js, nth hp j = some x := by
  induction js with
  | nil => intro i x h; cases i <;> cases h
  | cons j r ih =>
    intro i x h
    cases i with
    | zero => exact ⟨j, by simp, h⟩
    | succ i => obtain ⟨j', h1, h2⟩ := ih h; exact ⟨j', by simp [h1], h2⟩
/-- The blocks that a region holds are other known blocks. -/
theorem held_in {E : Env} {r : Fin} {g : Nat} {o : Obj} {q : Bool} (js : List Nat) (jg : Nat) (h : r.heldC = pickH r.hp js) (hg : nth r.hp jg = some ⟨g, o, q⟩) (hn : jg ∉ js) : ∀ w, Facts E r.hp w → ∀ i x, nth r.heldC i = some x → x.b ≠ g := fun w hw i x hx => by
  rw [h] at hx
  obtain ⟨j, h1, h2⟩ := nth_pickH hx
  exact hw.tr.ne j jg x _ h2 hg (fun e => hn (e ▸ h1))
theorem ucells_get_app {l : List UInt8} {r : List Value} {j : Nat} {u : UInt8} (h : l[j]? = some u) : (ucells l ++ r)[j]? = some (.int .u8 (u.toNat : Int)) := by
  have h1 := ucells_get h
  rw [List.getElem?_append_left (List.getElem?_eq_some_iff.1 h1).1]
  exact h1
/-- What a slot holds, written otherwise. -/
def Fin.slotTo (t : Nat) (v : Value) : Fin → Fin
  | .at_ todo x => .at_ todo { x with tm := (t, v) :: drop x.tm t }
  | .dr D k x => .dr D k { x with tm := (t, v) :: drop x.tm t }
  | .bad => .bad
theorem To.slotE {E : Env} {r : Fin} (t : Nat) (v v' : Value) (h : look r.tm t = some v) (e : v = v') (k : To E (r.slotTo t v')) : To E r := by
  subst e
  cases r with
  | bad => cases h
  | at_ todo x => exact ⟨fun as a w hW hF hw => k.out as a w hW (hF.same (look_set h)) hw⟩
  | dr D kk x => exact ⟨fun as a w hW hF hw hS => k.out as a w hW (hF.same (look_set h)) hw hS⟩
theorem Elem.of {P : Program} {t e : TypeId} {size bytes : Nat} {z : Value} (sl : P.underlying t = some (.slice e)) (h : (P.info? e).map (fun i => (i.zero, i.size, i.bytes)) = some (some z, size, bytes)) (hz : z.cells.size = size) : Elem P t e size bytes := by
  refine ⟨sl, ?_⟩
  cases hi : P.info? e with
  | none => rw [hi] at h; cases h
  | some i =>
    rw [hi] at h
    simp only [Option.map_some, Option.some.injEq, Prod.mk.injEq] at h
    exact ⟨i, z, rfl, h.1, h.2.1, h.2.2, hz⟩
end Go.SX
/- Elements of a slice that is not known block by block; which known blocks there are. Conditions: as each says. -/
namespace Go.SX
open Go.RowKit

/-- The numbers of the known blocks. -/
def nums : List (Option Blk) → List (Option Nat)
  | [] => []
  | x :: r => (match x with | some b => some b.b | none => none) :: nums r
def NumsAll (Q : Nat → Prop) : List (Option Nat) → Prop
  | [] => True
  | none :: r => NumsAll Q r
  | some n :: r => Q n ∧ NumsAll Q r
theorem nums_all {hp : List (Option Blk)} {l : List (Option Nat)} {Q : Nat → Prop} (h : nums hp = l) (ha : NumsAll Q l) : ∀ j x, nth hp j = some x → Q x.b := by
  subst h
  induction hp with
  | nil => intro j x hx; cases j <;> cases hx
  | cons y r ih =>
    intro j x hx
    cases y with
    | none =>
      cases j with
      | zero => cases hx
      | succ j => exact ih ha j x hx
    | some b =>
      cases j with
      | zero => cases hx; exact ha.1
      | succ j => exact ih ha.2 j x hx

theorem add_add {ad : Addr} (h : ad.spot = none) (i j : Nat) : (ad.add i).add j = ad.add (i + j) := by
  obtain ⟨b, o, s⟩ := ad
  simp only at h
  subst h
  unfold Addr.add
  by_cases hi : i = 0
  · subst hi; simp
  · by_cases hj : j = 0
    · subst hj; simp [hi]
    · have : i + j ≠ 0 := by omega
      simp [hi, hj, Nat.add_assoc]
theorem add_block (ad : Addr) (i : Nat) : (ad.add i).block = ad.block := by unfold Addr.add; split <;> rfl

/-- 's[i]', its place. -/
theorem To.indexAt {E : Env} {r : Fin} {t e : TypeId} {size bytes : Nat} (el : Elem E.P t e size bytes) (a : Option Addr) (ad : Addr) (len cap i : Nat) (h : r.oper = some (opV (Instr.indexAt t (.slice a len cap) (.int .i64 (Int.ofNat i))))) (ha : a = some ad) (hi : i < len)
    (k : To E (r.gave (.pointer (some (ad.add (i * size)))))) : To E r := by
  refine To.lawV _ _ h (fun w _ => ?_) k
  subst ha
  obtain ⟨inf, z, h1, h2, h3, h4, h5⟩ := el.info
  simp [Instr.indexAt, run_underlying el.sl, asIntOf, sizeOf, typeInfo, h1, h3, hi]
/-- A load of one cell. -/
theorem To.loadOne {E : Env} {r : Fin} {t : TypeId} {d : TypeDesc} (hu : E.P.underlying t = some d) (hd : (match d with | .struct _ => false | .array _ _ => false | _ => true) = true) (ad : Addr) (v : Value) (h : r.oper = some (opV (Instr.loadAt t (.pointer (some ad)))))
    (hc : ∀ w, Facts E r.hp w → w.cell? ad = some v) (k : To E (r.gave v)) : To E r := by
  refine To.lawV _ _ h (fun w hw => ?_) k
  cases d <;> first | (cases hd; done) | simp [Instr.loadAt, Instr.sureAddr, loadVar, isAgg, run_underlying hu, hc w hw]
def isStruct (P : Program) (t : TypeId) : Bool := match P.underlying t with | some (.struct _) => true | _ => false
/-- A load of a struct. -/
theorem To.loadAgg {E : Env} {r : Fin} {t : TypeId} (hu : isStruct E.P t = true) (n : Nat) (hs : (E.P.info? t).map (·.size) = some n) (ad : Addr) (cells : List Value) (hl : cells.length = n)
    (h : r.oper = some (opV (Instr.loadAt t (.pointer (some ad))))) (hc : ∀ w, Facts E r.hp w → ∀ j v, cells[j]? = some v → w.cell? (ad.add j) = some v) (k : To E (r.gave (.agg ⟨cells⟩))) : To E r := by
  refine To.lawV _ _ h (fun w hw => ?_) k
  obtain ⟨fs, hu⟩ : ∃ fs, E.P.underlying t = some (.struct fs) := by
    unfold isStruct at hu
    split at hu
    · exact ⟨_, by assumption⟩
    · cases hu
  have hlc := run_loadCells_list (P := E.P) w ad cells (hc w hw)
  rw [hl] at hlc
  cases hi : E.P.info? t with
  | none => rw [hi] at hs; cases hs
  | some inf =>
    rw [hi] at hs
    simp only [Option.map_some, Option.some.injEq] at hs
    simp [Instr.loadAt, Instr.sureAddr, loadVar, isAgg, run_underlying hu, sizeOf, typeInfo, hi, hs, hlc]
theorem wrap_succ (k : Nat) (h : k < 9223372036854775807) : IntKind.i64.wrap (Int.ofNat k + 1) = Int.ofNat (k + 1) := by
  rw [IntWalk.i64_in]
  · rfl
  · simp only [Int.ofNat_eq_natCast]; omega
end Go.SX
/- Bytes and pieces of texts that are not known; a call by a contract that leaves the world as it is. Conditions: as each says. -/
namespace Go.SX
open Go.RowKit

/-- 's[i]' of a text. -/
theorem To.indexStr {E : Env} {r : Fin} {t : TypeId} (hu : E.P.underlying t = some .string) (s : ByteArray) (i : Nat) (hi : i < s.size) (h : r.oper = some (opV (Instr.index t (.string s) (.int .i64 (Int.ofNat i)))))
    (k : To E (r.gave (.int .u8 (Int.ofNat (s[i]'hi).toNat)))) : To E r := by
  refine To.lawV _ _ h (fun w _ => ?_) k
  simp [Instr.index, asIntOf, run_underlying hu, hi]
theorem run_sliceBound_in {P : Program} {w : World} (i y : Nat) (code : BoundsCode) (h : i ≤ y) : (Instr.sliceBound (.int .i64 (i : Int)) y code).run P w = .ok i w := by
  have : (i : Int) ≤ (y : Int) := by omega
  simp [Instr.sliceBound, asIntOf, this]
/-- 's[i:j]' of a text. -/
theorem To.sliceStr {E : Env} {r : Fin} {t : TypeId} (hu : E.P.underlying t = some .string) (s : ByteArray) (i j : Nat) (hij : i ≤ j) (hj : j ≤ s.size) (h : r.oper = some (opV (Instr.sliceAt t (.string s) (some (.int .i64 (Int.ofNat i))) (some (.int .i64 (Int.ofNat j))) none)))
    (k : To E (r.gave (.string (s.extract i j)))) : To E r := by
  refine To.lawV _ _ h (fun w _ => ?_) k
  simp [Instr.sliceAt, run_underlying hu, Instr.slice, Instr.sliceBounds, run_sliceBound_in j s.size _ hj, run_sliceBound_in i j _ hij]
/-- 's[i:]' of a text. -/
theorem To.sliceStrFrom {E : Env} {r : Fin} {t : TypeId} (hu : E.P.underlying t = some .string) (s : ByteArray) (i : Nat) (hi : i ≤ s.size) (h : r.oper = some (opV (Instr.sliceAt t (.string s) (some (.int .i64 (Int.ofNat i))) none none)))
    (k : To E (r.gave (.string (s.extract i s.size)))) : To E r := by
  refine To.lawV _ _ h (fun w _ => ?_) k
  simp [Instr.sliceAt, run_underlying hu, Instr.slice, Instr.sliceBounds, run_sliceBound_in i s.size _ hi]
theorem extract_size (s : ByteArray) (i j : Nat) (hij : i ≤ j) (hj : j ≤ s.size) : (s.extract i j).size = j - i := by
  rw [ByteArray.size_extract, Nat.min_eq_left hj]
/-- A contract that leaves the world as it is. -/
theorem Calls.ext {P : Program} {g : FuncId} {args : Array Value} {w : World} {Φ : Ending → World → Prop} {Ψ : World → Value → World → Prop} (h : Calls P g args w Φ) (hk : ∀ e w', Φ e w' → ∃ v, e = .returned v ∧ w' = w ∧ Ψ w v w) :
    Calls P g args w fun e w1 => ∃ v, e = .returned v ∧ Ext [] w w1 ∧ Ψ w v w1 :=
  h.mono fun e w' hΦ => by
    obtain ⟨v, he, rfl, hψ⟩ := hk e w' hΦ
    exact ⟨v, he, Ext.refl _ _, hψ⟩
end Go.SX
/- In a region that draws its order: an operation that is taken first by a law of its own, out of what the region holds. Conditions: as each says. -/
namespace Go.SX
open Go.RowKit

/-- The blocks that the region at hand holds. -/
def Fin.held : Fin → List (Option Blk)
  | .dr D _ _ => D.hb
  | _ => []
/-- It gives v in every world in which the held blocks are as they were, and is taken first. -/
theorem To.lawES {E : Env} {r : Fin} (i : Nat) (s : Go.Sem Value) (v : Value) (h : r.operE i = some (opV s)) (hm : ∀ w, SH r.held w → s.run E.P w = .ok v w) (k : To E (r.gaveE i v)) : To E r := by
  have k := k.out
  unfold Fin.operE at h
  unfold Fin.gaveE at k
  cases hcur : r.curE i with
  | none => rw [hcur] at h; cases h
  | some co =>
    obtain ⟨c, o⟩ := co
    rw [hcur] at h k
    simp only at h
    cases hr : opReady c.ops c.tm o with
    | false => rw [hr] at h; cases h
    | true =>
      rw [hr] at h
      simp only [Option.some.injEq] at h
      obtain ⟨hg, hs, hk⟩ := opReady_spec hr
      unfold Fin.curE at hcur
      split at hcur
      · rename_i D kk x
        split at hcur
        · cases hcur
        · rename_i hpk
          split at hcur
          · cases hcur
          · rename_i hi
            split at hcur
            · cases hcur
            · rename_i n hn
              split at hcur
              · cases hcur
              · rename_i o' ho
                split at hcur
                · cases hcur
                · rename_i hns
                  split at hcur
                  · cases hcur
                  · rename_i hf
                    simp only [Option.some.injEq, Prod.mk.injEq] at hcur
                    obtain ⟨rfl, rfl⟩ := hcur
                    refine ⟨fun as a w hW hF hw hS => ?_⟩
                    refine Drawn.early hpk hi hn hS ho hns hf (v := v) (.inl ⟨gd_wanted hF hg, fun w' hw' => ?_⟩) ?_
                    · rw [exec_eq hF hs hk, h]; exact run_opV (hm w' hw')
                    · exact k as _ w hW (hF.put o'.dst v) hw hS.took
      · cases hcur
theorem SH.cell {hb : List (Option Blk)} {w : World} (h : SH hb w) {j b : Nat} {c : Array Value} {e : TypeId} {z : Nat × Nat} {q : Bool} (hj : nth hb j = some ⟨b, .cells c e z, q⟩) {ad : Addr} {v : Value} (hb' : ad.block = b) (hs : ad.spot = none) (hv : c[ad.off]? = some v) :
    w.cell? ad = some v := (cell_of_blk (h j _ hj) hb' hs).trans hv
/-- A cell that is known lies in a block. -/
theorem block_of_cell {w : World} {ad : Addr} {v : Value} (h : w.cell? ad = some v) : ∃ c e z, w.heap[ad.block]? = some (.cells c e z) ∧ ad.spot = none ∧ c[ad.off]? = some v := by
  unfold World.cell? at h
  split at h
  · rename_i c e z hb
    split at h
    · cases h
    · rename_i hs
      exact ⟨c, e, z, hb, by simpa using hs, h⟩
  · cases h
theorem To.indexAtE {E : Env} {r : Fin} (n : Nat) {t e : TypeId} {size bytes : Nat} (el : Elem E.P t e size bytes) (a : Option Addr) (ad : Addr) (len cap i : Nat) (h : r.operE n = some (opV (Instr.indexAt t (.slice a len cap) (.int .i64 (Int.ofNat i))))) (ha : a = some ad) (hi : i < len)
    (k : To E (r.gaveE n (.pointer (some (ad.add (i * size)))))) : To E r := by
  refine To.lawES n _ _ h (fun w _ => ?_) k
  subst ha
  obtain ⟨inf, z, h1, h2, h3, h4, h5⟩ := el.info
  simp [Instr.indexAt, run_underlying el.sl, asIntOf, sizeOf, typeInfo, h1, h3, hi]
theorem To.loadAggE {E : Env} {r : Fin} (m : Nat) {t : TypeId} (hu : isStruct E.P t = true) (n : Nat) (hs : (E.P.info? t).map (·.size) = some n) (ad : Addr) (cells : List Value) (hl : cells.length = n)
    (h : r.operE m = some (opV (Instr.loadAt t (.pointer (some ad))))) (hc : ∀ w, SH r.held w → ∀ j v, cells[j]? = some v → w.cell? (ad.add j) = some v) (k : To E (r.gaveE m (.agg ⟨cells⟩))) : To E r := by
  refine To.lawES m _ _ h (fun w hw => ?_) k
  obtain ⟨fs, hu⟩ : ∃ fs, E.P.underlying t = some (.struct fs) := by
    unfold isStruct at hu
    split at hu
    · exact ⟨_, by assumption⟩
    · cases hu
  have hlc := run_loadCells_list (P := E.P) w ad cells (hc w hw)
  rw [hl] at hlc
  cases hi : E.P.info? t with
  | none => rw [hi] at hs; cases hs
  | some inf =>
    rw [hi] at hs
    simp only [Option.map_some, Option.some.injEq] at hs
    simp [Instr.loadAt, Instr.sureAddr, loadVar, isAgg, run_underlying hu, sizeOf, typeInfo, hi, hs, hlc]
theorem To.loadOneE {E : Env} {r : Fin} (m : Nat) {t : TypeId} {d : TypeDesc} (hu : E.P.underlying t = some d) (hd : (match d with | .struct _ => false | .array _ _ => false | _ => true) = true) (ad : Addr) (v : Value) (h : r.operE m = some (opV (Instr.loadAt t (.pointer (some ad)))))
    (hc : ∀ w, SH r.held w → w.cell? ad = some v) (k : To E (r.gaveE m v)) : To E r := by
  refine To.lawES m _ _ h (fun w hw => ?_) k
  cases d <;> first | (cases hd; done) | simp [Instr.loadAt, Instr.sureAddr, loadVar, isAgg, run_underlying hu, hc w hw]
end Go.SX
/- What stays as it was between two worlds; a row of one's own that has grown element by element. Conditions: as each says. -/
namespace Go.SX
open Go.RowKit

/-- Blocks whose number is so are as they were. -/
def Kept (Q : Nat → Prop) (w w' : World) : Prop := ∀ b o, Q b → w.heap[b]? = some o → w'.heap[b]? = some o
theorem Kept.refl (Q : Nat → Prop) (w : World) : Kept Q w w := fun _ _ _ h => h
theorem Kept.trans {Q : Nat → Prop} {w w' w'' : World} (h : Kept Q w w') (k : Kept Q w' w'') : Kept Q w w'' := fun b o hq hb => k b o hq (h b o hq hb)
theorem Kept.mono {Q Q' : Nat → Prop} {w w' : World} (h : Kept Q w w') (hq : ∀ b, Q' b → Q b) : Kept Q' w w' := fun b o q hb => h b o (hq b q) hb
theorem Kept.cell {Q : Nat → Prop} {w w' : World} (h : Kept Q w w') {a : Addr} {u : Value} (hq : Q a.block) (hc : w.cell? a = some u) : w'.cell? a = some u := by
  obtain ⟨c, e, z, h1, h2, h3⟩ := block_of_cell hc
  have h4 := h _ _ hq h1
  unfold World.cell?
  rw [h4]
  simpa [h2] using h3
theorem Fr.kept {Q : Nat → Prop} {hp : List (Option Blk)} {w w' : World} {l : List (Option Nat)} (h : Fr hp w w') (hn : nums hp = l) (hq : NumsAll (fun n => ¬ Q n) l) : Kept Q w w' := fun b _ q hb =>
  h.at hb (fun j x hj _ e => nums_all hn hq j x hj (e ▸ q))
theorem Ext.kept {Q : Nat → Prop} {w w' : World} (h : Ext [] w w') : Kept Q w w' := fun _ _ _ hb => h.at hb (by simp)
theorem Ext.keptS {Q : Nat → Prop} {S : List Nat} {w w' : World} (h : Ext S w w') (hq : ∀ b ∈ S, ¬ Q b) : Kept Q w w' := fun b _ q hb => h.at hb (fun hs => hq b hs q)
theorem grown_kept {Q : Nat → Prop} {w w' : World} {row : Option Nat} (h : w.grownBy w' row) (hq : ∀ b, row = some b → ¬ Q b) : Kept Q w w' := fun b _ q hb =>
  grown_at h hb (fun e => hq b e.symm q)
theorem at_lt {w : World} {b : Nat} {o : Obj} (h : w.heap[b]? = some o) : b < w.heap.size := (Array.getElem?_eq_some_iff.1 h).1

/-- A row in block g that has these elements, and room behind them. -/
structure Row1 {α : Type} (I : World → α → Value → Prop) (ty : TypeId) (lo : Nat) (w : World) (g c : Nat) (rest vs : List Value) (L : List α) : Prop where
  blk : w.heap[g]? = some (.cells ⟨vs ++ rest⟩ ty (0, 0))
  len : vs.length = L.length
  room : (vs ++ rest).length = c * 1
  le : L.length ≤ c
  cap : c ≤ maxLen
  lo : lo ≤ g
  all : ∀ (j : Nat) (v : Value) (x : α), vs[j]? = some v → L[j]? = some x → I w x v
/-- A slice of such a row, or nil. -/
def Rows1 {α : Type} (I : World → α → Value → Prop) (ty : TypeId) (lo : Nat) (w : World) (v : Value) (L : List α) : Prop :=
  (L = [] ∧ v = .slice none 0 0) ∨ ∃ g c rest vs, v = .slice (some ⟨g, 0, none⟩) L.length c ∧ Row1 I ty lo w g c rest vs L
theorem Row1.snoc {α : Type} {I : World → α → Value → Prop} {ty : TypeId} {lo lo' : Nat} {w w' : World} {g c g' c' : Nat} {rest vs rest' : List Value} {L : List α} (h : Row1 I ty lo w g c rest vs L) (x : α) (v : Value)
    (hb : w'.heap[g']? = some (.cells ⟨vs ++ [v] ++ rest'⟩ ty (0, 0))) (hr : (vs ++ [v] ++ rest').length = c' * 1) (hle : L.length + 1 ≤ c') (hc : c' ≤ maxLen) (hlo : lo' ≤ g') (hv : I w' x v)
    (hk : ∀ y u, y ∈ L → I w y u → I w' y u) : Row1 I ty lo' w' g' c' rest' (vs ++ [v]) (L ++ [x]) := by
  refine ⟨hb, by simp [h.len], hr, by simpa using hle, hc, hlo, fun j u y hu hy => ?_⟩
  by_cases hj : j < vs.length
  · rw [List.getElem?_append_left hj] at hu
    rw [List.getElem?_append_left (by rw [← h.len]; exact hj)] at hy
    exact hk y u (List.mem_of_getElem? hy) (h.all j u y hu hy)
  · have hj1 := (List.getElem?_eq_some_iff.1 hu).1
    simp only [List.length_append, List.length_cons, List.length_nil] at hj1
    have e : j = vs.length := by omega
    subst e
    rw [List.getElem?_append_right (Nat.le_refl _), Nat.sub_self] at hu
    rw [h.len, List.getElem?_append_right (Nat.le_refl _), Nat.sub_self] at hy
    cases hu; cases hy; exact hv
theorem Row1.one {α : Type} {I : World → α → Value → Prop} {ty : TypeId} {lo' : Nat} {w' : World} {g' c' : Nat} {rest' : List Value} (x : α) (v : Value)
    (hb : w'.heap[g']? = some (.cells ⟨[v] ++ rest'⟩ ty (0, 0))) (hr : ([v] ++ rest').length = c' * 1) (hle : 1 ≤ c') (hc : c' ≤ maxLen) (hlo : lo' ≤ g') (hv : I w' x v) : Row1 I ty lo' w' g' c' rest' [v] [x] :=
  ⟨hb, rfl, hr, hle, hc, hlo, fun j u y hu hy => by
    rcases j with _ | j
    · cases hu; cases hy; exact hv
    · cases hu⟩
theorem Row1.kept {α : Type} {I : World → α → Value → Prop} {ty : TypeId} {lo : Nat} {w w' : World} {g c : Nat} {rest vs : List Value} {L : List α} (h : Row1 I ty lo w g c rest vs L) (hb : w'.heap[g]? = w.heap[g]?)
    (hk : ∀ y u, y ∈ L → I w y u → I w' y u) : Row1 I ty lo w' g c rest vs L :=
  ⟨hb.trans h.blk, h.len, h.room, h.le, h.cap, h.lo, fun j v x hv hx => hk x v (List.mem_of_getElem? hx) (h.all j v x hv hx)⟩
/-- What holds of each element of a row that was read from the block. -/
theorem Row1.get {α : Type} {I : World → α → Value → Prop} {ty : TypeId} {lo : Nat} {w : World} {g c : Nat} {rest vs : List Value} {L : List α} (h : Row1 I ty lo w g c rest vs L) {j : Nat} {x : α} (hx : L[j]? = some x) :
    ∃ v, (vs ++ rest)[j]? = some v ∧ vs[j]? = some v ∧ I w x v := by
  have hj : j < vs.length := by rw [h.len]; exact (List.getElem?_eq_some_iff.1 hx).1
  exact ⟨vs[j], by rw [List.getElem?_append_left hj]; simp [hj], by simp [hj], h.all j _ x (by simp [hj]) hx⟩
theorem Row1.cell {α : Type} {I : World → α → Value → Prop} {ty : TypeId} {lo : Nat} {w : World} {g c : Nat} {rest vs : List Value} {L : List α} (h : Row1 I ty lo w g c rest vs L) {j : Nat} {v : Value} (hv : vs[j]? = some v) :
    w.cell? ((⟨g, 0, none⟩ : Addr).add (j * 1)) = some v := by
  rw [add0, cell_of_row w g _ _ ty (0, 0) h.blk, Nat.mul_one]
  have hj := (List.getElem?_eq_some_iff.1 hv).1
  simp only [List.getElem?_toArray]
  rw [List.getElem?_append_left hj]; exact hv
end Go.SX
/- A row of one's own that has grown element by element, where an element has several cells. Conditions: as each says. -/
namespace Go.SX
open Go.RowKit

theorem flat_length {α : Type} {css : List (List α)} {sz : Nat} (h : ∀ cs ∈ css, cs.length = sz) : css.flatten.length = css.length * sz := by
  induction css with
  | nil => simp
  | cons a css ih =>
    rw [List.flatten_cons, List.length_append, h a (by simp), ih (fun cs hc => h cs (by simp [hc])), List.length_cons, Nat.add_mul]
    omega
theorem flat_get {α : Type} {css : List (List α)} {sz : Nat} (h : ∀ cs ∈ css, cs.length = sz) {j i : Nat} {cs : List α} (hj : css[j]? = some cs) (hi : i < sz) : css.flatten[j * sz + i]? = cs[i]? := by
  induction css generalizing j with
  | nil => cases hj
  | cons a css ih =>
    have ha := h a (by simp)
    rw [List.flatten_cons]
    cases j with
    | zero =>
      simp only [List.getElem?_cons_zero, Option.some.injEq] at hj
      subst hj
      rw [Nat.zero_mul, Nat.zero_add, List.getElem?_append_left (by omega)]
    | succ j =>
      rw [List.getElem?_append_right (by rw [ha, Nat.add_mul]; omega), ha]
      have e : (j + 1) * sz + i - sz = j * sz + i := by rw [Nat.add_mul]; omega
      rw [e]
      exact ih (fun cs hc => h cs (by simp [hc])) (by simpa using hj)
structure RowN {α : Type} (I : World → α → List Value → Prop) (sz : Nat) (ty : TypeId) (lo : Nat) (w : World) (g c : Nat) (rest : List Value) (css : List (List Value)) (L : List α) : Prop where
  blk : w.heap[g]? = some (.cells ⟨css.flatten ++ rest⟩ ty (0, 0))
  len : css.length = L.length
  each : ∀ cs ∈ css, cs.length = sz
  room : (css.flatten ++ rest).length = c * sz
  le : L.length ≤ c
  cap : c ≤ maxLen
  lo : lo ≤ g
  all : ∀ (j : Nat) (cs : List Value) (x : α), css[j]? = some cs → L[j]? = some x → I w x cs
def RowsN {α : Type} (I : World → α → List Value → Prop) (sz : Nat) (ty : TypeId) (lo : Nat) (w : World) (v : Value) (L : List α) : Prop :=
  (L = [] ∧ v = .slice none 0 0) ∨ ∃ g c rest css, v = .slice (some ⟨g, 0, none⟩) L.length c ∧ RowN I sz ty lo w g c rest css L
theorem RowN.snoc {α : Type} {I : World → α → List Value → Prop} {sz : Nat} {ty : TypeId} {lo lo' : Nat} {w w' : World} {g c g' c' : Nat} {rest rest' : List Value} {css : List (List Value)} {L : List α} (h : RowN I sz ty lo w g c rest css L) (x : α) (cs : List Value)
    (hcs : cs.length = sz) (hb : w'.heap[g']? = some (.cells ⟨css.flatten ++ cs ++ rest'⟩ ty (0, 0))) (hr : (css.flatten ++ cs ++ rest').length = c' * sz) (hle : L.length + 1 ≤ c') (hc : c' ≤ maxLen) (hlo : lo' ≤ g') (hv : I w' x cs)
    (hk : ∀ y u, y ∈ L → I w y u → I w' y u) : RowN I sz ty lo' w' g' c' rest' (css ++ [cs]) (L ++ [x]) := by
  have e : (css ++ [cs]).flatten = css.flatten ++ cs := by simp
  refine ⟨by rw [e]; exact hb, by simp [h.len], fun a ha => ?_, by rw [e]; exact hr, by simpa using hle, hc, hlo, fun j u y hu hy => ?_⟩
  · simp only [List.mem_append, List.mem_singleton] at ha
    rcases ha with ha | rfl
    · exact h.each a ha
    · exact hcs
  by_cases hj : j < css.length
  · rw [List.getElem?_append_left hj] at hu
    rw [List.getElem?_append_left (by rw [← h.len]; exact hj)] at hy
    exact hk y u (List.mem_of_getElem? hy) (h.all j u y hu hy)
  · have hj1 := (List.getElem?_eq_some_iff.1 hu).1
    simp only [List.length_append, List.length_cons, List.length_nil] at hj1
    have e : j = css.length := by omega
    subst e
    rw [List.getElem?_append_right (Nat.le_refl _), Nat.sub_self] at hu
    rw [h.len, List.getElem?_append_right (Nat.le_refl _), Nat.sub_self] at hy
    cases hu; cases hy; exact hv
theorem RowN.one {α : Type} {I : World → α → List Value → Prop} {sz : Nat} {ty : TypeId} {lo' : Nat} {w' : World} {g' c' : Nat} {rest' : List Value} (x : α) (cs : List Value)
    (hcs : cs.length = sz) (hb : w'.heap[g']? = some (.cells ⟨cs ++ rest'⟩ ty (0, 0))) (hr : (cs ++ rest').length = c' * sz) (hle : 1 ≤ c') (hc : c' ≤ maxLen) (hlo : lo' ≤ g') (hv : I w' x cs) : RowN I sz ty lo' w' g' c' rest' [cs] [x] :=
  ⟨by simpa using hb, rfl, fun a ha => by simp only [List.mem_singleton] at ha; rw [ha]; exact hcs, by simpa using hr, hle, hc, hlo, fun j u y hu hy => by
    rcases j with _ | j
    · cases hu; cases hy; exact hv
    · cases hu⟩
theorem RowN.kept {α : Type} {I : World → α → List Value → Prop} {sz : Nat} {ty : TypeId} {lo : Nat} {w w' : World} {g c : Nat} {rest : List Value} {css : List (List Value)} {L : List α} (h : RowN I sz ty lo w g c rest css L) (hb : w'.heap[g]? = w.heap[g]?)
    (hk : ∀ y u, y ∈ L → I w y u → I w' y u) : RowN I sz ty lo w' g c rest css L :=
  ⟨hb.trans h.blk, h.len, h.each, h.room, h.le, h.cap, h.lo, fun j v x hv hx => hk x v (List.mem_of_getElem? hx) (h.all j v x hv hx)⟩
theorem RowN.get {α : Type} {I : World → α → List Value → Prop} {sz : Nat} {ty : TypeId} {lo : Nat} {w : World} {g c : Nat} {rest : List Value} {css : List (List Value)} {L : List α} (h : RowN I sz ty lo w g c rest css L) {j : Nat} {x : α} (hx : L[j]? = some x) :
    ∃ cs, css[j]? = some cs ∧ I w x cs ∧ ∀ i u, cs[i]? = some u → w.cell? ((⟨g, 0, none⟩ : Addr).add (j * sz + i)) = some u := by
  have hj : j < css.length := by rw [h.len]; exact (List.getElem?_eq_some_iff.1 hx).1
  have hcs : css[j]? = some css[j] := by simp [hj]
  refine ⟨css[j], hcs, h.all j _ x hcs hx, fun i u hi => ?_⟩
  have hlen := h.each css[j] (List.getElem_mem hj)
  have hi' : i < sz := by have := (List.getElem?_eq_some_iff.1 hi).1; omega
  have hf := flat_get h.each hcs hi'
  rw [hi] at hf
  rw [add0, cell_of_row w g _ _ ty (0, 0) h.blk]
  simp only [List.getElem?_toArray]
  rw [List.getElem?_append_left (List.getElem?_eq_some_iff.1 hf).1]; exact hf
end Go.SX
/- A new row with room for some elements. Conditions: as each says. -/
namespace Go.SX
open Go.RowKit

/-- 'make([]T, 0, n)'. -/
theorem To.makeRow {E : Env} {r : Fin} {t e : TypeId} {size bytes : Nat} (el : Elem E.P t e size bytes) (n : Nat) (h : r.oper = some (opV (Instr.makeSlice t (.int .i64 0) (.int .i64 (Int.ofNat n)))))
    (hb : bytes * n ≤ 281474976710656) (hn : n ≤ maxLen)
    (k : ∀ g rest, rest.length = n * size → E.w0.heap.size ≤ g → To E ((r.gave (.slice (some ⟨g, 0, none⟩) 0 n)).with g (.cells ⟨rest⟩ e (0, 0)) true)) : To E r := by
  obtain ⟨i, z, hi, hz, hs, hby, hzs⟩ := el.info
  refine To.madeV (ι := List Value) _ (fun b _ => .slice (some ⟨b, 0, none⟩) 0 n) (fun _ i => .cells ⟨i⟩ e (0, 0)) (fun i => i.length = n * size) h (fun w hw => ?_) (fun b i hi hb => k b i hi hb)
  have hr := run_make (P := E.P) w t e i z el.sl hi hz .i64 .i64 0 (n : Int) (Int.le_refl _) (by omega) (by
    have : (i.bytes * n : Nat) ≤ 281474976710656 := by rw [hby]; exact hb
    have h2 : ((i.bytes * n : Nat) : Int) ≤ 281474976710656 := by omega
    rwa [Int.natCast_mul] at h2) (by simp only [maxLen] at hn; omega)
  refine ⟨(madeCells z.cells (n * i.size)).toList, w.drawn, by rw [Array.length_toList, size_madeCells, hs], ?_⟩
  simp only [Int.toNat_zero, Int.toNat_natCast] at hr
  rw [show Int.ofNat n = (n : Int) from rfl, hr]
  rfl
/-- A function that may write one block that is known. -/
theorem calls_of1 {P : Program} {f : FuncId} {fn : Func} {c : Code} {args : List Value} {w : World} {R : Ending → World → Prop} {nt : Nat} (g : Nat) (o : Obj) (hg : w.heap[g]? = some o)
    (hf : P.funcs[f]? = some fn) (hb : fn.body = some c) (hn : fn.ntmps = nt) (hl : Nat.ble args.length nt = true)
    (h : To { P := P, R := R, wi := w, ins := [g], w0 := w } (start f nt c args [some ⟨g, o, true⟩])) : Calls P f args.toArray w R := by
  refine calls_of [g] [some ⟨g, o, true⟩] hf hb hn hl ⟨fun j b hj => ?_, fun i j x y hx hy hne => ?_⟩ (fun j b hj _ => ?_) h
  · rcases j with _ | j
    · cases hj; exact hg
    · cases j <;> cases hj
  · rcases i with _ | i <;> rcases j with _ | j
    · exact absurd rfl hne
    · cases j <;> cases hy
    · cases i <;> cases hx
    · cases i <;> cases hx
  · rcases j with _ | j
    · cases hj; simp
    · cases j <;> cases hj
theorem Ext.grown1 {w w' : World} {g : Nat} (h : Ext [g] w w') : w.grownBy w' (some g) :=
  ⟨h.os, h.tape, h.output, h.size, fun b hb hne => h.block b hb (fun hm => hne (by simpa using hm))⟩
end Go.SX
/- Writing one element of a row that is known. Conditions: as each says. -/
namespace Go.SX
open Go.RowKit

/-- The operation turns one known block, and gives nothing. -/
theorem To.wroteU {E : Env} {r : Fin} {m : Go.Sem Next} (j b : Nat) (o o' : Obj) (h : r.oper = some m) (hj : nth r.hp j = some ⟨b, o, true⟩)
    (hm : ∀ w, Facts E r.hp w → ∃ d, m.run E.P w = .ok .skip { w with heap := w.heap.setIfInBounds b o', drawn := d })
    (hh : ∀ i x, nth r.heldC i = some x → x.b ≠ b) (k : To E ((r.gave undef).set j o')) : To E r := by
  refine To.op h fun c op x as a w Q hcur hsl hd hW hF hw hS => ?_
  have hj' : nth x.s.hp j = some ⟨b, o, true⟩ := hp_of_sl hsl ▸ hj
  obtain ⟨d, hrun⟩ := hm w (hp_of_sl hsl ▸ hw)
  rw [hrun]
  have k := k.out
  simp only [Fin.gave, hcur, hsl, back] at k
  simp only [Fin.heldC, hcur] at hh
  show Cont E.P (RS E.P E.R as) c (a.put op.dst undef) _
  rw [← hd]
  unfold Cont
  cases hdr : c.dr with
  | none =>
    rw [hdr] at k
    exact k as _ _ hW (hF.put c.dst _) (hw.wrote hj' o' d)
  | some D =>
    rw [hdr] at k hh
    refine k as _ _ hW (hF.put c.dst _) (hw.wrote hj' o' d) (fun i y hy => ?_)
    show (w.heap.setIfInBounds b o')[y.b]? = _
    rw [Array.getElem?_setIfInBounds_ne (hh i y hy).symm]
    exact hS D hdr i y hy
/-- An operation that gives nothing. -/
def opU (s : Go.Sem Unit) : Go.Sem Next := do s; pure .skip
theorem setRow_is {w : World} {g : Nat} {c cs : Array Value} {e : TypeId} {z : Nat × Nat} (hg : w.heap[g]? = some (.cells c e z)) : w.setRow g cs = { w with heap := w.heap.setIfInBounds g (.cells cs e z) } := by
  unfold World.setRow
  congr 1
  apply Array.ext_getElem?
  intro k
  rw [Array.getElem?_modify, Array.getElem?_setIfInBounds]
  by_cases hk : g = k
  · subst hk
    have := at_lt hg
    have hv : w.heap[g] = .cells c e z := by rw [Array.getElem?_eq_getElem this] at hg; exact Option.some.inj hg
    simp [this, hv]
  · simp [hk]
theorem run_storeAt_one {P : Program} (w : World) (t e : TypeId) (g j : Nat) (l : List Value) (v : Value) (hg : w.heap[g]? = some (.cells ⟨l⟩ e (0, 0))) (hj : j < l.length) (hv : v.oneCell' = true) (hc : v.cells = #[v])
    (hi : (P.info? t).map (·.size) = some 1) :
    (Instr.storeAt t (.pointer (some ((⟨g, 0, none⟩ : Addr).add j))) v).run P w = .ok () { w with heap := w.heap.setIfInBounds g (.cells ⟨l.set j v⟩ e (0, 0)) } := by
  have h1 := run_storeCells_at (P := P) g j e [v] 0 ⟨l⟩ w hg (by simp; omega) (by simpa using hv)
  rw [add0]
  cases hq : P.info? t with
  | none => rw [hq] at hi; cases hi
  | some i =>
    have hs : i.size = 1 := by rw [hq] at hi; simpa using hi
    simp only [Nat.add_zero] at h1
    simp [Instr.storeAt, Instr.sureAddr, storeVar, sizeOf, typeInfo, hq, hc, hs, h1]
    rw [setRow_is hg]
    congr 4
    rw [List.set_eq_take_append_cons_drop, if_pos hj]
/-- 's[j] = v', where s is a row of one's own, and known. -/
theorem To.storeOne {E : Env} {r : Fin} (i : Nat) {t e : TypeId} (hi : (E.P.info? t).map (·.size) = some 1) (g j : Nat) (l l' : List Value) (v : Value) (h : r.oper = some (opU (Instr.storeAt t (.pointer (some ((⟨g, 0, none⟩ : Addr).add (j * 1)))) v)))
    (hg : nth r.hp i = some ⟨g, .cells ⟨l⟩ e (0, 0), true⟩) (hj : j < l.length) (hl : l' = l.set j v) (hv : v.oneCell' = true) (hc : v.cells = #[v]) (hh : ∀ i x, nth r.heldC i = some x → x.b ≠ g)
    (k : To E ((r.gave undef).set i (.cells ⟨l'⟩ e (0, 0)))) : To E r := by
  subst hl
  refine To.wroteU i g (.cells ⟨l⟩ e (0, 0)) _ h hg (fun w hw => ⟨w.drawn, ?_⟩) hh k
  have h1 := run_storeAt_one (P := E.P) w t e g j l v (hw.blk hg) hj hv hc hi
  rw [Nat.mul_one]
  simp [opU, h1]
end Go.SX
/- 's[:n]' of a slice. Conditions: as each says. -/
namespace Go.SX
open Go.RowKit

theorem To.sliceTo {E : Env} {r : Fin} {t e : TypeId} {size bytes : Nat} (el : Elem E.P t e size bytes) (g n m cap : Nat) (hm : m ≤ cap) (h : r.oper = some (opV (Instr.sliceAt t (.slice (some ⟨g, 0, none⟩) n cap) none (some (.int .i64 (Int.ofNat m))) none)))
    (k : To E (r.gave (.slice (some ⟨g, 0, none⟩) m cap))) : To E r := by
  refine To.lawV _ _ h (fun w _ => ?_) k
  obtain ⟨inf, z, h1, h2, h3, h4, h5⟩ := el.info
  simp [Instr.sliceAt, run_underlying el.sl, Instr.slice, Instr.sliceBounds, run_sliceBound_in m cap _ hm, sizeOf, typeInfo, h1, add0]
end Go.SX
/- 'append(s, x...)' where x is of another slice type. Conditions: as each says. -/
namespace Go.SX
open Go.RowKit

theorem run_append_two {P : Program} {w : World} {t t2 ty e e2 : TypeId} {b a : Option Addr} {n cap m c : Nat} (h1 : P.underlying t = some (.slice e)) (h2 : P.underlying t2 = some (.slice e2)) :
    (Builtin.append_ #[t, t2] ty #[.slice b n cap, .slice a m c]).run P w = (Builtin.append_ #[t, t] ty #[.slice b n cap, .slice a m c]).run P w := by
  simp [Builtin.append_, run_underlying h1, run_underlying h2]
/-- 'append(s, x...)', where s is a row of one's own, and known. -/
theorem To.append2 {E : Env} {r : Fin} {t t2 ty e e2 : TypeId} {size bytes : Nat} (el : Elem E.P t e size bytes) (h2 : E.P.underlying t2 = some (.slice e2)) (j g n cap : Nat) (xs rest : List Value) (a : Option Addr) (m c : Nat) (news : List Value)
    (h : r.oper = some (opV (Builtin.append_ #[t, t2] ty #[.slice (some ⟨g, 0, none⟩) n cap, .slice a m c])))
    (hj : nth r.hp j = some ⟨g, .cells ⟨xs ++ rest⟩ e (0, 0), true⟩) (hx : xs.length = n * size) (hr : (xs ++ rest).length = cap * size) (hn : n ≤ cap) (hcap : cap ≤ maxLen)
    (hl : news.length = m * size) (hnews : ∀ w, Facts E r.hp w → ∀ j u, news[j]? = some u → ∃ ad, a = some ad ∧ w.cell? (ad.add j) = some u) (ha : a = none → m = 0) (h1 : ∀ u ∈ news, u.oneCell' = true)
    (h63 : n + m ≤ maxLen) (hbytes : (n + m) * bytes ≤ 140737488355328) (hh : ∀ w, Facts E r.hp w → ∀ i x, nth r.heldC i = some x → x.b ≠ g)
    (k : ∀ w w1 g' cap' rest', Facts E r.hp w → w.grownBy w1 (some g) → (g' = g ∨ g' = w.heap.size) → ((xs ++ news) ++ rest').length = cap' * size → n + m ≤ cap' → cap' ≤ maxLen →
      To { E with w0 := w1 } (((r.gave (.slice (some ⟨g', 0, none⟩) (n + m) cap')).del (some j)).with g' (.cells ⟨(xs ++ news) ++ rest'⟩ e (0, 0)) true)) : To E r := by
  obtain ⟨i, z, hi, hz, hs, hb, hzs⟩ := el.info
  have hown : ∀ w, Facts E r.hp w → E.wi.heap.size ≤ g ∨ g ∈ E.ins := fun w hw => hw.own j _ hj rfl
  have hne : ∀ w, Facts E r.hp w → ∀ i x, nth (delO r.hp (some j)) i = some x → x.b ≠ g := fun w hw i x hx => by
    obtain ⟨h1, h2⟩ := nth_delO hx
    exact hw.tr.ne i j x _ h1 hj (by simpa using Ne.symm h2)
  refine To.grewV _ (some g) (some j) (Φ := fun w v w1 => ∃ g' cap' rest', v = .slice (some ⟨g', 0, none⟩) (n + m) cap' ∧ (g' = g ∨ g' = w.heap.size) ∧ w1.heap[g']? = some (.cells ⟨(xs ++ news) ++ rest'⟩ e (0, 0)) ∧
    ((xs ++ news) ++ rest').length = cap' * size ∧ n + m ≤ cap' ∧ cap' ≤ maxLen) h (fun w hw => ?_) (fun w hw i x hx e => hne w hw i x hx (by simpa using e)) (fun w hw b hb => by cases hb; exact hown w hw) (fun w hw i x hx e => hh w hw i x hx (by simpa using e)) ?_
  · obtain ⟨g', cap', rest', w1, hrun, hg, hor, hb', h2', h3, h4⟩ := run_append_at (P := E.P) w t ty e i z size bytes el.sl hi hz hs hb hzs g n cap xs rest (hw.blk hj) hx hr hn hcap a m c news hl (hnews w hw) ha h1 h63 hbytes
    exact ⟨_, w1, (run_append_two el.sl h2).trans hrun, hg, g', cap', rest', rfl, hor, hb', h2', h3, h4⟩
  · rintro w v w1 hw hg ⟨g', cap', rest', rfl, hor, hb', h2', h3, h4⟩
    have hcur : ∀ x, (r.gave x).hp = r.hp := by
      intro x
      cases hc : r.cur with
      | none => unfold Fin.oper at h; rw [hc] at h; cases h
      | some co =>
        unfold Fin.gave
        rw [hc]
        cases hs : r.sl with
        | none => cases r <;> simp [Fin.sl] at hs; simp [Fin.cur] at hc
        | some x =>
          have := hp_of_sl hs
          simp only [back]
          cases co.1.dr <;> exact this.symm
    have hdel : ((r.gave (.slice (some ⟨g', 0, none⟩) (n + m) cap')).del (some j)).hp = delO r.hp (some j) := by
      have := hcur (.slice (some ⟨g', 0, none⟩) (n + m) cap')
      rw [← this]
      cases r.gave (.slice (some ⟨g', 0, none⟩) (n + m) cap') <;> simp [Fin.del, Fin.hp]
      simp [delO, delN]
    refine To.withAt g' _ true hb' ?_ (fun _ => ?_) (k w w1 g' cap' rest' hw hg hor h2' h3 h4)
    · rw [hdel]
      intro i x hx
      rcases hor with rfl | rfl
      · exact hne w hw i x hx
      · have := hw.lt (nth_delO hx).1; omega
    · rcases hor with rfl | rfl
      · exact hown w hw
      · exact .inl hw.ext.size
end Go.SX
/- A new row of zeros. Conditions: as each says. -/
namespace Go.SX
open Go.RowKit

/-- 'make([]T, n)'. -/
theorem To.makeFull {E : Env} {r : Fin} {t e : TypeId} {size bytes : Nat} (el : Elem E.P t e size bytes) (n : Nat) (h : r.oper = some (opV (Instr.makeSlice t (.int .i64 (Int.ofNat n)) (.int .i64 (Int.ofNat n)))))
    (hb : bytes * n ≤ 281474976710656) (hn : n ≤ maxLen)
    (k : ∀ g rest, rest.length = n * size → E.w0.heap.size ≤ g → To E ((r.gave (.slice (some ⟨g, 0, none⟩) n n)).with g (.cells ⟨rest⟩ e (0, 0)) true)) : To E r := by
  obtain ⟨i, z, hi, hz, hs, hby, hzs⟩ := el.info
  refine To.madeV (ι := List Value) _ (fun b _ => .slice (some ⟨b, 0, none⟩) n n) (fun _ i => .cells ⟨i⟩ e (0, 0)) (fun i => i.length = n * size) h (fun w hw => ?_) (fun b i hi hb => k b i hi hb)
  have hr := run_make (P := E.P) w t e i z el.sl hi hz .i64 .i64 (n : Int) (n : Int) (by omega) (Int.le_refl _) (by
    have : (i.bytes * n : Nat) ≤ 281474976710656 := by rw [hby]; exact hb
    have h2 : ((i.bytes * n : Nat) : Int) ≤ 281474976710656 := by omega
    rwa [Int.natCast_mul] at h2) (by simp only [maxLen] at hn; omega)
  refine ⟨(madeCells z.cells (n * i.size)).toList, w.drawn, by rw [Array.length_toList, size_madeCells, hs], ?_⟩
  simp only [Int.toNat_natCast] at hr
  rw [show Int.ofNat n = (n : Int) from rfl, hr]
  rfl
end Go.SX
/- Cells that are set one by one, as a row. Conditions: as each says. -/
namespace Go.SX
open Go.RowKit

theorem setCells_row {g : Nat} {t : TypeId} {z : Nat × Nat} : ∀ (vs : List Value) (o : Nat) (l : List Value) (w : World), w.heap[g]? = some (.cells ⟨l⟩ t z) → o + vs.length ≤ l.length →
    w.setCells g o vs = { w with heap := w.heap.setIfInBounds g (.cells ⟨l.take o ++ vs ++ l.drop (o + vs.length)⟩ t z) }
  | [], o, l, w, hg, _ => by
    have hlt := at_lt hg
    simp only [World.setCells, List.append_nil, List.length_nil, Nat.add_zero, List.take_append_drop]
    have : w.heap.setIfInBounds g (.cells ⟨l⟩ t z) = w.heap := by
      apply Array.ext_getElem?
      intro k
      rw [Array.getElem?_setIfInBounds]
      by_cases hk : g = k
      · subst hk
        rw [if_pos rfl, if_pos hlt, hg]
      · simp [hk]
    rw [this]
  | v :: r, o, l, w, hg, hle => by
    have hlt := at_lt hg
    simp only [List.length_cons] at hle
    have h1 : w.setCell ⟨g, o, none⟩ v = { w with heap := w.heap.setIfInBounds g (.cells ⟨l.set o v⟩ t z) } := by
      unfold World.setCell
      congr 1
      apply Array.ext_getElem?
      intro k
      rw [Array.getElem?_modify, Array.getElem?_setIfInBounds]
      by_cases hk : g = k
      · subst hk
        have hv : w.heap[g] = .cells ⟨l⟩ t z := by rw [Array.getElem?_eq_getElem hlt] at hg; exact Option.some.inj hg
        simp [hlt, hv]
      · simp [hk]
    rw [World.setCells, h1, setCells_row (t := t) (z := z) r (o + 1) (l.set o v) _ (by simp [hlt]) (by rw [List.length_set]; omega)]
    have e1 : (l.set o v).take (o + 1) = l.take o ++ [v] := by
      rw [List.take_add_one, List.take_set_of_le (Nat.le_refl _), List.getElem?_set]
      simp [show o < l.length by omega]
    have e2 : (l.set o v).drop (o + 1 + r.length) = l.drop (o + (r.length + 1)) := by
      rw [List.drop_set_of_lt (by omega)]
      congr 1
      omega
    simp only [e1, e2, List.length_cons, Array.setIfInBounds_setIfInBounds, List.append_assoc, List.singleton_append]
end Go.SX
