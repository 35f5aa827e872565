/- A small verified symbolic executor over the model's monad: frames on their way, runs over known blocks, regions that draw their order, and that each run is sound. Conditions: as each says. -/
import Derived.Orders
import Derived.Scope
import Derived.KernelRfl
import Derived.Below
import Derived.OrdersHeld
set_option linter.unusedVariables false
set_option linter.unusedSimpArgs false
/- A frame of a function on its way: what is left of its code, its slots, the world. Conditions: one goroutine. -/
namespace Go.SX
open Go.RowKit

/-! ### 1. A frame on its way -/
def fr0 (f : FuncId) : Frame := { (default : Frame) with fn := f, kind := .normal }

section
variable {P : Program} {f : FuncId} {R : Ending → World → Prop} {k : List Item} {a : Act} {w : World}

/-- From here the function ends as R says. -/
def Way (P : Program) (f : FuncId) (R : Ending → World → Prop) (todo : List Item) (a : Act) (w : World) : Prop :=
  ∀ cs, ∃ e w' fr, R e w' ∧ Comes P (lone ((fr0 f).at a todo) cs w) (lone fr cs w') e ∧ fr.fn = f ∧ fr.leaving P w' e
/-- It returns (its deferred calls are still to be made). -/
def Ret (P : Program) (f : FuncId) (R : Ending → World → Prop) (a : Act) (w : World) : Prop :=
  ∀ todo cs, ∃ e w' fr, R e w' ∧ Comes P (lone { (fr0 f).at a todo with mode := .returning } cs w) (lone fr cs w') e ∧ fr.fn = f ∧ fr.leaving P w' e
/-- It panics (its deferred calls are still to be made). -/
def Pan (P : Program) (f : FuncId) (R : Ending → World → Prop) (chain : List PanicEntry) (a : Act) (w : World) : Prop :=
  ∀ todo cs, ∃ e w' fr, R e w' ∧ Comes P (lone { (fr0 f).at a todo with mode := .panicking chain } cs w) (lone fr cs w') e ∧ fr.fn = f ∧ fr.leaving P w' e

theorem Way.mono {R' : Ending → World → Prop} (h : Way P f R k a w) (hr : ∀ e w', R e w' → R' e w') : Way P f R' k a w :=
  fun cs => let ⟨e, w', fr, r, rest⟩ := h cs; ⟨e, w', fr, hr _ _ r, rest⟩

theorem Way.calls {fn : Func} {c : Code} {args : Array Value} (hf : P.funcs[f]? = some fn) (hb : fn.body = some c)
    (h : Way P f R [.code c] { tmps := args ++ Array.replicate (fn.ntmps - args.size) undef, defers := [] } w) : Calls P f args w R := by
  intro cs
  have henter : Frame.enter P f args .normal = (fr0 f).at { tmps := args ++ Array.replicate (fn.ntmps - args.size) undef, defers := [] } [.code c] := by
    simp [Frame.enter, Frame.at, hf, hb, fr0]
  rw [henter]
  exact h cs

theorem Way.of_steps {todo todo' : List Item} {a' : Act} {w' : World} (h : ∀ cs, Steps P (lone ((fr0 f).at a todo) cs w) (lone ((fr0 f).at a' todo') cs w'))
    (hw : Way P f R todo' a' w') : Way P f R todo a w := fun cs => by
  obtain ⟨e, w1, fr, r, c, hf, hl⟩ := hw cs
  exact ⟨e, w1, fr, r, Comes.of_steps (h cs) c, hf, hl⟩

/-- What each way out of a piece of code asks. -/
def QC (P : Program) (f : FuncId) (R : Ending → World → Prop) (k : List Item) : Exit → Act → World → Prop
  | .normal, a, w => Way P f R k a w
  | .exit id, a, w => ∃ k', exitTo id k = some k' ∧ Way P f R k' a w
  | .goto l, a, w => ∃ k', gotoIn l k = some k' ∧ Way P f R k' a w
  | .ret, a, w => Ret P f R a w
  | .panic chain, a, w => Pan P f R chain a w
  | .outgrown, _, w => R .outgrown w

theorem way_of_arrives {e : Exit} {a' : Act} {w' : World} {m : Machine} {cs : List Frame} (hq : QC P f R k e a' w') (ha : Arrives P m (fr0 f) k cs e a' w') :
    ∃ e w' fr, R e w' ∧ Comes P m (lone fr cs w') e ∧ fr.fn = f ∧ fr.leaving P w' e := by
  cases e with
  | normal =>
    obtain ⟨e, w1, fr, r, c, hf, hl⟩ := hq cs
    exact ⟨e, w1, fr, r, Comes.of_steps ha c, hf, hl⟩
  | exit id =>
    obtain ⟨k', hk, hq⟩ := hq
    obtain ⟨e, w1, fr, r, c, hf, hl⟩ := hq cs
    exact ⟨e, w1, fr, r, Comes.of_steps (ha k' hk) c, hf, hl⟩
  | goto l =>
    obtain ⟨k', hk, hq⟩ := hq
    obtain ⟨e, w1, fr, r, c, hf, hl⟩ := hq cs
    exact ⟨e, w1, fr, r, Comes.of_steps (ha k' hk) c, hf, hl⟩
  | ret =>
    obtain ⟨todo, hs⟩ := ha
    obtain ⟨e, w1, fr, r, c, hf, hl⟩ := hq todo cs
    exact ⟨e, w1, fr, r, Comes.of_steps hs c, hf, hl⟩
  | panic chain =>
    obtain ⟨todo, hs⟩ := ha
    obtain ⟨e, w1, fr, r, c, hf, hl⟩ := hq todo cs
    exact ⟨e, w1, fr, r, Comes.of_steps hs c, hf, hl⟩
  | outgrown => exact ⟨.outgrown, w', fr0 f, hq, ha.resolve_left (by simp [fr0]), rfl, trivial⟩

theorem Way.code {c : Code} (h : c.wp P (QC P f R k) a w) : Way P f R (.code c :: k) a w := fun cs => by
  obtain ⟨e, a', w', hq, ha⟩ := h (fr0 f) k cs
  exact way_of_arrives hq ha

theorem Way.ops {ops : Array Oper} {l : List Nat} (h : wpOps P ops (QC P f R k) l a w) : Way P f R (.inRegion ops l :: k) a w := fun cs => by
  obtain ⟨e, a', w', hq, ha⟩ := wp_ops l a w h (fr0 f) k cs
  exact way_of_arrives hq ha

theorem wpOps_of_way {ops : Array Oper} (h : Way P f R k a w) : wpOps P ops (QC P f R k) [] a w := h

/-- Without deferred calls a function that returns has returned. -/
theorem Ret.none {fn : Func} {v : Value} (hf : P.funcs[f]? = some fn) (hd : a.defers = []) (hr : (results fn a.tmps).run P w = .ok v w) (h : R (.returned v) w) : Ret P f R a w :=
  fun todo cs => ⟨.returned v, w, _, h, Steps.refl _ _, rfl, rfl, hd, rfl, fn, hf, hr⟩
theorem Pan.none {fn : Func} {chain : List PanicEntry} (hf : P.funcs[f]? = some fn) (hd : a.defers = []) (h : R (.panicked chain) w) : Pan P f R chain a w :=
  fun todo cs => ⟨.panicked chain, w, _, h, Steps.refl _ _, rfl, rfl, hd, fn, hf⟩
theorem Way.nil (h : Ret P f R a w) : Way P f R [] a w := fun cs => by
  obtain ⟨e, w1, fr, r, c, hf, hl⟩ := h [] cs
  exact ⟨e, w1, fr, r, Comes.of_steps (.one step_end) c, hf, hl⟩
theorem Way.ret (h : Ret P f R a w) : Way P f R (.code .ret :: k) a w := fun cs => by
  obtain ⟨e, w1, fr, r, c, hf, hl⟩ := h _ cs
  exact ⟨e, w1, fr, r, Comes.of_steps (.one step_ret) c, hf, hl⟩
/-- One operation of a stretch. -/
theorem Way.op {ops : Array Oper} {i : Nat} {rest : List Nat} {o : Oper} (ho : ops[i]? = some o) (hw : Region.wanted o (yielded ops a.tmps) = true)
    (h : o.upon P a (fun a' w' => Way P f R (.inRegion ops rest :: k) a' w') (QC P f R k) ((execOp a.eval o).run P w)) : Way P f R (.inRegion ops (i :: rest) :: k) a w := fun cs => by
  have hg := stepG_op (P := P) (b := fr0 f) (k := k) (cs := cs) (w := w) (rest := rest) ho hw
  have hfin : ∀ v, ((fr0 f).at a (.inRegion ops (i :: rest) :: k)).finish v = (fr0 f).at (a.put o.dst v) (.inRegion ops rest :: k) := by
    intro v; rw [Frame.finish_at, ho]; rfl
  simp only [Oper.upon] at h
  split at h
  · rename_i v w' hr
    obtain ⟨e, w1, fr, r, c, hf, hl⟩ := h cs
    refine ⟨e, w1, fr, r, Comes.of_steps (.one (step_lone_go ?_)) c, hf, hl⟩
    rw [hg, ← hfin]; simp [stepG.apply, hr]
  · rename_i w' hr
    obtain ⟨e, w1, fr, r, c, hf, hl⟩ := h cs
    refine ⟨e, w1, fr, r, Comes.of_steps (.one (step_lone_go ?_)) c, hf, hl⟩
    rw [hg, ← hfin]; simp [stepG.apply, hr]
  · rename_i d w' hr
    obtain ⟨e, w1, fr, r, c, hf, hl⟩ := h cs
    refine ⟨e, w1, fr, r, Comes.of_steps (.one (step_lone_go ?_)) c, hf, hl⟩
    have : ({ (fr0 f).at a (.inRegion ops (i :: rest) :: k) with defers := d :: a.defers } : Frame).finish undef =
        (fr0 f).at ({ a with defers := d :: a.defers }.put o.dst undef) (.inRegion ops rest :: k) := by
      have := Frame.finish_at (fr0 f) { a with defers := d :: a.defers } ops i rest k undef
      rw [ho] at this; exact this
    rw [hg]; simp only [stepG.apply, Sem.runT_eq, hr, GStep.bare_after]
    exact congrArg (fun fr => GStep.go { frame := fr, callers := cs, status := .running, dying := none } w') this
  · rename_i g args w' hr
    obtain ⟨e, w'', fr, hR, hsteps, _, hleave⟩ := h ((fr0 f).at a (.inRegion ops (i :: rest) :: k) :: cs)
    have henter : step P (lone ((fr0 f).at a (.inRegion ops (i :: rest) :: k)) cs w) =
        .next (lone (Frame.enter P g args .normal) ((fr0 f).at a (.inRegion ops (i :: rest) :: k) :: cs) w') :=
      step_lone_go (by rw [hg]; simp [stepG.apply, hr, Frame.at])
    cases e with
    | returned v =>
      obtain ⟨e, w1, fr1, r, c, hf, hl⟩ := hR cs
      refine ⟨e, w1, fr1, r, Comes.of_steps (.head henter (hsteps.trans (.one ?_))) c, hf, hl⟩
      rw [← hfin]; exact step_leave_returned hleave
    | panicked chain =>
      obtain ⟨e, w1, fr1, r, c, hf, hl⟩ := hR (.inRegion ops (i :: rest) :: k) cs
      refine ⟨e, w1, fr1, r, Comes.of_steps (.head henter (hsteps.trans (.one ?_))) c, hf, hl⟩
      have := step_leave_panicked (c := (fr0 f).at a (.inRegion ops (i :: rest) :: k)) (cs := cs) hleave
      rw [Frame.raise_at] at this
      exact this
    | outgrown =>
      obtain ⟨a₀, w₀, hq⟩ := hR
      exact ⟨.outgrown, w₀, fr0 f, hq, Outgrown.of_steps (.one henter) hsteps, rfl, trivial⟩
  · rename_i row args w' hr
    obtain ⟨v, w'', hR, hsteps⟩ := h ((fr0 f).at a (.inRegion ops (i :: rest) :: k)) cs
    have henter : step P (lone ((fr0 f).at a (.inRegion ops (i :: rest) :: k)) cs w) =
        .next (lone (Frame.ofRow P row args .normal) ((fr0 f).at a (.inRegion ops (i :: rest) :: k) :: cs) w') :=
      step_lone_go (by rw [hg]; simp [stepG.apply, hr, Frame.at])
    obtain ⟨e, w1, fr, r, c, hf, hl⟩ := hR cs
    refine ⟨e, w1, fr, r, Comes.of_steps (.head henter ?_) c, hf, hl⟩
    rw [← hfin]; exact hsteps
  · rename_i v w' hr
    obtain ⟨e, w1, fr, r, c, hf, hl⟩ := h (.inRegion ops (i :: rest) :: k) cs
    refine ⟨e, w1, fr, r, Comes.of_steps (.one (step_lone_go ?_)) c, hf, hl⟩
    rw [hg, ← Frame.raise_at]; simp [stepG.apply, hr]
  · exact h.elim
/-- An operation that is passed over. -/
theorem Way.op_skip {ops : Array Oper} {i : Nat} {rest : List Nat} {o : Oper} (ho : ops[i]? = some o) (hw : Region.wanted o (yielded ops a.tmps) = false)
    (h : Way P f R (.inRegion ops rest :: k) (a.put o.dst undef) w) : Way P f R (.inRegion ops (i :: rest) :: k) a w :=
  Way.of_steps (fun cs => by
    have hs := step_op_skip (P := P) (b := fr0 f) (a := a) (k := k) (cs := cs) (w := w) (ops := ops) (i := i) (rest := rest) (by simp [ho, hw])
    simp only [ho, Option.bind_some] at hs
    exact .one hs) h
theorem Way.op_none {ops : Array Oper} {i : Nat} {rest : List Nat} (ho : ops[i]? = none)
    (h : Way P f R (.inRegion ops rest :: k) a w) : Way P f R (.inRegion ops (i :: rest) :: k) a w :=
  Way.of_steps (fun cs => by
    have hs := step_op_skip (P := P) (b := fr0 f) (a := a) (k := k) (cs := cs) (w := w) (ops := ops) (i := i) (rest := rest) (by simp [ho])
    simp only [ho, Option.bind_none, Act.put] at hs
    exact .one hs) h
/-- An operation that asks for more memory than there may be. -/
theorem Way.op_asks {ops : Array Oper} {i : Nat} {rest : List Nat} {o : Oper} {w₀ : World} (ho : ops[i]? = some o) (hw : Region.wanted o (yielded ops a.tmps) = true)
    (h : o.asks P a w) (hR : R .outgrown w₀) : Way P f R (.inRegion ops (i :: rest) :: k) a w := fun cs =>
  ⟨.outgrown, w₀, fr0 f, hR, asks_outgrown ho hw (by simp [fr0]) h, rfl, trivial⟩
end
end Go.SX
/- Memory operations carried out over blocks that are known: what comes out of it is what the model's own run gives. Conditions: the blocks that are named are those that are met. -/
namespace Go.SX
open Go.RowKit

/-- A block that is known: its number, what it holds, and whether it may be written. -/
structure Blk where
  b : Nat
  o : Obj
  rw : Bool
/-- What is owed: two numbers are one; some blocks are as they were. -/
inductive Ob where
  | n (b : Nat)
  | h (l : List (Option Blk))
/-- What is known during an operation: blocks by their places; numbers for new blocks, answers to open questions; the places that will be met; the numbers that were met, and those that were meant. -/
structure Sh where
  hp : List (Option Blk)
  f : Nat → Nat
  g : Nat → Nat
  hs : List Nat
  el : List Ob
  er : List Ob

def nth : List (Option Blk) → Nat → Option Blk
  | [], _ => none
  | x :: _, 0 => x
  | _ :: r, n + 1 => nth r n
def setN : List (Option Blk) → Nat → Obj → List (Option Blk)
  | [], _, _ => []
  | x :: r, 0, o => (match x with | some b => some ⟨b.b, o, b.rw⟩ | none => none) :: r
  | x :: r, n + 1, o => x :: setN r n o
def snoc : List (Option Blk) → Blk → List (Option Blk)
  | [], b => [some b]
  | x :: r, b => x :: snoc r b
def tl (f : Nat → Nat) : Nat → Nat := fun n => f (n + 1)
def cons (b : Nat) (f : Nat → Nat) : Nat → Nat | 0 => b | n + 1 => f n
theorem tl_cons (b : Nat) (f : Nat → Nat) : tl (cons b f) = f := rfl

inductive Out (α : Type) where
  | ok (a : α) (s : Sh)
  | panic (v : Value) (s : Sh)
  | bad

def isCell : Value → Bool
  | .agg _ => false
  | .tuple _ => false
  | _ => true
def isCells : Obj → Bool
  | .cells .. => true
  | _ => false

def sev (P : Program) {α : Type} : Sem α → Sh → Out α
  | .pure a, s => .ok a s
  | .load _ a k, s =>
    match s.hs with
    | [] => .bad
    | j :: hs =>
      match nth s.hp j with
      | some ⟨b, .cells c _ _, _⟩ =>
        match a.spot with
        | some _ => .bad
        | none =>
          match c[a.off]? with
          | some v => sev P (k v) { s with hs := hs, el := .n a.block :: s.el, er := .n b :: s.er }
          | none => .bad
      | _ => .bad
  | .store _ a v k, s =>
    match s.hs with
    | [] => .bad
    | j :: hs =>
      match nth s.hp j with
      | some ⟨b, .cells c e (lo, hi), true⟩ =>
        match a.spot with
        | some _ => .bad
        | none =>
          match isCell v with
          | false => .bad
          | true =>
            match c[a.off]? with
            | none => .bad
            | some _ =>
              match decide (lo ≤ a.off) && decide (a.off < hi) with
              | true => .bad
              | false => sev P k { s with hp := setN s.hp j (.cells (c.setIfInBounds a.off v) e (lo, hi)), hs := hs, el := .n a.block :: s.el, er := .n b :: s.er }
      | _ => .bad
  | .new o k, s => sev P (k (s.f 0)) { s with hp := snoc s.hp ⟨s.f 0, o, true⟩, f := tl s.f }
  | .shape r k, s =>
    match s.hs with
    | [] => .bad
    | j :: hs =>
      match nth s.hp j with
      | some ⟨b, .cells c e _, _⟩ => sev P (k (some (e, c.size))) { s with hs := hs, el := .n r :: s.el, er := .n b :: s.er }
      | _ => .bad
  | .freeze _ _ _, _ => .bad
  | .frozen a k, s =>
    match s.hs with
    | [] => .bad
    | j :: hs =>
      match nth s.hp j with
      | some ⟨b, .cells _ _ (lo, hi), _⟩ => sev P (k (decide (lo ≤ a.off) && decide (a.off < hi))) { s with hs := hs, el := .n a.block :: s.el, er := .n b :: s.er }
      | _ => .bad
  | .getObj r k, s =>
    match s.hs with
    | [] => .bad
    | j :: hs =>
      match nth s.hp j with
      | some ⟨b, o, _⟩ =>
        match isCells o with
        | true => .bad
        | false => sev P (k o) { s with hs := hs, el := .n r :: s.el, er := .n b :: s.er }
      | none => .bad
  | .setObj r o k, s =>
    match s.hs with
    | [] => .bad
    | j :: hs =>
      match nth s.hp j with
      | some ⟨b, o', true⟩ =>
        match isCells o' with
        | true => .bad
        | false => sev P k { s with hp := setN s.hp j o, hs := hs, el := .n r :: s.el, er := .n b :: s.er }
      | _ => .bad
  | .choose q k, s =>
    match q.forced with
    | true => sev P (k 0) s
    | false => sev P (k (q.cut (s.g 0))) { s with g := tl s.g }
  | .sys _ _, _ => .bad
  | .program k, s => sev P (k P) s
  | .mark _ k, s => sev P k s
  | .halt (.panic v), s => .panic v s
  | .halt _, _ => .bad

/-! ### What the known blocks say of the world -/
structure Tr (hp : List (Option Blk)) (w : World) : Prop where
  blk : ∀ j b, nth hp j = some b → w.heap[b.b]? = some b.o
  ne : ∀ i j x y, nth hp i = some x → nth hp j = some y → i ≠ j → x.b ≠ y.b
/-- Nothing but the known blocks has changed. -/
structure Fr (hp : List (Option Blk)) (w w' : World) : Prop where
  os : w'.os = w.os
  tape : w'.tape = w.tape
  output : w'.output = w.output
  size : w.heap.size ≤ w'.heap.size
  block : ∀ k, k < w.heap.size → (∀ j b, nth hp j = some b → b.rw = true → b.b ≠ k) → w'.heap[k]? = w.heap[k]?
/-- Each known block was known before, or is new. -/
def Kn (hp hp' : List (Option Blk)) (n : Nat) : Prop := ∀ j b', nth hp' j = some b' → (∃ b, nth hp j = some b ∧ b.b = b'.b ∧ b.rw = b'.rw) ∨ n ≤ b'.b
/-- Each block that was known is known. -/
def Kp (hp hp' : List (Option Blk)) : Prop := ∀ j b, nth hp j = some b → ∃ b', nth hp' j = some b' ∧ b'.b = b.b ∧ b'.rw = b.rw

theorem Fr.refl (hp : List (Option Blk)) (w : World) : Fr hp w w := ⟨rfl, rfl, rfl, Nat.le_refl _, fun _ _ _ => rfl⟩
theorem Kn.refl (hp : List (Option Blk)) (n : Nat) : Kn hp hp n := fun _ b' h => .inl ⟨b', h, rfl, rfl⟩
theorem Kp.refl (hp : List (Option Blk)) : Kp hp hp := fun _ b h => ⟨b, h, rfl, rfl⟩
theorem Kn.trans {a b c : List (Option Blk)} {n m : Nat} (h : Kn a b n) (k : Kn b c m) (hm : n ≤ m) : Kn a c n := fun j x hx => by
  rcases k j x hx with ⟨y, hy, e, q⟩ | hn
  · rcases h j y hy with ⟨z, hz, e', q'⟩ | hn
    · exact .inl ⟨z, hz, e'.trans e, q'.trans q⟩
    · exact .inr (e ▸ hn)
  · exact .inr (Nat.le_trans hm hn)
theorem Kp.trans {a b c : List (Option Blk)} (h : Kp a b) (k : Kp b c) : Kp a c := fun j x hx => by
  obtain ⟨y, hy, e, q⟩ := h j x hx
  obtain ⟨z, hz, e', q'⟩ := k j y hy
  exact ⟨z, hz, e'.trans e, q'.trans q⟩
theorem Fr.trans {a b : List (Option Blk)} {w w1 w2 : World} (h : Fr a w w1) (k : Fr b w1 w2) (hk : Kn a b w.heap.size) : Fr a w w2 :=
  ⟨k.os.trans h.os, k.tape.trans h.tape, k.output.trans h.output, Nat.le_trans h.size k.size, fun i hi hn => by
    rw [k.block i (Nat.lt_of_lt_of_le hi h.size) ?_, h.block i hi hn]
    intro j x hx hrw e
    rcases hk j x hx with ⟨y, hy, e', q⟩ | hle
    · exact hn j y hy (q.trans hrw) (e'.trans e)
    · omega⟩

theorem nth_setN {hp : List (Option Blk)} {o : Obj} : ∀ {j i : Nat} {x : Blk}, nth hp j = some x → nth (setN hp j o) i = if i = j then some ⟨x.b, o, x.rw⟩ else nth hp i := by
  induction hp with
  | nil => intro j i x h; cases j <;> cases h
  | cons y r ih =>
    intro j i x h
    cases j with
    | zero =>
      simp only [nth] at h
      subst h
      cases i <;> simp [setN, nth]
    | succ j =>
      simp only [nth] at h
      cases i with
      | zero => simp [setN, nth]
      | succ i => simp only [setN, nth, ih h, Nat.add_right_cancel_iff]
theorem nth_snoc {hp : List (Option Blk)} {b : Blk} : ∀ {i : Nat} {x : Blk}, nth (snoc hp b) i = some x → nth hp i = some x ∨ (x = b ∧ i = hp.length) := by
  induction hp with
  | nil =>
    intro i x h
    cases i with
    | zero => simp only [snoc, nth, Option.some.injEq] at h; exact .inr ⟨h.symm, rfl⟩
    | succ i => cases i <;> cases h
  | cons y r ih =>
    intro i x h
    cases i with
    | zero => exact .inl h
    | succ i =>
      rcases ih h with h | ⟨h, e⟩
      · exact .inl h
      · exact .inr ⟨h, by simp [e]⟩
theorem nth_snoc_old {hp : List (Option Blk)} {b : Blk} : ∀ {i : Nat} {x : Blk}, nth hp i = some x → nth (snoc hp b) i = some x := by
  induction hp with
  | nil => intro i x h; cases i <;> cases h
  | cons y r ih =>
    intro i x h
    cases i with
    | zero => exact h
    | succ i => exact ih h
theorem nth_lt {hp : List (Option Blk)} : ∀ {i : Nat} {x : Blk}, nth hp i = some x → i < hp.length := by
  induction hp with
  | nil => intro i x h; cases i <;> cases h
  | cons y r ih =>
    intro i x h
    cases i with
    | zero => simp
    | succ i => simpa using ih h

theorem Tr.set {hp : List (Option Blk)} {w : World} {j : Nat} {x : Blk} (h : Tr hp w) (hj : nth hp j = some x) {o : Obj} {w1 : World}
    (h1 : w1.heap[x.b]? = some o) (h2 : ∀ k, k ≠ x.b → w1.heap[k]? = w.heap[k]?) : Tr (setN hp j o) w1 := by
  refine ⟨fun i b hb => ?_, fun i i' y z hy hz hne => ?_⟩
  · rw [nth_setN hj] at hb
    split at hb
    · cases hb; exact h1
    · rename_i hne
      rw [h2 _ (h.ne i j b x hb hj hne)]
      exact h.blk i b hb
  · rw [nth_setN hj] at hy hz
    split at hy <;> split at hz
    · rename_i e e'; exact absurd (e.trans e'.symm) hne
    · rename_i e e'; cases hy; exact h.ne j i' x z hj hz (fun q => e' q.symm)
    · rename_i e e'; cases hz; exact h.ne i j y x hy hj e
    · exact h.ne i i' y z hy hz hne
theorem Kn.set {hp : List (Option Blk)} {j n : Nat} {x : Blk} (hj : nth hp j = some x) (o : Obj) : Kn hp (setN hp j o) n := fun i b hb => by
  rw [nth_setN hj] at hb
  split at hb
  · rename_i e; subst e; cases hb; exact .inl ⟨x, hj, rfl, rfl⟩
  · exact .inl ⟨b, hb, rfl, rfl⟩
theorem Kp.set {hp : List (Option Blk)} {j : Nat} {x : Blk} (hj : nth hp j = some x) (o : Obj) : Kp hp (setN hp j o) := fun i b hb => by
  rw [nth_setN hj]
  split
  · rename_i e; subst e; rw [hj] at hb; cases hb; exact ⟨_, rfl, rfl, rfl⟩
  · exact ⟨b, hb, rfl, rfl⟩
theorem Tr.snoc {hp : List (Option Blk)} {w : World} (h : Tr hp w) (o : Obj) : Tr (snoc hp ⟨w.heap.size, o, true⟩) { w with heap := w.heap.push o } := by
  have hlt : ∀ j b, nth hp j = some b → b.b < w.heap.size := fun j b hb => by
    have := h.blk j b hb
    exact (Array.getElem?_eq_some_iff.1 this).1
  refine ⟨fun i b hb => ?_, fun i i' y z hy hz hne => ?_⟩
  · rcases nth_snoc hb with hb | ⟨rfl, _⟩
    · have := hlt i b hb
      show (w.heap.push o)[b.b]? = _
      rw [Array.getElem?_push, if_neg (by omega)]
      exact h.blk i b hb
    · show (w.heap.push o)[w.heap.size]? = _
      simp
  · rcases nth_snoc hy with hy | ⟨rfl, e⟩ <;> rcases nth_snoc hz with hz | ⟨rfl, e'⟩
    · exact h.ne i i' y z hy hz hne
    · have := hlt i y hy; show y.b ≠ w.heap.size; omega
    · have := hlt i' z hz; show w.heap.size ≠ z.b; omega
    · omega
theorem Kn.snoc (hp : List (Option Blk)) (b : Blk) : Kn hp (snoc hp b) b.b := fun i x hx => by
  rcases nth_snoc hx with hx | ⟨rfl, _⟩
  · exact .inl ⟨x, hx, rfl, rfl⟩
  · exact .inr (Nat.le_refl _)
theorem Kp.snoc (hp : List (Option Blk)) (b : Blk) : Kp hp (snoc hp b) := fun _ x hx => ⟨x, nth_snoc_old hx, rfl, rfl⟩
theorem Fr.push (hp : List (Option Blk)) (w : World) (o : Obj) : Fr hp w { w with heap := w.heap.push o } :=
  ⟨rfl, rfl, rfl, by simp, fun k hk _ => by
    show (w.heap.push o)[k]? = _
    rw [Array.getElem?_push, if_neg (by omega)]⟩

/-- The lists of numbers have grown alike. -/
def Gr (s s1 : Sh) : Prop := ∃ p q : List Ob, s1.el = p ++ s.el ∧ s1.er = q ++ s.er ∧ p.length = q.length
theorem Gr.refl (s : Sh) : Gr s s := ⟨[], [], rfl, rfl, rfl⟩
theorem Gr.eq {s s1 : Sh} (h : Gr s s1) (e : s1.el = s1.er) : s.el = s.er := by
  obtain ⟨p, q, h1, h2, h3⟩ := h
  rw [h1, h2] at e
  exact (List.append_inj e h3).2
theorem Gr.step {s s0 s1 : Sh} {x y : Ob} (h : Gr s0 s1) (e1 : s0.el = x :: s.el) (e2 : s0.er = y :: s.er) : Gr s s1 := by
  obtain ⟨p, q, h1, h2, h3⟩ := h
  exact ⟨p ++ [x], q ++ [y], by rw [h1, e1]; simp, by rw [h2, e2]; simp, by simp [h3]⟩
theorem Gr.trans {a b c : Sh} (h : Gr a b) (k : Gr b c) : Gr a c := by
  obtain ⟨p, q, h1, h2, h3⟩ := h
  obtain ⟨p', q', h1', h2', h3'⟩ := k
  exact ⟨p' ++ p, q' ++ q, by rw [h1', h1]; simp, by rw [h2', h2]; simp, by simp [h3, h3']⟩

/-- The same outcome over other numbers and answers. -/
def Out.with {α : Type} (f g : Nat → Nat) : Out α → Out α
  | .ok a s => .ok a { s with f := f, g := g }
  | .panic v s => .panic v { s with f := f, g := g }
  | .bad => .bad
/-- What an outcome says of the model's run. -/
def Says (P : Program) {α : Type} (m : Sem α) (s : Sh) (w w1 : World) : Out α → Prop
  | .ok a s1 => Gr s s1 ∧ (s1.el = s1.er → m.run P w = .ok a w1 ∧ Tr s1.hp w1 ∧ Fr s.hp w w1 ∧ Kn s.hp s1.hp w.heap.size ∧ Kp s.hp s1.hp)
  | .panic v s1 => Gr s s1 ∧ (s1.el = s1.er → m.run P w = .halt (.panic v) w1 ∧ Tr s1.hp w1 ∧ Fr s.hp w w1 ∧ Kn s.hp s1.hp w.heap.size ∧ Kp s.hp s1.hp)
  | .bad => True

theorem Says.of {P : Program} {α : Type} {m m' : Sem α} {s s0 : Sh} {w w0 w1 : World} {r : Out α} (h : Says P m' s0 w0 w1 r)
    (hg : ∀ s1, Gr s0 s1 → Gr s s1) (hrun : ∀ s1, Gr s0 s1 → s1.el = s1.er → m.run P w = m'.run P w0 ∧ Fr s.hp w w0 ∧ Kn s.hp s0.hp w.heap.size ∧ Kp s.hp s0.hp) : Says P m s w w1 r := by
  cases r with
  | ok a s1 =>
    obtain ⟨h3, h4⟩ := h
    refine ⟨hg _ h3, fun e => ?_⟩
    obtain ⟨a1, a2, a3, a4, a5⟩ := h4 e
    obtain ⟨b1, b2, b3, b4⟩ := hrun _ h3 e
    exact ⟨b1.trans a1, a2, b2.trans a3 b3, b3.trans a4 b2.size, b4.trans a5⟩
  | panic v s1 =>
    obtain ⟨h3, h4⟩ := h
    refine ⟨hg _ h3, fun e => ?_⟩
    obtain ⟨a1, a2, a3, a4, a5⟩ := h4 e
    obtain ⟨b1, b2, b3, b4⟩ := hrun _ h3 e
    exact ⟨b1.trans a1, a2, b2.trans a3 b3, b3.trans a4 b2.size, b4.trans a5⟩
  | bad => trivial

end Go.SX
/- What comes out of an operation that is carried out over known blocks is what the model's own run gives. Conditions: none of its own. -/
namespace Go.SX
open Go.RowKit

theorem cell_of_blk {w : World} {a : Addr} {b : Nat} {c : Array Value} {e : TypeId} {z : Nat × Nat} (hb : w.heap[b]? = some (.cells c e z)) (ha : a.block = b) (hs : a.spot = none) : w.cell? a = c[a.off]? := by
  subst ha
  simp [World.cell?, hb, hs]
theorem frozen_of_blk {w : World} {a : Addr} {b : Nat} {c : Array Value} {e : TypeId} {lo hi : Nat} (hb : w.heap[b]? = some (.cells c e (lo, hi))) (ha : a.block = b) : w.frozen? a = (decide (lo ≤ a.off) && decide (a.off < hi)) := by
  subst ha
  simp [World.frozen?, hb]
theorem isCell_run {P : Program} {α : Type} {md : Mode} {a : Addr} {v x : Value} {k : Sem α} {w : World} (hv : isCell v = true) (hc : w.cell? a = some x) (hf : w.frozen? a = false) :
    (Sem.store md a v k).run P w = k.run P (w.setCell a v) := by
  cases v <;> simp_all [isCell, Sem.run]
theorem isCells_false {o : Obj} (h : isCells o = false) : ∀ c e z, o ≠ .cells c e z := by
  intro c e z h'; subst h'; cases h

/-- The numbers that are given out lie above a bound, if those that are handed on do. -/
def FB (F : (Nat → Nat) → Nat → Nat) (n : Nat) : Prop := ∀ f m, m ≤ n → (∀ k, m ≤ f k) → ∀ k, m ≤ F f k
theorem FB.id (n : Nat) : FB _root_.id n := fun _ _ _ h => h
theorem FB.cons {F : (Nat → Nat) → Nat → Nat} {h : Array Obj} {o : Obj} (hB : FB F (h.push o).size) : FB (fun f => cons h.size (F f)) h.size := fun f m hm hf k => by
  cases k with
  | zero => exact hm
  | succ k => exact hB f m (by simp; omega) hf k
theorem sev_sound (P : Program) {α : Type} (m : Sem α) : ∀ (s : Sh) (w : World), Tr s.hp w →
    ∃ (F G : (Nat → Nat) → Nat → Nat) (w1 : World) (r : Out α), FB F w.heap.size ∧ (∀ f g, sev P m { s with f := F f, g := G g } = r.with f g) ∧ Says P m s w w1 r := by
  induction m with
  | pure a =>
    intro s w ht
    exact ⟨id, id, w, .ok a s, FB.id _, fun f g => rfl, Gr.refl _, fun _ => ⟨rfl, ht, Fr.refl _ _, Kn.refl _ _, Kp.refl _⟩⟩
  | load md a k ih =>
    intro s w ht
    cases hh : s.hs with
    | nil => exact ⟨id, id, w, .bad, FB.id _, fun f g => by simp only [sev, hh]; rfl, trivial⟩
    | cons j hs =>
      cases hj : nth s.hp j with
      | none => exact ⟨id, id, w, .bad, FB.id _, fun f g => by simp only [sev, hh, hj]; rfl, trivial⟩
      | some x =>
        obtain ⟨b, o, rw_⟩ := x
        cases o with
        | cells c e z =>
          cases hs' : a.spot with
          | some _ => exact ⟨id, id, w, .bad, FB.id _, fun f g => by simp only [sev, hh, hj, hs']; rfl, trivial⟩
          | none =>
            cases hc : c[a.off]? with
            | none => exact ⟨id, id, w, .bad, FB.id _, fun f g => by simp only [sev, hh, hj, hs', hc]; rfl, trivial⟩
            | some v =>
              obtain ⟨F, G, w1, r, hB, hI, h⟩ := ih v { s with hs := hs, el := .n a.block :: s.el, er := .n b :: s.er } w ht
              refine ⟨F, G, w1, r, hB, fun f g => by simp only [sev, hh, hj, hs', hc]; exact hI f g, ?_⟩
              refine h.of (fun s1 hg => hg.step rfl rfl) (fun s1 hg he => ?_)
              have he' := hg.eq he
              simp only [List.cons.injEq, Ob.n.injEq] at he'
              have hcell := (cell_of_blk (a := a) (ht.blk j _ hj) he'.1 hs').trans hc
              exact ⟨by simp [Sem.run, hcell], Fr.refl _ _, Kn.refl _ _, Kp.refl _⟩
        | _ => exact ⟨id, id, w, .bad, FB.id _, fun f g => by simp only [sev, hh, hj]; rfl, trivial⟩
  | store md a v k ih =>
    intro s w ht
    cases hh : s.hs with
    | nil => exact ⟨id, id, w, .bad, FB.id _, fun f g => by simp only [sev, hh]; rfl, trivial⟩
    | cons j hs =>
      cases hj : nth s.hp j with
      | none => exact ⟨id, id, w, .bad, FB.id _, fun f g => by simp only [sev, hh, hj]; rfl, trivial⟩
      | some x =>
        obtain ⟨b, o, rw_⟩ := x
        cases o with
        | cells c e z =>
          obtain ⟨lo, hi⟩ := z
          cases rw_ with
          | false => exact ⟨id, id, w, .bad, FB.id _, fun f g => by simp only [sev, hh, hj]; rfl, trivial⟩
          | true =>
          cases hs' : a.spot with
          | some _ => exact ⟨id, id, w, .bad, FB.id _, fun f g => by simp only [sev, hh, hj, hs']; rfl, trivial⟩
          | none =>
            cases hv : isCell v with
            | false => exact ⟨id, id, w, .bad, FB.id _, fun f g => by simp only [sev, hh, hj, hs', hv]; rfl, trivial⟩
            | true =>
              cases hc : c[a.off]? with
              | none => exact ⟨id, id, w, .bad, FB.id _, fun f g => by simp only [sev, hh, hj, hs', hv, hc]; rfl, trivial⟩
              | some u =>
                cases hz : (decide (lo ≤ a.off) && decide (a.off < hi)) with
                | true => exact ⟨id, id, w, .bad, FB.id _, fun f g => by simp only [sev, hh, hj, hs', hv, hc, hz]; rfl, trivial⟩
                | false =>
                  have hb := ht.blk j _ hj
                  have hblt : b < w.heap.size := (Array.getElem?_eq_some_iff.1 hb).1
                  have hset : (w.setCell ⟨b, a.off, none⟩ v).heap[b]? = some (.cells (c.setIfInBounds a.off v) e (lo, hi)) := by
                    simp only at hb
                    simp [World.setCell, Array.getElem?_modify, hb]
                  have hoth : ∀ i, i ≠ b → (w.setCell ⟨b, a.off, none⟩ v).heap[i]? = w.heap[i]? := fun i hi => Below.heap_setCell w _ v i hi
                  obtain ⟨F, G, w1, r, hB, hI, h⟩ := ih { s with hp := setN s.hp j (.cells (c.setIfInBounds a.off v) e (lo, hi)), hs := hs, el := .n a.block :: s.el, er := .n b :: s.er } (w.setCell ⟨b, a.off, none⟩ v)
                    (Tr.set ht hj hset hoth)
                  refine ⟨F, G, w1, r, by simpa [World.setCell] using hB, fun f g => by simp only [sev, hh, hj, hs', hv, hc, hz]; exact hI f g, ?_⟩
                  refine h.of (fun s1 hg => hg.step rfl rfl) (fun s1 hg he => ?_)
                  have he' := hg.eq he
                  simp only [List.cons.injEq, Ob.n.injEq] at he'
                  have ha : a = ⟨b, a.off, none⟩ := by
                    obtain ⟨ab, ao, as_⟩ := a
                    simp only at he' hs' ⊢
                    rw [he'.1, hs']
                  have hcell := (cell_of_blk (a := a) hb he'.1 hs').trans hc
                  have hfz := (frozen_of_blk (a := a) hb he'.1).trans hz
                  refine ⟨?_, ⟨rfl, rfl, rfl, by simp [World.setCell], fun i _ hn => hoth i (fun e => hn j _ hj rfl e.symm)⟩, Kn.set hj _, Kp.set hj _⟩
                  rw [isCell_run hv hcell hfz, ← ha]
        | _ => exact ⟨id, id, w, .bad, FB.id _, fun f g => by simp only [sev, hh, hj]; rfl, trivial⟩
  | new o k ih =>
    intro s w ht
    obtain ⟨F, G, w1, r, hB, hI, h⟩ := ih w.heap.size { s with hp := snoc s.hp ⟨w.heap.size, o, true⟩ } { w with heap := w.heap.push o } (Tr.snoc ht o)
    refine ⟨fun f => cons w.heap.size (F f), G, w1, r, FB.cons hB, fun f g => by simp only [sev, cons, tl_cons]; exact hI f g, ?_⟩
    refine h.of (fun s1 hg => hg) (fun s1 hg he => ?_)
    exact ⟨rfl, Fr.push _ _ _, Kn.snoc _ _, Kp.snoc _ _⟩
  | shape rr k ih =>
    intro s w ht
    cases hh : s.hs with
    | nil => exact ⟨id, id, w, .bad, FB.id _, fun f g => by simp only [sev, hh]; rfl, trivial⟩
    | cons j hs =>
      cases hj : nth s.hp j with
      | none => exact ⟨id, id, w, .bad, FB.id _, fun f g => by simp only [sev, hh, hj]; rfl, trivial⟩
      | some x =>
        obtain ⟨b, o, rw_⟩ := x
        cases o with
        | cells c e z =>
          obtain ⟨F, G, w1, r, hB, hI, h⟩ := ih (some (e, c.size)) { s with hs := hs, el := .n rr :: s.el, er := .n b :: s.er } w ht
          refine ⟨F, G, w1, r, hB, fun f g => by simp only [sev, hh, hj]; exact hI f g, ?_⟩
          refine h.of (fun s1 hg => hg.step rfl rfl) (fun s1 hg he => ?_)
          have he' := hg.eq he
          simp only [List.cons.injEq, Ob.n.injEq] at he'
          have hb := ht.blk j _ hj
          refine ⟨?_, Fr.refl _ _, Kn.refl _ _, Kp.refl _⟩
          simp only at hb
          simp [Sem.run, World.shape?, he'.1, hb]
        | _ => exact ⟨id, id, w, .bad, FB.id _, fun f g => by simp only [sev, hh, hj]; rfl, trivial⟩
  | freeze a n k ih => intro s w ht; exact ⟨id, id, w, .bad, FB.id _, fun f g => by simp only [sev]; rfl, trivial⟩
  | frozen a k ih =>
    intro s w ht
    cases hh : s.hs with
    | nil => exact ⟨id, id, w, .bad, FB.id _, fun f g => by simp only [sev, hh]; rfl, trivial⟩
    | cons j hs =>
      cases hj : nth s.hp j with
      | none => exact ⟨id, id, w, .bad, FB.id _, fun f g => by simp only [sev, hh, hj]; rfl, trivial⟩
      | some x =>
        obtain ⟨b, o, rw_⟩ := x
        cases o with
        | cells c e z =>
          obtain ⟨lo, hi⟩ := z
          obtain ⟨F, G, w1, r, hB, hI, h⟩ := ih (decide (lo ≤ a.off) && decide (a.off < hi)) { s with hs := hs, el := .n a.block :: s.el, er := .n b :: s.er } w ht
          refine ⟨F, G, w1, r, hB, fun f g => by simp only [sev, hh, hj]; exact hI f g, ?_⟩
          refine h.of (fun s1 hg => hg.step rfl rfl) (fun s1 hg he => ?_)
          have he' := hg.eq he
          simp only [List.cons.injEq, Ob.n.injEq] at he'
          exact ⟨by simp [Sem.run, frozen_of_blk (a := a) (ht.blk j _ hj) he'.1], Fr.refl _ _, Kn.refl _ _, Kp.refl _⟩
        | _ => exact ⟨id, id, w, .bad, FB.id _, fun f g => by simp only [sev, hh, hj]; rfl, trivial⟩
  | getObj rr k ih =>
    intro s w ht
    cases hh : s.hs with
    | nil => exact ⟨id, id, w, .bad, FB.id _, fun f g => by simp only [sev, hh]; rfl, trivial⟩
    | cons j hs =>
      cases hj : nth s.hp j with
      | none => exact ⟨id, id, w, .bad, FB.id _, fun f g => by simp only [sev, hh, hj]; rfl, trivial⟩
      | some x =>
        obtain ⟨b, o, rw_⟩ := x
        cases ho : isCells o with
        | true => exact ⟨id, id, w, .bad, FB.id _, fun f g => by simp only [sev, hh, hj, ho]; rfl, trivial⟩
        | false =>
          obtain ⟨F, G, w1, r, hB, hI, h⟩ := ih o { s with hs := hs, el := .n rr :: s.el, er := .n b :: s.er } w ht
          refine ⟨F, G, w1, r, hB, fun f g => by simp only [sev, hh, hj, ho]; exact hI f g, ?_⟩
          refine h.of (fun s1 hg => hg.step rfl rfl) (fun s1 hg he => ?_)
          have he' := hg.eq he
          simp only [List.cons.injEq, Ob.n.injEq] at he'
          have hb := ht.blk j _ hj
          refine ⟨?_, Fr.refl _ _, Kn.refl _ _, Kp.refl _⟩
          simp only at hb
          simp only [Sem.run, he'.1, hb]
          cases o <;> first | rfl | cases ho
  | setObj rr o k ih =>
    intro s w ht
    cases hh : s.hs with
    | nil => exact ⟨id, id, w, .bad, FB.id _, fun f g => by simp only [sev, hh]; rfl, trivial⟩
    | cons j hs =>
      cases hj : nth s.hp j with
      | none => exact ⟨id, id, w, .bad, FB.id _, fun f g => by simp only [sev, hh, hj]; rfl, trivial⟩
      | some x =>
        obtain ⟨b, o', rw_⟩ := x
        cases rw_ with
        | false => exact ⟨id, id, w, .bad, FB.id _, fun f g => by simp only [sev, hh, hj]; rfl, trivial⟩
        | true =>
        cases ho : isCells o' with
        | true => exact ⟨id, id, w, .bad, FB.id _, fun f g => by simp only [sev, hh, hj, ho]; rfl, trivial⟩
        | false =>
          have hb := ht.blk j _ hj
          have hblt : b < w.heap.size := (Array.getElem?_eq_some_iff.1 hb).1
          obtain ⟨F, G, w1, r, hB, hI, h⟩ := ih { s with hp := setN s.hp j o, hs := hs, el := .n rr :: s.el, er := .n b :: s.er } { w with heap := w.heap.setIfInBounds b o }
            (Tr.set ht hj (by simp [Array.getElem?_setIfInBounds, hblt]) (fun i hi => by
              show (w.heap.setIfInBounds b o)[i]? = w.heap[i]?
              exact Array.getElem?_setIfInBounds_ne (Ne.symm hi)))
          refine ⟨F, G, w1, r, by simpa using hB, fun f g => by simp only [sev, hh, hj, ho]; exact hI f g, ?_⟩
          refine h.of (fun s1 hg => hg.step rfl rfl) (fun s1 hg he => ?_)
          have he' := hg.eq he
          simp only [List.cons.injEq, Ob.n.injEq] at he'
          refine ⟨?_, ⟨rfl, rfl, rfl, by simp, fun i _ hn => ?_⟩, Kn.set hj _, Kp.set hj _⟩
          · simp only at hb
            simp only [Sem.run, he'.1, hb]
            cases o' <;> first | rfl | cases ho
          · show (w.heap.setIfInBounds b o)[i]? = w.heap[i]?
            exact Array.getElem?_setIfInBounds_ne (hn j _ hj rfl)
  | choose q k ih =>
    intro s w ht
    cases hq : q.forced with
    | true =>
      obtain ⟨F, G, w1, r, hB, hI, h⟩ := ih 0 s w ht
      refine ⟨F, G, w1, r, hB, fun f g => by simp only [sev, hq]; exact hI f g, ?_⟩
      exact h.of (fun s1 hg => hg) (fun s1 hg he => ⟨by simp [Sem.run, hq], Fr.refl _ _, Kn.refl _ _, Kp.refl _⟩)
    | false =>
      obtain ⟨F, G, w1, r, hB, hI, h⟩ := ih (q.cut (w.tape w.drawn q)) s { w with drawn := w.drawn + 1 } ⟨ht.blk, ht.ne⟩
      refine ⟨F, fun g => cons (w.tape w.drawn q) (G g), w1, r, hB, fun f g => by simp only [sev, hq, cons, tl_cons]; exact hI f g, ?_⟩
      exact h.of (fun s1 hg => hg) (fun s1 hg he => ⟨by simp [Sem.run, hq], ⟨rfl, rfl, rfl, Nat.le_refl _, fun _ _ _ => rfl⟩, Kn.refl _ _, Kp.refl _⟩)
  | sys c k ih => intro s w ht; exact ⟨id, id, w, .bad, FB.id _, fun f g => by simp only [sev]; rfl, trivial⟩
  | program k ih =>
    intro s w ht
    obtain ⟨F, G, w1, r, hB, hI, h⟩ := ih P s w ht
    refine ⟨F, G, w1, r, hB, fun f g => by simp only [sev]; exact hI f g, ?_⟩
    exact h.of (fun s1 hg => hg) (fun s1 hg he => ⟨rfl, Fr.refl _ _, Kn.refl _ _, Kp.refl _⟩)
  | mark md k ih =>
    intro s w ht
    obtain ⟨F, G, w1, r, hB, hI, h⟩ := ih s w ht
    refine ⟨F, G, w1, r, hB, fun f g => by simp only [sev]; exact hI f g, ?_⟩
    exact h.of (fun s1 hg => hg) (fun s1 hg he => ⟨rfl, Fr.refl _ _, Kn.refl _ _, Kp.refl _⟩)
  | halt h =>
    intro s w ht
    cases h with
    | panic v => exact ⟨id, id, w, .panic v s, FB.id _, fun f g => rfl, Gr.refl _, fun _ => ⟨rfl, ht, Fr.refl _ _, Kn.refl _ _, Kp.refl _⟩⟩
    | _ => exact ⟨id, id, w, .bad, FB.id _, fun f g => by simp only [sev]; rfl, trivial⟩

/-- The lists of numbers that were met and meant grow alike, whatever the world. -/
def OutGr {α : Type} (s : Sh) : Out α → Prop
  | .ok _ s1 => Gr s s1
  | .panic _ s1 => Gr s s1
  | .bad => True
theorem OutGr.step {α : Type} {s s0 : Sh} {x y : Ob} {r : Out α} (h : OutGr s0 r) (e1 : s0.el = x :: s.el) (e2 : s0.er = y :: s.er) : OutGr s r := by
  cases r with
  | ok a s1 => exact Gr.step h e1 e2
  | panic v s1 => exact Gr.step h e1 e2
  | bad => trivial
theorem OutGr.same {α : Type} {s s0 : Sh} {r : Out α} (h : OutGr s0 r) (e1 : s0.el = s.el) (e2 : s0.er = s.er) : OutGr s r := by
  cases r with
  | ok a s1 => obtain ⟨p, q, h1, h2, h3⟩ := h; exact ⟨p, q, by rw [h1, e1], by rw [h2, e2], h3⟩
  | panic v s1 => obtain ⟨p, q, h1, h2, h3⟩ := h; exact ⟨p, q, by rw [h1, e1], by rw [h2, e2], h3⟩
  | bad => trivial
theorem sev_gr (P : Program) {α : Type} (m : Sem α) : ∀ s : Sh, OutGr s (sev P m s) := by
  induction m with
  | pure a => intro s; exact Gr.refl s
  | load md a k ih =>
    intro s
    simp only [sev]
    repeat' split
    all_goals first | trivial | exact (ih _ _).step rfl rfl
  | store md a v k ih =>
    intro s
    simp only [sev]
    repeat' split
    all_goals first | trivial | exact (ih _).step rfl rfl
  | new o k ih => intro s; simp only [sev]; exact (ih _ _).same rfl rfl
  | shape rr k ih =>
    intro s
    simp only [sev]
    repeat' split
    all_goals first | trivial | exact (ih _ _).step rfl rfl
  | freeze a n k ih => intro s; trivial
  | frozen a k ih =>
    intro s
    simp only [sev]
    repeat' split
    all_goals first | trivial | exact (ih _ _).step rfl rfl
  | getObj rr k ih =>
    intro s
    simp only [sev]
    repeat' split
    all_goals first | trivial | exact (ih _ _).step rfl rfl
  | setObj rr o k ih =>
    intro s
    simp only [sev]
    repeat' split
    all_goals first | trivial | exact (ih _).step rfl rfl
  | choose q k ih =>
    intro s
    simp only [sev]
    split
    · exact ih _ _
    · exact (ih _ _).same rfl rfl
  | sys c k ih => intro s; trivial
  | program k ih => intro s; simp only [sev]; exact ih _ _
  | mark md k ih => intro s; simp only [sev]; exact ih _
  | halt h => intro s; cases h <;> first | exact Gr.refl s | trivial

end Go.SX
/- The orders of a region, where a condition is held until one operation has come. Conditions: one goroutine. -/
namespace Go.SX

section
variable {P : Program} {ops : Array Oper} {Q : Exit → Act → World → Prop} {md : Region.Mode} {S S' : World → Prop} {rl rl' : Option Nat}
/-- The operation with which the condition ends has not come. -/
def Still (rl : Option Nat) (l : Array Bool) : Prop := ∀ r, rl = some r → l.getD r true = false
theorem Still.of_set {l : Array Bool} {i : Nat} (h : Still rl (l.setIfInBounds i true)) : Still rl l := fun r e => by
  have h1 := h r e
  by_cases hi : i = r
  · subst hi
    by_cases hb : i < l.size
    · simp [hb] at h1
    · simp [hb] at h1
  · rwa [getD_set_ne true hi] at h1
theorem Still.set {l : Array Bool} {i : Nat} (h : Still rl l) (hi : ∀ r, rl = some r → i ≠ r) : Still rl (l.setIfInBounds i true) := fun r e => by
  rw [getD_set_ne true (hi r e)]; exact h r e
/-- Whatever order is picked, and the condition holds behind every operation that is carried out before that one has come. -/
def wpAnyL (P : Program) (md : Region.Mode) (ops : Array Oper) (Q : Exit → Act → World → Prop) (S : World → Prop) (rl : Option Nat) : Nat → Array Bool → Act → World → Prop
  | 0, listed, a, w => Region.ready md ops listed = [] ∧ Q .normal a w
  | fuel + 1, listed, a, w =>
    (Region.ready md ops listed = [] → Q .normal a w) ∧
    ∀ i ∈ Region.ready md ops listed, wpOp P ops Q i (fun a' w' => (Still rl (listed.setIfInBounds i true) → S w') ∧ wpAnyL P md ops Q S rl fuel (listed.setIfInBounds i true) a' w') a w
theorem wpAny_of_L : ∀ (fuel : Nat) (listed : Array Bool) (a : Act) (w : World), wpAnyL P md ops Q S rl fuel listed a w → wpAny P md ops Q fuel listed a w
  | 0, _, _, _, h => h
  | fuel + 1, _, _, _, h => ⟨h.1, fun i hi => wpOp_mono (fun a' w' h' => wpAny_of_L fuel _ a' w' h'.2) (h.2 i hi)⟩
/-- Behind that operation the condition is not asked. -/
theorem wpAnyL_free {r : Nat} : ∀ (fuel : Nat) (listed : Array Bool) (a : Act) (w : World), ¬ Still (some r) listed → wpAnyL P md ops Q S' rl fuel listed a w → wpAnyL P md ops Q S (some r) fuel listed a w
  | 0, _, _, _, _, h => h
  | fuel + 1, _, _, _, hr, h => ⟨h.1, fun i hi => wpOp_mono (fun a' w' h' => ⟨fun hs => absurd hs.of_set hr, wpAnyL_free fuel _ a' w' (fun hs => hr hs.of_set) h'.2⟩) (h.2 i hi)⟩
theorem wpAnyL_done {listed : Array Bool} {a : Act} {w : World} (hr : Region.ready md ops listed = []) (h : Q .normal a w) :
    ∀ fuel, wpAnyL P md ops Q S rl fuel listed a w
  | 0 => ⟨hr, h⟩
  | _ + 1 => ⟨fun _ => h, by rw [hr]; simp⟩
theorem wpAnyL_first {i : Nat} {oi : Oper} {v : Value} (hi : ops[i]? = some oi) (hsel : ∀ (j : Nat) (o : Oper) cs b, ops[j]? = some o → o.op ≠ .select cs b)
    (hQ : ∀ c a w, Q (.panic c) (a.put oi.dst v) w → Q (.panic c) a w)
    (C : List Nat) (hC : ∀ q ∈ C, ∃ o, ops[q]? = some o ∧ ∃ e ∈ o.after, Region.binds md e = true ∧ (e.on = i ∨ e.on ∈ C)) (hrl : ∀ r, rl = some r → r ≠ i ∧ r ∈ C) :
    ∀ (fuel : Nat) (listed : Array Bool) (a : Act) (w : World), (∀ q ∈ C, listed.getD q true = false) →
      (∀ j oj, ops[j]? = some oj → j ≠ i → listed.getD j true = false → (∀ e ∈ oj.after, Region.binds md e = true → e.on ≠ i) → oi.apart ops oj = true) →
      i ∈ Region.ready md ops listed → YieldsIf P ops S oi v a → Still rl listed → S w →
      wpAnyL P md ops Q S rl fuel (listed.setIfInBounds i true) (a.put oi.dst v) w → wpAnyL P md ops Q S rl (fuel + 1) listed a w := by
  intro fuel
  induction fuel with
  | zero =>
    intro listed a w _ _ hr hy _ hS H
    refine ⟨fun h => (by rw [h] at hr; cases hr), fun j hj => ?_⟩
    by_cases hji : j = i
    · subst hji; exact hy.wpOp hi hS ⟨fun _ => hS, H⟩
    · have := ready_mono hj hji
      rw [H.1] at this
      cases this
  | succ fuel ih =>
    intro listed a w hCl hfree hr hy hst hS H
    refine ⟨fun h => (by rw [h] at hr; cases hr), fun j hj => ?_⟩
    by_cases hji : j = i
    · subst hji; exact hy.wpOp hi hS ⟨fun _ => hS, H⟩
    · have h1 := H.2 j (ready_mono hj hji)
      obtain ⟨hjun, oj, hoj, hall⟩ := mem_ready.1 hj
      have hnot : ∀ e ∈ oj.after, Region.binds md e = true → e.on ≠ i := fun e he hb heq => by
        have h1 := hall e he hb
        have h0 := (mem_ready.1 hr).1
        rw [heq] at h1
        rcases Nat.lt_or_ge i listed.size with h' | h'
        · simp [h'] at h0 h1; rw [h0] at h1; cases h1
        · simp [Array.getElem?_eq_none h'] at h1
      have hjC : j ∉ C := fun hm => by
        obtain ⟨o, ho, e', he', hb', hon⟩ := hC j hm
        rw [hoj] at ho
        cases ho
        rcases hon with hon | hon
        · exact hnot e' he' hb' hon
        · have h1 := hall e' he' hb'
          have h0 := hCl e'.on hon
          rcases Nat.lt_or_ge e'.on listed.size with h' | h'
          · simp [h'] at h0 h1; rw [h0] at h1; cases h1
          · simp [Array.getElem?_eq_none h'] at h1
      have hjr : ∀ r, rl = some r → j ≠ r := fun r e hjr => hjC (hjr ▸ (hrl r e).2)
      have hCl' : ∀ q ∈ C, (listed.setIfInBounds j true).getD q true = false := fun q hq => by
        rw [getD_set_ne true (fun e => hjC (by rw [e]; exact hq))]; exact hCl q hq
      have hst' : Still rl (listed.setIfInBounds j true) := hst.set hjr
      have h2 := wpOp_putIf hoj (hfree j oj hoj hji hjun hnot) (fun cs b => hsel i oi cs b hi) (fun cs b => hsel j oj cs b hoj) hQ hy h1
      have hfree' : ∀ k ok, ops[k]? = some ok → k ≠ i → (listed.setIfInBounds j true).getD k true = false →
          (∀ e ∈ ok.after, Region.binds md e = true → e.on ≠ i) → oi.apart ops ok = true := fun k ok hk hki hun hno => by
        refine hfree k ok hk hki ?_ hno
        by_cases hjk : j = k
        · subst hjk; exact hjun
        · rw [getD_set_ne true hjk] at hun; exact hun
      have hcomm : (listed.setIfInBounds i true).setIfInBounds j true = (listed.setIfInBounds j true).setIfInBounds i true := Array.setIfInBounds_comm _ _ (Ne.symm hji)
      refine wpOp_mono (fun a' w' h3 => ?_) h2
      have hS' : S w' := h3.2.1 (by rw [hcomm]; exact hst'.set (fun r e => (hrl r e).1.symm))
      refine ⟨fun _ => hS', ih (listed.setIfInBounds j true) a' w' hCl' hfree' (ready_mono hr (Ne.symm hji)) h3.1 hst' hS' ?_⟩
      rw [← hcomm]
      exact h3.2.2
end
end Go.SX
/- A region that draws its order: which operations may come up, which may be taken first. Conditions: one goroutine; nothing in it panics. -/
namespace Go.SX
open Go.RowKit

/-- These blocks hold what is said. -/
def SH (hb : List (Option Blk)) (w : World) : Prop := ∀ j b, nth hb j = some b → w.heap[b.b]? = some b.o
def isSelect : Op → Bool
  | .select _ _ => true
  | _ => false

def bnd (e : Edge) : Bool := match e.ground with | .textOnly _ => false | .gcOnly _ => false | _ => true
theorem bnd_eq (e : Edge) : Region.binds .any e = bnd e := by
  unfold Region.binds bnd
  cases e.ground <;> rfl
def nthB : List Bool → Nat → Bool → Bool
  | [], _, d => d
  | b :: _, 0, _ => b
  | _ :: r, n + 1, d => nthB r n d
theorem nthB_eq (ls : List Bool) (d : Bool) : ∀ i, ls.toArray.getD i d = nthB ls i d := by
  induction ls with
  | nil => intro i; simp [nthB]
  | cons b r ih =>
    intro i
    cases i with
    | zero => simp [nthB]
    | succ i => have := ih i; simp only [Array.getD_eq_getD_getElem?, List.getElem?_toArray] at this ⊢; simpa [nthB] using this
def setB : List Bool → Nat → List Bool
  | [], _ => []
  | _ :: r, 0 => true :: r
  | b :: r, n + 1 => b :: setB r n
theorem setB_eq (ls : List Bool) (i : Nat) : ls.toArray.setIfInBounds i true = (setB ls i).toArray := by
  rw [List.setIfInBounds_toArray]
  congr 1
  induction ls generalizing i with
  | nil => rfl
  | cons b r ih => cases i with
    | zero => rfl
    | succ i => simp [setB, ih]
def allOn (ls : List Bool) : List Edge → Bool
  | [] => true
  | e :: r => match bnd e with | false => allOn ls r | true => match nthB ls e.on false with | true => allOn ls r | false => false
theorem allOn_iff (ls : List Bool) (l : List Edge) : allOn ls l = true ↔ ∀ e ∈ l, Region.binds .any e = true → ls.toArray.getD e.on false = true := by
  induction l with
  | nil => simp [allOn]
  | cons e r ih =>
    simp only [allOn, List.mem_cons, forall_eq_or_imp, bnd_eq, nthB_eq] at ih ⊢
    cases hb : bnd e with
    | false => simp [ih]
    | true =>
      simp only [forall_const]
      cases hn : nthB ls e.on false with
      | true => simp [ih]
      | false => simp
def rdyGo (ls : List Bool) : Nat → List Oper → List Bool → List Nat
  | i, o :: os, b :: bs =>
    match b with
    | true => rdyGo ls (i + 1) os bs
    | false => match allOn ls o.after.toList with | true => i :: rdyGo ls (i + 1) os bs | false => rdyGo ls (i + 1) os bs
  | _, _, _ => []
theorem mem_rdyGo (ls : List Bool) (os : List Oper) : ∀ (bs : List Bool) (i j : Nat), j ∈ rdyGo ls i os bs ↔ ∃ d o, j = i + d ∧ bs[d]? = some false ∧ os[d]? = some o ∧ allOn ls o.after.toList = true := by
  induction os with
  | nil => intro bs i j; simp [rdyGo]
  | cons o os ih =>
    intro bs i j
    cases bs with
    | nil => simp [rdyGo]
    | cons b bs =>
      have tail : (∃ d o', j = i + 1 + d ∧ bs[d]? = some false ∧ os[d]? = some o' ∧ allOn ls o'.after.toList = true) ↔
          ∃ d o', j = i + d ∧ d ≠ 0 ∧ (b :: bs)[d]? = some false ∧ (o :: os)[d]? = some o' ∧ allOn ls o'.after.toList = true := by
        constructor
        · rintro ⟨d, o', rfl, h1, h2, h3⟩
          exact ⟨d + 1, o', by omega, by omega, by simpa using h1, by simpa using h2, h3⟩
        · rintro ⟨d, o', rfl, hd, h1, h2, h3⟩
          cases d with
          | zero => exact absurd rfl hd
          | succ d => exact ⟨d, o', by omega, by simpa using h1, by simpa using h2, h3⟩
      have skip : (∃ d o', j = i + d ∧ d ≠ 0 ∧ (b :: bs)[d]? = some false ∧ (o :: os)[d]? = some o' ∧ allOn ls o'.after.toList = true) →
          ∃ d o', j = i + d ∧ (b :: bs)[d]? = some false ∧ (o :: os)[d]? = some o' ∧ allOn ls o'.after.toList = true :=
        fun ⟨d, o', h1, _, h⟩ => ⟨d, o', h1, h⟩
      simp only [rdyGo]
      cases b with
      | true =>
        simp only [ih, tail]
        constructor
        · exact skip
        · rintro ⟨d, o', h1, h2, h⟩
          refine ⟨d, o', h1, fun e => ?_, h2, h⟩
          subst e
          simp at h2
      | false =>
        simp only
        cases ha : allOn ls o.after.toList with
        | true =>
          simp only [List.mem_cons, ih, tail]
          constructor
          · rintro (rfl | h)
            · exact ⟨0, o, rfl, rfl, rfl, ha⟩
            · exact skip h
          · rintro ⟨d, o', h1, h⟩
            cases d with
            | zero => exact .inl h1
            | succ d => exact .inr ⟨d + 1, o', h1, by omega, h⟩
        | false =>
          simp only [ih, tail]
          constructor
          · exact skip
          · rintro ⟨d, o', h1, h2, h3, h4⟩
            refine ⟨d, o', h1, fun e => ?_, h2, h3, h4⟩
            subst e
            simp only [List.getElem?_cons_zero, Option.some.injEq] at h3
            subst h3
            rw [ha] at h4
            cases h4
def rdy (ops : Array Oper) (ls : List Bool) : List Nat := rdyGo ls 0 ops.toList ls
theorem getD_false {ls : List Bool} {i : Nat} : ls.toArray.getD i true = false ↔ ls[i]? = some false := by
  rw [Array.getD_eq_getD_getElem?, List.getElem?_toArray]
  cases ls[i]? <;> simp
theorem mem_rdy {ops : Array Oper} {ls : List Bool} {i : Nat} : i ∈ Region.ready .any ops ls.toArray ↔ i ∈ rdy ops ls := by
  rw [mem_ready, rdy, mem_rdyGo, getD_false]
  constructor
  · rintro ⟨h1, o, h2, h3⟩
    exact ⟨i, o, by omega, h1, by simpa using h2, (allOn_iff ls _).2 (by simpa using h3)⟩
  · rintro ⟨d, o, e, h1, h2, h3⟩
    have e : i = d := by omega
    subst e
    exact ⟨h1, o, by simpa using h2, by simpa using (allOn_iff ls _).1 h3⟩

def waitsOn (i : Nat) : List Edge → Bool
  | [] => false
  | e :: r => match bnd e with | false => waitsOn i r | true => match Nat.beq e.on i with | true => true | false => waitsOn i r
theorem waitsOn_spec {i : Nat} {l : List Edge} (h : waitsOn i l = true) : ∃ e ∈ l, Region.binds .any e = true ∧ e.on = i := by
  induction l with
  | nil => cases h
  | cons e r ih =>
    simp only [waitsOn] at h
    cases hb : bnd e with
    | false =>
      rw [hb] at h
      obtain ⟨e', h1, h2⟩ := ih h
      exact ⟨e', by simp [h1], h2⟩
    | true =>
      rw [hb] at h
      simp only at h
      cases hn : Nat.beq e.on i with
      | true => exact ⟨e, by simp, (bnd_eq e).trans hb, Nat.eq_of_beq_eq_true hn⟩
      | false =>
        rw [hn] at h
        obtain ⟨e', h1, h2⟩ := ih h
        exact ⟨e', by simp [h1], h2⟩
def freeGo (ops : Array Oper) (oi : Oper) (i : Nat) : Nat → List Oper → List Bool → Bool
  | j, o :: os, b :: bs =>
    match b with
    | true => freeGo ops oi i (j + 1) os bs
    | false =>
      match Nat.beq j i with
      | true => freeGo ops oi i (j + 1) os bs
      | false =>
        match waitsOn i o.after.toList with
        | true => freeGo ops oi i (j + 1) os bs
        | false => match oi.apart ops o with | true => freeGo ops oi i (j + 1) os bs | false => false
  | _, _, _ => true
theorem freeGo_spec {ops : Array Oper} {oi : Oper} {i : Nat} (os : List Oper) : ∀ (bs : List Bool) (j : Nat), freeGo ops oi i j os bs = true → ∀ d o, os[d]? = some o → j + d ≠ i → bs[d]? = some false →
    (∀ e ∈ o.after.toList, Region.binds .any e = true → e.on ≠ i) → oi.apart ops o = true := by
  induction os with
  | nil => intro bs j _ d o h; simp at h
  | cons o os ih =>
    intro bs j h d o' ho hne hb hw
    cases bs with
    | nil => simp at hb
    | cons b bs =>
      simp only [freeGo] at h
      cases d with
      | zero =>
        simp only [List.getElem?_cons_zero, Option.some.injEq] at ho hb
        subst ho
        subst hb
        have hji : Nat.beq j i = false := by
          cases hji : Nat.beq j i with
          | false => rfl
          | true => exact absurd (Nat.eq_of_beq_eq_true hji) (by omega)
        simp only [hji] at h
        cases hwo : waitsOn i o.after.toList with
        | true =>
          obtain ⟨e, h1, h2, h3⟩ := waitsOn_spec hwo
          exact absurd h3 (hw e h1 h2)
        | false =>
          simp only [hwo] at h
          cases ha : oi.apart ops o with
          | true => rfl
          | false => simp only [ha] at h; cases h
      | succ d =>
        simp only [List.getElem?_cons_succ] at ho hb
        have h' : freeGo ops oi i (j + 1) os bs = true := by
          cases b with
          | true => exact h
          | false =>
            simp only at h
            cases hji : Nat.beq j i with
            | true => simp only [hji] at h; exact h
            | false =>
              simp only [hji] at h
              cases hwo : waitsOn i o.after.toList with
              | true => simp only [hwo] at h; exact h
              | false =>
                simp only [hwo] at h
                cases ha : oi.apart ops o with
                | true => simp only [ha] at h; exact h
                | false => simp only [ha] at h; cases h
        exact ih bs (j + 1) h' d o' ho (by omega) hb hw
def noSel : List Oper → Bool
  | [] => true
  | o :: r => match isSelect o.op with | true => false | false => noSel r
theorem noSel_spec {l : List Oper} (h : noSel l = true) : ∀ o ∈ l, ∀ cs b, o.op ≠ .select cs b := by
  induction l with
  | nil => intro o ho; cases ho
  | cons y r ih =>
    simp only [noSel] at h
    cases hs : isSelect y.op with
    | true => rw [hs] at h; cases h
    | false =>
      rw [hs] at h
      intro o ho cs b e
      cases ho with
      | head => rw [e] at hs; cases hs
      | tail _ ho => exact ih h o ho cs b e
def memN (i : Nat) : List Nat → Bool
  | [] => false
  | j :: r => match Nat.beq j i with | true => true | false => memN i r
theorem memN_spec {i : Nat} {l : List Nat} (h : memN i l = true) : i ∈ l := by
  induction l with
  | nil => cases h
  | cons j r ih =>
    simp only [memN] at h
    cases hj : Nat.beq j i with
    | true => rw [Nat.eq_of_beq_eq_true hj]; simp
    | false => rw [hj] at h; simp [ih h]
def pickH (hp : List (Option Blk)) : List Nat → List (Option Blk)
  | [] => []
  | j :: r => nth hp j :: pickH hp r
theorem SH.pick {hp : List (Option Blk)} {w : World} (h : ∀ j b, nth hp j = some b → w.heap[b.b]? = some b.o) (hd : List Nat) : SH (pickH hp hd) w := by
  induction hd with
  | nil => intro j b hb; cases j <;> cases hb
  | cons i r ih =>
    intro j b hb
    cases j with
    | zero => exact h i b hb
    | succ j => exact ih j b hb
def takeN : Nat → List Nat → List Nat
  | 0, _ => []
  | n + 1, j :: r => j :: takeN n r
  | _, [] => []
def dropN : Nat → List Nat → List Nat
  | 0, l => l
  | n + 1, _ :: r => dropN n r
  | _, [] => []

/-- A region on its way: its operations, how many steps may come, which have come, the blocks that stay as they are, the one that comes next; the one with which the blocks are let go. -/
structure Dr where
  ops : Array Oper
  n : Nat
  ls : List Bool
  hd : List Nat
  hb : List (Option Blk)
  pk : Option Nat
  rl : Option Nat
def Dr.took (D : Dr) (i m : Nat) : Dr :=
  match D.rl with
  | none => ⟨D.ops, m, setB D.ls i, D.hd, D.hb, none, none⟩
  | some r => match Nat.beq i r with | true => ⟨D.ops, m, setB D.ls i, [], [], none, none⟩ | false => ⟨D.ops, m, setB D.ls i, D.hd, D.hb, none, some r⟩
def Dr.next (D : Dr) : List Nat := match D.pk with | some i => [i] | none => rdy D.ops D.ls
theorem SH.took {D : Dr} {i m : Nat} {w : World} (h : SH D.hb w) : SH (D.took i m).hb w := by
  unfold Dr.took
  cases D.rl with
  | none => exact h
  | some r =>
    simp only
    cases Nat.beq i r with
    | false => exact h
    | true => intro j b hj; cases j <;> cases hj
/-- The operations that have not come and wait for this one, or for one of those. -/
def waitsC (i : Nat) (l : List Edge) : List Nat → Bool
  | [] => waitsOn i l
  | q :: C => match waitsOn q l with | true => true | false => waitsC i l C
def gateC (i : Nat) : List Oper → List Bool → Nat → List Nat → List Nat
  | o :: os, b :: bs, q, C => match b with
    | true => gateC i os bs (q + 1) C
    | false => match waitsC i o.after.toList C with | true => gateC i os bs (q + 1) (q :: C) | false => gateC i os bs (q + 1) C
  | _, _, _, C => C
theorem waitsC_spec {i : Nat} {l : List Edge} : ∀ {C : List Nat}, waitsC i l C = true → ∃ e ∈ l, Region.binds .any e = true ∧ (e.on = i ∨ e.on ∈ C)
  | [], h => let ⟨e, he, h1, h2⟩ := waitsOn_spec h; ⟨e, he, h1, .inl h2⟩
  | q :: C, h => by
    unfold waitsC at h
    cases hw : waitsOn q l with
    | true => obtain ⟨e, he, h1, h2⟩ := waitsOn_spec hw; exact ⟨e, he, h1, .inr (by simp [h2])⟩
    | false =>
      rw [hw] at h
      obtain ⟨e, he, h1, h2⟩ := waitsC_spec h
      exact ⟨e, he, h1, h2.imp id (fun h => List.mem_cons_of_mem _ h)⟩
/-- What is said of the operations that wait. -/
def GateOk (D : Dr) (i : Nat) (C : List Nat) : Prop := ∀ q ∈ C, nthB D.ls q true = false ∧ ∃ o, D.ops[q]? = some o ∧ ∃ e ∈ o.after, Region.binds .any e = true ∧ (e.on = i ∨ e.on ∈ C)
theorem nthB_drop {l : List Bool} {b : Bool} {bs : List Bool} {q : Nat} (h : l.drop q = b :: bs) : nthB l q true = b ∧ l.drop (q + 1) = bs := by
  induction q generalizing l with
  | zero => cases l with
    | nil => cases h
    | cons x l => simp only [List.drop_zero, List.cons.injEq] at h; obtain ⟨rfl, rfl⟩ := h; exact ⟨rfl, rfl⟩
  | succ q ih => cases l with
    | nil => cases h
    | cons x l => simp only [List.drop_succ_cons] at h; exact ih h
theorem gateC_spec {D : Dr} {i : Nat} : ∀ (os : List Oper) (bs : List Bool) (q : Nat) (C : List Nat), D.ops.toList.drop q = os → D.ls.drop q = bs → GateOk D i C → GateOk D i (gateC i os bs q C)
  | [], bs, q, C, _, _, h => by cases bs <;> exact h
  | o :: os, [], q, C, _, _, h => h
  | o :: os, b :: bs, q, C, h1, h2, h => by
    have hd1 : D.ops.toList.drop (q + 1) = os := by
      have := congrArg (List.drop 1) h1
      rw [List.drop_drop] at this
      simpa [Nat.add_comm] using this
    obtain ⟨hb, hd2⟩ := nthB_drop h2
    unfold gateC
    cases b with
    | true => exact gateC_spec os bs (q + 1) C hd1 hd2 h
    | false =>
      simp only
      cases hw : waitsC i o.after.toList C with
      | false => exact gateC_spec os bs (q + 1) C hd1 hd2 h
      | true =>
        refine gateC_spec os bs (q + 1) (q :: C) hd1 hd2 (fun p hp => ?_)
        rcases List.mem_cons.1 hp with rfl | hp
        · obtain ⟨e, he, h3, h4⟩ := waitsC_spec hw
          refine ⟨hb, o, ?_, e, by simpa using he, h3, h4.imp id (fun h => List.mem_cons_of_mem _ h)⟩
          have : (D.ops.toList.drop p)[0]? = some o := by rw [h1]; rfl
          rw [List.getElem?_drop] at this
          simpa using this
        · obtain ⟨h5, o', h6, e, h7, h8, h9⟩ := h p hp
          exact ⟨h5, o', h6, e, h7, h8, h9.imp id (fun h => List.mem_cons_of_mem _ h)⟩
/-- The operation with which the blocks are let go waits for this one. -/
def relOk (D : Dr) (i : Nat) : Bool :=
  match D.rl with
  | none => true
  | some r =>
    match memN r (gateC i D.ops.toList D.ls 0 []) with
    | false => false
    | true => match Nat.beq r i with | true => false | false => true
theorem relOk_spec {D : Dr} {i : Nat} (h : relOk D i = true) : Still D.rl D.ls.toArray ∧ ∃ C, GateOk D i C ∧ ∀ r, D.rl = some r → r ≠ i ∧ r ∈ C := by
  unfold relOk at h
  cases hr : D.rl with
  | none => exact ⟨fun r e => absurd e (by simp), [], (fun q hq => by cases hq), fun r e => absurd e (by simp)⟩
  | some r =>
    rw [hr] at h
    simp only at h
    cases hm : memN r (gateC i D.ops.toList D.ls 0 []) with
    | false => rw [hm] at h; cases h
    | true =>
      rw [hm] at h
      simp only at h
      cases hb : Nat.beq r i with
      | true => rw [hb] at h; cases h
      | false =>
        have hg : GateOk D i (gateC i D.ops.toList D.ls 0 []) := gateC_spec _ _ 0 [] rfl rfl (fun q hq => by cases hq)
        have hrC := memN_spec hm
        exact ⟨fun r' e' => by have := Option.some.inj e'; subst this; rw [nthB_eq]; exact (hg r hrC).1, _, hg, fun r' e' => by have := Option.some.inj e'; subst this; exact ⟨Nat.ne_of_beq_eq_false hb, hrC⟩⟩
def freeD (D : Dr) (o : Oper) (i : Nat) : Bool := match freeGo D.ops o i 0 D.ops.toList D.ls with | false => false | true => relOk D i
theorem freeD_spec {D : Dr} {o : Oper} {i : Nat} (h : freeD D o i = true) : freeGo D.ops o i 0 D.ops.toList D.ls = true ∧ relOk D i = true := by
  unfold freeD at h
  cases hf : freeGo D.ops o i 0 D.ops.toList D.ls with
  | false => rw [hf] at h; cases h
  | true => rw [hf] at h; exact ⟨rfl, h⟩

/-- Ways out, but for a panic. -/
def QN (P : Program) (f : FuncId) (R : Ending → World → Prop) (k : List Item) (e : Exit) (a : Act) (w : World) : Prop :=
  match e with
  | .panic _ => False
  | e => QC P f R k e a w
section
variable {P : Program} {f : FuncId} {R : Ending → World → Prop} {k : List Item} {a : Act} {w : World}
theorem QN.QC {e : Exit} (h : QN P f R k e a w) : QC P f R k e a w := by
  cases e <;> first | exact h | exact h.elim
theorem Way.codeN {c : Code} (h : c.wp P (QN P f R k) a w) : Way P f R (.code c :: k) a w := fun cs => by
  obtain ⟨e, a', w', hq, ha⟩ := h (fr0 f) k cs
  exact way_of_arrives hq.QC ha

/-- Whatever order is picked from here on, the function ends as it should. -/
def Drawn (P : Program) (D : Dr) (Q : Exit → Act → World → Prop) (a : Act) (w : World) : Prop :=
  SH D.hb w ∧ match D.pk with
    | none => wpAnyL P .any D.ops Q (SH D.hb) D.rl D.n D.ls.toArray a w
    | some i => ∃ m, D.n = m + 1 ∧ wpOp P D.ops Q i (fun a' w' => (Still D.rl (setB D.ls i).toArray → SH D.hb w') ∧ wpAnyL P .any D.ops Q (SH D.hb) D.rl m (setB D.ls i).toArray a' w') a w
theorem Drawn.tookL {D : Dr} {Q : Exit → Act → World → Prop} {i m : Nat} (h : Drawn P (D.took i m) Q a w) :
    (Still D.rl (setB D.ls i).toArray → SH D.hb w) ∧ wpAnyL P .any D.ops Q (SH D.hb) D.rl m (setB D.ls i).toArray a w := by
  unfold Dr.took at h
  cases hr : D.rl with
  | none => rw [hr] at h; exact ⟨fun _ => h.1, h.2⟩
  | some r =>
    rw [hr] at h
    simp only at h
    cases hb : Nat.beq i r with
    | false => rw [hb] at h; exact ⟨fun _ => h.1, h.2⟩
    | true =>
      rw [hb] at h
      have e := Nat.eq_of_beq_eq_true hb
      subst e
      have hns : ¬ Still (some i) (setB D.ls i).toArray := fun hs => by
        have h1 := hs i rfl
        rw [← setB_eq] at h1
        by_cases hi : i < D.ls.toArray.size
        · simp [List.getElem?_set, show i < D.ls.length by simpa using hi] at h1
        · simp [List.getElem?_set, show ¬ i < D.ls.length by simpa using hi] at h1
      exact ⟨fun hs => absurd hs hns, wpAnyL_free _ _ _ _ hns h.2⟩

theorem Drawn.done {D : Dr} {Q : Exit → Act → World → Prop} (hn : D.next = []) (hS : SH D.hb w) (h : Q .normal a w) : Drawn P D Q a w := by
  unfold Dr.next at hn
  refine ⟨hS, ?_⟩
  cases hp : D.pk with
  | some i => rw [hp] at hn; cases hn
  | none =>
    rw [hp] at hn
    refine wpAnyL_done ?_ h _
    cases hr : Region.ready .any D.ops D.ls.toArray with
    | nil => rfl
    | cons i r =>
      have := mem_rdy.1 (hr ▸ List.mem_cons_self : i ∈ Region.ready .any D.ops D.ls.toArray)
      simp only at hn
      rw [hn] at this
      cases this
theorem Drawn.only {D : Dr} {Q : Exit → Act → World → Prop} {i m : Nat} (hn : D.next = [i]) (hm : D.n = m + 1) (hS : SH D.hb w)
    (h : wpOp P D.ops Q i (Drawn P (D.took i m) Q) a w) : Drawn P D Q a w := by
  have h' : wpOp P D.ops Q i (fun a' w' => (Still D.rl (setB D.ls i).toArray → SH D.hb w') ∧ wpAnyL P .any D.ops Q (SH D.hb) D.rl m (setB D.ls i).toArray a' w') a w := wpOp_mono (fun a w h => Drawn.tookL h) h
  unfold Dr.next at hn
  refine ⟨hS, ?_⟩
  cases hp : D.pk with
  | some j =>
    rw [hp] at hn
    simp only [List.cons.injEq, and_true] at hn
    subst hn
    exact ⟨m, hm, h'⟩
  | none =>
    rw [hp] at hn
    simp only at hn
    simp only [hm]
    refine ⟨fun h0 => ?_, fun j hj => ?_⟩
    · have : i ∈ Region.ready .any D.ops D.ls.toArray := mem_rdy.2 (by rw [hn]; simp)
      rw [h0] at this
      cases this
    · have := mem_rdy.1 hj
      rw [hn] at this
      simp only [List.mem_cons, List.not_mem_nil, or_false] at this
      subst this
      rw [setB_eq]
      exact h'
theorem Drawn.all {D : Dr} {Q : Exit → Act → World → Prop} {m : Nat} (hk : D.pk = none) (hne : D.next ≠ []) (hm : D.n = m + 1) (hS : SH D.hb w)
    (h : ∀ i ∈ D.next, Drawn P { D with pk := some i } Q a w) : Drawn P D Q a w := by
  unfold Dr.next at hne h
  refine ⟨hS, ?_⟩
  rw [hk] at hne h ⊢
  simp only at hne h
  simp only [hm]
  refine ⟨fun h0 => ?_, fun j hj => ?_⟩
  · cases hr : rdy D.ops D.ls with
    | nil => exact absurd hr hne
    | cons i r =>
      have : i ∈ Region.ready .any D.ops D.ls.toArray := mem_rdy.2 (by rw [hr]; simp)
      rw [h0] at this
      cases this
  · obtain ⟨_, m', hm', h'⟩ := h j (mem_rdy.1 hj)
    have hm'' : D.n = m' + 1 := hm'
    have : m = m' := by omega
    subst this
    rw [setB_eq]
    exact h'
theorem Drawn.early {D : Dr} {i m : Nat} {o : Oper} {v : Value} (hk : D.pk = none) (hi : memN i D.next = true) (hm : D.n = m + 1) (hS : SH D.hb w) (ho : D.ops[i]? = some o) (hs : noSel D.ops.toList = true)
    (hf : freeD D o i = true) (hy : YieldsIf P D.ops (SH D.hb) o v a)
    (h : Drawn P (D.took i m) (QN P f R k) (a.put o.dst v) w) : Drawn P D (QN P f R k) a w := by
  obtain ⟨hf, hrel⟩ := freeD_spec hf
  obtain ⟨hst, C, hC, hrl⟩ := relOk_spec hrel
  unfold Dr.next at hi
  refine ⟨hS, ?_⟩
  rw [hk] at hi ⊢
  simp only [hm]
  refine wpAnyL_first ho (fun j oj cs b hj => noSel_spec hs oj (by simpa using Array.mem_of_getElem? hj) cs b) (fun c a w h => h.elim) C (fun q hq => (hC q hq).2) hrl m D.ls.toArray a w (fun q hq => by rw [nthB_eq]; exact (hC q hq).1) ?_ (mem_rdy.2 (memN_spec hi)) hy hst hS ?_
  · intro j oj hj hne hun hno
    exact freeGo_spec D.ops.toList D.ls 0 hf j oj (by simpa using hj) (by omega) (getD_false.1 hun) (by simpa using hno)
  · rw [setB_eq]
    exact (Drawn.tookL h).2
theorem SH.drawn {hb : List (Option Blk)} (h : SH hb w) (n : Nat) : SH hb { w with drawn := n } := h
/-- The beginning. -/
theorem Way.draw {id : Nat} {ops : Array Oper} {hd : List Nat} {hb : List (Option Blk)} {rl : Option Nat} (hm : P.follows .mixedOrders = true)
    (h : Drawn P ⟨ops, ops.size, List.replicate ops.size false, hd, hb, none, rl⟩ (QN P f R k) a { w with drawn := w.drawn + 1 }) : Way P f R (.code (.region id ops true) :: k) a w := by
  refine Way.codeN (wp_region_any hm (wpAny_of_L (S := SH hb) (rl := rl) _ _ _ _ ?_))
  have h2 := h.2
  simp only at h2
  rw [List.toArray_replicate] at h2
  exact h2
end
end Go.SX
/- A stretch of code carried out over what is known of slots and blocks, through the functions that it calls. Conditions: one goroutine; an operation that is not decided stops it. -/
namespace Go.SX
open Go.RowKit

def look : List (Nat × Value) → Nat → Option Value
  | [], _ => none
  | (k, v) :: r, t => match Nat.beq k t with | true => some v | false => look r t
def drop : List (Nat × Value) → Nat → List (Nat × Value)
  | [], _ => []
  | (k, v) :: r, t => match Nat.beq k t with | true => drop r t | false => (k, v) :: drop r t
def putT (nt : Nat) (tm : List (Nat × Value)) (d : Option Tmp) (v : Value) : List (Nat × Value) :=
  match d with
  | none => tm
  | some d => match Nat.blt d nt with | true => (d, v) :: drop tm d | false => drop tm d
def evalT (tm : List (Nat × Value)) : Operand → Value
  | .tmp t => match look tm t with | some v => v | none => undef
  | .const v => v
  | .global g => .pointer (some ⟨g, 0, none⟩)
  | .func f => .func (.func f) #[] #[]
def knows (tm : List (Nat × Value)) : Operand → Bool
  | .tmp t => match look tm t with | some _ => true | none => false
  | _ => true
def knowsAll (tm : List (Nat × Value)) : List Operand → Bool
  | [] => true
  | x :: r => match knows tm x with | true => knowsAll tm r | false => false
def slots : Nat → List Value → List (Nat × Value)
  | _, [] => []
  | i, v :: r => (i, v) :: slots (i + 1) r
def listOf (tm : List (Nat × Value)) : Nat → Nat → List Value
  | _, 0 => []
  | i, n + 1 => (match look tm i with | some v => v | none => undef) :: listOf tm (i + 1) n
def knowsSlots (tm : List (Nat × Value)) : List Tmp → Bool
  | [] => true
  | t :: r => match look tm t with | some _ => knowsSlots tm r | none => false
def slotOf : ResultVar → Tmp | .tmp t => t | .cell a _ => a

/-- Is the operation carried out? -/
def gd (ops : Array Oper) (tm : List (Nat × Value)) (o : Oper) : Option Bool :=
  match o.guard with
  | none => some true
  | some (j, want) =>
    match ops[j]? with
    | none => some false
    | some oj =>
      match oj.dst with
      | none => some false
      | some t =>
        match look tm t with
        | some (.bool b) => some (b == want)
        | some (.tuple _) => some false
        | _ => none

/-- A frame that waits for what it called. -/
structure Fr1 where
  f : FuncId
  nt : Nat
  ops : Array Oper
  dst : Option Tmp
  r : List Nat
  k : List Item
  tm : List (Nat × Value)
  df : List Deferred
  dr : Option Dr
/-- The frame that runs, what is known of the memory, and the frames that wait. -/
structure Sl where
  f : FuncId
  nt : Nat
  tm : List (Nat × Value)
  df : List Deferred
  s : Sh
  st : List Fr1

/-- Where it stands: at a place in the code; in a region that draws its order; nothing is known. -/
inductive Fin where
  | at_ (todo : List Item) (x : Sl)
  | dr (D : Dr) (k : List Item) (x : Sl)
  | bad

/-- A run that only reads. -/
def sevR (P : Program) {α : Type} : Go.Sem α → Sh → Out α
  | .pure a, s => .ok a s
  | .load _ a k, s =>
    match s.hs with
    | [] => .bad
    | j :: hs =>
      match nth s.hp j with
      | some ⟨b, .cells c _ _, _⟩ =>
        match a.spot with
        | some _ => .bad
        | none =>
          match c[a.off]? with
          | some v => sevR P (k v) { s with hs := hs, el := .n a.block :: s.el, er := .n b :: s.er }
          | none => .bad
      | _ => .bad
  | .program k, s => sevR P (k P) s
  | .mark _ k, s => sevR P k s
  | _, _ => .bad

def opReady (ops : Array Oper) (tm : List (Nat × Value)) (o : Oper) : Bool :=
  match gd ops tm o with
  | some true => match isSelect o.op with | true => false | false => knowsAll tm o.op.operands.toList
  | _ => false

/-- The frame goes on with v. -/
def resume (c : Fr1) (v : Value) (s : Sh) (rest : List Fr1) : Fin :=
  match c.dr with
  | none => .at_ (.inRegion c.ops c.r :: c.k) ⟨c.f, c.nt, putT c.nt c.tm c.dst v, c.df, s, rest⟩
  | some D => .dr D c.k ⟨c.f, c.nt, putT c.nt c.tm c.dst v, c.df, { s with el := .h (pickH s.hp D.hd) :: s.el, er := .h D.hb :: s.er }, rest⟩
/-- What comes next behind an operation. -/
def opNext (P : Program) (c : Fr1) (o : Oper) (x : Sl) : Fin :=
  match isSelect o.op with
  | true => .bad
  | false =>
    match knowsAll x.tm o.op.operands.toList with
    | false => .bad
    | true =>
      match sev P (execOp (evalT x.tm) o) x.s with
      | .ok n s' =>
        match n with
        | .value v => resume c v s' x.st
        | .skip => resume c undef s' x.st
        | .defer d => resume { c with df := d :: c.df } undef s' x.st
        | .enter g args =>
          match P.funcs[g]? with
          | none => .bad
          | some fn =>
            match fn.body with
            | none => .bad
            | some b =>
              match Nat.ble args.toList.length fn.ntmps with
              | false => .bad
              | true => .at_ [.code b] ⟨g, fn.ntmps, slots 0 args.toList, [], s', c :: x.st⟩
        | _ => .bad
      | _ => .bad

/-- The return of a function that was entered. -/
def leave (P : Program) (x : Sl) : Fin :=
  match x.df with
  | _ :: _ => .bad
  | [] =>
    match x.st with
    | [] => .bad
    | c :: rest =>
      match P.funcs[x.f]? with
      | none => .bad
      | some fn =>
        match knowsSlots x.tm (fn.results.toList.map slotOf) with
        | false => .bad
        | true =>
          match sevR P (results fn ⟨listOf x.tm 0 x.nt⟩) x.s with
          | .ok v s' => resume c v s' rest
          | _ => .bad

/-- The only operation that may come up now. -/
def onlyD (P : Program) (D : Dr) (i : Nat) (k : List Item) (x : Sl) : Fin :=
  match D.n with
  | 0 => .bad
  | m + 1 =>
    match D.ops[i]? with
    | none => .bad
    | some o =>
      match gd D.ops x.tm o with
      | none => .bad
      | some false => .dr (D.took i m) k { x with tm := putT x.nt x.tm o.dst undef }
      | some true => opNext P ⟨x.f, x.nt, D.ops, o.dst, [], k, x.tm, x.df, some (D.took i m)⟩ o x
/-- One that reads at most, taken first. -/
def earlyD (P : Program) (D : Dr) (i : Nat) (k : List Item) (x : Sl) : Fin :=
  match D.pk with
  | some _ => .bad
  | none =>
  match memN i D.next with
  | false => .bad
  | true =>
  match D.n with
  | 0 => .bad
  | m + 1 =>
    match D.ops[i]? with
    | none => .bad
    | some o =>
      match noSel D.ops.toList with
      | false => .bad
      | true =>
      match freeD D o i with
      | false => .bad
      | true =>
        match gd D.ops x.tm o with
        | none => .bad
        | some false => .dr (D.took i m) k { x with tm := putT x.nt x.tm o.dst undef }
        | some true =>
          match isSelect o.op with
          | true => .bad
          | false =>
            match knowsAll x.tm o.op.operands.toList with
            | false => .bad
            | true =>
              match sevR P (execOp (evalT x.tm) o) { x.s with hp := D.hb } with
              | .ok n s' =>
                match n with
                | .value v => .dr (D.took i m) k { x with tm := putT x.nt x.tm o.dst v, s := { s' with hp := x.s.hp } }
                | _ => .bad
              | _ => .bad
/-- The operation with which held blocks are let go, as a hint says. -/
def relN : List Nat → Option Nat
  | [] => none
  | c :: _ => match c with | 0 => none | r + 1 => some r
def drawN (P : Program) (ops : Array Oper) (k : List Item) (x : Sl) : Fin :=
  match P.follows .mixedOrders with
  | false => .bad
  | true =>
    match x.s.hs with
    | [] => .bad
    | c :: hs => .dr ⟨ops, ops.size, List.replicate ops.size false, takeN c hs, pickH x.s.hp (takeN c hs), none, relN (dropN c hs)⟩ k { x with s := { x.s with hs := dropN (c + 1) hs } }

/-- One step. -/
def step1 (P : Program) : Fin → Fin
  | .bad => .bad
  | .dr D k x =>
    match D.next with
    | [] => .at_ k x
    | i :: r =>
      match r with
      | [] => onlyD P D i k x
      | _ :: _ =>
        match x.s.hs with
        | [] => .bad
        | i :: hs => earlyD P D i k { x with s := { x.s with hs := hs } }
  | .at_ todo x =>
    match todo with
    | [] => leave P x
    | it :: k =>
      match it with
      | .inRegion ops l =>
        match l with
        | [] => .at_ k x
        | i :: r =>
          match ops[i]? with
          | none => .at_ (.inRegion ops r :: k) x
          | some o =>
            match gd ops x.tm o with
            | some true => opNext P ⟨x.f, x.nt, ops, o.dst, r, k, x.tm, x.df, none⟩ o x
            | some false => .at_ (.inRegion ops r :: k) { x with tm := putT x.nt x.tm o.dst undef }
            | none => .bad
      | .code c =>
        match c with
        | .skip => .at_ k x
        | .label _ => .at_ k x
        | .seq a b => .at_ (.code a :: .code b :: k) x
        | .block id b => .at_ (.code b :: .inBlock id :: k) x
        | .scope b => .at_ (.code b :: .inScope b :: k) x
        | .loop b => .at_ (.code b :: .inLoop b :: k) x
        | .exit id => match exitTo id k with | some k' => .at_ k' x | none => .bad
        | .goto l => match gotoIn l k with | some k' => .at_ k' x | none => .bad
        | .region _ ops d => match d with | false => .at_ (.inRegion ops (List.range ops.size) :: k) x | true => drawN P ops k x
        | .cond y a b =>
          match knows x.tm y with
          | false => .bad
          | true =>
            match evalT x.tm y with
            | .bool t => match t with | true => .at_ (.code a :: k) x | false => .at_ (.code b :: k) x
            | _ => .bad
        | .ret => leave P x
        | _ => .bad
      | .inBlock _ => .at_ k x
      | .inScope _ => .at_ k x
      | .inLoop b => .at_ (.code b :: .inLoop b :: k) x
      | _ => .bad

/-- n steps. -/
def run (P : Program) : Nat → Fin → Fin
  | 0, r => r
  | n + 1, r =>
    match step1 P r with
    | .bad => .bad
    | r' => run P n r'

/-! ### What is meant -/
structure Env where
  P : Program
  R : Ending → World → Prop
  wi : World
  ins : List Nat
  w0 : World

/-- Since the call began nothing has changed but these blocks, and new ones. -/
structure Ext (S : List Nat) (w w' : World) : Prop where
  os : w'.os = w.os
  tape : w'.tape = w.tape
  output : w'.output = w.output
  size : w.heap.size ≤ w'.heap.size
  block : ∀ k, k < w.heap.size → k ∉ S → w'.heap[k]? = w.heap[k]?

/-- What is known of a frame's slots. -/
structure HoldF (nt : Nat) (tm : List (Nat × Value)) (df : List Deferred) (a : Act) : Prop where
  size : a.tmps.size = nt
  defers : a.defers = df
  slot : ∀ t v, look tm t = some v → a.tmps[t]? = some v
/-- What is known of the world. -/
structure Facts (E : Env) (hp : List (Option Blk)) (w : World) : Prop where
  fr : Fr hp E.w0 w
  tr : Tr hp w
  ext : Ext E.ins E.wi w
  own : ∀ j b, nth hp j = some b → b.rw = true → E.wi.heap.size ≤ b.b ∨ b.b ∈ E.ins

/-- The frame goes on as it should. -/
def Cont (P : Program) (R : Ending → World → Prop) (c : Fr1) (a : Act) (w : World) : Prop :=
  match c.dr with
  | none => Way P c.f R (.inRegion c.ops c.r :: c.k) a w
  | some D => Drawn P D (QN P c.f R c.k) a w
/-- What a function's end must bring, frames that wait behind it. -/
def RS (P : Program) (R : Ending → World → Prop) : List (Fr1 × Act) → Ending → World → Prop
  | [] => R
  | (c, a) :: rest => fun e w =>
    match e with
    | .returned v => Cont P (RS P R rest) c (a.put c.dst v) w
    | _ => False
def Waits : List (Fr1 × Act) → List Fr1 → Prop
  | [], [] => True
  | (c, a) :: r, d :: s => c = d ∧ HoldF c.nt c.tm c.df a ∧ Waits r s
  | _, _ => False

/-- Whatever frames and world are as said, the function ends as it should. -/
def Leads (E : Env) (todo : List Item) (x : Sl) : Prop :=
  ∀ (as : List (Fr1 × Act)) (a : Act) (w : World), Waits as x.st → HoldF x.nt x.tm x.df a → Facts E x.s.hp w → Way E.P x.f (RS E.P E.R as) todo a w
def LeadsD (E : Env) (D : Dr) (k : List Item) (x : Sl) : Prop :=
  ∀ (as : List (Fr1 × Act)) (a : Act) (w : World), Waits as x.st → HoldF x.nt x.tm x.df a → Facts E x.s.hp w → SH D.hb w → Drawn E.P D (QN E.P x.f (RS E.P E.R as) k) a w
def LeadsF (E : Env) : Fin → Prop
  | .at_ todo x => Leads E todo x
  | .dr D k x => LeadsD E D k x
  | .bad => False
def Fin.met : Fin → List Ob
  | .at_ _ x => x.s.el
  | .dr _ _ x => x.s.el
  | .bad => []
def Fin.meant : Fin → List Ob
  | .at_ _ x => x.s.er
  | .dr _ _ x => x.s.er
  | .bad => []
def Good (E : Env) (r : Fin) : Prop := r.met = r.meant ∧ LeadsF E r

theorem Ext.refl (S : List Nat) (w : World) : Ext S w w := ⟨rfl, rfl, rfl, Nat.le_refl _, fun _ _ _ => rfl⟩
theorem Ext.trans {S : List Nat} {a b c : World} (h : Ext S a b) (k : Ext S b c) : Ext S a c :=
  ⟨k.os.trans h.os, k.tape.trans h.tape, k.output.trans h.output, Nat.le_trans h.size k.size, fun i hi hn => (k.block i (Nat.lt_of_lt_of_le hi h.size) hn).trans (h.block i hi hn)⟩
theorem Facts.blk {E : Env} {hp : List (Option Blk)} {w : World} (h : Facts E hp w) {j b : Nat} {o : Obj} {q : Bool} (hj : nth hp j = some ⟨b, o, q⟩) : w.heap[b]? = some o := h.tr.blk j _ hj
theorem Facts.lt {E : Env} {hp : List (Option Blk)} {w : World} (h : Facts E hp w) {j : Nat} {b : Blk} (hj : nth hp j = some b) : b.b < w.heap.size :=
  (Array.getElem?_eq_some_iff.1 (h.tr.blk j _ hj)).1
theorem Facts.ne {E : Env} {hp : List (Option Blk)} {w : World} (h : Facts E hp w) {i j : Nat} {x y : Blk} (hi : nth hp i = some x) (hj : nth hp j = some y) (hne : i ≠ j) : x.b ≠ y.b := h.tr.ne i j x y hi hj hne
theorem Facts.next {E : Env} {hp hp' : List (Option Blk)} {w w1 : World} (h : Facts E hp w) (ht : Tr hp' w1) (hf : Fr hp w w1) (hk : Kn hp hp' w.heap.size) (hkp : Kp hp hp') : Facts E hp' w1 := by
  have own' : ∀ j b, nth hp' j = some b → b.rw = true → E.wi.heap.size ≤ b.b ∨ b.b ∈ E.ins := fun j b hb hrw => by
    rcases hk j b hb with ⟨y, hy, e, q⟩ | hle
    · rw [← e]; exact h.own j y hy (q.trans hrw)
    · exact .inl (Nat.le_trans h.ext.size hle)
  refine ⟨?_, ht, ?_, own'⟩
  · refine ⟨hf.os.trans h.fr.os, hf.tape.trans h.fr.tape, hf.output.trans h.fr.output, Nat.le_trans h.fr.size hf.size, fun k hk' hn => ?_⟩
    have hn' : ∀ j b, nth hp j = some b → b.rw = true → b.b ≠ k := fun j b hb hrw e => by
      obtain ⟨b', hb', e', q⟩ := hkp j b hb
      exact hn j b' hb' (q.trans hrw) (e'.trans e)
    rw [hf.block k (Nat.lt_of_lt_of_le hk' h.fr.size) hn', h.fr.block k hk' hn']
  · refine ⟨hf.os.trans h.ext.os, hf.tape.trans h.ext.tape, hf.output.trans h.ext.output, Nat.le_trans h.ext.size hf.size, fun k hk' hn => ?_⟩
    rw [hf.block k (Nat.lt_of_lt_of_le hk' h.ext.size) ?_, h.ext.block k hk' hn]
    intro j b hb hrw e
    rcases h.own j b hb hrw with ho | ho
    · omega
    · exact hn (e ▸ ho)

theorem look_drop {tm : List (Nat × Value)} {t d : Nat} {v : Value} (h : look (drop tm d) t = some v) : look tm t = some v ∧ t ≠ d := by
  induction tm with
  | nil => cases h
  | cons p r ih =>
    obtain ⟨k, u⟩ := p
    simp only [drop] at h
    cases hk : Nat.beq k d with
    | true =>
      rw [hk] at h
      simp only at h
      obtain ⟨h1, h2⟩ := ih h
      refine ⟨?_, h2⟩
      simp only [look]
      have : k ≠ t := by
        intro e
        exact h2 (e ▸ Nat.eq_of_beq_eq_true hk)
      cases hkt : Nat.beq k t with
      | true => exact absurd (Nat.eq_of_beq_eq_true hkt) this
      | false => exact h1
    | false =>
      rw [hk] at h
      simp only [look] at h ⊢
      cases hkt : Nat.beq k t with
      | true =>
        rw [hkt] at h
        refine ⟨h, ?_⟩
        intro e
        have := Nat.eq_of_beq_eq_true hkt
        have h2 := Nat.ne_of_beq_eq_false hk
        omega
      | false =>
        rw [hkt] at h
        exact ih h
theorem look_putT {nt : Nat} {tm : List (Nat × Value)} {d : Option Tmp} {v u : Value} {t : Nat} (h : look (putT nt tm d v) t = some u) :
    (d = some t ∧ u = v ∧ t < nt) ∨ (d ≠ some t ∧ look tm t = some u) := by
  cases d with
  | none => exact .inr ⟨by simp, h⟩
  | some d =>
    simp only [putT] at h
    cases hb : Nat.blt d nt with
    | false =>
      rw [hb] at h
      obtain ⟨h1, h2⟩ := look_drop h
      exact .inr ⟨by simpa using fun e => h2 e.symm, h1⟩
    | true =>
      rw [hb] at h
      simp only [look] at h
      cases hd : Nat.beq d t with
      | true =>
        rw [hd] at h
        have e := Nat.eq_of_beq_eq_true hd
        subst e
        simp only [Option.some.injEq] at h
        exact .inl ⟨rfl, h.symm, by simpa [Nat.blt_eq] using hb⟩
      | false =>
        rw [hd] at h
        obtain ⟨h1, h2⟩ := look_drop h
        exact .inr ⟨by simpa using fun e => h2 e.symm, h1⟩
theorem HoldF.put {nt : Nat} {tm : List (Nat × Value)} {df : List Deferred} {a : Act} (h : HoldF nt tm df a) (d : Option Tmp) (v : Value) : HoldF nt (putT nt tm d v) df (a.put d v) := by
  refine ⟨?_, ?_, ?_⟩
  · cases d <;> simp [Act.put, h.size]
  · cases d <;> simp [Act.put, h.defers]
  · intro t u hl
    rcases look_putT hl with ⟨rfl, rfl, hlt⟩ | ⟨hne, hl⟩
    · have := h.size
      simp [Act.put, this, hlt]
    · have := h.slot t u hl
      cases d with
      | none => exact this
      | some d =>
        have hdt : d ≠ t := fun e => hne (by rw [e])
        simp [Act.put, Array.getElem?_setIfInBounds_ne hdt, this]
theorem HoldF.defer {nt : Nat} {tm : List (Nat × Value)} {df : List Deferred} {a : Act} (h : HoldF nt tm df a) (d : Option Tmp) (v : Value) (g : Deferred) :
    HoldF nt (putT nt tm d v) (g :: df) ({ a with defers := g :: a.defers }.put d v) := by
  have hp := h.put d v
  refine ⟨?_, ?_, ?_⟩
  · have := hp.size
    cases hd : d <;> simp [Act.put, hd] at this ⊢ <;> exact this
  · have := h.defers; cases d <;> simp [Act.put, this]
  · intro t u hl; have := hp.slot t u hl; cases hd : d <;> simpa [Act.put, hd] using this

theorem evalT_eq {nt : Nat} {tm : List (Nat × Value)} {df : List Deferred} {a : Act} (h : HoldF nt tm df a) {x : Operand} (hx : knows tm x = true) : a.eval x = evalT tm x := by
  cases x with
  | tmp t =>
    simp only [knows] at hx
    cases hl : look tm t with
    | none => rw [hl] at hx; cases hx
    | some v =>
      have := h.slot t v hl
      simp [Act.eval, evalT, hl, Array.getD_eq_getD_getElem?, this]
  | _ => rfl
theorem knowsAll_mem {tm : List (Nat × Value)} {l : List Operand} (h : knowsAll tm l = true) : ∀ x ∈ l, knows tm x = true := by
  induction l with
  | nil => intro x hx; cases hx
  | cons y r ih =>
    simp only [knowsAll] at h
    cases hy : knows tm y with
    | false => rw [hy] at h; cases h
    | true =>
      rw [hy] at h
      intro x hx
      cases hx with
      | head => exact hy
      | tail _ hx => exact ih h x hx
theorem exec_eq {nt : Nat} {tm : List (Nat × Value)} {df : List Deferred} {a : Act} (h : HoldF nt tm df a) {o : Oper}
    (hs : isSelect o.op = false) (hk : knowsAll tm o.op.operands.toList = true) : execOp a.eval o = execOp (evalT tm) o :=
  execOp_congr o (fun cs b e => by rw [e] at hs; cases hs) (fun x hx => evalT_eq h (knowsAll_mem hk x (by simpa using hx)))
theorem gd_wanted {nt : Nat} {tm : List (Nat × Value)} {df : List Deferred} {a : Act} (h : HoldF nt tm df a) {ops : Array Oper} {o : Oper} {b : Bool}
    (hg : gd ops tm o = some b) : Region.wanted o (yielded ops a.tmps) = b := by
  unfold gd at hg
  unfold Region.wanted
  cases ho : o.guard with
  | none => rw [ho] at hg; simpa using hg
  | some jw =>
    obtain ⟨j, want⟩ := jw
    rw [ho] at hg
    simp only at hg ⊢
    unfold yielded
    cases hj : ops[j]? with
    | none => rw [hj] at hg; simpa using hg
    | some oj =>
      rw [hj] at hg
      simp only [Option.bind_some] at hg ⊢
      cases hd : oj.dst with
      | none => rw [hd] at hg; simpa using hg
      | some t =>
        rw [hd] at hg
        simp only [Option.bind_some] at hg ⊢
        cases hl : look tm t with
        | none => rw [hl] at hg; cases hg
        | some v =>
          rw [hl] at hg
          rw [h.slot t v hl]
          cases v <;> simp_all

theorem look_slots {args : List Value} : ∀ {i t : Nat} {v : Value}, look (slots i args) t = some v → i ≤ t ∧ args[t - i]? = some v := by
  induction args with
  | nil => intro i t v h; cases h
  | cons x r ih =>
    intro i t v h
    simp only [slots, look] at h
    cases hb : Nat.beq i t with
    | true =>
      rw [hb] at h
      have := Nat.eq_of_beq_eq_true hb
      subst this
      simp only [Option.some.injEq] at h
      exact ⟨Nat.le_refl _, by simp [h]⟩
    | false =>
      rw [hb] at h
      obtain ⟨h1, h2⟩ := ih h
      refine ⟨by omega, ?_⟩
      obtain ⟨d, rfl⟩ : ∃ d, t = i + 1 + d := ⟨t - (i + 1), by omega⟩
      rw [show i + 1 + d - (i + 1) = d from by omega] at h2
      rw [show i + 1 + d - i = d + 1 from by omega]
      simpa using h2
theorem HoldF.enter {args : List Value} {nt : Nat} (hl : Nat.ble args.length nt = true) :
    HoldF nt (slots 0 args) [] { tmps := args.toArray ++ Array.replicate (nt - args.toArray.size) undef, defers := [] } := by
  have hl' : args.length ≤ nt := Nat.le_of_ble_eq_true hl
  refine ⟨?_, rfl, ?_⟩
  · simp; omega
  · intro t v hv
    obtain ⟨_, h2⟩ := look_slots hv
    simp only [Nat.sub_zero] at h2
    have : t < args.length := (List.getElem?_eq_some_iff.1 h2).1
    rw [Array.getElem?_append_left (by simpa using this)]
    simpa using h2

theorem listOf_get {tm : List (Nat × Value)} : ∀ {n i j : Nat}, j < n → (listOf tm i n)[j]? = some (match look tm (i + j) with | some v => v | none => undef) := by
  intro n
  induction n with
  | zero => intro i j h; omega
  | succ n ih =>
    intro i j h
    cases j with
    | zero => rfl
    | succ j =>
      have := ih (i := i + 1) (j := j) (by omega)
      simp only [listOf, List.getElem?_cons_succ, this]
      rw [show i + 1 + j = i + (j + 1) from by omega]
theorem knowsSlots_mem {tm : List (Nat × Value)} {l : List Tmp} (h : knowsSlots tm l = true) : ∀ t ∈ l, ∃ v, look tm t = some v := by
  induction l with
  | nil => intro t ht; cases ht
  | cons y r ih =>
    simp only [knowsSlots] at h
    cases hy : look tm y with
    | none => rw [hy] at h; cases h
    | some v =>
      rw [hy] at h
      intro t ht
      cases ht with
      | head => exact ⟨v, hy⟩
      | tail _ ht => exact ih h t ht
theorem listMapM_congr {α β : Type} {f g : α → Go.Sem β} : ∀ (l : List α), (∀ x ∈ l, f x = g x) → l.mapM f = l.mapM g
  | [], _ => rfl
  | x :: r, h => by
    rw [List.mapM_cons, List.mapM_cons, h x (by simp), listMapM_congr r (fun y hy => h y (by simp [hy]))]
theorem results_congr {fn : Func} {t u : Array Value} (h : ∀ x ∈ fn.results.toList, t.getD (slotOf x) undef = u.getD (slotOf x) undef) : results fn t = results fn u := by
  unfold results
  rw [Array.mapM_eq_mapM_toList, Array.mapM_eq_mapM_toList, listMapM_congr fn.results.toList]
  intro x hx
  have := h x hx
  cases x with
  | tmp t => simp only [slotOf] at this; simp only [this]
  | cell a t => simp only [slotOf] at this; simp only [this]
theorem results_known {nt : Nat} {tm : List (Nat × Value)} {df : List Deferred} {a : Act} (h : HoldF nt tm df a) {fn : Func} (hk : knowsSlots tm (fn.results.toList.map slotOf) = true) :
    results fn a.tmps = results fn ⟨listOf tm 0 nt⟩ := results_congr (fun rv hrv => by
  obtain ⟨u, hu⟩ := knowsSlots_mem hk (slotOf rv) (List.mem_map.2 ⟨rv, hrv, rfl⟩)
  have h1 := h.slot _ _ hu
  have hlt : slotOf rv < nt := by
    have := (Array.getElem?_eq_some_iff.1 h1).1
    rw [h.size] at this
    exact this
  have h2 := listOf_get (tm := tm) (i := 0) hlt
  rw [Nat.zero_add, hu] at h2
  simp only at h2
  simp only [Array.getD_eq_getD_getElem?, h1, List.getElem?_toArray, h2])
theorem sevR_sound (P : Program) {α : Type} (m : Go.Sem α) : ∀ (s s1 : Sh) (a : α) (w : World), SH s.hp w → sevR P m s = .ok a s1 → Gr s s1 ∧ s1.hp = s.hp ∧ (s1.el = s1.er → m.run P w = .ok a w) := by
  induction m with
  | pure a => intro s s1 a' w _ h; simp only [sevR, Out.ok.injEq] at h; rw [← h.1, ← h.2]; exact ⟨Gr.refl _, rfl, fun _ => rfl⟩
  | load md a k ih =>
    intro s s1 a' w ht h
    simp only [sevR] at h
    cases hh : s.hs with
    | nil => rw [hh] at h; cases h
    | cons j hs =>
      rw [hh] at h
      simp only at h
      cases hj : nth s.hp j with
      | none => rw [hj] at h; cases h
      | some x =>
        obtain ⟨b, o, q⟩ := x
        rw [hj] at h
        cases o with
        | cells c e z =>
          simp only at h
          cases hs' : a.spot with
          | some _ => rw [hs'] at h; cases h
          | none =>
            rw [hs'] at h
            simp only at h
            cases hc : c[a.off]? with
            | none => rw [hc] at h; cases h
            | some v =>
              rw [hc] at h
              simp only at h
              obtain ⟨h1, h3, h2⟩ := ih v { s with hs := hs, el := .n a.block :: s.el, er := .n b :: s.er } _ _ w ht h
              refine ⟨h1.step rfl rfl, h3, fun e => ?_⟩
              have he := h1.eq e
              simp only [List.cons.injEq, Ob.n.injEq] at he
              have hcell := (cell_of_blk (a := a) (ht j _ hj) he.1 hs').trans hc
              simp only [Sem.run, hcell]
              exact h2 e
        | _ => cases h
  | program k ih => intro s s1 a' w ht h; exact ih P _ _ _ w ht h
  | mark md k ih => intro s s1 a' w ht h; exact ih _ _ _ w ht h
  | _ => intro s s1 a' w ht h; cases h
theorem sevR_gr (P : Program) {α : Type} (m : Go.Sem α) : ∀ s : Sh, OutGr s (sevR P m s) := by
  induction m with
  | pure a => intro s; exact Gr.refl s
  | load md a k ih =>
    intro s
    simp only [sevR]
    repeat' split
    all_goals first | trivial | exact (ih _ _).step rfl rfl
  | program k ih => intro s; simp only [sevR]; exact ih _ _
  | mark md k ih => intro s; simp only [sevR]; exact ih _
  | _ => intro s; trivial
/-- The numbers and answers that are left are handed on as they are. -/
theorem sevR_fg (P : Program) {α : Type} (m : Go.Sem α) : ∀ (s : Sh) (f g : Nat → Nat), sevR P m { s with f := f, g := g } = (sevR P m s).with f g := by
  induction m with
  | pure a => intro s f g; rfl
  | load md a k ih =>
    intro s f g
    simp only [sevR]
    cases hh : s.hs with
    | nil => rfl
    | cons j hs =>
      simp only
      cases hj : nth s.hp j with
      | none => rfl
      | some x =>
        obtain ⟨b, o, q⟩ := x
        cases o with
        | cells c e z =>
          simp only
          cases a.spot with
          | some _ => rfl
          | none =>
            simp only
            cases c[a.off]? with
            | none => rfl
            | some v => exact ih v { s with hs := hs, el := .n a.block :: s.el, er := .n b :: s.er } f g
        | _ => rfl
  | program k ih => intro s f g; simp only [sevR]; exact ih _ _ _ _
  | mark md k ih => intro s f g; simp only [sevR]; exact ih _ _ _
  | _ => intro s f g; rfl

/-! ### Steps are sound -/
def FinGr (s : Sh) : Fin → Prop
  | .at_ _ y => Gr s y.s
  | .dr _ _ y => Gr s y.s
  | .bad => True
def Fin.sh : Fin → Option Sh
  | .at_ _ y => some y.s
  | .dr _ _ y => some y.s
  | .bad => none
theorem Gr.same {s s' : Sh} (h1 : s'.el = s.el) (h2 : s'.er = s.er) : Gr s s' := ⟨[], [], by simp [h1], by simp [h2], rfl⟩
theorem resume_gr {c : Fr1} {v : Value} {s : Sh} {rest : List Fr1} : FinGr s (resume c v s rest) := by
  unfold resume
  cases c.dr with
  | none => exact Gr.refl _
  | some D => exact (Gr.refl _).step rfl rfl
theorem FinGr.trans {s s1 : Sh} {r : Fin} (h : Gr s s1) (k : FinGr s1 r) : FinGr s r := by
  cases r with
  | at_ todo y => exact Gr.trans h k
  | dr D t y => exact Gr.trans h k
  | bad => trivial
theorem opNext_gr {P : Program} {c : Fr1} {o : Oper} {x : Sl} : FinGr x.s (opNext P c o x) := by
  unfold opNext
  have hg := sev_gr P (execOp (evalT x.tm) o) x.s
  cases isSelect o.op with
  | true => trivial
  | false =>
    simp only
    cases knowsAll x.tm o.op.operands.toList with
    | false => trivial
    | true =>
      simp only
      cases h3 : sev P (execOp (evalT x.tm) o) x.s with
      | bad => trivial
      | panic v s1 => trivial
      | ok n s1 =>
        rw [h3] at hg
        simp only
        cases n with
        | value v => exact FinGr.trans hg resume_gr
        | skip => exact FinGr.trans hg resume_gr
        | defer d => exact FinGr.trans hg resume_gr
        | enter g args =>
          simp only
          cases P.funcs[g]? with
          | none => trivial
          | some fn =>
            simp only
            cases fn.body with
            | none => trivial
            | some b =>
              simp only
              cases Nat.ble args.toList.length fn.ntmps with
              | false => trivial
              | true => exact hg
        | _ => trivial
theorem leave_gr {P : Program} {x : Sl} : FinGr x.s (leave P x) := by
  unfold leave
  cases x.df with
  | cons _ _ => trivial
  | nil =>
    simp only
    cases x.st with
    | nil => trivial
    | cons c rest =>
      simp only
      cases P.funcs[x.f]? with
      | none => trivial
      | some fn =>
        simp only
        cases knowsSlots x.tm (fn.results.toList.map slotOf) with
        | false => trivial
        | true =>
          simp only
          have hg := sevR_gr P (results fn ⟨listOf x.tm 0 x.nt⟩) x.s
          cases h : sevR P (results fn ⟨listOf x.tm 0 x.nt⟩) x.s with
          | ok v s' => rw [h] at hg; exact FinGr.trans hg resume_gr
          | _ => trivial
theorem onlyD_gr {P : Program} {D : Dr} {i : Nat} {k : List Item} {x : Sl} : FinGr x.s (onlyD P D i k x) := by
  unfold onlyD
  cases D.n with
  | zero => trivial
  | succ m =>
    simp only
    cases D.ops[i]? with
    | none => trivial
    | some o =>
      simp only
      cases gd D.ops x.tm o with
      | none => trivial
      | some b =>
        cases b with
        | false => exact Gr.refl _
        | true => exact opNext_gr
theorem earlyD_gr {P : Program} {D : Dr} {i : Nat} {k : List Item} {x : Sl} : FinGr x.s (earlyD P D i k x) := by
  unfold earlyD
  cases D.pk with
  | some _ => trivial
  | none =>
  simp only
  cases memN i D.next with
  | false => trivial
  | true =>
  simp only
  cases D.n with
  | zero => trivial
  | succ m =>
    simp only
    cases D.ops[i]? with
    | none => trivial
    | some o =>
      simp only
      cases noSel D.ops.toList with
      | false => trivial
      | true =>
      simp only
      cases freeD D o i with
      | false => trivial
      | true =>
        simp only
        cases gd D.ops x.tm o with
        | none => trivial
        | some b =>
          cases b with
          | false => exact Gr.refl _
          | true =>
            simp only
            cases isSelect o.op with
            | true => trivial
            | false =>
              simp only
              cases knowsAll x.tm o.op.operands.toList with
              | false => trivial
              | true =>
                simp only
                have hg := sevR_gr P (execOp (evalT x.tm) o) { x.s with hp := D.hb }
                cases h : sevR P (execOp (evalT x.tm) o) { x.s with hp := D.hb } with
                | ok n s' =>
                  rw [h] at hg
                  simp only
                  cases n with
                  | value v => exact hg
                  | _ => trivial
                | _ => trivial
theorem FinGr.of {s s' : Sh} {r : Fin} (h : FinGr s' r) (h1 : s'.el = s.el) (h2 : s'.er = s.er) : FinGr s r := FinGr.trans (Gr.same h1 h2) h
theorem drawN_gr {P : Program} {ops : Array Oper} {k : List Item} {x : Sl} : FinGr x.s (drawN P ops k x) := by
  unfold drawN
  cases P.follows .mixedOrders with
  | false => trivial
  | true =>
    simp only
    cases x.s.hs with
    | nil => trivial
    | cons c hs => exact Gr.same rfl rfl
theorem step1_gr {P : Program} {r : Fin} {s : Sh} (hs : r.sh = some s) : FinGr s (step1 P r) := by
  cases r with
  | bad => trivial
  | dr D k x =>
    simp only [Fin.sh, Option.some.injEq] at hs
    subst hs
    simp only [step1]
    cases D.next with
    | nil => exact Gr.refl _
    | cons i r =>
      cases r with
      | nil => exact onlyD_gr
      | cons j r =>
        simp only
        cases x.s.hs with
        | nil => trivial
        | cons i hs => exact FinGr.of (earlyD_gr (x := { x with s := { x.s with hs := hs } })) rfl rfl
  | at_ todo x =>
    simp only [Fin.sh, Option.some.injEq] at hs
    subst hs
    cases todo with
    | nil => exact leave_gr
    | cons it k =>
      cases it with
      | inRegion ops l =>
        cases l with
        | nil => exact Gr.refl _
        | cons i r =>
          simp only [step1]
          cases ops[i]? with
          | none => exact Gr.refl _
          | some o =>
            simp only
            cases gd ops x.tm o with
            | none => trivial
            | some b =>
              cases b with
              | false => exact Gr.refl _
              | true => exact opNext_gr
      | code c =>
        cases c with
        | exit id =>
          simp only [step1]
          split
          · exact Gr.refl _
          · trivial
        | goto l =>
          simp only [step1]
          split
          · exact Gr.refl _
          · trivial
        | region id ops d =>
          cases d with
          | false => exact Gr.refl _
          | true => exact drawN_gr
        | cond z a b =>
          simp only [step1]
          split
          · trivial
          · split
            · split <;> exact Gr.refl _
            · trivial
        | ret => exact leave_gr
        | rangeFunc _ _ _ _ => trivial
        | refuse _ => trivial
        | _ => exact Gr.refl _
      | inBlock id => exact Gr.refl _
      | inScope b => exact Gr.refl _
      | inLoop b => exact Gr.refl _
      | _ => trivial
theorem run_gr {P : Program} : ∀ (n : Nat) (r : Fin) (s : Sh), r.sh = some s → FinGr s (run P n r) := by
  intro n
  induction n with
  | zero =>
    intro r s hs
    cases r with
    | bad => cases hs
    | at_ todo x => simp only [Fin.sh, Option.some.injEq] at hs; subst hs; exact Gr.refl _
    | dr D k x => simp only [Fin.sh, Option.some.injEq] at hs; subst hs; exact Gr.refl _
  | succ n ih =>
    intro r s hs
    simp only [run]
    have h := step1_gr (P := P) hs
    cases hr : step1 P r with
    | bad => trivial
    | at_ todo' y => rw [hr] at h; exact FinGr.trans h (ih _ _ rfl)
    | dr D k y => rw [hr] at h; exact FinGr.trans h (ih _ _ rfl)
theorem FinGr.eq {s : Sh} {r : Fin} (h : FinGr s r) (hl : r ≠ .bad) (e : r.met = r.meant) : s.el = s.er := by
  cases r with
  | bad => exact absurd rfl hl
  | at_ todo y => exact Gr.eq h e
  | dr D k y => exact Gr.eq h e
theorem Good.eq {E : Env} {n : Nat} {r : Fin} {s : Sh} (h : Good E (run E.P n r)) (hs : r.sh = some s) : s.el = s.er :=
  (run_gr (P := E.P) n r s hs).eq (fun e => by have := h.2; rw [e] at this; exact this) h.1
theorem Good.bad {E : Env} (h : Good E .bad) : False := h.2
theorem run_bad {P : Program} : ∀ n, run P n .bad = .bad
  | 0 => rfl
  | _ + 1 => rfl
theorem run_succ {P : Program} (n : Nat) (r : Fin) : run P (n + 1) r = run P n (step1 P r) := by
  simp only [run]
  cases h : step1 P r with
  | bad => exact (run_bad n).symm
  | _ => rfl

def Sl.with (x : Sl) (f g : Nat → Nat) : Sl := { x with s := { x.s with f := f, g := g } }
def Fin.with_ (f g : Nat → Nat) : Fin → Fin
  | .at_ todo x => .at_ todo (x.with f g)
  | .dr D k x => .dr D k (x.with f g)
  | .bad => .bad
/-- Numbers of new blocks: none lies below the heap's size at the time at hand. -/
def up (E : Env) (f : Nat → Nat) : Nat → Nat := fun n => E.w0.heap.size + f n
theorem up_sub {E : Env} {F : Nat → Nat} (h : ∀ n, E.w0.heap.size ≤ F n) : up E (fun n => F n - E.w0.heap.size) = F := by
  funext n
  have := h n
  simp only [up]; omega
theorem up_le (E : Env) (f : Nat → Nat) (n : Nat) : E.w0.heap.size ≤ up E f n := Nat.le_add_right _ _
def Sound (E : Env) (n : Nat) : Prop := ∀ r : Fin, (∀ f g, Good E (run E.P n (r.with_ (up E f) g))) → LeadsF E r
theorem Way.skip1 {P : Program} {f : FuncId} {R : Ending → World → Prop} {it : Item} {k k' : List Item} {a : Act} {w : World}
    (h : ∀ cs, step P (lone ((fr0 f).at a (it :: k)) cs w) = .next (lone ((fr0 f).at a k') cs w)) (hw : Way P f R k' a w) : Way P f R (it :: k) a w :=
  Way.of_steps (fun cs => .one (h cs)) hw

theorem resume_sound {E : Env} {n : Nat} {c : Fr1} {v : Value} {s : Sh} {rest : List Fr1} {as : List (Fr1 × Act)} {a : Act} {w : World} (ih : Sound E n)
    (h : ∀ f g, Good E (run E.P n (resume c v { s with f := up E f, g := g } rest))) (hW : Waits as rest) (hF : HoldF c.nt (putT c.nt c.tm c.dst v) c.df a) (hw : s.el = s.er → Facts E s.hp w) : Cont E.P (RS E.P E.R as) c a w := by
  unfold Cont
  unfold resume at h
  cases hd : c.dr with
  | none =>
    simp only [hd] at h
    exact ih (.at_ (.inRegion c.ops c.r :: c.k) ⟨c.f, c.nt, putT c.nt c.tm c.dst v, c.df, s, rest⟩) h as a w hW hF (hw ((h id id).eq (s := { s with f := up E id, g := id }) rfl))
  | some D =>
    simp only [hd] at h
    have he := (h id id).eq (s := { s with f := up E id, g := id, el := .h (pickH s.hp D.hd) :: s.el, er := .h D.hb :: s.er }) rfl
    simp only [List.cons.injEq, Ob.h.injEq] at he
    have hw := hw he.2
    exact ih (.dr D c.k ⟨c.f, c.nt, putT c.nt c.tm c.dst v, c.df, { s with el := .h (pickH s.hp D.hd) :: s.el, er := .h D.hb :: s.er }, rest⟩) h as a w hW hF hw (he.1 ▸ SH.pick hw.tr.blk D.hd)
theorem Cont.df {P : Program} {R : Ending → World → Prop} {c : Fr1} {df : List Deferred} {a : Act} {w : World} (h : Cont P R { c with df := df } a w) : Cont P R c a w := h

/-- Where an operation stands: what it needs so that all goes on as said. -/
theorem op_sound {E : Env} {c : Fr1} {o : Oper} {x : Sl} {n : Nat} {as : List (Fr1 × Act)} {a : Act} {w : World} {Q : Exit → Act → World → Prop} (hc : c.f = x.f ∧ c.nt = x.nt ∧ c.tm = x.tm ∧ c.df = x.df ∧ c.dst = o.dst)
    (h : ∀ f g, Good E (run E.P n (opNext E.P c o (x.with (up E f) g)))) (ih : Sound E n)
    (hW : Waits as x.st) (hF : HoldF x.nt x.tm x.df a) (hw : Facts E x.s.hp w) : o.upon E.P a (Cont E.P (RS E.P E.R as) c) Q ((execOp a.eval o).run E.P w) := by
  obtain ⟨hc1, hc2, hc3, hc4, hc5⟩ := hc
  simp only [opNext, Sl.with] at h
  cases h1 : isSelect o.op with
  | true => simp only [h1, run_bad] at h; exact (h id id).bad.elim
  | false =>
    simp only [h1] at h
    cases h2 : knowsAll x.tm o.op.operands.toList with
    | false => simp only [h2, run_bad] at h; exact (h id id).bad.elim
    | true =>
      simp only [h2] at h
      obtain ⟨F, G, w1, res, hB, hs, hS⟩ := sev_sound E.P (execOp (evalT x.tm) o) x.s w hw.tr
      have h' : ∀ f g, _ := fun f g => h (fun n => F (up E f) n - E.w0.heap.size) (G g)
      have hup : ∀ f, up E (fun n => F (up E f) n - E.w0.heap.size) = F (up E f) := fun f => up_sub fun n => hB (up E f) _ hw.fr.size (up_le E f) n
      simp only [hup, hs] at h'
      rw [exec_eq hF h1 h2]
      have hput : ∀ v, HoldF c.nt (putT c.nt c.tm c.dst v) c.df (a.put o.dst v) := fun v => by rw [hc2, hc3, hc4, hc5]; exact hF.put o.dst v
      cases res with
      | bad => simp only [Out.with, run_bad] at h'; exact (h' id id).bad.elim
      | panic v s1 => simp only [Out.with, run_bad] at h'; exact (h' id id).bad.elim
      | ok nx s1 =>
        simp only [Out.with] at h'
        have hrun : s1.el = s1.er → (execOp (evalT x.tm) o).run E.P w = .ok nx w1 := fun e => (hS.2 e).1
        have hfa : s1.el = s1.er → Facts E s1.hp w1 := fun e => by
          obtain ⟨_, ht, hf, hk, hkp⟩ := hS.2 e
          exact hw.next ht hf hk hkp
        have hgr : ∀ (c' : Fr1) (v : Value), (∀ f g, Good E (run E.P n (resume c' v { s1 with f := up E f, g := g } x.st))) → s1.el = s1.er := fun c' v h => by
          have hne : run E.P n (resume c' v { s1 with f := up E id, g := id } x.st) ≠ .bad := fun e => by have := (h id id).2; rw [e] at this; exact this
          have hg : FinGr { s1 with f := up E id, g := id } (run E.P n (resume c' v { s1 with f := up E id, g := id } x.st)) := by
            have h1 := resume_gr (c := c') (v := v) (s := { s1 with f := up E id, g := id }) (rest := x.st)
            cases hr : resume c' v { s1 with f := up E id, g := id } x.st with
            | bad => rw [run_bad]; trivial
            | at_ todo y => rw [hr] at h1; exact FinGr.trans h1 (run_gr n _ _ rfl)
            | dr D k y => rw [hr] at h1; exact FinGr.trans h1 (run_gr n _ _ rfl)
          exact hg.eq hne (h id id).1
        cases nx with
        | value v =>
          simp only at h'
          rw [hrun (hgr c v h')]
          exact resume_sound ih h' hW (hput v) hfa
        | skip =>
          simp only at h'
          rw [hrun (hgr c undef h')]
          exact resume_sound ih h' hW (hput undef) hfa
        | defer d =>
          simp only at h'
          rw [hrun (hgr _ undef h')]
          refine Cont.df (df := d :: c.df) (resume_sound ih h' hW ?_ hfa)
          show HoldF c.nt (putT c.nt c.tm c.dst undef) (d :: c.df) ({ a with defers := d :: a.defers }.put o.dst undef)
          rw [hc2, hc3, hc4, hc5]
          exact hF.defer o.dst undef d
        | enter g args =>
          simp only at h'
          cases hfn : E.P.funcs[g]? with
          | none => simp only [hfn, run_bad] at h'; exact (h' id id).bad.elim
          | some fn =>
            simp only [hfn] at h'
            cases hb : fn.body with
            | none => simp only [hb, run_bad] at h'; exact (h' id id).bad.elim
            | some b =>
              simp only [hb] at h'
              cases hl : Nat.ble args.toList.length fn.ntmps with
              | false => simp only [hl, run_bad] at h'; exact (h' id id).bad.elim
              | true =>
                simp only [hl] at h'
                have he : s1.el = s1.er := (h' id id).eq (s := { s1 with f := up E id, g := id }) rfl
                rw [hrun he]
                simp only [Oper.upon]
                have hcall : Calls E.P g args w1 (RS E.P E.R ((c, a) :: as)) := by
                  refine Way.calls hfn hb ?_
                  have hE := HoldF.enter hl
                  rw [Array.toArray_toList] at hE
                  refine ih (.at_ [.code b] ⟨g, fn.ntmps, slots 0 args.toList, [], s1, c :: x.st⟩) h' ((c, a) :: as) _ w1 ⟨rfl, ?_, hW⟩ hE (hfa he)
                  rw [hc2, hc3, hc4]
                  exact hF
                refine hcall.mono ?_
                intro e w2 hR
                cases e with
                | returned v => rw [← hc5]; exact hR
                | panicked chain => exact hR.elim
                | outgrown => exact hR.elim
        | _ => simp only [run_bad] at h'; exact (h' id id).bad.elim

/-- A function that was entered comes back. -/
theorem leave_sound {E : Env} {x : Sl} {n : Nat} {as : List (Fr1 × Act)} {a : Act} {w : World}
    (h : ∀ f g, Good E (run E.P n (leave E.P (x.with (up E f) g)))) (ih : Sound E n)
    (hW : Waits as x.st) (hF : HoldF x.nt x.tm x.df a) (hw : Facts E x.s.hp w) : Ret E.P x.f (RS E.P E.R as) a w := by
  simp only [leave, Sl.with] at h
  cases hd : x.df with
  | cons _ _ => simp only [hd, run_bad] at h; exact (h id id).bad.elim
  | nil =>
    simp only [hd] at h
    cases hst : x.st with
    | nil => simp only [hst, run_bad] at h; exact (h id id).bad.elim
    | cons c rest =>
      simp only [hst] at h
      cases hfn : E.P.funcs[x.f]? with
      | none => simp only [hfn, run_bad] at h; exact (h id id).bad.elim
      | some fn =>
        simp only [hfn] at h
        cases hk : knowsSlots x.tm (fn.results.toList.map slotOf) with
        | false => simp only [hk, run_bad] at h; exact (h id id).bad.elim
        | true =>
          simp only [hk] at h
          have hfg : ∀ r, sevR E.P (results fn ⟨listOf x.tm 0 x.nt⟩) x.s = r → ∀ f g, sevR E.P (results fn ⟨listOf x.tm 0 x.nt⟩) { x.s with f := f, g := g } = r.with f g := fun r hr f g => (sevR_fg E.P _ x.s f g).trans (congrArg (Out.with f g) hr)
          cases hs' : sevR E.P (results fn ⟨listOf x.tm 0 x.nt⟩) x.s with
          | bad => simp only [hfg _ hs', Out.with, run_bad] at h; exact (h id id).bad.elim
          | panic v s1 => simp only [hfg _ hs', Out.with, run_bad] at h; exact (h id id).bad.elim
          | ok v s1 =>
            simp only [hfg _ hs', Out.with] at h
            obtain ⟨_, hhp, hrun⟩ := sevR_sound E.P _ x.s _ _ w hw.tr.blk hs'
            cases as with
            | nil => rw [hst] at hW; exact hW.elim
            | cons ca rest' =>
              obtain ⟨c', a'⟩ := ca
              rw [hst] at hW
              obtain ⟨hc, hF', hW'⟩ := hW
              subst hc
              have hne : run E.P n (resume c' v { s1 with f := up E id, g := id } rest) ≠ .bad := fun e => by have := (h id id).2; rw [e] at this; exact this
              have hg : FinGr { s1 with f := up E id, g := id } (run E.P n (resume c' v { s1 with f := up E id, g := id } rest)) := by
                have h1 := resume_gr (c := c') (v := v) (s := { s1 with f := up E id, g := id }) (rest := rest)
                cases hr : resume c' v { s1 with f := up E id, g := id } rest with
                | bad => rw [run_bad]; trivial
                | at_ todo y => rw [hr] at h1; exact FinGr.trans h1 (run_gr n _ _ rfl)
                | dr D k y => rw [hr] at h1; exact FinGr.trans h1 (run_gr n _ _ rfl)
              refine Ret.none hfn (hF.defers.trans hd) (by rw [results_known hF hk]; exact hrun (hg.eq hne (h id id).1)) ?_
              exact resume_sound ih h hW' (hF'.put c'.dst v) (fun _ => by rw [hhp]; exact hw)

theorem only_sound {E : Env} {D : Dr} {i : Nat} {k : List Item} {x : Sl} {n : Nat} (hn : D.next = [i]) (h : ∀ f g, Good E (run E.P n (onlyD E.P D i k (x.with (up E f) g)))) (ih : Sound E n) : LeadsD E D k x := by
  intro as a w hW hF hw hS
  simp only [onlyD, Sl.with] at h
  cases hm : D.n with
  | zero => simp only [hm, run_bad] at h; exact (h id id).bad.elim
  | succ m =>
    simp only [hm] at h
    cases ho : D.ops[i]? with
    | none => simp only [ho, run_bad] at h; exact (h id id).bad.elim
    | some o =>
      simp only [ho] at h
      refine Drawn.only hn hm hS ?_
      unfold wpOp
      simp only [ho]
      cases hg : gd D.ops x.tm o with
      | none => simp only [hg, run_bad] at h; exact (h id id).bad.elim
      | some b =>
        simp only [hg] at h
        rw [gd_wanted hF hg]
        cases b with
        | false =>
          simp only at h ⊢
          exact ih (.dr (D.took i m) k { x with tm := putT x.nt x.tm o.dst undef }) h as _ w hW (hF.put o.dst undef) hw hS.took
        | true =>
          simp only [if_true]
          exact .inl (op_sound (c := ⟨x.f, x.nt, D.ops, o.dst, [], k, x.tm, x.df, some (D.took i m)⟩) ⟨rfl, rfl, rfl, rfl, rfl⟩ h ih hW hF hw)
theorem early_sound {E : Env} {D : Dr} {i : Nat} {k : List Item} {x : Sl} {n : Nat} (h : ∀ f g, Good E (run E.P n (earlyD E.P D i k (x.with (up E f) g)))) (ih : Sound E n) : LeadsD E D k x := by
  intro as a w hW hF hw hS
  simp only [earlyD, Sl.with] at h
  cases hk : D.pk with
  | some _ => simp only [hk, run_bad] at h; exact (h id id).bad.elim
  | none =>
  simp only [hk] at h
  cases hi : memN i D.next with
  | false => simp only [hi, run_bad] at h; exact (h id id).bad.elim
  | true =>
  simp only [hi] at h
  cases hm : D.n with
  | zero => simp only [hm, run_bad] at h; exact (h id id).bad.elim
  | succ m =>
    simp only [hm] at h
    cases ho : D.ops[i]? with
    | none => simp only [ho, run_bad] at h; exact (h id id).bad.elim
    | some o =>
      simp only [ho] at h
      cases hs : noSel D.ops.toList with
      | false => simp only [hs, run_bad] at h; exact (h id id).bad.elim
      | true =>
      simp only [hs] at h
      cases hf : freeD D o i with
      | false => simp only [hf, run_bad] at h; exact (h id id).bad.elim
      | true =>
        simp only [hf] at h
        cases hg : gd D.ops x.tm o with
        | none => simp only [hg, run_bad] at h; exact (h id id).bad.elim
        | some b =>
          simp only [hg] at h
          have hwt := gd_wanted hF hg
          cases b with
          | false =>
            simp only at h
            refine Drawn.early hk hi hm hS ho hs hf (v := undef) (.inr ⟨hwt, rfl⟩) ?_
            exact ih (.dr (D.took i m) k { x with tm := putT x.nt x.tm o.dst undef }) h as _ w hW (hF.put o.dst undef) hw hS.took
          | true =>
            simp only at h
            cases h1 : isSelect o.op with
            | true => simp only [h1, run_bad] at h; exact (h id id).bad.elim
            | false =>
              simp only [h1] at h
              cases h2 : knowsAll x.tm o.op.operands.toList with
              | false => simp only [h2, run_bad] at h; exact (h id id).bad.elim
              | true =>
                simp only [h2] at h
                have hfg : ∀ r, sevR E.P (execOp (evalT x.tm) o) { x.s with hp := D.hb } = r → ∀ f g, sevR E.P (execOp (evalT x.tm) o) { x.s with hp := D.hb, f := f, g := g } = r.with f g := fun r hr f g => (sevR_fg E.P _ { x.s with hp := D.hb } f g).trans (congrArg (Out.with f g) hr)
                cases hs' : sevR E.P (execOp (evalT x.tm) o) { x.s with hp := D.hb } with
                | bad => simp only [hfg _ hs', Out.with, run_bad] at h; exact (h id id).bad.elim
                | panic v s1 => simp only [hfg _ hs', Out.with, run_bad] at h; exact (h id id).bad.elim
                | ok nx s1 =>
                  simp only [hfg _ hs', Out.with] at h
                  cases nx with
                  | value v =>
                    simp only at h
                    have he : s1.el = s1.er := (h id id).eq (s := { s1 with hp := x.s.hp, f := up E id, g := id }) rfl
                    refine Drawn.early hk hi hm hS ho hs hf (v := v) (.inl ⟨hwt, fun w' hS' => ?_⟩) ?_
                    · rw [exec_eq hF h1 h2]
                      exact (sevR_sound E.P _ { x.s with hp := D.hb } _ _ w' hS' hs').2.2 he
                    · exact ih (.dr (D.took i m) k { x with tm := putT x.nt x.tm o.dst v, s := { s1 with hp := x.s.hp } }) h as _ w hW (hF.put o.dst v) hw hS.took
                  | _ => simp only [run_bad] at h; exact (h id id).bad.elim
theorem Facts.drawn {E : Env} {hp : List (Option Blk)} {w : World} (h : Facts E hp w) (n : Nat) : Facts E hp { w with drawn := n } :=
  ⟨⟨h.fr.os, h.fr.tape, h.fr.output, h.fr.size, h.fr.block⟩, ⟨h.tr.blk, h.tr.ne⟩, ⟨h.ext.os, h.ext.tape, h.ext.output, h.ext.size, h.ext.block⟩, h.own⟩
theorem draw_sound {E : Env} {id_ : Nat} {ops : Array Oper} {k : List Item} {x : Sl} {n : Nat} (h : ∀ f g, Good E (run E.P n (drawN E.P ops k (x.with (up E f) g)))) (ih : Sound E n) : Leads E (.code (.region id_ ops true) :: k) x := by
  intro as a w hW hF hw
  simp only [drawN, Sl.with] at h
  cases hm : E.P.follows .mixedOrders with
  | false => simp only [hm, run_bad] at h; exact (h id id).bad.elim
  | true =>
    simp only [hm] at h
    cases hh : x.s.hs with
    | nil => simp only [hh, run_bad] at h; exact (h id id).bad.elim
    | cons c hs =>
      simp only [hh] at h
      have hw' := hw.drawn (w.drawn + 1)
      exact Way.draw hm (ih (.dr ⟨ops, ops.size, List.replicate ops.size false, takeN c hs, pickH x.s.hp (takeN c hs), none, relN (dropN c hs)⟩ k { x with s := { x.s with hs := dropN (c + 1) hs } }) h as a _ hW hF hw' (SH.pick hw'.tr.blk _))

theorem run_sound (E : Env) : ∀ n, Sound E n := by
  intro n
  induction n with
  | zero =>
    intro r h
    have h2 := (h id id).2
    cases r with
    | bad => exact h2
    | at_ todo x => exact h2
    | dr D k x => exact h2
  | succ n ih =>
    intro r h
    simp only [run_succ] at h
    cases r with
    | bad => simp only [Fin.with_, step1, run_bad] at h; exact (h id id).bad.elim
    | dr D k x =>
      simp only [Fin.with_, step1] at h
      cases hn : D.next with
      | nil =>
        simp only [hn] at h
        intro as a w hW hF hw hS
        exact Drawn.done hn hS (ih (.at_ k x) h as a w hW hF hw)
      | cons i r =>
        simp only [hn] at h
        cases r with
        | nil => simp only at h; exact only_sound hn h ih
        | cons j r =>
          simp only [Sl.with] at h
          cases hh : x.s.hs with
          | nil => simp only [hh, run_bad] at h; exact (h id id).bad.elim
          | cons i hs =>
            simp only [hh] at h
            exact early_sound (x := { x with s := { x.s with hs := hs } }) h ih
    | at_ todo x =>
      intro as a w hW hF hw
      simp only [Fin.with_] at h
      cases todo with
      | nil => exact Way.nil (leave_sound h ih hW hF hw)
      | cons it k =>
        cases it with
        | inRegion ops l =>
          cases l with
          | nil => exact Way.skip1 (fun cs => step_region_end) (ih (.at_ k x) h as a w hW hF hw)
          | cons i r =>
            simp only [step1, Sl.with] at h
            cases ho : ops[i]? with
            | none => simp only [ho] at h; exact Way.op_none ho (ih (.at_ _ x) h as a w hW hF hw)
            | some o =>
              simp only [ho] at h
              cases hg : gd ops x.tm o with
              | none => simp only [hg, run_bad] at h; exact (h id id).bad.elim
              | some b =>
                simp only [hg] at h
                cases b with
                | false => exact Way.op_skip ho (gd_wanted hF hg) (ih (.at_ _ { x with tm := putT x.nt x.tm o.dst undef }) h as _ w hW (hF.put o.dst undef) hw)
                | true => exact Way.op ho (gd_wanted hF hg) (op_sound (c := ⟨x.f, x.nt, ops, o.dst, r, k, x.tm, x.df, none⟩) ⟨rfl, rfl, rfl, rfl, rfl⟩ h ih hW hF hw)
        | code c =>
          cases c with
          | skip => exact Way.skip1 (fun cs => step_skip) (ih (.at_ k x) h as a w hW hF hw)
          | label l => exact Way.skip1 (fun cs => step_label) (ih (.at_ k x) h as a w hW hF hw)
          | seq c d => exact Way.skip1 (fun cs => step_seq) (ih (.at_ _ x) h as a w hW hF hw)
          | block id b => exact Way.skip1 (fun cs => step_block) (ih (.at_ _ x) h as a w hW hF hw)
          | scope b => exact Way.skip1 (fun cs => step_scope) (ih (.at_ _ x) h as a w hW hF hw)
          | loop b => exact Way.skip1 (fun cs => step_loop) (ih (.at_ _ x) h as a w hW hF hw)
          | exit id =>
            simp only [step1] at h
            cases he : exitTo id k with
            | none => simp only [he, run_bad] at h; exact (h _root_.id _root_.id).bad.elim
            | some k' => simp only [he] at h; exact Way.skip1 (fun cs => step_exit he) (ih (.at_ _ x) h as a w hW hF hw)
          | goto l =>
            simp only [step1] at h
            cases he : gotoIn l k with
            | none => simp only [he, run_bad] at h; exact (h id id).bad.elim
            | some k' => simp only [he] at h; exact Way.skip1 (fun cs => step_goto he) (ih (.at_ _ x) h as a w hW hF hw)
          | region id ops d =>
            cases d with
            | false => exact Way.skip1 (fun cs => step_region) (ih (.at_ _ x) h as a w hW hF hw)
            | true => exact draw_sound h ih as a w hW hF hw
          | cond z c d =>
            simp only [step1, Sl.with] at h
            cases hz : knows x.tm z with
            | false => simp only [hz, run_bad] at h; exact (h id id).bad.elim
            | true =>
              simp only [hz] at h
              have hev := evalT_eq hF hz
              cases hv : evalT x.tm z with
              | bool t =>
                simp only [hv] at h
                rw [hv] at hev
                cases t with
                | true => simp only at h; exact Way.skip1 (fun cs => step_cond hev) (ih (.at_ _ x) h as a w hW hF hw)
                | false => simp only at h; exact Way.skip1 (fun cs => step_cond hev) (ih (.at_ _ x) h as a w hW hF hw)
              | _ => simp only [hv, run_bad] at h; exact (h id id).bad.elim
          | ret => exact Way.ret (leave_sound h ih hW hF hw)
          | _ => simp only [step1, run_bad] at h; exact (h id id).bad.elim
        | inBlock id => exact Way.skip1 (fun cs => step_inBlock) (ih (.at_ k x) h as a w hW hF hw)
        | inScope b => exact Way.skip1 (fun cs => step_inScope) (ih (.at_ k x) h as a w hW hF hw)
        | inLoop b => exact Way.skip1 (fun cs => step_inLoop) (ih (.at_ _ x) h as a w hW hF hw)
        | _ => simp only [step1, run_bad] at h; exact (h id id).bad.elim

end Go.SX
