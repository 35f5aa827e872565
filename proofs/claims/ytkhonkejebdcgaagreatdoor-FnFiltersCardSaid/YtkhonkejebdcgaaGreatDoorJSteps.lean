/- A script over filters, in plain lists and in memory. Conditions: as each says. -/
import Derived.Test.YtkhonkejebdcgaaGreatDoorJBlk
import Derived.Test.YtkhonkejebdcgaaGreatDoorJText
import Derived.Test.YtkhonkejebdcgaaGreatDoorJWords
import Derived.Test.YtkhonkejebdcgaaGreatDoorJSimple
/- A script over filters, in plain lists: its steps, the rules behind each, its answers; when it is right. Conditions: none. -/
namespace Go.Proofs.YtkhonkejebdcgaaGreatDoor
open Go Go.SX
set_option maxHeartbeats 8000000
set_option maxRecDepth 100000
structure Step where
  op : Int
  ip : List UInt8
  mask : List UInt8
  act : Int
  addr : Comps
structure Ans where
  yes : Bool
  act : Int
  ips : List (List UInt8)
  masks : List (List UInt8)
def noAns : Ans := ⟨false, 0, [], []⟩
def nextR (L : List Rule) (s : Step) : List Rule :=
  if s.op = 0 then L ++ [⟨s.ip, s.mask, s.act⟩] else if s.op = 1 then (match findR s.ip s.mask L with | none => L | some j => L.eraseIdx j) else L
def nextD (d : Int) (s : Step) : Int := if s.op = 5 then s.act else d
def decides (d : Int) (L : List Rule) : Comps → Int
  | [] => d
  | p :: _ => if isIP p then lastAct d L p.2 else d
def actOf (L : List Rule) : Option Nat → Ans
  | none => noAns
  | some j => ⟨true, ((L[j]?).map Rule.act).getD 0, [], []⟩
def ansOf (d : Int) (L : List Rule) (s : Step) : Ans :=
  if s.op = 1 then ⟨(findR s.ip s.mask L).isSome, 0, [], []⟩
  else if s.op = 2 then ⟨decides d L s.addr == 2, 0, [], []⟩
  else if s.op = 3 then actOf L (findR s.ip s.mask L)
  else if s.op = 4 then ⟨false, 0, (L.filter (hasAct s.act)).map Rule.ip, (L.filter (hasAct s.act)).map Rule.mask⟩
  else noAns
def ansGo : Int → List Rule → List Step → List Ans
  | _, _, [] => []
  | d, L, s :: r => ansOf d L s :: ansGo (nextD d s) (nextR L s) r
theorem ansGo_snoc (d : Int) (L : List Rule) (a : List Step) (s : Step) : ansGo d L (a ++ [s]) = ansGo d L a ++ [ansOf (a.foldl nextD d) (a.foldl nextR L) s] := by
  induction a generalizing d L with
  | nil => rfl
  | cons x a ih => simp only [List.cons_append, ansGo, ih, List.foldl_cons]
theorem ansGo_length (d : Int) (L : List Rule) (a : List Step) : (ansGo d L a).length = a.length := by
  induction a generalizing d L with
  | nil => rfl
  | cons x a ih => simp only [ansGo, List.length_cons, ih]
def rulesAt (l : List Step) : List Rule := l.foldl nextR []
def actAt (l : List Step) : Int := l.foldl nextD 1
/-- What a script answers. -/
def answers (l : List Step) : List Ans := ansGo 1 [] l
theorem take_snoc {α : Type} {l : List α} {k : Nat} {s : α} (h : l[k]? = some s) : l.take (k + 1) = l.take k ++ [s] := by rw [List.take_add_one, h]; rfl
theorem rulesAt_next {l : List Step} {k : Nat} {s : Step} (h : l[k]? = some s) : rulesAt (l.take (k + 1)) = nextR (rulesAt (l.take k)) s := by
  rw [take_snoc h]; simp [rulesAt, List.foldl_append]
theorem actAt_next {l : List Step} {k : Nat} {s : Step} (h : l[k]? = some s) : actAt (l.take (k + 1)) = nextD (actAt (l.take k)) s := by
  rw [take_snoc h]; simp [actAt, List.foldl_append]
theorem answers_next {l : List Step} {k : Nat} {s : Step} (h : l[k]? = some s) : answers (l.take (k + 1)) = answers (l.take k) ++ [ansOf (actAt (l.take k)) (rulesAt (l.take k)) s] := by
  rw [take_snoc h]; exact ansGo_snoc 1 [] _ s
theorem answers_length (l : List Step) : (answers l).length = l.length := ansGo_length 1 [] l
theorem nextR_length (L : List Rule) (s : Step) : (nextR L s).length ≤ L.length + 1 := by
  unfold nextR
  split
  · simp
  · split
    · split
      · omega
      · have := List.length_eraseIdx_le (l := L) (i := by assumption); omega
    · omega
theorem rulesAt_length (l : List Step) : (rulesAt l).length ≤ l.length := by
  have key : ∀ (l : List Step) (L : List Rule), (l.foldl nextR L).length ≤ L.length + l.length := fun l => by
    induction l with
    | nil => intro L; simp
    | cons s l ih => intro L; have h1 := ih (nextR L s); have h2 := nextR_length L s; simp only [List.foldl_cons, List.length_cons]; omega
  have := key l []
  simp only [List.length_nil, Nat.zero_add] at this
  exact this
/-- A step is right by itself. -/
structure StepOk (s : Step) : Prop where
  act : 1 ≤ s.act ∧ s.act ≤ 2
  op : s.op = 0 ∨ s.op = 1 ∨ s.op = 2 ∨ s.op = 3 ∨ s.op = 4 ∨ s.op = 5
  net : s.op = 0 ∨ s.op = 1 ∨ s.op = 3 → Net s.ip s.mask
  addr : s.op = 2 → (1 ≤ s.addr.length ∧ s.addr.length ≤ 12 ∧ ∀ p ∈ s.addr, ∃ sz, SimpleC p.1 p.2 sz) ∧ Placed s.addr
/-- So is each step of the script, and no network is added that is there. -/
def OkTo (l : List Step) (k : Nat) : Prop := ∀ j s, j < k → l[j]? = some s → StepOk s ∧ (s.op = 0 → findR s.ip s.mask (rulesAt (l.take j)) = none)
theorem OkTo.snoc {l : List Step} {k : Nat} (h : OkTo l k) {s : Step} (hs : l[k]? = some s) (h1 : StepOk s) (h2 : s.op = 0 → findR s.ip s.mask (rulesAt (l.take k)) = none) : OkTo l (k + 1) := fun j x hj hx => by
  by_cases e : j = k
  · subst e; rw [hs] at hx; cases hx; exact ⟨h1, h2⟩
  · exact h j x (by omega) hx
/-- No network twice. -/
def Once (L : List Rule) : Prop := ∀ (i j : Nat) (a b : Rule), L[i]? = some a → L[j]? = some b → a.ip = b.ip → a.mask = b.mask → i = j
theorem isNet_iff {ip mask : List UInt8} {r : Rule} : isNet ip mask r = true ↔ r.ip = ip ∧ r.mask = mask := by simp [isNet]
theorem find_none {ip mask : List UInt8} {L : List Rule} : findR ip mask L = none ↔ ∀ r ∈ L, ¬(r.ip = ip ∧ r.mask = mask) := by
  unfold findR
  rw [List.findIdx?_eq_none_iff]
  constructor
  · intro h r hr; rw [← isNet_iff, h r hr]; simp
  · intro h r hr
    cases hx : isNet ip mask r with
    | false => rfl
    | true => exact absurd (isNet_iff.1 hx) (h r hr)
theorem find_some {ip mask : List UInt8} {L : List Rule} {j : Nat} (h : findR ip mask L = some j) : ∃ r, L[j]? = some r ∧ r.ip = ip ∧ r.mask = mask := by
  unfold findR at h
  rw [List.findIdx?_eq_some_iff_getElem] at h
  obtain ⟨hlt, h1, _⟩ := h
  obtain ⟨h2, h3⟩ := isNet_iff.1 h1
  exact ⟨L[j], by simp [hlt], h2, h3⟩
theorem once_next {L : List Rule} {s : Step} (h : Once L) (hn : s.op = 0 → findR s.ip s.mask L = none) : Once (nextR L s) := by
  unfold nextR
  split
  · rename_i h0
    have hno := find_none.1 (hn h0)
    intro i j a b ha hb e1 e2
    have hi := (List.getElem?_eq_some_iff.1 ha).1
    have hj := (List.getElem?_eq_some_iff.1 hb).1
    simp only [List.length_append, List.length_cons, List.length_nil] at hi hj
    by_cases hi1 : i < L.length
    · rw [List.getElem?_append_left hi1] at ha
      by_cases hj1 : j < L.length
      · rw [List.getElem?_append_left hj1] at hb; exact h i j a b ha hb e1 e2
      · have : j = L.length := by omega
        subst this
        simp at hb; subst hb
        exact absurd ⟨e1, e2⟩ (hno a (List.mem_of_getElem? ha))
    · have : i = L.length := by omega
      subst this
      simp at ha; subst ha
      by_cases hj1 : j < L.length
      · rw [List.getElem?_append_left hj1] at hb; exact absurd ⟨e1.symm, e2.symm⟩ (hno b (List.mem_of_getElem? hb))
      · omega
  · split
    · split
      · exact h
      · rename_i j _
        intro i k a b ha hb e1 e2
        rw [List.getElem?_eraseIdx] at ha hb
        by_cases hi : i < j <;> by_cases hk : k < j <;> simp only [hi, hk, if_true, if_false] at ha hb
        · exact h i k a b ha hb e1 e2
        · have := h i (k + 1) a b ha hb e1 e2; omega
        · have := h (i + 1) k a b ha hb e1 e2; omega
        · have := h (i + 1) (k + 1) a b ha hb e1 e2; omega
    · exact h
theorem once_at {l : List Step} {k : Nat} (h : OkTo l k) (hk : k ≤ l.length) : Once (rulesAt (l.take k)) := by
  induction k with
  | zero => intro i j a b ha; simp [rulesAt] at ha
  | succ k ih =>
    obtain ⟨s, hs⟩ : ∃ s, l[k]? = some s := ⟨l[k], by simp [show k < l.length by omega]⟩
    rw [rulesAt_next hs]
    exact once_next (ih (fun j x hj hx => h j x (by omega) hx) (by omega)) (h k s (by omega) hs).2
/-- Where the last of the first k rules that is this network stands. -/
theorem find_take {ip mask : List UInt8} {L : List Rule} {k : Nat} {r : Rule} (hr : L[k]? = some r) : findR ip mask (L.take (k + 1)) = if isNet ip mask r then (match findR ip mask (L.take k) with | none => some k | some j => some j) else findR ip mask (L.take k) := by
  have hk : (L.take k).length = k := by rw [List.length_take]; have := (List.getElem?_eq_some_iff.1 hr).1; omega
  rw [take_snoc hr]
  unfold findR
  rw [List.findIdx?_append, hk]
  cases h : (L.take k).findIdx? (isNet ip mask) with
  | some j => simp
  | none => cases hx : isNet ip mask r <;> simp [List.findIdx?_cons, hx]
theorem find_once {ip mask : List UInt8} {L : List Rule} (ho : Once L) {k : Nat} {r : Rule} (hr : L[k]? = some r) (hx : isNet ip mask r = true) : findR ip mask (L.take k) = none := by
  rw [find_none]
  intro x hm ⟨h1, h2⟩
  obtain ⟨h3, h4⟩ := isNet_iff.1 hx
  obtain ⟨j, hj⟩ := List.mem_iff_getElem?.1 hm
  have hjl := (List.getElem?_eq_some_iff.1 hj).1
  rw [List.length_take] at hjl
  rw [List.getElem?_take] at hj
  rw [if_pos (by omega)] at hj
  have := ho j k x r hj hr (by rw [h1, h3]) (by rw [h2, h4])
  omega
def atV (n : Int) : Option Nat → Int
  | none => n
  | some j => Int.ofNat j
/-- Where the first of the rules from k on that is this network stands. -/
theorem find_drop {ip mask : List UInt8} {L : List Rule} {k : Nat} {r : Rule} (hr : L[k]? = some r) (n : Int) :
    atV n ((findR ip mask (L.drop k)).map (· + k)) = if isNet ip mask r then Int.ofNat k else atV n ((findR ip mask (L.drop (k + 1))).map (· + (k + 1))) := by
  have : L.drop k = r :: L.drop (k + 1) := by
    have hlt := (List.getElem?_eq_some_iff.1 hr).1
    rw [List.drop_eq_getElem_cons hlt]
    rw [List.getElem?_eq_getElem hlt] at hr
    rw [Option.some.inj hr]
  rw [this]
  unfold findR
  rw [List.findIdx?_cons]
  cases hx : isNet ip mask r with
  | true => simp [atV]
  | false =>
    simp only [Bool.false_eq_true, if_false]
    cases (L.drop (k + 1)).findIdx? (isNet ip mask) with
    | none => rfl
    | some j => simp [atV]; omega
end Go.Proofs.YtkhonkejebdcgaaGreatDoor
/- What memory must hold where a Go value stands for a script, for a list of rules, for answers. Conditions: none. -/
namespace Go.Proofs.YtkhonkejebdcgaaGreatDoor
open Go Go.SX
set_option maxHeartbeats 8000000
set_option maxRecDepth 100000
/-- The cells of a step. -/
def stepCells (s : Step) (ai am aa : Option Addr) (ci cm ca : Nat) : List Value := [.int .i64 s.op, .slice ai s.ip.length ci, .slice am s.mask.length cm, .int .i64 s.act, .slice aa s.addr.length ca]
structure StepIn (w : World) (s : Step) (ai am aa : Option Addr) (ci cm : Nat) : Prop where
  bi : BytesIn w ai s.ip
  bm : BytesIn w am s.mask
  ci : s.ip.length ≤ ci
  cm : s.mask.length ≤ cm
  addr : CompsC w aa s.addr
theorem StepIn.later {w w' : World} {s : Step} {ai am aa : Option Addr} {ci cm : Nat} (h : StepIn w s ai am aa ci cm) (hx : Ext [] w w') : StepIn w' s ai am aa ci cm :=
  ⟨h.bi.later hx, h.bm.later hx, h.ci, h.cm, h.addr.later hx⟩
/-- A slice holds these steps. -/
structure StepsIn (w : World) (a : Option Addr) (l : List Step) : Prop where
  at_ : ∀ (j : Nat) (s : Step), l[j]? = some s → ∃ ad ai am aa ci cm ca, a = some ad ∧ ad.spot = none ∧ (∀ (i : Nat) (u : Value), (stepCells s ai am aa ci cm ca)[i]? = some u → w.cell? ((ad.add (j * 5)).add i) = some u) ∧ StepIn w s ai am aa ci cm
theorem StepsIn.later {w w' : World} {a : Option Addr} {l : List Step} (h : StepsIn w a l) (hx : Ext [] w w') : StepsIn w' a l :=
  ⟨fun j s hj => let ⟨ad, ai, am, aa, ci, cm, ca, h1, h2, h3, h4⟩ := h.at_ j s hj; ⟨ad, ai, am, aa, ci, cm, ca, h1, h2, fun i u hi => hx.cell (h3 i u hi) (by simp), h4.later hx⟩⟩
/-- The cells of a rule of the reference; what stands for its action is left open. -/
def ruleI (v : Rule → Value) (w : World) (r : Rule) (cs : List Value) : Prop := ∃ ai am ci cm, cs = [.slice ai r.ip.length ci, .slice am r.mask.length cm, v r] ∧ BytesIn w ai r.ip ∧ BytesIn w am r.mask
/-- The elements of a row stand for the elements of a list. -/
structure All2 {α : Type} (I : α → List Value → Prop) (css : List (List Value)) (L : List α) : Prop where
  len : css.length = L.length
  at_ : ∀ (j : Nat) (cs : List Value) (x : α), css[j]? = some cs → L[j]? = some x → I x cs
theorem All2.nil {α : Type} {I : α → List Value → Prop} : All2 I [] [] := ⟨rfl, fun j cs x h => by cases h⟩
theorem All2.snoc {α : Type} {I : α → List Value → Prop} {css : List (List Value)} {L : List α} (h : All2 I css L) {cs : List Value} {x : α} (hx : I x cs) : All2 I (css ++ [cs]) (L ++ [x]) := by
  refine ⟨by simp [h.len], fun j u y hu hy => ?_⟩
  by_cases hj : j < css.length
  · rw [List.getElem?_append_left hj] at hu
    rw [List.getElem?_append_left (by rw [← h.len]; exact hj)] at hy
    exact h.at_ j u y hu hy
  · have hj1 := (List.getElem?_eq_some_iff.1 hu).1
    simp only [List.length_append, List.length_cons, List.length_nil] at hj1
    have e : j = css.length := by omega
    subst e
    rw [List.getElem?_append_right (Nat.le_refl _), Nat.sub_self] at hu
    rw [h.len, List.getElem?_append_right (Nat.le_refl _), Nat.sub_self] at hy
    cases hu; cases hy; exact hx
theorem All2.one {α : Type} {I : α → List Value → Prop} {css : List (List Value)} {L : List α} (h : All2 I css L) (hI : ∀ x cs, I x cs → ∀ u ∈ cs, u.oneCell' = true) : ∀ cs ∈ css, ∀ u ∈ cs, u.oneCell' = true := fun cs hc => by
  obtain ⟨j, hj⟩ := List.mem_iff_getElem?.1 hc
  obtain ⟨x, hx⟩ : ∃ x, L[j]? = some x := ⟨L[j]'(by rw [← h.len]; exact (List.getElem?_eq_some_iff.1 hj).1), by simp [show j < L.length by rw [← h.len]; exact (List.getElem?_eq_some_iff.1 hj).1]⟩
  exact hI x cs (h.at_ j cs x hj hx)
theorem rule_one {v : Rule → Value} (hv : ∀ r, (v r).oneCell' = true) {w : World} (r : Rule) (cs : List Value) (h : ruleI v w r cs) : ∀ u ∈ cs, u.oneCell' = true := by
  obtain ⟨ai, am, ci, cm, rfl, _, _⟩ := h
  intro u hu
  simp only [List.mem_cons, List.not_mem_nil, or_false] at hu
  rcases hu with rfl | rfl | rfl
  · rfl
  · rfl
  · exact hv r
theorem All2.erase {α : Type} {I : α → List Value → Prop} {css : List (List Value)} {L : List α} (h : All2 I css L) (j : Nat) : All2 I (css.eraseIdx j) (L.eraseIdx j) := by
  refine ⟨by rw [List.length_eraseIdx, List.length_eraseIdx, h.len], fun i u y hu hy => ?_⟩
  rw [List.getElem?_eraseIdx] at hu hy
  by_cases hi : i < j <;> simp only [hi, if_true, if_false] at hu hy
  · exact h.at_ i u y hu hy
  · exact h.at_ (i + 1) u y hu hy
theorem All2.get {α : Type} {I : α → List Value → Prop} {css : List (List Value)} {L : List α} (h : All2 I css L) {j : Nat} {x : α} (hx : L[j]? = some x) : ∃ cs, css[j]? = some cs ∧ I x cs := by
  have hj : j < css.length := by rw [h.len]; exact (List.getElem?_eq_some_iff.1 hx).1
  exact ⟨css[j], by simp [hj], h.at_ j _ x (by simp [hj]) hx⟩
/-- A slice of texts, of bytes that lie in memory. -/
def textI (w : World) (t : List UInt8) (cs : List Value) : Prop := ∃ b cb, cs = [.slice b t.length cb] ∧ BytesIn w b t
structure TextsIn (w : World) (v : Value) (l : List (List UInt8)) : Prop where
  row : ∃ lo, RowsN (fun w => textI w) 1 30 lo w v l
end Go.Proofs.YtkhonkejebdcgaaGreatDoor
/- Simple addresses as addresses of the package: rows of the table. Conditions: as each says. -/
namespace Go.Proofs.YtkhonkejebdcgaaGreatDoor
open Go Go.SX
set_option maxHeartbeats 8000000
set_option maxRecDepth 100000
/-- A component whose row stands in the table. -/
def InTab (p : Row × List UInt8) : Prop := p.1 ∈ rows
theorem tab_has : (specSizes.all fun c => rows.any fun r => r.code == c.1) = true := by kernel_rfl
theorem tab_fine : (rows.all fun r => !(r.code == 0) && decide (r.vc.length ≤ 10)) = true := by kernel_rfl
theorem tab_ip : (rows.all fun r => (!(r.code == 4) || r.size == 32) && (!(r.code == 41) || r.size == 128)) = true := by kernel_rfl
theorem tab_tr : (rows.all fun r => (!(r.code == 4) || r.tr.isSome) && (!(r.code == 41) || r.tr.isSome)) = true := by kernel_rfl
theorem size_ip : (specSizes.all fun c => (!(c.1 == 4) || c.2 == 32) && (!(c.1 == 41) || c.2 == 128)) = true := by kernel_rfl
/-- An address of the package that a simple one stands for. -/
structure Stands (l : List (Row × List UInt8)) (x : List (Int × List UInt8)) : Prop where
  plain : plain l = x
  tab : ∀ p ∈ l, InTab p
  fine : ∀ p ∈ l, Fine p
theorem stands_one {c : Int} {val : List UInt8} {sz : Int} (h : SimpleC c val sz) (hv : val.length ≤ 1099511627776) : ∃ r, r ∈ rows ∧ r.code = c ∧ Fine (r, val) := by
  have h1 := List.all_eq_true.1 tab_has _ h.mem
  obtain ⟨r, hr, hc⟩ := List.any_eq_true.1 h1
  have hc : r.code = c := by simpa using hc
  have h2 := List.all_eq_true.1 tab_fine r hr
  simp only [Bool.and_eq_true, Bool.not_eq_true', decide_eq_true_eq] at h2
  exact ⟨r, hr, hc, ⟨coded_all r hr, h2.1, h2.2, hv⟩⟩
theorem stands_list (x : List (Int × List UInt8)) (h : ∀ p ∈ x, ∃ sz, SimpleC p.1 p.2 sz) (hv : ∀ p ∈ x, p.2.length ≤ 1099511627776) : ∃ l, Stands l x := by
  induction x with
  | nil => exact ⟨[], rfl, (fun _ h => by cases h), (fun _ h => by cases h)⟩
  | cons p x ih =>
    obtain ⟨sz, hs⟩ := h p (by simp)
    obtain ⟨r, hr, hc, hf⟩ := stands_one hs (hv p (by simp))
    obtain ⟨l, h1, h2, h3⟩ := ih (fun q hq => h q (by simp [hq])) (fun q hq => hv q (by simp [hq]))
    refine ⟨(r, p.2) :: l, ?_, fun q hq => ?_, fun q hq => ?_⟩
    · show (r.code, p.2) :: Go.Proofs.YtkhonkejebdcgaaGreatDoor.plain l = p :: x
      rw [h1, hc]
    · simp only [List.mem_cons] at hq
      rcases hq with rfl | hq
      · exact hr
      · exact h2 q hq
    · simp only [List.mem_cons] at hq
      rcases hq with rfl | hq
      · exact hf
      · exact h3 q hq
/-- An address of 32 or 128 bits: how the table and the reference measure it. -/
theorem ip_size {r : Row} {val : List UInt8} {sz : Int} (hr : r ∈ rows) (h : SimpleC r.code val sz) : (r.code = 4 → r.size = 32 ∧ val.length = 4) ∧ (r.code = 41 → r.size = 128 ∧ val.length = 16) := by
  have h1 := List.all_eq_true.1 tab_ip r hr
  have h2 := List.all_eq_true.1 size_ip _ h.mem
  simp only [Bool.and_eq_true, Bool.or_eq_true, Bool.not_eq_true', beq_eq_false_iff_ne, beq_iff_eq] at h1 h2
  constructor
  · intro hc
    have e1 : r.size = 32 := h1.1.resolve_left (by simp [hc])
    have e2 : sz = 32 := h2.1.resolve_left (by simp [hc])
    refine ⟨e1, ?_⟩
    have := (h.fixed (by omega)).1
    rw [e2] at this; exact this
  · intro hc
    have e1 : r.size = 128 := h1.2.resolve_left (by simp [hc])
    have e2 : sz = 128 := h2.2.resolve_left (by simp [hc])
    refine ⟨e1, ?_⟩
    have := (h.fixed (by omega)).1
    rw [e2] at this; exact this
end Go.Proofs.YtkhonkejebdcgaaGreatDoor
/- Whether an address is blocked, of the addresses that a right script has. Conditions: the list of filters lies in memory. -/
namespace Go.Proofs.YtkhonkejebdcgaaGreatDoor
open Go Go.SX
set_option maxHeartbeats 8000000
set_option maxRecDepth 100000
theorem Ext.wider {S : List Nat} {w w' : World} (h : Ext [] w w') : Ext S w w' := ⟨h.os, h.tape, h.output, h.size, fun k hk _ => h.block k hk (by simp)⟩
theorem addrBlocked (x : Comps) (l : List (Row × List UInt8)) (hS : Stands l x) (hx : 1 ≤ x.length ∧ x.length ≤ 12 ∧ ∀ p ∈ x, ∃ sz, SimpleC p.1 p.2 sz) (hP : Placed x) (va : Option Addr) (ca : Nat) (fb ab cap : Nat) (rest : List Value) (ts : List (Nat × Nat × Nat)) (d : Int) (L : List Rule) (w : World)
    (hF : FsAt w fb ab cap rest ts d L) (hL : L.length ≤ 1000) (hM : MIn w va l) :
    Calls Tryz.prog 18 #[.pointer (some ⟨fb, 0, none⟩), .slice va l.length ca] w (fun e w1 => ∃ v, e = .returned v ∧ Ext [fb] w w1 ∧ FsAt w1 fb ab cap rest ts d L ∧ v = .bool (decides d L x == 2)) := by
  cases l with
  | nil => have := hS.plain; subst this; simp [plain] at hx
  | cons p l =>
    obtain ⟨⟨name, code, size, path, tr, vc⟩, val⟩ := p
    have hx0 : x = (code, val) :: plain l := hS.plain.symm
    have hr : (⟨name, code, size, path, tr, vc⟩ : Row) ∈ rows := hS.tab _ (List.mem_cons_self ..)
    have hvc : vc.length ≤ 10 := (hS.fine _ (List.mem_cons_self ..)).vc
    obtain ⟨sz, hsz⟩ := hx.2.2 (code, val) (by rw [hx0]; simp)
    obtain ⟨h4, h41⟩ := ip_size hr hsz
    have htr := List.all_eq_true.1 tab_tr _ hr
    simp only [Bool.and_eq_true, Bool.or_eq_true, Bool.not_eq_true', beq_eq_false_iff_ne] at htr
    by_cases e4 : code = 4
    · obtain ⟨rfl, hv⟩ := h4 e4
      obtain ⟨⟨tt, tx⟩, rfl⟩ := Option.isSome_iff_exists.1 (htr.1.resolve_left (by simp [e4]))
      have hip : isIP (code, val) = true := by simp [isIP, e4]
      have hm : mapped val = false := (hP.1 0 (code, val) (by rw [hx0]; rfl) hip).2
      refine (blockedIpI4 name code path tt tx vc val l va ca fb ab cap rest ts d L w hF hL hM e4 hv hvc hm).mono fun e w1 ⟨v, h1, h2, h3, h5⟩ => ⟨v, h1, h2, h3, ?_⟩
      rw [h5, hx0]; simp only [decides, hip, if_true]
    by_cases e41 : code = 41
    · obtain ⟨rfl, hv⟩ := h41 e41
      obtain ⟨⟨tt, tx⟩, rfl⟩ := Option.isSome_iff_exists.1 (htr.2.resolve_left (by simp [e41]))
      have hip : isIP (code, val) = true := by simp [isIP, e41]
      have hm : mapped val = false := (hP.1 0 (code, val) (by rw [hx0]; rfl) hip).2
      refine (blockedIpI41 name code path tt tx vc val l va ca fb ab cap rest ts d L w hF hL hM e41 hv hvc hm).mono fun e w1 ⟨v, h1, h2, h3, h5⟩ => ⟨v, h1, h2, h3, ?_⟩
      rw [h5, hx0]; simp only [decides, hip, if_true]
    have hip : isIP (code, val) = false := by simp [isIP, e4, e41]
    have hno : anyOf x [4, 41, 42] = false := by
      rcases hP.2 with ⟨q, hq, hq1⟩ | h
      · rw [hx0] at hq; cases hq; rw [hip] at hq1; cases hq1
      · exact h
    have e42 : code ≠ 42 := fun e => by
      rw [hx0] at hno
      simp [anyOf, e] at hno
    have hres : decides d L x = d := by rw [hx0]; simp only [decides, hip]; rfl
    cases tr with
    | none =>
      refine (blockedNoN name code size path vc val l va ca fb ab cap rest ts d L w hF hM e4 e41 e42).mono fun e w1 ⟨v, h1, h2, h3⟩ => ⟨v, h1, Ext.wider h2, hF.later h2, ?_⟩
      rw [h3, hres]
    | some p =>
      obtain ⟨tt, tx⟩ := p
      refine (blockedNoI name code size path tt tx vc val l va ca fb ab cap rest ts d L w hF hM e4 e41 e42).mono fun e w1 ⟨v, h1, h2, h3⟩ => ⟨v, h1, Ext.wider h2, hF.later h2, ?_⟩
      rw [h3, hres]
end Go.Proofs.YtkhonkejebdcgaaGreatDoor
