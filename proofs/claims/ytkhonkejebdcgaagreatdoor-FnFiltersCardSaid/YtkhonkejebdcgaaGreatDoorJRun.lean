/- The package carries out a script: it answers as the plain lists do. Conditions: the script lies in memory and is right. -/
import Derived.Test.YtkhonkejebdcgaaGreatDoorJFine
import Derived.Test.YtkhonkejebdcgaaGreatDoorJSteps
/- The thin package carries out a script over the package's filters: it answers as the plain lists do. Conditions: the script is right and lies in memory. -/
namespace Go.Proofs.YtkhonkejebdcgaaGreatDoor
open Go Go.SX
set_option maxHeartbeats 8000000
set_option maxRecDepth 100000
/-- Bytes of one's own. -/
def OwnB (w : World) (b : Option Addr) (t : List UInt8) : Prop := ∃ g c z, b = some ⟨g, 0, none⟩ ∧ w.heap[g]? = some (.cells c 5 z) ∧ BytesIn w b t
structure FIx where
  ab : Nat
  cap : Nat
  rest : List Value
  ts : List (Nat × Nat × Nat)
theorem FsAt.fresh {w : World} {fb ab : Nat} (hne : fb ≠ ab) (h1 : w.heap[fb]? = some (.cells ⟨fsCells 1 (.slice (some ⟨ab, 0, none⟩) 0 0)⟩ 73 (0, 0))) (h2 : w.heap[ab]? = some (.cells ⟨[]⟩ 82 (0, 0))) : FsAt w fb ab 0 [] [] 1 [] :=
  ⟨h1, ⟨by rw [cellOfRow h1 7]; rfl, h2, ⟨rfl, fun j t r h => by cases h⟩, rfl, hne, (fun t h => by cases h), by simp [maxLen]⟩⟩
theorem FsAt.lt {w : World} {fb ab cap : Nat} {rest : List Value} {ts : List (Nat × Nat × Nat)} {d : Int} {L : List Rule} (h : FsAt w fb ab cap rest ts d L) : ∀ b, Foot fb ab ts b → b < w.heap.size := fun b hb => by
  rcases hb with rfl | rfl | ⟨t, ht, hb⟩
  · exact at_lt h.blk
  · exact at_lt h.ls.row
  · obtain ⟨j, hj⟩ := List.mem_iff_getElem?.1 ht
    obtain ⟨r, hr⟩ : ∃ r, L[j]? = some r := ⟨L[j]'(by rw [← h.ls.rules.len]; exact (List.getElem?_eq_some_iff.1 hj).1), by simp [show j < L.length by rw [← h.ls.rules.len]; exact (List.getElem?_eq_some_iff.1 hj).1]⟩
    obtain ⟨l1, l2, l3⟩ := (h.ls.rules.at_ j t r hj hr).lt
    rcases hb with rfl | rfl | rfl <;> assumption
theorem nums_of {Q : Nat → Prop} : ∀ {hp : List (Option Blk)}, (∀ j x, nth hp j = some x → Q x.b) → NumsAll Q (nums hp)
  | [], _ => trivial
  | none :: r, h => nums_of (hp := r) (fun j x hj => h (j + 1) x hj)
  | some b :: r, h => ⟨h 0 b rfl, nums_of (hp := r) (fun j x hj => h (j + 1) x hj)⟩
theorem numsAnd {Q R : Nat → Prop} : ∀ {l : List (Option Nat)}, NumsAll Q l → NumsAll R l → NumsAll (fun n => Q n ∧ R n) l
  | [], _, _ => trivial
  | none :: r, h, k => numsAnd (l := r) h k
  | some _ :: r, h, k => ⟨⟨h.1, k.1⟩, numsAnd (l := r) h.2 k.2⟩
theorem factsLt {E : Env} {hp : List (Option Blk)} {w : World} (hw : Facts E hp w) {l : List (Option Nat)} (hn : nums hp = l) : NumsAll (fun n => n < w.heap.size) l := hn ▸ nums_of fun j x hj => hw.lt hj
theorem foot_add {fb ab ab' pb gi gm n W : Nat} {ts : List (Nat × Nat × Nat)} (h : ¬ (Foot fb ab ts n ∨ n = gi ∨ n = gm)) (hn : n < W) (hab : ab' = ab ∨ W ≤ ab') (hpb : W ≤ pb) : ¬ Foot fb ab' (ts ++ [(pb, gi, gm)]) n := fun hf => by
  rcases hf with hf | hf | ⟨t, ht, hf⟩
  · exact h (.inl (.inl hf))
  · rcases hab with hab | hab
    · exact h (.inl (.inr (.inl (by rw [hf, hab]))))
    · omega
  · rcases List.mem_append.1 ht with ht | ht
    · exact h (.inl (.inr (.inr ⟨t, ht, hf⟩)))
    · simp only [List.mem_singleton] at ht
      subst ht
      rcases hf with hf | hf | hf
      · simp only at hf; omega
      · exact h (.inr (.inl hf))
      · exact h (.inr (.inr hf))
theorem foot_sub {fb ab ab' n W : Nat} {ts ts' : List (Nat × Nat × Nat)} (h : ¬ Foot fb ab ts n) (hn : n < W) (hab : ab' = ab ∨ W ≤ ab') (hts : ∀ t ∈ ts', t ∈ ts) : ¬ Foot fb ab' ts' n := fun hf => by
  rcases hf with hf | hf | ⟨t, ht, hf⟩
  · exact h (.inl hf)
  · rcases hab with hab | hab
    · exact h (.inr (.inl (by rw [hf, hab])))
    · omega
  · exact h (.inr (.inr ⟨t, hts t ht, hf⟩))
theorem FsAt.offF {w : World} {fb ab cap : Nat} {rest : List Value} {ts : List (Nat × Nat × Nat)} {d : Int} {L : List Rule} (h : FsAt w fb ab cap rest ts d L) : OffTy AnsTy w fb ∧ OffTy AnsTy w ab :=
  ⟨.inr ⟨_, _, _, h.blk, by unfold AnsTy; decide⟩, .inr ⟨_, _, _, h.ls.row, by unfold AnsTy; decide⟩⟩
theorem OwnB.kept {w w' : World} {b : Option Addr} {t : List UInt8} (h : OwnB w b t) (hk : KeptTy AnsTy w w') : OwnB w' b t := by
  obtain ⟨g, c, z, rfl, h1, h2⟩ := h
  have h1' := hk _ _ _ _ (.inr rfl) h1
  refine ⟨g, c, z, rfl, h1', h2.kept (Q := fun n => n = g) (fun n o hn ho => ?_) (fun ad e => by cases e; rfl)⟩
  subst hn; rw [h1'] ; rw [h1] at ho; exact ho
def U8 (t : TypeId) : Prop := t = 5
theorem OwnB.keptU {w w' : World} {b : Option Addr} {t : List UInt8} (h : OwnB w b t) (hk : KeptTy U8 w w') : OwnB w' b t := by
  obtain ⟨g, c, z, rfl, h1, h2⟩ := h
  have h1' := hk _ _ _ _ rfl h1
  refine ⟨g, c, z, rfl, h1', h2.kept (Q := fun n => n = g) (fun n o hn ho => ?_) (fun ad e => by cases e; rfl)⟩
  subst hn; rw [h1']; rw [h1] at ho; exact ho
theorem ownRow {w : World} {g : Nat} {l : List UInt8} {rest : List Value} (h : w.heap[g]? = some (.cells ⟨[] ++ ucells l ++ rest⟩ 5 (0, 0))) : OwnB w (some ⟨g, 0, none⟩) l := ⟨g, _, _, rfl, h, bytesOfRest (rest := rest) h⟩
theorem netsAt {l : List Step} {k : Nat} (h : OkTo l k) (hk : k ≤ l.length) : ∀ r ∈ rulesAt (l.take k), Net r.ip r.mask := by
  induction k with
  | zero => intro r hr; simp [rulesAt] at hr
  | succ k ih =>
    have ih := ih (fun j x hj hx => h j x (by omega) hx) (by omega)
    obtain ⟨s, hs⟩ : ∃ s, l[k]? = some s := ⟨l[k], by simp [show k < l.length by omega]⟩
    rw [rulesAt_next hs]
    intro r hr
    unfold nextR at hr
    split at hr
    · rename_i h0
      rcases List.mem_append.1 hr with hr | hr
      · exact ih r hr
      · simp only [List.mem_singleton] at hr; rw [hr]; exact (h k s (by omega) hs).1.net (.inl h0)
    · split at hr
      · split at hr
        · exact ih r hr
        · exact ih r (List.mem_of_mem_eraseIdx hr)
      · exact ih r hr
theorem acts_at {l : List Step} {k : Nat} (h : OkTo l k) (hk : k ≤ l.length) : ∀ r ∈ rulesAt (l.take k), 1 ≤ r.act ∧ r.act ≤ 2 := by
  induction k with
  | zero => intro r hr; simp [rulesAt] at hr
  | succ k ih =>
    have ih := ih (fun j x hj hx => h j x (by omega) hx) (by omega)
    obtain ⟨s, hs⟩ : ∃ s, l[k]? = some s := ⟨l[k], by simp [show k < l.length by omega]⟩
    rw [rulesAt_next hs]
    intro r hr
    unfold nextR at hr
    split at hr
    · rcases List.mem_append.1 hr with hr | hr
      · exact ih r hr
      · simp only [List.mem_singleton] at hr; rw [hr]; exact (h k s (by omega) hs).1.act
    · split at hr
      · split at hr
        · exact ih r hr
        · exact ih r (List.mem_of_mem_eraseIdx hr)
      · exact ih r hr
theorem wrap32 {n : Int} (h : 1 ≤ n ∧ n ≤ 2) : IntKind.i32.wrap n = n := by
  have h1 : n = 1 ∨ n = 2 := by omega
  rcases h1 with rfl | rfl <;> decide
theorem wrap64 {n : Int} (h : 1 ≤ n ∧ n ≤ 2) : IntKind.i64.wrap n = n := by
  have h1 : n = 1 ∨ n = 2 := by omega
  rcases h1 with rfl | rfl <;> decide
theorem LsAt.swap {w w' : World} {fb ab cap : Nat} {rest : List Value} {ts : List (Nat × Nat × Nat)} {L : List Rule} {l : List Value} (h : LsAt w fb ab cap rest ts L) (hk : Kept (fun b => b ≠ fb ∧ Foot fb ab ts b) w w')
    (hb : w'.heap[fb]? = some (.cells ⟨l⟩ 73 (0, 0))) (hl : l[7]? = some (.slice (some ⟨ab, 0, none⟩) L.length cap)) : LsAt w' fb ab cap rest ts L :=
  ⟨by rw [cellOfRow hb 7, hl], hk ab _ ⟨h.ne.symm, .inr (.inl rfl)⟩ h.row, h.rules.kept (hk.mono (fun b hb => ⟨fun e => by
    obtain ⟨t, ht, hbt⟩ := hb
    obtain ⟨⟨a1, _⟩, ⟨a2, _⟩, ⟨a3, _⟩⟩ := h.apart t ht
    rcases hbt with hbt | hbt | hbt <;> rw [hbt] at e
    · exact a1 e
    · exact a2 e
    · exact a3 e, .inr (.inr hb)⟩)), h.cap_, h.ne, h.apart, h.max⟩
theorem numsHead {Q : Nat → Prop} {o : Option Nat} {r : List (Option Nat)} (h : NumsAll Q (o :: r)) : ∀ n, o = some n → Q n := fun n e => by subst e; exact h.1
theorem numsTail {Q : Nat → Prop} {o : Option Nat} {r : List (Option Nat)} (h : NumsAll Q (o :: r)) : NumsAll Q r := by
  cases o with
  | none => exact h
  | some n => exact h.2
theorem heldS {E : Env} {r : Fin} {S : List Nat} (h : r.heldC = []) : ∀ w, Facts E r.hp w → ∀ i x, nth r.heldC i = some x → x.b ∉ S := fun _ _ i x hx => by rw [h] at hx; cases i <;> cases hx
theorem foot_S {fb ab n : Nat} {ts : List (Nat × Nat × Nat)} (h : ¬ Foot fb ab ts n) : n ∉ [fb, ab] := fun hm => by
  simp only [List.mem_cons, List.not_mem_nil, or_false] at hm
  rcases hm with hm | hm
  · exact h (.inl hm)
  · exact h (.inr (.inl hm))
theorem blkAll {E : Env} {hp HP : List (Option Blk)} {w : World} (hw : Facts E hp w) (he : hp = HP) : ∀ j x, nth HP j = some x → w.heap[x.b]? = some x.o := fun j x hj => by subst he; exact hw.tr.blk j x hj
/-- Where the known blocks are as they were, nothing has changed. -/
theorem frAll {E : Env} {hp HP : List (Option Blk)} {w : World} (hw : Facts E hp w) (he : hp = HP) (h0 : ∀ j x, nth HP j = some x → E.w0.heap[x.b]? = some x.o) : Ext [] E.w0 w := by
  subst he
  refine ⟨hw.fr.os, hw.fr.tape, hw.fr.output, hw.fr.size, fun k hk _ => ?_⟩
  by_cases h : ∃ j x, nth hp j = some x ∧ x.b = k
  · obtain ⟨j, x, hj, rfl⟩ := h
    rw [hw.tr.blk j x hj, h0 j x hj]
  · exact hw.fr.block k hk (fun j x hj _ e => h ⟨j, x, hj, e⟩)
/-- The elements of the list, as a slice that holds them: where they lie. -/
theorem rowsOut {I : Rule → List Value → Prop} {lo : Nat} {w : World} {v : Value} {L : List Rule} (h : RowsN (fun _ => I) 2 46 lo w v L) : ∃ va vc, v = .slice va L.length vc ∧
    ∀ (j : Nat) (r : Rule), L[j]? = some r → ∃ g cs, va = some ⟨g, 0, none⟩ ∧ lo ≤ g ∧ g < w.heap.size ∧ I r cs ∧ ∀ i u, cs[i]? = some u → w.cell? (((⟨g, 0, none⟩ : Addr).add (j * 2)).add i) = some u := by
  rcases h with ⟨rfl, rfl⟩ | ⟨g, c, rest, css, rfl, hR⟩
  · exact ⟨none, 0, rfl, fun j r hj => by cases hj⟩
  · refine ⟨_, c, rfl, fun j r hj => ?_⟩
    obtain ⟨cs, _, h2, h3⟩ := hR.get hj
    exact ⟨g, cs, rfl, hR.lo, at_lt hR.blk, h2, fun i u hu => by rw [add_add rfl]; exact h3 i u hu⟩
abbrev RunPost (l : List Step) (w : World) (e : Ending) (w1 : World) : Prop := ∃ v, e = .returned v ∧ Ext [] w w1 ∧ ∃ a n c, v = .slice a n c ∧ AnswersT OwnB w1 a n c (answers l)
theorem filterRun (hu : UvTo) (l : List Step) (a : Option Addr) (cap : Nat) (w : World) (ht : Tab w) (hin : StepsIn w a l) (hlen : l.length ≤ 60) (hs : ∀ s ∈ l, StepLen s) (hok : OkTo l l.length) :
    Calls Tryz.prog 7 #[.slice a l.length cap] w (RunPost l w) := by
  refine calls_of0 (args := [.slice a l.length cap]) Tryz.func7 rfl rfl rfl ?_
  refine To.runF 6 [] (fun _ _ => by kernel_rfl) fun f1 g1 l1 => ?_
  refine To.callN 14 #[] (by kernel_rfl) (fun _ => by kernel_rfl) (fun w2 hw2 => newFilters w2) (fun w2 v2 w3 hw2 hx2 hv2 hnew2 hwi2 => ?_)
  obtain ⟨fb, ab0, rfl, hfa, hfb2, hab2, hfbk, habk⟩ := hv2
  have hF0 : FsAt w3 fb ab0 0 [] [] 1 [] := FsAt.fresh hfa hfbk habk
  have hfbw : w.heap.size ≤ fb := Nat.le_trans hwi2 hfb2
  have habw : w.heap.size ≤ ab0 := Nat.le_trans hwi2 hab2
  refine To.runF 14 [] (fun _ _ => by kernel_rfl) fun f2 g2 l2 => ?_
  refine To.loop (fun i : Nat × OR × FIx => l.length - i.1) (fun i => ([(0, .slice a l.length cap), (3, .pointer (some ⟨fb, 0, none⟩)), (4, .slice i.2.1.a i.2.1.n i.2.1.c), (14, .slice a l.length cap), (15, .int .i64 (Int.ofNat l.length)), (16, .int .i64 (Int.ofNat i.1))], [i.2.1.ob]))
    (fun i w1 => i.1 ≤ l.length ∧ FsAt w1 fb i.2.2.ab i.2.2.cap i.2.2.rest i.2.2.ts (actAt (l.take i.1)) (rulesAt (l.take i.1)) ∧ w.heap.size ≤ i.2.2.ab ∧ (∀ t ∈ i.2.2.ts, w.heap.size ≤ t.1) ∧
      ORow 4 29 i.2.1.a i.2.1.n i.2.1.c i.2.1.ob i.2.1.css ∧ OTrue i.2.1.ob w1 ∧ All2 (AnsT OwnB w1) i.2.1.css (answers (l.take i.1)) ∧ (∀ n, numO i.2.1.ob = some n → ¬ Foot fb i.2.2.ab i.2.2.ts n)) (0, OR.none, ⟨ab0, 0, [], []⟩) [0] (by kernel_rfl) (by kernel_rfl) (by kernel_rfl) rfl
    (fun w4 hw4 => ⟨Nat.zero_le _, hF0.later (frx hw4.fr (by kernel_rfl)), habw, (fun t h => by cases h), ORow.nil _ _, OTrue.none w4, All2.nil, fun n h => by cases h⟩) ?_
  rintro ⟨k, ⟨oa, on, oc, oob, ocss⟩, ⟨ab, fcap, frest, ts⟩⟩ w4 ⟨hk, hF, habw, htsw, hP, hPT, hQ, hcl⟩ hx4 back
  simp only at hk hF habw htsw hP hPT hQ hcl
  refine To.runF 5 [] (fun _ _ => by kernel_rfl) fun f3 g3 l3 => ?_
  by_cases hlt : k < l.length
  · obtain ⟨s, hsk⟩ : ∃ s, l[k]? = some s := ⟨l[k], by simp [hlt]⟩
    obtain ⟨ad, ai, am, aa, ci, cm, ca, had, hsp, hcs, hI⟩ := hin.at_ k s hsk
    have hL := hs s (List.mem_of_getElem? hsk)
    refine To.testT (decide (Int.ofNat k < Int.ofNat l.length)) (by kernel_rfl) (decide_eq_true (Int.ofNat_lt.2 hlt)) ?_
    refine To.runF 5 [] (fun _ _ => by kernel_rfl) fun f4 g4 l4 => ?_
    refine To.indexAt elSt a ad l.length cap k (by kernel_rfl) had hlt ?_
    refine To.loadAgg (t := 33) (by kernel_rfl) 5 (by kernel_rfl) (ad.add (k * 5)) (stepCells s ai am aa ci cm ca) rfl (by kernel_rfl) (fun w5 hw5 j u hj => hw5.ext.cell (hcs j u hj) (by simp)) ?_
    refine To.runF 9 [1, 1, 1, 1, 1, 1, 1] (fun _ _ => by kernel_rfl) fun f5 g5 l5 => ?_
    refine To.callN 15 #[.slice ai s.ip.length ci, .slice am s.mask.length cm] (by kernel_rfl) (fun _ => by kernel_rfl) (fun w5 hw5 => ipNet s.ip s.mask ai am ci cm w5 (hI.bi.later hw5.ext) (hI.bm.later hw5.ext) hL.1 hL.2.1) (fun w5 v5 w6 hw5 hx5 hv5 hnew5 hwi5 => ?_)
    obtain ⟨gi, gm, ci', cm', rfl, hgne, hgi, hgm, hci, hcm, hbi, hbm⟩ := hv5
    have hSt := hok k s hlt hsk
    have offo := hP.off (T := AnsTy) hPT (by unfold AnsTy; decide)
    obtain ⟨offf, offa⟩ := hF.offF
    have L6 := ((Later.refl AnsTy w4).fr (l := [numO oob, some (f5 0)]) hw5.fr (by kernel_rfl) (numsCons offo ⟨.inl (l5 0), trivial⟩)).ext hx5
    have hnF : ∀ n, w4.heap.size ≤ n → ¬ Foot fb ab ts n := fun n hn hf => absurd (hF.lt n hf) (by omega)
    have hs5 : w4.heap.size ≤ w5.heap.size := hw5.fr.size
    have hs6 : w5.heap.size ≤ w6.heap.size := hx5.size
    have hF6 : FsAt w6 fb ab fcap frest ts (actAt (l.take k)) (rulesAt (l.take k)) := (hF.kept (hw5.fr.kept (l := [numO oob, some (f5 0)]) (by kernel_rfl) (numsCons (fun n h hq => hcl n h hq) ⟨fun hq => hnF _ (l5 0) hq, trivial⟩))).later hx5
    have hon : ∀ n, numO oob = some n → n < w4.heap.size := fun n h => by
      rcases hP.is with ⟨_, _, _, rfl, _⟩ | ⟨g, rest, _, rfl, _⟩
      · cases h
      · cases h; exact at_lt (hPT _ rfl)
    have hf5 : f5 0 < w5.heap.size := hw5.lt (j := 1) (b := ⟨f5 0, .cells ⟨stepCells s ai am aa ci cm ca⟩ 33 (0, 0), true⟩) (by kernel_rfl)
    refine To.runF 19 [2, 2, 1] (fun _ _ => by kernel_rfl) fun f6 g6 l6 => ?_
    have hLl : (rulesAt (l.take k)).length ≤ 1000 := by have := rulesAt_length (l.take k); rw [List.length_take] at this; omega
    have hapg : (gi ≠ fb ∧ gi ≠ ab) ∧ (gm ≠ fb ∧ gm ≠ ab) := by
      have h1 := hF.lt fb (.inl rfl); have h2 := hF.lt ab (.inr (.inl rfl))
      exact ⟨⟨by omega, by omega⟩, by omega, by omega⟩
    have offx : NumsAll (OffTy AnsTy w4) [numO oob, some (f5 0), some (f6 0), some (f6 1)] := numsCons offo ⟨.inl (l5 0), L6.new (l6 0), L6.new (l6 1), trivial⟩
    have clx : NumsAll (fun n => ¬ Foot fb ab ts n) [numO oob, some (f5 0), some (f6 0), some (f6 1)] := numsCons (fun n h => hcl n h) ⟨hnF _ (l5 0), hnF _ (Nat.le_trans L6.size (l6 0)), hnF _ (Nat.le_trans L6.size (l6 1)), trivial⟩
    have clg : gi < w6.heap.size → gm < w6.heap.size → NumsAll (fun n => ¬ (Foot fb ab ts n ∨ n = gi ∨ n = gm)) [numO oob, some (f5 0), some (f6 0), some (f6 1)] := fun h1 h2 => by
      have k0 : w6.heap.size ≤ f6 0 := l6 0
      have k1 : w6.heap.size ≤ f6 1 := l6 1
      have k5 : w4.heap.size ≤ f5 0 := l5 0
      refine numsCons (fun n h => ?_) ⟨?_, ?_, ?_, trivial⟩
      · have := hon n h
        rintro (h | h | h)
        · exact hcl n ‹_› h
        · omega
        · omega
      all_goals (rintro (h | h | h) <;> first | exact hnF _ (by omega) h | omega)
    have offS : ∀ b ∈ [fb, ab], OffTy AnsTy w4 b := fun b hb => by
      simp only [List.mem_cons, List.not_mem_nil, or_false] at hb
      rcases hb with rfl | rfl
      · exact offf
      · exact offa
    have ownS : ∀ b ∈ [fb, ab], w.heap.size ≤ b ∨ b ∈ ([] : List Nat) := fun b hb => by
      simp only [List.mem_cons, List.not_mem_nil, or_false] at hb
      rcases hb with rfl | rfl
      · exact .inl hfbw
      · exact .inl habw
    have hd1 : ∀ {x : Int}, s.op = x → x ≠ 5 → actAt (l.take (k + 1)) = actAt (l.take k) := fun h h5 => by rw [actAt_next hsk]; unfold nextD; rw [if_neg (by rw [h]; exact h5)]
    have hr1 : ∀ {x : Int}, s.op = x → x ≠ 0 → x ≠ 1 → rulesAt (l.take (k + 1)) = rulesAt (l.take k) := fun h h0 h1 => by rw [rulesAt_next hsk]; unfold nextR; rw [if_neg (by rw [h]; exact h0), if_neg (by rw [h]; exact h1)]
    have hX0 : ∀ (w9 : World) (y : Bool) (z : Int) (x : Ans), x = ⟨y, z, [], []⟩ → AnsT OwnB w9 x [.bool y, .int .i64 z, .slice none 0 0, .slice none 0 0] := fun w9 y z x hx => by subst hx; exact ⟨none, 0, 0, none, 0, 0, rfl, TextsT.nil _ _, TextsT.nil _ _⟩
    have hx6 : ∀ {E : Env} {hp : List (Option Blk)} {w9 : World} (cs : List Value), Facts E hp w9 → nth hp 3 = some ⟨f6 1, .cells ⟨cs⟩ 29 (0, 0), true⟩ → ∃ c, w9.heap[f6 1]? = some (.cells c 29 (0, 0)) := fun cs hw9 h => ⟨_, hw9.blk h⟩
    refine To.meet 2 (ι := FIx × Bool × Int × (Option Addr × Nat × Nat) × (Option Addr × Nat × Nat)) (fun i => ([(0, .slice a l.length cap), (3, .pointer (some ⟨fb, 0, none⟩)), (4, .slice oa on oc), (8, .pointer (some ⟨f6 1, 0, none⟩)), (14, .slice a l.length cap), (15, .int .i64 (Int.ofNat l.length)), (16, .int .i64 (Int.ofNat k))],
        [oob, some ⟨f6 1, .cells ⟨[.bool i.2.1, .int .i64 i.2.2.1, .slice i.2.2.2.1.1 i.2.2.2.1.2.1 i.2.2.2.1.2.2, .slice i.2.2.2.2.1 i.2.2.2.2.2.1 i.2.2.2.2.2.2]⟩ 29 (0, 0), true⟩]))
      (fun i w8 => Later AnsTy w4 w8 ∧ FsAt w8 fb i.1.ab i.1.cap i.1.rest i.1.ts (actAt (l.take (k + 1))) (rulesAt (l.take (k + 1))) ∧ w.heap.size ≤ i.1.ab ∧ (∀ t ∈ i.1.ts, w.heap.size ≤ t.1) ∧ OTrue oob w8 ∧ (∃ c, w8.heap[f6 1]? = some (.cells c 29 (0, 0))) ∧
        AnsT OwnB w8 (ansOf (actAt (l.take k)) (rulesAt (l.take k)) s) [.bool i.2.1, .int .i64 i.2.2.1, .slice i.2.2.2.1.1 i.2.2.2.1.2.1 i.2.2.2.1.2.2, .slice i.2.2.2.2.1 i.2.2.2.2.2.1 i.2.2.2.2.2.2] ∧
        (∀ n, numO oob = some n → ¬ Foot fb i.1.ab i.1.ts n) ∧ ¬ Foot fb i.1.ab i.1.ts (f6 1)) (fun join => ?_) (fun i w8 hi8 hx8 => ?_)
    · refine To.test (s.op == 0) (by kernel_rfl) (fun c0 => ?_) (fun c0 => ?_)
      · have c0' : s.op = 0 := by simpa using c0
        refine To.runF 6 [2, 2, 1] (fun _ _ => by kernel_rfl) fun f7 g7 l7 => ?_
        have hnet := hSt.1.net (.inl c0')
        have hgl : gi < w6.heap.size := bytes_lt hbi hnet.pos.1
        have hml : gm < w6.heap.size := bytes_lt hbm hnet.pos.2
        refine To.slotE 33 (.int .i32 (IntKind.i32.wrap s.act)) (.int .i32 s.act) (by kernel_rfl) (by rw [wrap32 hSt.1.act]) ?_
        refine To.callS 16 #[.pointer (some ⟨fb, 0, none⟩), .agg #[.slice (some ⟨gi, 0, none⟩) s.ip.length ci', .slice (some ⟨gm, 0, none⟩) s.mask.length cm'], .int .i32 s.act] [fb, ab] []
          (Φ := fun w v w1 => ∃ ab' cap' rest' pb, FsAt w1 fb ab' cap' rest' (ts ++ [(pb, gi, gm)]) (actAt (l.take k)) (rulesAt (l.take k) ++ [⟨s.ip, s.mask, s.act⟩]) ∧ (ab' = ab ∨ w.heap.size ≤ ab') ∧ w.heap.size ≤ pb)
          (by kernel_rfl) (fun _ => by kernel_rfl) (fun w7 hw7 => addFilter s.ip s.mask s.act gi gm ci' cm' fb ab fcap frest ts _ _ w7 (ht.later hw7.ext) (hF6.kept (Fr.kept (Q := Foot fb ab ts) hw7.fr (by kernel_rfl) clx)) hLl hnet
            (hbi.kept (Fr.kept (Q := fun n => Foot fb ab ts n ∨ n = gi ∨ n = gm) hw7.fr (by kernel_rfl) (clg hgl hml)) (fun ad e => by cases e; exact .inr (.inl rfl)))
            (hbm.kept (Fr.kept (Q := fun n => Foot fb ab ts n ∨ n = gi ∨ n = gm) hw7.fr (by kernel_rfl) (clg hgl hml)) (fun ad e => by cases e; exact .inr (.inr rfl))) hci hcm hgne hapg (hSt.2 c0') ⟨ht.off hfbw, ht.off habw⟩)
          (fun w7 hw7 i x hx => foot_S (nums_all (l := [numO oob, some (f5 0), some (f6 0), some (f6 1)]) (by kernel_rfl) clx i x hx)) (fun _ _ => ownS) (heldS (by kernel_rfl)) (fun w7 v7 w8 hw7 hx7 hv7 => ?_)
        obtain ⟨ab', cap', rest', pb, hF8, hab', hpb⟩ := hv7
        have L8 := (L6.fr (l := [numO oob, some (f5 0), some (f6 0), some (f6 1)]) hw7.fr (by kernel_rfl) offx).extS hx7 offS
        have cl8 : NumsAll (fun n => ¬ Foot fb ab' (ts ++ [(pb, gi, gm)]) n) [numO oob, some (f5 0), some (f6 0), some (f6 1)] := numsMono (fun n h => foot_add h.1 h.2 hab' hpb) (numsAnd (clg hgl hml) (factsLt hw7 (by kernel_rfl)))
        have hwab : w.heap.size ≤ ab' := by
          rcases hab' with h | h
          · rw [h]; exact habw
          · exact Nat.le_trans hw7.ext.size h
        have hwts : ∀ t ∈ ts ++ [(pb, gi, gm)], w.heap.size ≤ t.1 := fun t htm => by
          rcases List.mem_append.1 htm with h | h
          · exact htsw t h
          · simp only [List.mem_singleton] at h; rw [h]; exact Nat.le_trans hw7.ext.size hpb
        refine To.runF 2 [] (fun _ _ => by kernel_rfl) fun f8 g8 l8 => ?_
        have hne : rulesAt (l.take (k + 1)) = rulesAt (l.take k) ++ [⟨s.ip, s.mask, s.act⟩] := by rw [rulesAt_next hsk]; unfold nextR; rw [if_pos c0']
        exact join _ _ (⟨ab', cap', rest', ts ++ [(pb, gi, gm)]⟩, false, 0, (none, 0, 0), (none, 0, 0)) [0, 3] ⟨by kernel_rfl, by kernel_rfl, by kernel_rfl, by kernel_rfl, by kernel_rfl, rfl⟩
          (fun w9 hw9 => ⟨L8.fr (l := [numO oob, some (f5 0), some (f6 0), some (f6 1)]) hw9.fr (by kernel_rfl) offx, by rw [hd1 c0' (by decide), hne]; exact hF8.kept (Fr.kept (Q := Foot fb ab' (ts ++ [(pb, gi, gm)])) hw9.fr (by kernel_rfl) cl8), hwab, hwts, OTrue.of hw9 (j := 0) (by kernel_rfl),
            hx6 [.bool false, .int .i64 0, .slice none 0 0, .slice none 0 0] hw9 (by kernel_rfl), hX0 w9 _ _ _ (by unfold ansOf; rw [c0']; rfl), numsHead cl8, (numsTail cl8).2.2.1⟩)
      refine To.runF 5 [] (fun _ _ => by kernel_rfl) fun f7 g7 l7 => ?_
      refine To.test (s.op == 1) (by kernel_rfl) (fun c1 => ?_) (fun c1 => ?_)
      · have c1' : s.op = 1 := by simpa using c1
        refine To.runF 3 [2, 2] (fun _ _ => by kernel_rfl) fun f8 g8 l8 => ?_
        have hnet := hSt.1.net (.inr (.inl c1'))
        have hgl : gi < w6.heap.size := bytes_lt hbi hnet.pos.1
        have hml : gm < w6.heap.size := bytes_lt hbm hnet.pos.2
        refine To.callS 17 #[.pointer (some ⟨fb, 0, none⟩), .agg #[.slice (some ⟨gi, 0, none⟩) s.ip.length ci', .slice (some ⟨gm, 0, none⟩) s.mask.length cm']] [fb, ab] []
          (Φ := fun w v w1 => v = .bool (findR s.ip s.mask (rulesAt (l.take k))).isSome ∧ ∃ ab' cap' rest' ts' L', FsAt w1 fb ab' cap' rest' ts' (actAt (l.take k)) L' ∧ (ab' = ab ∨ w.heap.size ≤ ab') ∧ L' = (match findR s.ip s.mask (rulesAt (l.take k)) with | none => rulesAt (l.take k) | some j => (rulesAt (l.take k)).eraseIdx j) ∧ ts' = (match findR s.ip s.mask (rulesAt (l.take k)) with | none => ts | some j => ts.eraseIdx j))
          (by kernel_rfl) (fun _ => by kernel_rfl) (fun w7 hw7 => removeLiteral s.ip s.mask gi gm ci' cm' fb ab fcap frest ts _ _ w7 (ht.later hw7.ext) (hF6.kept (Fr.kept (Q := Foot fb ab ts) hw7.fr (by kernel_rfl) clx)) hLl hnet
            (hbi.kept (Fr.kept (Q := fun n => Foot fb ab ts n ∨ n = gi ∨ n = gm) hw7.fr (by kernel_rfl) (clg hgl hml)) (fun ad e => by cases e; exact .inr (.inl rfl)))
            (hbm.kept (Fr.kept (Q := fun n => Foot fb ab ts n ∨ n = gi ∨ n = gm) hw7.fr (by kernel_rfl) (clg hgl hml)) (fun ad e => by cases e; exact .inr (.inr rfl))) hci hcm hgne hapg ⟨ht.off hfbw, ht.off habw⟩)
          (fun w7 hw7 i x hx => foot_S (nums_all (l := [numO oob, some (f5 0), some (f6 0), some (f6 1)]) (by kernel_rfl) clx i x hx)) (fun _ _ => ownS) (heldS (by kernel_rfl)) (fun w7 v7 w8 hw7 hx7 hv7 => ?_)
        obtain ⟨rfl, ab', cap', rest', ts', L', hF8, hab', hL', hts'⟩ := hv7
        have hsub : ∀ t ∈ ts', t ∈ ts := fun t htm => by
          rw [hts'] at htm
          rcases noneOr (findR s.ip s.mask (rulesAt (l.take k))) with hf | ⟨j, hf⟩ <;> rw [hf] at htm
          · exact htm
          · exact List.mem_of_mem_eraseIdx htm
        have L8 := (L6.fr (l := [numO oob, some (f5 0), some (f6 0), some (f6 1)]) hw7.fr (by kernel_rfl) offx).extS hx7 offS
        have cl8 : NumsAll (fun n => ¬ Foot fb ab' ts' n) [numO oob, some (f5 0), some (f6 0), some (f6 1)] := numsMono (fun n h => foot_sub h.1 h.2 hab' hsub) (numsAnd clx (factsLt hw7 (by kernel_rfl)))
        have hwab : w.heap.size ≤ ab' := by
          rcases hab' with h | h
          · rw [h]; exact habw
          · exact Nat.le_trans hw7.ext.size h
        refine To.runF 4 [3] (fun _ _ => by kernel_rfl) fun f9 g9 l9 => ?_
        have hne : rulesAt (l.take (k + 1)) = L' := by rw [rulesAt_next hsk, hL']; unfold nextR; rw [if_neg (by rw [c1']; decide), if_pos c1']; rfl
        exact join _ _ (⟨ab', cap', rest', ts'⟩, (findR s.ip s.mask (rulesAt (l.take k))).isSome, 0, (none, 0, 0), (none, 0, 0)) [0, 3] ⟨by kernel_rfl, by kernel_rfl, by kernel_rfl, by kernel_rfl, by kernel_rfl, rfl⟩
          (fun w9 hw9 => ⟨L8.fr (l := [numO oob, some (f5 0), some (f6 0), some (f6 1)]) hw9.fr (by kernel_rfl) offx, by rw [hd1 c1' (by decide), hne]; exact hF8.kept (Fr.kept (Q := Foot fb ab' ts') hw9.fr (by kernel_rfl) cl8), hwab, fun t h => htsw t (hsub t h), OTrue.of hw9 (j := 0) (by kernel_rfl),
            hx6 [.bool (findR s.ip s.mask (rulesAt (l.take k))).isSome, .int .i64 0, .slice none 0 0, .slice none 0 0] hw9 (by kernel_rfl), hX0 w9 _ _ _ (by unfold ansOf; rw [if_pos c1']), numsHead cl8, (numsTail cl8).2.2.1⟩)
      refine To.runF 5 [] (fun _ _ => by kernel_rfl) fun f8 g8 l8 => ?_
      refine To.test (s.op == 2) (by kernel_rfl) (fun c2 => ?_) (fun c2 => ?_)
      · have c2' : s.op = 2 := by simpa using c2
        obtain ⟨⟨ha1, ha12, hasz⟩, hpl⟩ := hSt.1.addr c2'
        obtain ⟨M, hM⟩ := stands_list s.addr hasz (fun p hp => by have := hL.2.2.2 p hp; omega)
        have eM : s.addr.length = M.length := by rw [← hM.plain]; simp [plain]
        refine To.runF 4 [1] (fun _ _ => by kernel_rfl) fun f9 g9 l9 => ?_
        refine To.callN 19 #[.slice aa s.addr.length ca] (by kernel_rfl) (fun _ => by kernel_rfl) (fun w7 hw7 => by
          rw [eM]
          exact address hu M aa ca w7 (by rw [hM.plain]; exact (hI.addr.later hw7.ext).toIn) hM.fine (by omega)) (fun w7 v7 w8 hw7 hx7 hv7 hnew7 hwi7 => ?_)
        obtain ⟨va, vc, rfl, hMI⟩ := hv7.min
        have hb8 : ∀ j x, nth [oob, some ⟨f5 0, .cells ⟨stepCells s ai am aa ci cm ca⟩ 33 (0, 0), true⟩, some ⟨f6 0, .cells ⟨[.slice (some ⟨gi, 0, none⟩) s.ip.length ci', .slice (some ⟨gm, 0, none⟩) s.mask.length cm']⟩ 46 (0, 0), true⟩, some ⟨f6 1, .cells ⟨[.bool false, .int .i64 0, .slice none 0 0, .slice none 0 0]⟩ 29 (0, 0), true⟩] j = some x → w8.heap[x.b]? = some x.o := fun j x hj => hx7.at (blkAll hw7 (HP := [oob, some ⟨f5 0, .cells ⟨stepCells s ai am aa ci cm ca⟩ 33 (0, 0), true⟩, some ⟨f6 0, .cells ⟨[.slice (some ⟨gi, 0, none⟩) s.ip.length ci', .slice (some ⟨gm, 0, none⟩) s.mask.length cm']⟩ 46 (0, 0), true⟩, some ⟨f6 1, .cells ⟨[.bool false, .int .i64 0, .slice none 0 0, .slice none 0 0]⟩ 29 (0, 0), true⟩]) (by kernel_rfl) j x hj) (by simp)
        have hF8 := (hF6.kept (Fr.kept (Q := Foot fb ab ts) hw7.fr (by kernel_rfl) clx)).later hx7
        have L8 := (L6.fr (l := [numO oob, some (f5 0), some (f6 0), some (f6 1)]) hw7.fr (by kernel_rfl) offx).ext hx7
        refine To.callS 18 #[.pointer (some ⟨fb, 0, none⟩), .slice va M.length vc] [fb] []
          (Φ := fun w v w1 => FsAt w1 fb ab fcap frest ts (actAt (l.take k)) (rulesAt (l.take k)) ∧ v = .bool (decides (actAt (l.take k)) (rulesAt (l.take k)) s.addr == 2))
          (by kernel_rfl) (fun _ => by kernel_rfl) (fun w9 hw9 => by
            have hx9 : Ext [] w8 w9 := frAll hw9 (HP := [oob, some ⟨f5 0, .cells ⟨stepCells s ai am aa ci cm ca⟩ 33 (0, 0), true⟩, some ⟨f6 0, .cells ⟨[.slice (some ⟨gi, 0, none⟩) s.ip.length ci', .slice (some ⟨gm, 0, none⟩) s.mask.length cm']⟩ 46 (0, 0), true⟩, some ⟨f6 1, .cells ⟨[.bool false, .int .i64 0, .slice none 0 0, .slice none 0 0]⟩ 29 (0, 0), true⟩]) (by kernel_rfl) hb8
            exact addrBlocked s.addr M hM ⟨ha1, ha12, hasz⟩ hpl va vc fb ab fcap frest ts _ _ w9 (hF8.later hx9) hLl (hMI.later hx9))
          (fun w9 hw9 i x hx => by simpa using fun e => (nums_all (l := [numO oob, some (f5 0), some (f6 0), some (f6 1)]) (by kernel_rfl) clx i x hx) (.inl e)) (fun _ _ b hb => ownS b (by simp only [List.mem_singleton] at hb; simp [hb])) (heldS (by kernel_rfl)) (fun w9 v9 w10 hw9 hx9 hv9 => ?_)
        obtain ⟨hF10, rfl⟩ := hv9
        have L10 := (L8.fr (l := [numO oob, some (f5 0), some (f6 0), some (f6 1)]) hw9.fr (by kernel_rfl) offx).extS hx9 (fun b hb => offS b (by simp only [List.mem_singleton] at hb; simp [hb]))
        refine To.runF 4 [3] (fun _ _ => by kernel_rfl) fun f10 g10 l10 => ?_
        exact join _ _ (⟨ab, fcap, frest, ts⟩, decides (actAt (l.take k)) (rulesAt (l.take k)) s.addr == 2, 0, (none, 0, 0), (none, 0, 0)) [0, 3] ⟨by kernel_rfl, by kernel_rfl, by kernel_rfl, by kernel_rfl, by kernel_rfl, rfl⟩
          (fun w11 hw11 => ⟨L10.fr (l := [numO oob, some (f5 0), some (f6 0), some (f6 1)]) hw11.fr (by kernel_rfl) offx, by rw [hd1 c2' (by decide), hr1 c2' (by decide) (by decide)]; exact hF10.kept (Fr.kept (Q := Foot fb ab ts) hw11.fr (by kernel_rfl) clx), habw, htsw, OTrue.of hw11 (j := 0) (by kernel_rfl),
            hx6 [.bool (decides (actAt (l.take k)) (rulesAt (l.take k)) s.addr == 2), .int .i64 0, .slice none 0 0, .slice none 0 0] hw11 (by kernel_rfl), hX0 w11 _ _ _ (by unfold ansOf; rw [if_neg (by rw [c2']; decide), if_pos c2']), numsHead clx, (numsTail clx).2.2.1⟩)
      refine To.runF 5 [] (fun _ _ => by kernel_rfl) fun f9 g9 l9 => ?_
      refine To.test (s.op == 3) (by kernel_rfl) (fun c3 => ?_) (fun c3 => ?_)
      · have c3' : s.op = 3 := by simpa using c3
        refine To.runF 4 [2, 2] (fun _ _ => by kernel_rfl) fun f10 g10 l10 => ?_
        have hnet := hSt.1.net (.inr (.inr c3'))
        have hgl : gi < w6.heap.size := bytes_lt hbi hnet.pos.1
        have hml : gm < w6.heap.size := bytes_lt hbm hnet.pos.2
        refine To.callN 20 #[.pointer (some ⟨fb, 0, none⟩), .agg #[.slice (some ⟨gi, 0, none⟩) s.ip.length ci', .slice (some ⟨gm, 0, none⟩) s.mask.length cm']]
          (by kernel_rfl) (fun _ => by kernel_rfl) (fun w7 hw7 => actionFor s.ip s.mask gi gm ci' cm' fb ab fcap frest ts _ _ w7 (ht.later hw7.ext) (hF6.kept (Fr.kept (Q := Foot fb ab ts) hw7.fr (by kernel_rfl) clx)) hLl hnet
            (hbi.kept (Fr.kept (Q := fun n => Foot fb ab ts n ∨ n = gi ∨ n = gm) hw7.fr (by kernel_rfl) (clg hgl hml)) (fun ad e => by cases e; exact .inr (.inl rfl)))
            (hbm.kept (Fr.kept (Q := fun n => Foot fb ab ts n ∨ n = gi ∨ n = gm) hw7.fr (by kernel_rfl) (clg hgl hml)) (fun ad e => by cases e; exact .inr (.inr rfl))) hci hcm hgne) (fun w7 v7 w8 hw7 hx7 hv7 hnew7 hwi7 => ?_)
        have L8 := (L6.fr (l := [numO oob, some (f5 0), some (f6 0), some (f6 1)]) hw7.fr (by kernel_rfl) offx).ext hx7
        have hF8 := (hF6.kept (Fr.kept (Q := Foot fb ab ts) hw7.fr (by kernel_rfl) clx)).later hx7
        rcases noneOr (findR s.ip s.mask (rulesAt (l.take k))) with hf | ⟨j, hf⟩
        · obtain rfl : v7 = .tuple #[.int .i32 0, .bool false] := by rw [hv7, hf]; rfl
          refine To.runF 16 [3, 3] (fun _ _ => by kernel_rfl) fun f11 g11 l11 => ?_
          exact join _ _ (⟨ab, fcap, frest, ts⟩, false, 0, (none, 0, 0), (none, 0, 0)) [0, 3] ⟨by kernel_rfl, by kernel_rfl, by kernel_rfl, by kernel_rfl, by kernel_rfl, rfl⟩
            (fun w9 hw9 => ⟨L8.fr (l := [numO oob, some (f5 0), some (f6 0), some (f6 1)]) hw9.fr (by kernel_rfl) offx, by rw [hd1 c3' (by decide), hr1 c3' (by decide) (by decide)]; exact hF8.kept (Fr.kept (Q := Foot fb ab ts) hw9.fr (by kernel_rfl) clx), habw, htsw, OTrue.of hw9 (j := 0) (by kernel_rfl),
              hx6 [.bool (false), .int .i64 (0), .slice none 0 0, .slice none 0 0] hw9 (by kernel_rfl), hX0 w9 _ _ _ (by unfold ansOf; rw [if_neg (by rw [c3']; decide), if_neg (by rw [c3']; decide), if_pos c3', hf]; rfl), numsHead clx, (numsTail clx).2.2.1⟩)
        · obtain ⟨rj, hrj, _, _⟩ := find_some hf
          have hact := acts_at (fun j x hj => hok j x (by omega)) hk rj (List.mem_of_getElem? hrj)
          obtain rfl : v7 = .tuple #[.int .i32 rj.act, .bool true] := by rw [hv7, hf]; simp [actionV, hrj]
          refine To.runF 16 [3, 3] (fun _ _ => by kernel_rfl) fun f11 g11 l11 => ?_
          exact join _ _ (⟨ab, fcap, frest, ts⟩, true, IntKind.i64.wrap rj.act, (none, 0, 0), (none, 0, 0)) [0, 3] ⟨by kernel_rfl, by kernel_rfl, by kernel_rfl, by kernel_rfl, by kernel_rfl, rfl⟩
            (fun w9 hw9 => ⟨L8.fr (l := [numO oob, some (f5 0), some (f6 0), some (f6 1)]) hw9.fr (by kernel_rfl) offx, by rw [hd1 c3' (by decide), hr1 c3' (by decide) (by decide)]; exact hF8.kept (Fr.kept (Q := Foot fb ab ts) hw9.fr (by kernel_rfl) clx), habw, htsw, OTrue.of hw9 (j := 0) (by kernel_rfl),
              hx6 [.bool (true), .int .i64 (IntKind.i64.wrap rj.act), .slice none 0 0, .slice none 0 0] hw9 (by kernel_rfl), hX0 w9 _ _ _ (by unfold ansOf; rw [if_neg (by rw [c3']; decide), if_neg (by rw [c3']; decide), if_pos c3', hf, wrap64 hact]; simp [actOf, hrj]), numsHead clx, (numsTail clx).2.2.1⟩)
      refine To.runF 5 [] (fun _ _ => by kernel_rfl) fun f10 g10 l10 => ?_
      refine To.test (s.op == 4) (by kernel_rfl) (fun c4 => ?_) (fun c4 => ?_)
      · have c4' : s.op = 4 := by simpa using c4
        refine To.runF 6 [1] (fun _ _ => by kernel_rfl) fun f11 g11 l11 => ?_
        refine To.slotE 67 (.int .i32 (IntKind.i32.wrap s.act)) (.int .i32 s.act) (by kernel_rfl) (by rw [wrap32 hSt.1.act]) ?_
        refine To.callS 21 #[.pointer (some ⟨fb, 0, none⟩), .int .i32 s.act] [fb] []
          (Φ := fun w v w1 => FsAt w1 fb ab fcap frest ts (actAt (l.take k)) (rulesAt (l.take k)) ∧ RowsN (fun _ => netI ts w) 2 46 w.heap.size w1 v ((rulesAt (l.take k)).filter (hasAct s.act)))
          (by kernel_rfl) (fun _ => by kernel_rfl) (fun w7 hw7 => filtersFor s.act fb ab fcap frest ts _ _ w7 (hF6.kept (Fr.kept (Q := Foot fb ab ts) hw7.fr (by kernel_rfl) clx)) hLl)
          (fun w9 hw9 i x hx => by simpa using fun e => (nums_all (l := [numO oob, some (f5 0), some (f6 0), some (f6 1)]) (by kernel_rfl) clx i x hx) (.inl e)) (fun _ _ b hb => ownS b (by simp only [List.mem_singleton] at hb; simp [hb])) (heldS (by kernel_rfl)) (fun w7 v7 w8 hw7 hx7 hv7 => ?_)
        obtain ⟨hF8, hR⟩ := hv7
        have L8 := (L6.fr (l := [numO oob, some (f5 0), some (f6 0), some (f6 1)]) hw7.fr (by kernel_rfl) offx).extS hx7 (fun b hb => offS b (by simp only [List.mem_singleton] at hb; simp [hb]))
        obtain ⟨va, vc, rfl, hRow⟩ := rowsOut hR
        have lt7 := factsLt hw7 (l := [numO oob, some (f5 0), some (f6 0), some (f6 1)]) (by kernel_rfl)
        have qnew : ∀ n, w8.heap.size ≤ n → ¬ (Foot fb ab ts n ∨ (w7.heap.size ≤ n ∧ n < w8.heap.size)) := fun n hn hq => by
          rcases hq with hq | hq
          · have := hF8.lt n hq; omega
          · omega
        have qold : NumsAll (fun n => ¬ (Foot fb ab ts n ∨ (w7.heap.size ≤ n ∧ n < w8.heap.size))) [numO oob, some (f5 0), some (f6 0), some (f6 1)] := numsMono (fun n h hq => by
          rcases hq with hq | hq
          · exact h.1 hq
          · exact absurd h.2 (by omega)) (numsAnd clx lt7)
        have u8 : ∀ {E : Env} {hp : List (Option Blk)} {w9 : World} (cs : List Value), Facts E hp w9 → nth hp 0 = oob → nth hp 1 = some ⟨f5 0, .cells ⟨stepCells s ai am aa ci cm ca⟩ 33 (0, 0), true⟩ →
            nth hp 2 = some ⟨f6 0, .cells ⟨[.slice (some ⟨gi, 0, none⟩) s.ip.length ci', .slice (some ⟨gm, 0, none⟩) s.mask.length cm']⟩ 46 (0, 0), true⟩ → nth hp 3 = some ⟨f6 1, .cells ⟨cs⟩ 29 (0, 0), true⟩ →
            NumsAll (OffTy U8 w9) [numO oob, some (f5 0), some (f6 0), some (f6 1)] := fun cs hw9 h0 h1 h2 h3 => numsCons (hP.off (T := U8) (OTrue.of hw9 h0) (by unfold U8; decide))
          ⟨.inr ⟨_, _, _, hw9.blk h1, by unfold U8; decide⟩, .inr ⟨_, _, _, hw9.blk h2, by unfold U8; decide⟩, .inr ⟨_, _, _, hw9.blk h3, by unfold U8; decide⟩, trivial⟩
        have hFl : ((rulesAt (l.take k)).filter (hasAct s.act)).length ≤ 60 := by have h1 := List.length_filter_le (hasAct s.act) (rulesAt (l.take k)); have h2 := rulesAt_length (l.take k); rw [List.length_take] at h2; omega
        refine To.runF 4 [] (fun _ _ => by kernel_rfl) fun f12 g12 l12 => ?_
        refine To.loop (fun i : Nat × OR × OR => ((rulesAt (l.take k)).filter (hasAct s.act)).length - i.1) (fun i => ([(0, .slice a l.length cap), (3, .pointer (some ⟨fb, 0, none⟩)), (4, .slice oa on oc), (8, .pointer (some ⟨f6 1, 0, none⟩)), (14, .slice a l.length cap), (15, .int .i64 (Int.ofNat l.length)), (16, .int .i64 (Int.ofNat k)),
            (68, .slice va ((rulesAt (l.take k)).filter (hasAct s.act)).length vc), (69, .int .i64 (Int.ofNat ((rulesAt (l.take k)).filter (hasAct s.act)).length)), (70, .int .i64 (Int.ofNat i.1))], [oob, some ⟨f5 0, .cells ⟨stepCells s ai am aa ci cm ca⟩ 33 (0, 0), true⟩, some ⟨f6 0, .cells ⟨[.slice (some ⟨gi, 0, none⟩) s.ip.length ci', .slice (some ⟨gm, 0, none⟩) s.mask.length cm']⟩ 46 (0, 0), true⟩, some ⟨f6 1, .cells ⟨[.bool false, .int .i64 0, .slice i.2.1.a i.2.1.n i.2.1.c, .slice i.2.2.a i.2.2.n i.2.2.c]⟩ 29 (0, 0), true⟩, i.2.1.ob, i.2.2.ob]))
          (fun i w9 => i.1 ≤ ((rulesAt (l.take k)).filter (hasAct s.act)).length ∧ Later AnsTy w4 w9 ∧ Kept (fun b => Foot fb ab ts b ∨ (w7.heap.size ≤ b ∧ b < w8.heap.size)) w8 w9 ∧ w8.heap.size ≤ w9.heap.size ∧ NumsAll (OffTy U8 w9) [numO oob, some (f5 0), some (f6 0), some (f6 1)] ∧
            (ORow 1 30 i.2.1.a i.2.1.n i.2.1.c i.2.1.ob i.2.1.css ∧ OTrue i.2.1.ob w9 ∧ (∀ n, numO i.2.1.ob = some n → w8.heap.size ≤ n) ∧ All2 (fun t cs => ∃ b cb, cs = [.slice b t.length cb] ∧ OwnB w9 b t) i.2.1.css ((((rulesAt (l.take k)).filter (hasAct s.act)).take i.1).map Rule.ip)) ∧
            (ORow 1 30 i.2.2.a i.2.2.n i.2.2.c i.2.2.ob i.2.2.css ∧ OTrue i.2.2.ob w9 ∧ (∀ n, numO i.2.2.ob = some n → w8.heap.size ≤ n) ∧ All2 (fun t cs => ∃ b cb, cs = [.slice b t.length cb] ∧ OwnB w9 b t) i.2.2.css ((((rulesAt (l.take k)).filter (hasAct s.act)).take i.1).map Rule.mask)))
          (0, OR.none, OR.none) [0, 1, 2, 3, 40, 41] (by kernel_rfl) (by kernel_rfl) (by kernel_rfl) rfl
          (fun w9 hw9 => ⟨Nat.zero_le _, L8.fr (l := [numO oob, some (f5 0), some (f6 0), some (f6 1)]) hw9.fr (by kernel_rfl) offx, Fr.kept (Q := fun b => Foot fb ab ts b ∨ (w7.heap.size ≤ b ∧ b < w8.heap.size)) hw9.fr (by kernel_rfl) qold, hw9.fr.size, u8 [.bool false, .int .i64 0, .slice none 0 0, .slice none 0 0] hw9 (by kernel_rfl) (by kernel_rfl) (by kernel_rfl) (by kernel_rfl), ⟨ORow.nil _ _, OTrue.none w9, ⟨fun n h => (by cases h), All2.nil⟩⟩, ORow.nil _ _, OTrue.none w9, ⟨fun n h => (by cases h), All2.nil⟩⟩) ?_
        rintro ⟨i, ⟨pa, pn, pc, pob, pcss⟩, ⟨qa, qn, qc, qob, qcss⟩⟩ w9 ⟨hi, hk9, hkp, hsz9, hu9, ⟨hp1, hpt, hp2, hp3⟩, hq1, hqt, hq2, hq3⟩ hx9 back3
        simp only at hi hk9 hkp hsz9 hu9 hp1 hpt hp2 hp3 hq1 hqt hq2 hq3
        have h48 : w4.heap.size ≤ w8.heap.size := L8.size
        have o6 : ∀ {r : List (Option Nat)}, NumsAll (OffTy AnsTy w4) r → NumsAll (OffTy AnsTy w4) (numO oob :: some (f5 0) :: some (f6 0) :: some (f6 1) :: numO pob :: numO qob :: r) := fun h => numsCons (numsHead offx) ⟨(numsTail offx).1, (numsTail offx).2.1, (numsTail offx).2.2.1, numsCons (fun n e => .inl (Nat.le_trans h48 (hp2 n e))) (numsCons (fun n e => .inl (Nat.le_trans h48 (hq2 n e))) h)⟩
        have q6 : ∀ {r : List (Option Nat)}, NumsAll (fun n => ¬ (Foot fb ab ts n ∨ (w7.heap.size ≤ n ∧ n < w8.heap.size))) r → NumsAll (fun n => ¬ (Foot fb ab ts n ∨ (w7.heap.size ≤ n ∧ n < w8.heap.size))) (numO oob :: some (f5 0) :: some (f6 0) :: some (f6 1) :: numO pob :: numO qob :: r) := fun h => numsCons (numsHead qold) ⟨(numsTail qold).1, (numsTail qold).2.1, (numsTail qold).2.2.1, numsCons (fun n e => qnew n (hp2 n e)) (numsCons (fun n e => qnew n (hq2 n e)) h)⟩
        have v6 : ∀ {r : List (Option Nat)}, NumsAll (OffTy U8 w9) r → NumsAll (OffTy U8 w9) (numO oob :: some (f5 0) :: some (f6 0) :: some (f6 1) :: numO pob :: numO qob :: r) := fun h => numsCons (numsHead hu9) ⟨(numsTail hu9).1, (numsTail hu9).2.1, (numsTail hu9).2.2.1, numsCons (hp1.off (T := U8) hpt (by unfold U8; decide)) (numsCons (hq1.off (T := U8) hqt (by unfold U8; decide)) h)⟩
        refine To.runF 5 [] (fun _ _ => by kernel_rfl) fun f13 g13 l13 => ?_
        by_cases hil : i < ((rulesAt (l.take k)).filter (hasAct s.act)).length
        · obtain ⟨r, hri⟩ : ∃ r, ((rulesAt (l.take k)).filter (hasAct s.act))[i]? = some r := ⟨((rulesAt (l.take k)).filter (hasAct s.act))[i], by simp [hil]⟩
          obtain ⟨gr, cs, hva, hgl1, hgl2, ⟨ri, rm, rci, rcm, rfl, hbri, hbrm, hfri, hfrm⟩, hcell⟩ := hRow i r hri
          have hst : ((rulesAt (l.take k)).filter (hasAct s.act)).take (i + 1) = ((rulesAt (l.take k)).filter (hasAct s.act)).take i ++ [r] := take_snoc hri
          refine To.testT (decide (Int.ofNat i < Int.ofNat ((rulesAt (l.take k)).filter (hasAct s.act)).length)) (by kernel_rfl) (decide_eq_true (Int.ofNat_lt.2 hil)) ?_
          refine To.runF 5 [] (fun _ _ => by kernel_rfl) fun f14 g14 l14 => ?_
          refine To.indexAt elN va ⟨gr, 0, none⟩ ((rulesAt (l.take k)).filter (hasAct s.act)).length vc i (by kernel_rfl) hva hil ?_
          refine To.loadAgg (t := 46) (by kernel_rfl) 2 (by kernel_rfl) ((⟨gr, 0, none⟩ : Addr).add (i * 2)) [.slice (some ⟨ri, 0, none⟩) r.ip.length rci, .slice (some ⟨rm, 0, none⟩) r.mask.length rcm] rfl (by kernel_rfl) (fun w10 hw10 j u hj => by
            have hcg := hcell j u hj
            obtain ⟨c0, e0, z0, hh1, hh2, hh3⟩ := block_of_cell hcg
            have hgb : ((((⟨gr, 0, none⟩ : Addr).add (i * 2)).add j)).block = gr := by rw [add_block, add_block]
            exact (hkp.trans (Fr.kept (Q := (fun b => Foot fb ab ts b ∨ (w7.heap.size ≤ b ∧ b < w8.heap.size))) (l := [numO oob, some (f5 0), some (f6 0), some (f6 1), numO pob, numO qob]) hw10.fr (by kernel_rfl) (q6 trivial))).cell (Q := (fun b => Foot fb ab ts b ∨ (w7.heap.size ≤ b ∧ b < w8.heap.size))) (by rw [hgb]; exact .inr ⟨hgl1, hgl2⟩) hcg) ?_
          have hnet : Net r.ip r.mask := netsAt (fun j x hj => hok j x (by omega)) hk r (List.mem_filter.1 (List.mem_of_getElem? hri)).1
          have hil16 : r.ip.length ≤ 16 := by rcases hnet.len with h | h <;> omega
          have hml16 : r.mask.length ≤ 16 := by rw [hnet.same]; exact hil16
          have hneR : ∀ n, FootR ts n → n ≠ fb := fun n hn => by
            obtain ⟨t, htm, hn⟩ := hn
            obtain ⟨⟨a1, _⟩, ⟨a2, _⟩, ⟨a3, _⟩⟩ := hF.ls.apart t htm
            rcases hn with rfl | rfl | rfl <;> assumption
          have hb9i : BytesIn w9 (some ⟨ri, 0, none⟩) r.ip := (hbri.kept (Q := fun b => b ≠ fb) (hx7.keptS (by simp)) (fun ad e => by cases e; exact hneR _ hfri)).kept hkp (fun ad e => by cases e; exact .inl (.inr (.inr hfri)))
          have hb9m : BytesIn w9 (some ⟨rm, 0, none⟩) r.mask := (hbrm.kept (Q := fun b => b ≠ fb) (hx7.keptS (by simp)) (fun ad e => by cases e; exact hneR _ hfrm)).kept hkp (fun ad e => by cases e; exact .inl (.inr (.inr hfrm)))
          have hpl : pn ≤ 60 := by
            have h1 := hp1.len; have h2 := hp3.len; rw [List.length_map, List.length_take] at h2; omega
          have hql : qn ≤ 60 := by
            have h1 := hq1.len; have h2 := hq3.len; rw [List.length_map, List.length_take] at h2; omega
          have K9 := Kept.refl (fun b => Foot fb ab ts b ∨ (w7.heap.size ≤ b ∧ b < w8.heap.size)) w9
          have U9 := Later.refl U8 w9
          refine To.runF 12 [6, 6, 2, 3, 6, 18, 0, 1, 0, 3, 4, 1, 8, 9, 0, 11, 12, 1] (fun _ _ => by kernel_rfl) fun f15 g15 l15 => ?_
          refine To.meetI (ι := (Nat × Nat × List Value) × (Nat × Nat × List Value) × (Nat × Nat × List Value) × (Nat × Nat × List Value)) 3 [true, true, true, true, true, true, true, true, true, true, true, true, true, true, true, true, true, false, false, false] (fun x => ([(0, .slice a l.length cap), (3, .pointer (some ⟨fb, 0, none⟩)), (4, .slice oa on oc), (8, .pointer (some ⟨f6 1, 0, none⟩)), (14, .slice a l.length cap), (15, .int .i64 (Int.ofNat l.length)), (16, .int .i64 (Int.ofNat k)),
              (68, .slice va ((rulesAt (l.take k)).filter (hasAct s.act)).length vc), (69, .int .i64 (Int.ofNat ((rulesAt (l.take k)).filter (hasAct s.act)).length)), (70, .int .i64 (Int.ofNat i)), (74, .pointer (some ⟨f6 1, 2, none⟩)), (82, .pointer (some ⟨f6 1, 3, none⟩)), (90, .pointer (some ⟨f6 1, 2, none⟩)),
              (81, .slice (some ⟨x.1.1, 0, none⟩) (pn + 1) x.1.2.1), (89, .slice (some ⟨x.2.1.1, 0, none⟩) (qn + 1) x.2.1.2.1)],
              [oob, some ⟨f5 0, .cells ⟨stepCells s ai am aa ci cm ca⟩ 33 (0, 0), true⟩, some ⟨f6 0, .cells ⟨[.slice (some ⟨gi, 0, none⟩) s.ip.length ci', .slice (some ⟨gm, 0, none⟩) s.mask.length cm']⟩ 46 (0, 0), true⟩, some ⟨f6 1, .cells ⟨[.bool false, .int .i64 0, .slice pa pn pc, .slice qa qn qc]⟩ 29 (0, 0), true⟩,
               some ⟨x.1.1, .cells ⟨(pcss ++ [[Value.slice (some ⟨x.2.2.1.1, 0, none⟩) r.ip.length x.2.2.1.2.1]]).flatten ++ x.1.2.2⟩ 30 (0, 0), true⟩, some ⟨x.2.1.1, .cells ⟨(qcss ++ [[Value.slice (some ⟨x.2.2.2.1, 0, none⟩) r.mask.length x.2.2.2.2.1]]).flatten ++ x.2.1.2.2⟩ 30 (0, 0), true⟩,
               some ⟨x.2.2.1.1, .cells ⟨[] ++ ucells r.ip ++ x.2.2.1.2.2⟩ 5 (0, 0), true⟩, some ⟨x.2.2.2.1, .cells ⟨[] ++ ucells r.mask ++ x.2.2.2.2.2⟩ 5 (0, 0), true⟩]))
            (fun x wz => Later AnsTy w4 wz ∧ Kept (fun b => Foot fb ab ts b ∨ (w7.heap.size ≤ b ∧ b < w8.heap.size)) w9 wz ∧ Later U8 w9 wz ∧ (ORow 1 30 (some ⟨x.1.1, 0, none⟩) (pn + 1) x.1.2.1 (some ⟨x.1.1, .cells ⟨(pcss ++ [[Value.slice (some ⟨x.2.2.1.1, 0, none⟩) r.ip.length x.2.2.1.2.1]]).flatten ++ x.1.2.2⟩ 30 (0, 0), true⟩) (pcss ++ [[Value.slice (some ⟨x.2.2.1.1, 0, none⟩) r.ip.length x.2.2.1.2.1]])) ∧
              (ORow 1 30 (some ⟨x.2.1.1, 0, none⟩) (qn + 1) x.2.1.2.1 (some ⟨x.2.1.1, .cells ⟨(qcss ++ [[Value.slice (some ⟨x.2.2.2.1, 0, none⟩) r.mask.length x.2.2.2.2.1]]).flatten ++ x.2.1.2.2⟩ 30 (0, 0), true⟩) (qcss ++ [[Value.slice (some ⟨x.2.2.2.1, 0, none⟩) r.mask.length x.2.2.2.2.1]])) ∧
              (w8.heap.size ≤ x.1.1 ∧ OffTy U8 w9 x.1.1) ∧ (w8.heap.size ≤ x.2.1.1 ∧ OffTy U8 w9 x.2.1.1) ∧ w9.heap.size ≤ x.2.2.1.1 ∧ w9.heap.size ≤ x.2.2.2.1) (fun join => ?_) (fun x wz hz9 hxz9 => ?_)
          · skip
            refine To.pick 1 (by kernel_rfl) ⟨⟨trivial, ?_⟩, ?_⟩
            · refine To.runF 1 [] (fun _ _ => by kernel_rfl) fun f16 g16 l16 => ?_
              refine To.pick 1 (by kernel_rfl) ⟨⟨trivial, ?_⟩, ?_⟩
              · skip
                refine To.append2 (ty := 30) elB uIP 7 (f16 0) 0 0 [] [] (some ⟨ri, 0, none⟩) r.ip.length rci (ucells r.ip) (by kernel_rfl) (by kernel_rfl) rfl rfl (Nat.le_refl _) (by decide) (by simp [ucells])
                  (fun wy hwy j u hj => (hb9i.kept ((K9.trans (Fr.kept (Q := (fun b => Foot fb ab ts b ∨ (w7.heap.size ≤ b ∧ b < w8.heap.size))) (l := [numO oob, some (f5 0), some (f6 0), some (f6 1), numO pob, numO qob, some (f15 0), some (f16 0)]) hwy.fr (by kernel_rfl) (q6 (⟨(qnew _ (Nat.le_trans hsz9 (l15 0))), ⟨(qnew _ (Nat.le_trans hsz9 (Nat.le_trans U9.size (l16 0)))), trivial⟩⟩))))) (fun ad e => by cases e; exact .inl (.inr (.inr hfri)))).cells j u hj) (fun e => by cases e)
                  (fun u hu => by unfold ucells at hu; obtain ⟨y, _, rfl⟩ := List.mem_map.1 hu; rfl) (by simp only [maxLen]; omega) (by omega) (held_in (g := f16 0) (o := .cells ⟨[]⟩ 5 (0, 0)) (q := true) [3, 6] 7 (by kernel_rfl) (by kernel_rfl) (by decide)) ?_
                intro wxa wxb gx cx tx hwx hgx hox hrx hcx hmx
                have Lx1 := hk9.fr (l := [numO oob, some (f5 0), some (f6 0), some (f6 1), numO pob, numO qob, some (f15 0), some (f16 0)]) hwx.fr (by kernel_rfl) (o6 (⟨(hk9.new (l15 0)), ⟨(hk9.new (l16 0)), trivial⟩⟩))
                have Kx1 := K9.trans (Fr.kept (Q := (fun b => Foot fb ab ts b ∨ (w7.heap.size ≤ b ∧ b < w8.heap.size))) (l := [numO oob, some (f5 0), some (f6 0), some (f6 1), numO pob, numO qob, some (f15 0), some (f16 0)]) hwx.fr (by kernel_rfl) (q6 (⟨(qnew _ (Nat.le_trans hsz9 (l15 0))), ⟨(qnew _ (Nat.le_trans hsz9 (Nat.le_trans U9.size (l16 0)))), trivial⟩⟩)))
                have Ux1 := U9.fr (l := [numO oob, some (f5 0), some (f6 0), some (f6 1), numO pob, numO qob, some (f15 0), some (f16 0)]) hwx.fr (by kernel_rfl) (v6 (⟨(.inl (l15 0)), ⟨(U9.new (l16 0)), trivial⟩⟩))
                have zx : w9.heap.size ≤ gx := by
                  rcases hox with h | h
                  · rw [h]; exact (Nat.le_trans U9.size (l16 0))
                  · rw [h]; exact Ux1.size
                have Lzx := Lx1.grown hgx (fun b hb => by cases hb; exact (hk9.new (l16 0)))
                have Kzx := Kx1.trans (grown_kept hgx (fun b hb => by cases hb; exact (qnew _ (Nat.le_trans hsz9 (Nat.le_trans U9.size (l16 0))))))
                have Uzx := Ux1.grown hgx (fun b hb => by cases hb; exact (U9.new (l16 0)))
                refine To.slotE 79 (.slice (some ⟨gx, 0, none⟩) (0 + r.ip.length) cx) (.slice (some ⟨gx, 0, none⟩) r.ip.length cx) (by kernel_rfl) (by rw [Nat.zero_add]) ?_
                refine To.pick 1 (by kernel_rfl) ⟨⟨trivial, ?_⟩, ?_⟩
                · refine To.runF 1 [] (fun _ _ => by kernel_rfl) fun f17 g17 l17 => ?_
                  refine To.pick 1 (by kernel_rfl) ⟨⟨trivial, ?_⟩, ?_⟩
                  · skip
                    refine To.appendAny (ty := 27) elBs 4 pa pn pc pob pcss hp1 ⟨f17 0, 0, none⟩ 1 [.slice (some ⟨gx, 0, none⟩) r.ip.length cx] (pn + 1) (by kernel_rfl) (by kernel_rfl) rfl rfl
                      (fun wy hwy j u hj => hwy.cellAt0 (j := 9) (b := f17 0) (l := [.slice (some ⟨gx, 0, none⟩) r.ip.length cx]) (e := 30) (f := (0, 0)) (q := true) (by kernel_rfl) hj)
                      (fun u hu => by simp only [List.mem_cons, List.not_mem_nil, or_false] at hu; rcases hu with rfl; rfl) (by simp only [maxLen]; omega) (by omega) (held_inO [3, 6] 4 (by kernel_rfl) (by kernel_rfl) (by decide)) ?_
                    intro wp gp cp tp hfrp hop hOp
                    have Lp := Lzx.fr (l := [numO oob, some (f5 0), some (f6 0), some (f6 1), numO pob, numO qob, some (f15 0), none, some gx, some (f17 0)]) hfrp (by kernel_rfl) (o6 (⟨(hk9.new (l15 0)), nums0 (⟨(.inl (Nat.le_trans h48 (Nat.le_trans hsz9 zx))), ⟨(Lzx.new (l17 0)), trivial⟩⟩)⟩))
                    have Kp := Kzx.trans (Fr.kept (Q := (fun b => Foot fb ab ts b ∨ (w7.heap.size ≤ b ∧ b < w8.heap.size))) (l := [numO oob, some (f5 0), some (f6 0), some (f6 1), numO pob, numO qob, some (f15 0), none, some gx, some (f17 0)]) hfrp (by kernel_rfl) (q6 (⟨(qnew _ (Nat.le_trans hsz9 (l15 0))), nums0 (⟨(qnew _ (Nat.le_trans hsz9 zx)), ⟨(qnew _ (Nat.le_trans hsz9 (Nat.le_trans Uzx.size (l17 0)))), trivial⟩⟩)⟩)))
                    have Up := Uzx.fr (l := [numO oob, some (f5 0), some (f6 0), some (f6 1), numO pob, numO qob, some (f15 0), none, some gx, some (f17 0)]) hfrp (by kernel_rfl) (v6 (⟨(.inl (l15 0)), nums0 (⟨(.inl zx), ⟨(Uzx.new (l17 0)), trivial⟩⟩)⟩))
                    have zp : w8.heap.size ≤ gp ∧ OffTy U8 w9 gp := by
                      rcases hop with h | h
                      · exact ⟨hp2 gp (hp1.numO h), hp1.off (T := U8) hpt (by unfold U8; decide) gp (hp1.numO h)⟩
                      · exact ⟨Nat.le_trans hsz9 (Nat.le_trans Uzx.size h), Uzx.new h⟩
                    refine To.runF 2 [16] (fun _ _ => by kernel_rfl) fun f18 g18 l18 => ?_
                    refine To.append2 (ty := 30) elB uIM 11 (f18 0) 0 0 [] [] (some ⟨rm, 0, none⟩) r.mask.length rcm (ucells r.mask) (by kernel_rfl) (by kernel_rfl) rfl rfl (Nat.le_refl _) (by decide) (by simp [ucells])
                      (fun wy hwy j u hj => (hb9m.kept ((Kp.trans (Fr.kept (Q := (fun b => Foot fb ab ts b ∨ (w7.heap.size ≤ b ∧ b < w8.heap.size))) (l := [numO oob, some (f5 0), some (f6 0), some (f6 1), none, numO qob, some (f15 0), none, some gx, some (f17 0), some gp, some (f18 0)]) hwy.fr (by kernel_rfl) (numsCons (numsHead qold) ⟨(numsTail qold).1, (numsTail qold).2.1, (numsTail qold).2.2.1, nums0 (numsCons (numsHead (numsTail (numsTail (numsTail (numsTail (numsTail (q6 (r := []) trivial))))))) (⟨(qnew _ (Nat.le_trans hsz9 (l15 0))), nums0 (⟨(qnew _ (Nat.le_trans hsz9 zx)), ⟨(qnew _ (Nat.le_trans hsz9 (Nat.le_trans Uzx.size (l17 0)))), ⟨(qnew _ zp.1), ⟨(qnew _ (Nat.le_trans hsz9 (Nat.le_trans Up.size (l18 0)))), trivial⟩⟩⟩⟩)⟩))⟩)))) (fun ad e => by cases e; exact .inl (.inr (.inr hfrm)))).cells j u hj) (fun e => by cases e)
                      (fun u hu => by unfold ucells at hu; obtain ⟨y, _, rfl⟩ := List.mem_map.1 hu; rfl) (by simp only [maxLen]; omega) (by omega) (held_in (g := f18 0) (o := .cells ⟨[]⟩ 5 (0, 0)) (q := true) [3, 6] 11 (by kernel_rfl) (by kernel_rfl) (by decide)) ?_
                    intro wya wyb gy cy ty hwy hgy hoy hry hcy hmy
                    have Ly1 := Lp.fr (l := [numO oob, some (f5 0), some (f6 0), some (f6 1), none, numO qob, some (f15 0), none, some gx, some (f17 0), some gp, some (f18 0)]) hwy.fr (by kernel_rfl) (numsCons (numsHead offx) ⟨(numsTail offx).1, (numsTail offx).2.1, (numsTail offx).2.2.1, nums0 (numsCons (numsHead (numsTail (numsTail (numsTail (numsTail (numsTail (o6 (r := []) trivial))))))) (⟨(hk9.new (l15 0)), nums0 (⟨(.inl (Nat.le_trans h48 (Nat.le_trans hsz9 zx))), ⟨(Lzx.new (l17 0)), ⟨(.inl (Nat.le_trans h48 zp.1)), ⟨(Lp.new (l18 0)), trivial⟩⟩⟩⟩)⟩))⟩)
                    have Ky1 := Kp.trans (Fr.kept (Q := (fun b => Foot fb ab ts b ∨ (w7.heap.size ≤ b ∧ b < w8.heap.size))) (l := [numO oob, some (f5 0), some (f6 0), some (f6 1), none, numO qob, some (f15 0), none, some gx, some (f17 0), some gp, some (f18 0)]) hwy.fr (by kernel_rfl) (numsCons (numsHead qold) ⟨(numsTail qold).1, (numsTail qold).2.1, (numsTail qold).2.2.1, nums0 (numsCons (numsHead (numsTail (numsTail (numsTail (numsTail (numsTail (q6 (r := []) trivial))))))) (⟨(qnew _ (Nat.le_trans hsz9 (l15 0))), nums0 (⟨(qnew _ (Nat.le_trans hsz9 zx)), ⟨(qnew _ (Nat.le_trans hsz9 (Nat.le_trans Uzx.size (l17 0)))), ⟨(qnew _ zp.1), ⟨(qnew _ (Nat.le_trans hsz9 (Nat.le_trans Up.size (l18 0)))), trivial⟩⟩⟩⟩)⟩))⟩))
                    have Uy1 := Up.fr (l := [numO oob, some (f5 0), some (f6 0), some (f6 1), none, numO qob, some (f15 0), none, some gx, some (f17 0), some gp, some (f18 0)]) hwy.fr (by kernel_rfl) (numsCons (numsHead hu9) ⟨(numsTail hu9).1, (numsTail hu9).2.1, (numsTail hu9).2.2.1, nums0 (numsCons (numsHead (numsTail (numsTail (numsTail (numsTail (numsTail (v6 (r := []) trivial))))))) (⟨(.inl (l15 0)), nums0 (⟨(.inl zx), ⟨(Uzx.new (l17 0)), ⟨zp.2, ⟨(Up.new (l18 0)), trivial⟩⟩⟩⟩)⟩))⟩)
                    have zy : w9.heap.size ≤ gy := by
                      rcases hoy with h | h
                      · rw [h]; exact (Nat.le_trans Up.size (l18 0))
                      · rw [h]; exact Uy1.size
                    have Lzy := Ly1.grown hgy (fun b hb => by cases hb; exact (Lp.new (l18 0)))
                    have Kzy := Ky1.trans (grown_kept hgy (fun b hb => by cases hb; exact (qnew _ (Nat.le_trans hsz9 (Nat.le_trans Up.size (l18 0))))))
                    have Uzy := Uy1.grown hgy (fun b hb => by cases hb; exact (Up.new (l18 0)))
                    refine To.slotE 87 (.slice (some ⟨gy, 0, none⟩) (0 + r.mask.length) cy) (.slice (some ⟨gy, 0, none⟩) r.mask.length cy) (by kernel_rfl) (by rw [Nat.zero_add]) ?_
                    refine To.runF 1 [] (fun _ _ => by kernel_rfl) fun f19 g19 l19 => ?_
                    refine To.appendAny (ty := 27) elBs 5 qa qn qc qob qcss hq1 ⟨f19 0, 0, none⟩ 1 [.slice (some ⟨gy, 0, none⟩) r.mask.length cy] (qn + 1) (by kernel_rfl) (by kernel_rfl) rfl rfl
                      (fun wy hwy j u hj => hwy.cellAt0 (j := 13) (b := f19 0) (l := [.slice (some ⟨gy, 0, none⟩) r.mask.length cy]) (e := 30) (f := (0, 0)) (q := true) (by kernel_rfl) hj)
                      (fun u hu => by simp only [List.mem_cons, List.not_mem_nil, or_false] at hu; rcases hu with rfl; rfl) (by simp only [maxLen]; omega) (by omega) (held_inO [3, 6] 5 (by kernel_rfl) (by kernel_rfl) (by decide)) ?_
                    intro wq gq cq tq hfrq hoq hOq
                    have Lq := Lzy.fr (l := [numO oob, some (f5 0), some (f6 0), some (f6 1), none, numO qob, some (f15 0), none, some gx, some (f17 0), some gp, none, some gy, some (f19 0)]) hfrq (by kernel_rfl) (numsCons (numsHead offx) ⟨(numsTail offx).1, (numsTail offx).2.1, (numsTail offx).2.2.1, nums0 (numsCons (numsHead (numsTail (numsTail (numsTail (numsTail (numsTail (o6 (r := []) trivial))))))) (⟨(hk9.new (l15 0)), nums0 (⟨(.inl (Nat.le_trans h48 (Nat.le_trans hsz9 zx))), ⟨(Lzx.new (l17 0)), ⟨(.inl (Nat.le_trans h48 zp.1)), nums0 (⟨(.inl (Nat.le_trans h48 (Nat.le_trans hsz9 zy))), ⟨(Lzy.new (l19 0)), trivial⟩⟩)⟩⟩⟩)⟩))⟩)
                    have Kq := Kzy.trans (Fr.kept (Q := (fun b => Foot fb ab ts b ∨ (w7.heap.size ≤ b ∧ b < w8.heap.size))) (l := [numO oob, some (f5 0), some (f6 0), some (f6 1), none, numO qob, some (f15 0), none, some gx, some (f17 0), some gp, none, some gy, some (f19 0)]) hfrq (by kernel_rfl) (numsCons (numsHead qold) ⟨(numsTail qold).1, (numsTail qold).2.1, (numsTail qold).2.2.1, nums0 (numsCons (numsHead (numsTail (numsTail (numsTail (numsTail (numsTail (q6 (r := []) trivial))))))) (⟨(qnew _ (Nat.le_trans hsz9 (l15 0))), nums0 (⟨(qnew _ (Nat.le_trans hsz9 zx)), ⟨(qnew _ (Nat.le_trans hsz9 (Nat.le_trans Uzx.size (l17 0)))), ⟨(qnew _ zp.1), nums0 (⟨(qnew _ (Nat.le_trans hsz9 zy)), ⟨(qnew _ (Nat.le_trans hsz9 (Nat.le_trans Uzy.size (l19 0)))), trivial⟩⟩)⟩⟩⟩)⟩))⟩))
                    have Uq := Uzy.fr (l := [numO oob, some (f5 0), some (f6 0), some (f6 1), none, numO qob, some (f15 0), none, some gx, some (f17 0), some gp, none, some gy, some (f19 0)]) hfrq (by kernel_rfl) (numsCons (numsHead hu9) ⟨(numsTail hu9).1, (numsTail hu9).2.1, (numsTail hu9).2.2.1, nums0 (numsCons (numsHead (numsTail (numsTail (numsTail (numsTail (numsTail (v6 (r := []) trivial))))))) (⟨(.inl (l15 0)), nums0 (⟨(.inl zx), ⟨(Uzx.new (l17 0)), ⟨zp.2, nums0 (⟨(.inl zy), ⟨(Uzy.new (l19 0)), trivial⟩⟩)⟩⟩⟩)⟩))⟩)
                    have zq : w8.heap.size ≤ gq ∧ OffTy U8 w9 gq := by
                      rcases hoq with h | h
                      · exact ⟨hq2 gq (hq1.numO h), hq1.off (T := U8) hqt (by unfold U8; decide) gq (hq1.numO h)⟩
                      · exact ⟨Nat.le_trans hsz9 (Nat.le_trans Uzy.size h), Uzy.new h⟩
                    exact join _ _ ((gp, cp, tp), (gq, cq, tq), (gx, cx, tx), (gy, cy, ty)) [0, 1, 2, 3, 10, 14, 8, 12] ⟨by kernel_rfl, by kernel_rfl, by kernel_rfl, by kernel_rfl, by kernel_rfl, rfl⟩
                      (fun wz hwz => ⟨Lq.fr (l := [numO oob, some (f5 0), some (f6 0), some (f6 1), none, none, some (f15 0), none, some gx, some (f17 0), some gp, none, some gy, some (f19 0), some gq]) hwz.fr (by kernel_rfl) (numsCons (numsHead offx) ⟨(numsTail offx).1, (numsTail offx).2.1, (numsTail offx).2.2.1, nums0 (nums0 (⟨(hk9.new (l15 0)), nums0 (⟨(.inl (Nat.le_trans h48 (Nat.le_trans hsz9 zx))), ⟨(Lzx.new (l17 0)), ⟨(.inl (Nat.le_trans h48 zp.1)), nums0 (⟨(.inl (Nat.le_trans h48 (Nat.le_trans hsz9 zy))), ⟨(Lzy.new (l19 0)), ⟨(.inl (Nat.le_trans h48 zq.1)), trivial⟩⟩⟩)⟩⟩⟩)⟩))⟩), Kq.trans (Fr.kept (Q := (fun b => Foot fb ab ts b ∨ (w7.heap.size ≤ b ∧ b < w8.heap.size))) (l := [numO oob, some (f5 0), some (f6 0), some (f6 1), none, none, some (f15 0), none, some gx, some (f17 0), some gp, none, some gy, some (f19 0), some gq]) hwz.fr (by kernel_rfl) (numsCons (numsHead qold) ⟨(numsTail qold).1, (numsTail qold).2.1, (numsTail qold).2.2.1, nums0 (nums0 (⟨(qnew _ (Nat.le_trans hsz9 (l15 0))), nums0 (⟨(qnew _ (Nat.le_trans hsz9 zx)), ⟨(qnew _ (Nat.le_trans hsz9 (Nat.le_trans Uzx.size (l17 0)))), ⟨(qnew _ zp.1), nums0 (⟨(qnew _ (Nat.le_trans hsz9 zy)), ⟨(qnew _ (Nat.le_trans hsz9 (Nat.le_trans Uzy.size (l19 0)))), ⟨(qnew _ zq.1), trivial⟩⟩⟩)⟩⟩⟩)⟩))⟩)), Uq.fr (l := [numO oob, some (f5 0), some (f6 0), some (f6 1), none, none, some (f15 0), none, some gx, some (f17 0), some gp, none, some gy, some (f19 0), some gq]) hwz.fr (by kernel_rfl) (numsCons (numsHead hu9) ⟨(numsTail hu9).1, (numsTail hu9).2.1, (numsTail hu9).2.2.1, nums0 (nums0 (⟨(.inl (l15 0)), nums0 (⟨(.inl zx), ⟨(Uzx.new (l17 0)), ⟨zp.2, nums0 (⟨(.inl zy), ⟨(Uzy.new (l19 0)), ⟨zq.2, trivial⟩⟩⟩)⟩⟩⟩)⟩))⟩), hOp, hOq, zp, zq, zx, zy⟩)
                  · refine To.runF 1 [] (fun _ _ => by kernel_rfl) fun f18 g18 l18 => ?_
                    refine To.appendAny (ty := 27) elBs 4 pa pn pc pob pcss hp1 ⟨f17 0, 0, none⟩ 1 [.slice (some ⟨gx, 0, none⟩) r.ip.length cx] (pn + 1) (by kernel_rfl) (by kernel_rfl) rfl rfl
                      (fun wy hwy j u hj => hwy.cellAt0 (j := 9) (b := f17 0) (l := [.slice (some ⟨gx, 0, none⟩) r.ip.length cx]) (e := 30) (f := (0, 0)) (q := true) (by kernel_rfl) hj)
                      (fun u hu => by simp only [List.mem_cons, List.not_mem_nil, or_false] at hu; rcases hu with rfl; rfl) (by simp only [maxLen]; omega) (by omega) (held_inO [3, 6] 4 (by kernel_rfl) (by kernel_rfl) (by decide)) ?_
                    intro wp gp cp tp hfrp hop hOp
                    have Lp := Lzx.fr (l := [numO oob, some (f5 0), some (f6 0), some (f6 1), numO pob, numO qob, some (f15 0), none, some gx, some (f17 0), some (f18 0)]) hfrp (by kernel_rfl) (o6 (⟨(hk9.new (l15 0)), nums0 (⟨(.inl (Nat.le_trans h48 (Nat.le_trans hsz9 zx))), ⟨(Lzx.new (l17 0)), ⟨(Lzx.new (l18 0)), trivial⟩⟩⟩)⟩))
                    have Kp := Kzx.trans (Fr.kept (Q := (fun b => Foot fb ab ts b ∨ (w7.heap.size ≤ b ∧ b < w8.heap.size))) (l := [numO oob, some (f5 0), some (f6 0), some (f6 1), numO pob, numO qob, some (f15 0), none, some gx, some (f17 0), some (f18 0)]) hfrp (by kernel_rfl) (q6 (⟨(qnew _ (Nat.le_trans hsz9 (l15 0))), nums0 (⟨(qnew _ (Nat.le_trans hsz9 zx)), ⟨(qnew _ (Nat.le_trans hsz9 (Nat.le_trans Uzx.size (l17 0)))), ⟨(qnew _ (Nat.le_trans hsz9 (Nat.le_trans Uzx.size (l18 0)))), trivial⟩⟩⟩)⟩)))
                    have Up := Uzx.fr (l := [numO oob, some (f5 0), some (f6 0), some (f6 1), numO pob, numO qob, some (f15 0), none, some gx, some (f17 0), some (f18 0)]) hfrp (by kernel_rfl) (v6 (⟨(.inl (l15 0)), nums0 (⟨(.inl zx), ⟨(Uzx.new (l17 0)), ⟨(Uzx.new (l18 0)), trivial⟩⟩⟩)⟩))
                    have zp : w8.heap.size ≤ gp ∧ OffTy U8 w9 gp := by
                      rcases hop with h | h
                      · exact ⟨hp2 gp (hp1.numO h), hp1.off (T := U8) hpt (by unfold U8; decide) gp (hp1.numO h)⟩
                      · exact ⟨Nat.le_trans hsz9 (Nat.le_trans Uzx.size h), Uzx.new h⟩
                    refine To.runF 1 [16] (fun _ _ => by kernel_rfl) fun f19 g19 l19 => ?_
                    refine To.append2 (ty := 30) elB uIM 10 (f18 0) 0 0 [] [] (some ⟨rm, 0, none⟩) r.mask.length rcm (ucells r.mask) (by kernel_rfl) (by kernel_rfl) rfl rfl (Nat.le_refl _) (by decide) (by simp [ucells])
                      (fun wy hwy j u hj => (hb9m.kept ((Kp.trans (Fr.kept (Q := (fun b => Foot fb ab ts b ∨ (w7.heap.size ≤ b ∧ b < w8.heap.size))) (l := [numO oob, some (f5 0), some (f6 0), some (f6 1), none, numO qob, some (f15 0), none, some gx, some (f17 0), some (f18 0), some gp]) hwy.fr (by kernel_rfl) (numsCons (numsHead qold) ⟨(numsTail qold).1, (numsTail qold).2.1, (numsTail qold).2.2.1, nums0 (numsCons (numsHead (numsTail (numsTail (numsTail (numsTail (numsTail (q6 (r := []) trivial))))))) (⟨(qnew _ (Nat.le_trans hsz9 (l15 0))), nums0 (⟨(qnew _ (Nat.le_trans hsz9 zx)), ⟨(qnew _ (Nat.le_trans hsz9 (Nat.le_trans Uzx.size (l17 0)))), ⟨(qnew _ (Nat.le_trans hsz9 (Nat.le_trans Uzx.size (l18 0)))), ⟨(qnew _ zp.1), trivial⟩⟩⟩⟩)⟩))⟩)))) (fun ad e => by cases e; exact .inl (.inr (.inr hfrm)))).cells j u hj) (fun e => by cases e)
                      (fun u hu => by unfold ucells at hu; obtain ⟨y, _, rfl⟩ := List.mem_map.1 hu; rfl) (by simp only [maxLen]; omega) (by omega) (held_in (g := f18 0) (o := .cells ⟨[]⟩ 5 (0, 0)) (q := true) [3, 6] 10 (by kernel_rfl) (by kernel_rfl) (by decide)) ?_
                    intro wya wyb gy cy ty hwy hgy hoy hry hcy hmy
                    have Ly1 := Lp.fr (l := [numO oob, some (f5 0), some (f6 0), some (f6 1), none, numO qob, some (f15 0), none, some gx, some (f17 0), some (f18 0), some gp]) hwy.fr (by kernel_rfl) (numsCons (numsHead offx) ⟨(numsTail offx).1, (numsTail offx).2.1, (numsTail offx).2.2.1, nums0 (numsCons (numsHead (numsTail (numsTail (numsTail (numsTail (numsTail (o6 (r := []) trivial))))))) (⟨(hk9.new (l15 0)), nums0 (⟨(.inl (Nat.le_trans h48 (Nat.le_trans hsz9 zx))), ⟨(Lzx.new (l17 0)), ⟨(Lzx.new (l18 0)), ⟨(.inl (Nat.le_trans h48 zp.1)), trivial⟩⟩⟩⟩)⟩))⟩)
                    have Ky1 := Kp.trans (Fr.kept (Q := (fun b => Foot fb ab ts b ∨ (w7.heap.size ≤ b ∧ b < w8.heap.size))) (l := [numO oob, some (f5 0), some (f6 0), some (f6 1), none, numO qob, some (f15 0), none, some gx, some (f17 0), some (f18 0), some gp]) hwy.fr (by kernel_rfl) (numsCons (numsHead qold) ⟨(numsTail qold).1, (numsTail qold).2.1, (numsTail qold).2.2.1, nums0 (numsCons (numsHead (numsTail (numsTail (numsTail (numsTail (numsTail (q6 (r := []) trivial))))))) (⟨(qnew _ (Nat.le_trans hsz9 (l15 0))), nums0 (⟨(qnew _ (Nat.le_trans hsz9 zx)), ⟨(qnew _ (Nat.le_trans hsz9 (Nat.le_trans Uzx.size (l17 0)))), ⟨(qnew _ (Nat.le_trans hsz9 (Nat.le_trans Uzx.size (l18 0)))), ⟨(qnew _ zp.1), trivial⟩⟩⟩⟩)⟩))⟩))
                    have Uy1 := Up.fr (l := [numO oob, some (f5 0), some (f6 0), some (f6 1), none, numO qob, some (f15 0), none, some gx, some (f17 0), some (f18 0), some gp]) hwy.fr (by kernel_rfl) (numsCons (numsHead hu9) ⟨(numsTail hu9).1, (numsTail hu9).2.1, (numsTail hu9).2.2.1, nums0 (numsCons (numsHead (numsTail (numsTail (numsTail (numsTail (numsTail (v6 (r := []) trivial))))))) (⟨(.inl (l15 0)), nums0 (⟨(.inl zx), ⟨(Uzx.new (l17 0)), ⟨(Uzx.new (l18 0)), ⟨zp.2, trivial⟩⟩⟩⟩)⟩))⟩)
                    have zy : w9.heap.size ≤ gy := by
                      rcases hoy with h | h
                      · rw [h]; exact (Nat.le_trans Uzx.size (l18 0))
                      · rw [h]; exact Uy1.size
                    have Lzy := Ly1.grown hgy (fun b hb => by cases hb; exact (Lzx.new (l18 0)))
                    have Kzy := Ky1.trans (grown_kept hgy (fun b hb => by cases hb; exact (qnew _ (Nat.le_trans hsz9 (Nat.le_trans Uzx.size (l18 0))))))
                    have Uzy := Uy1.grown hgy (fun b hb => by cases hb; exact (Uzx.new (l18 0)))
                    refine To.slotE 87 (.slice (some ⟨gy, 0, none⟩) (0 + r.mask.length) cy) (.slice (some ⟨gy, 0, none⟩) r.mask.length cy) (by kernel_rfl) (by rw [Nat.zero_add]) ?_
                    refine To.runF 1 [] (fun _ _ => by kernel_rfl) fun f20 g20 l20 => ?_
                    refine To.appendAny (ty := 27) elBs 5 qa qn qc qob qcss hq1 ⟨f20 0, 0, none⟩ 1 [.slice (some ⟨gy, 0, none⟩) r.mask.length cy] (qn + 1) (by kernel_rfl) (by kernel_rfl) rfl rfl
                      (fun wy hwy j u hj => hwy.cellAt0 (j := 13) (b := f20 0) (l := [.slice (some ⟨gy, 0, none⟩) r.mask.length cy]) (e := 30) (f := (0, 0)) (q := true) (by kernel_rfl) hj)
                      (fun u hu => by simp only [List.mem_cons, List.not_mem_nil, or_false] at hu; rcases hu with rfl; rfl) (by simp only [maxLen]; omega) (by omega) (held_inO [3, 6] 5 (by kernel_rfl) (by kernel_rfl) (by decide)) ?_
                    intro wq gq cq tq hfrq hoq hOq
                    have Lq := Lzy.fr (l := [numO oob, some (f5 0), some (f6 0), some (f6 1), none, numO qob, some (f15 0), none, some gx, some (f17 0), none, some gp, some gy, some (f20 0)]) hfrq (by kernel_rfl) (numsCons (numsHead offx) ⟨(numsTail offx).1, (numsTail offx).2.1, (numsTail offx).2.2.1, nums0 (numsCons (numsHead (numsTail (numsTail (numsTail (numsTail (numsTail (o6 (r := []) trivial))))))) (⟨(hk9.new (l15 0)), nums0 (⟨(.inl (Nat.le_trans h48 (Nat.le_trans hsz9 zx))), ⟨(Lzx.new (l17 0)), nums0 (⟨(.inl (Nat.le_trans h48 zp.1)), ⟨(.inl (Nat.le_trans h48 (Nat.le_trans hsz9 zy))), ⟨(Lzy.new (l20 0)), trivial⟩⟩⟩)⟩⟩)⟩))⟩)
                    have Kq := Kzy.trans (Fr.kept (Q := (fun b => Foot fb ab ts b ∨ (w7.heap.size ≤ b ∧ b < w8.heap.size))) (l := [numO oob, some (f5 0), some (f6 0), some (f6 1), none, numO qob, some (f15 0), none, some gx, some (f17 0), none, some gp, some gy, some (f20 0)]) hfrq (by kernel_rfl) (numsCons (numsHead qold) ⟨(numsTail qold).1, (numsTail qold).2.1, (numsTail qold).2.2.1, nums0 (numsCons (numsHead (numsTail (numsTail (numsTail (numsTail (numsTail (q6 (r := []) trivial))))))) (⟨(qnew _ (Nat.le_trans hsz9 (l15 0))), nums0 (⟨(qnew _ (Nat.le_trans hsz9 zx)), ⟨(qnew _ (Nat.le_trans hsz9 (Nat.le_trans Uzx.size (l17 0)))), nums0 (⟨(qnew _ zp.1), ⟨(qnew _ (Nat.le_trans hsz9 zy)), ⟨(qnew _ (Nat.le_trans hsz9 (Nat.le_trans Uzy.size (l20 0)))), trivial⟩⟩⟩)⟩⟩)⟩))⟩))
                    have Uq := Uzy.fr (l := [numO oob, some (f5 0), some (f6 0), some (f6 1), none, numO qob, some (f15 0), none, some gx, some (f17 0), none, some gp, some gy, some (f20 0)]) hfrq (by kernel_rfl) (numsCons (numsHead hu9) ⟨(numsTail hu9).1, (numsTail hu9).2.1, (numsTail hu9).2.2.1, nums0 (numsCons (numsHead (numsTail (numsTail (numsTail (numsTail (numsTail (v6 (r := []) trivial))))))) (⟨(.inl (l15 0)), nums0 (⟨(.inl zx), ⟨(Uzx.new (l17 0)), nums0 (⟨zp.2, ⟨(.inl zy), ⟨(Uzy.new (l20 0)), trivial⟩⟩⟩)⟩⟩)⟩))⟩)
                    have zq : w8.heap.size ≤ gq ∧ OffTy U8 w9 gq := by
                      rcases hoq with h | h
                      · exact ⟨hq2 gq (hq1.numO h), hq1.off (T := U8) hqt (by unfold U8; decide) gq (hq1.numO h)⟩
                      · exact ⟨Nat.le_trans hsz9 (Nat.le_trans Uzy.size h), Uzy.new h⟩
                    exact join _ _ ((gp, cp, tp), (gq, cq, tq), (gx, cx, tx), (gy, cy, ty)) [0, 1, 2, 3, 11, 14, 8, 12] ⟨by kernel_rfl, by kernel_rfl, by kernel_rfl, by kernel_rfl, by kernel_rfl, rfl⟩
                      (fun wz hwz => ⟨Lq.fr (l := [numO oob, some (f5 0), some (f6 0), some (f6 1), none, none, some (f15 0), none, some gx, some (f17 0), none, some gp, some gy, some (f20 0), some gq]) hwz.fr (by kernel_rfl) (numsCons (numsHead offx) ⟨(numsTail offx).1, (numsTail offx).2.1, (numsTail offx).2.2.1, nums0 (nums0 (⟨(hk9.new (l15 0)), nums0 (⟨(.inl (Nat.le_trans h48 (Nat.le_trans hsz9 zx))), ⟨(Lzx.new (l17 0)), nums0 (⟨(.inl (Nat.le_trans h48 zp.1)), ⟨(.inl (Nat.le_trans h48 (Nat.le_trans hsz9 zy))), ⟨(Lzy.new (l20 0)), ⟨(.inl (Nat.le_trans h48 zq.1)), trivial⟩⟩⟩⟩)⟩⟩)⟩))⟩), Kq.trans (Fr.kept (Q := (fun b => Foot fb ab ts b ∨ (w7.heap.size ≤ b ∧ b < w8.heap.size))) (l := [numO oob, some (f5 0), some (f6 0), some (f6 1), none, none, some (f15 0), none, some gx, some (f17 0), none, some gp, some gy, some (f20 0), some gq]) hwz.fr (by kernel_rfl) (numsCons (numsHead qold) ⟨(numsTail qold).1, (numsTail qold).2.1, (numsTail qold).2.2.1, nums0 (nums0 (⟨(qnew _ (Nat.le_trans hsz9 (l15 0))), nums0 (⟨(qnew _ (Nat.le_trans hsz9 zx)), ⟨(qnew _ (Nat.le_trans hsz9 (Nat.le_trans Uzx.size (l17 0)))), nums0 (⟨(qnew _ zp.1), ⟨(qnew _ (Nat.le_trans hsz9 zy)), ⟨(qnew _ (Nat.le_trans hsz9 (Nat.le_trans Uzy.size (l20 0)))), ⟨(qnew _ zq.1), trivial⟩⟩⟩⟩)⟩⟩)⟩))⟩)), Uq.fr (l := [numO oob, some (f5 0), some (f6 0), some (f6 1), none, none, some (f15 0), none, some gx, some (f17 0), none, some gp, some gy, some (f20 0), some gq]) hwz.fr (by kernel_rfl) (numsCons (numsHead hu9) ⟨(numsTail hu9).1, (numsTail hu9).2.1, (numsTail hu9).2.2.1, nums0 (nums0 (⟨(.inl (l15 0)), nums0 (⟨(.inl zx), ⟨(Uzx.new (l17 0)), nums0 (⟨zp.2, ⟨(.inl zy), ⟨(Uzy.new (l20 0)), ⟨zq.2, trivial⟩⟩⟩⟩)⟩⟩)⟩))⟩), hOp, hOq, zp, zq, zx, zy⟩)
                · refine To.runF 2 [] (fun _ _ => by kernel_rfl) fun f17 g17 l17 => ?_
                  refine To.appendAny (ty := 27) elBs 4 pa pn pc pob pcss hp1 ⟨f17 1, 0, none⟩ 1 [.slice (some ⟨gx, 0, none⟩) r.ip.length cx] (pn + 1) (by kernel_rfl) (by kernel_rfl) rfl rfl
                    (fun wy hwy j u hj => hwy.cellAt0 (j := 10) (b := f17 1) (l := [.slice (some ⟨gx, 0, none⟩) r.ip.length cx]) (e := 30) (f := (0, 0)) (q := true) (by kernel_rfl) hj)
                    (fun u hu => by simp only [List.mem_cons, List.not_mem_nil, or_false] at hu; rcases hu with rfl; rfl) (by simp only [maxLen]; omega) (by omega) (held_inO [3, 6] 4 (by kernel_rfl) (by kernel_rfl) (by decide)) ?_
                  intro wp gp cp tp hfrp hop hOp
                  have Lp := Lzx.fr (l := [numO oob, some (f5 0), some (f6 0), some (f6 1), numO pob, numO qob, some (f15 0), none, some gx, some (f17 0), some (f17 1)]) hfrp (by kernel_rfl) (o6 (⟨(hk9.new (l15 0)), nums0 (⟨(.inl (Nat.le_trans h48 (Nat.le_trans hsz9 zx))), ⟨(Lzx.new (l17 0)), ⟨(Lzx.new (l17 1)), trivial⟩⟩⟩)⟩))
                  have Kp := Kzx.trans (Fr.kept (Q := (fun b => Foot fb ab ts b ∨ (w7.heap.size ≤ b ∧ b < w8.heap.size))) (l := [numO oob, some (f5 0), some (f6 0), some (f6 1), numO pob, numO qob, some (f15 0), none, some gx, some (f17 0), some (f17 1)]) hfrp (by kernel_rfl) (q6 (⟨(qnew _ (Nat.le_trans hsz9 (l15 0))), nums0 (⟨(qnew _ (Nat.le_trans hsz9 zx)), ⟨(qnew _ (Nat.le_trans hsz9 (Nat.le_trans Uzx.size (l17 0)))), ⟨(qnew _ (Nat.le_trans hsz9 (Nat.le_trans Uzx.size (l17 1)))), trivial⟩⟩⟩)⟩)))
                  have Up := Uzx.fr (l := [numO oob, some (f5 0), some (f6 0), some (f6 1), numO pob, numO qob, some (f15 0), none, some gx, some (f17 0), some (f17 1)]) hfrp (by kernel_rfl) (v6 (⟨(.inl (l15 0)), nums0 (⟨(.inl zx), ⟨(Uzx.new (l17 0)), ⟨(Uzx.new (l17 1)), trivial⟩⟩⟩)⟩))
                  have zp : w8.heap.size ≤ gp ∧ OffTy U8 w9 gp := by
                    rcases hop with h | h
                    · exact ⟨hp2 gp (hp1.numO h), hp1.off (T := U8) hpt (by unfold U8; decide) gp (hp1.numO h)⟩
                    · exact ⟨Nat.le_trans hsz9 (Nat.le_trans Uzx.size h), Uzx.new h⟩
                  refine To.runF 1 [16] (fun _ _ => by kernel_rfl) fun f18 g18 l18 => ?_
                  refine To.append2 (ty := 30) elB uIM 9 (f17 0) 0 0 [] [] (some ⟨rm, 0, none⟩) r.mask.length rcm (ucells r.mask) (by kernel_rfl) (by kernel_rfl) rfl rfl (Nat.le_refl _) (by decide) (by simp [ucells])
                    (fun wy hwy j u hj => (hb9m.kept ((Kp.trans (Fr.kept (Q := (fun b => Foot fb ab ts b ∨ (w7.heap.size ≤ b ∧ b < w8.heap.size))) (l := [numO oob, some (f5 0), some (f6 0), some (f6 1), none, numO qob, some (f15 0), none, some gx, some (f17 0), some (f17 1), some gp]) hwy.fr (by kernel_rfl) (numsCons (numsHead qold) ⟨(numsTail qold).1, (numsTail qold).2.1, (numsTail qold).2.2.1, nums0 (numsCons (numsHead (numsTail (numsTail (numsTail (numsTail (numsTail (q6 (r := []) trivial))))))) (⟨(qnew _ (Nat.le_trans hsz9 (l15 0))), nums0 (⟨(qnew _ (Nat.le_trans hsz9 zx)), ⟨(qnew _ (Nat.le_trans hsz9 (Nat.le_trans Uzx.size (l17 0)))), ⟨(qnew _ (Nat.le_trans hsz9 (Nat.le_trans Uzx.size (l17 1)))), ⟨(qnew _ zp.1), trivial⟩⟩⟩⟩)⟩))⟩)))) (fun ad e => by cases e; exact .inl (.inr (.inr hfrm)))).cells j u hj) (fun e => by cases e)
                    (fun u hu => by unfold ucells at hu; obtain ⟨y, _, rfl⟩ := List.mem_map.1 hu; rfl) (by simp only [maxLen]; omega) (by omega) (held_in (g := f17 0) (o := .cells ⟨[]⟩ 5 (0, 0)) (q := true) [3, 6] 9 (by kernel_rfl) (by kernel_rfl) (by decide)) ?_
                  intro wya wyb gy cy ty hwy hgy hoy hry hcy hmy
                  have Ly1 := Lp.fr (l := [numO oob, some (f5 0), some (f6 0), some (f6 1), none, numO qob, some (f15 0), none, some gx, some (f17 0), some (f17 1), some gp]) hwy.fr (by kernel_rfl) (numsCons (numsHead offx) ⟨(numsTail offx).1, (numsTail offx).2.1, (numsTail offx).2.2.1, nums0 (numsCons (numsHead (numsTail (numsTail (numsTail (numsTail (numsTail (o6 (r := []) trivial))))))) (⟨(hk9.new (l15 0)), nums0 (⟨(.inl (Nat.le_trans h48 (Nat.le_trans hsz9 zx))), ⟨(Lzx.new (l17 0)), ⟨(Lzx.new (l17 1)), ⟨(.inl (Nat.le_trans h48 zp.1)), trivial⟩⟩⟩⟩)⟩))⟩)
                  have Ky1 := Kp.trans (Fr.kept (Q := (fun b => Foot fb ab ts b ∨ (w7.heap.size ≤ b ∧ b < w8.heap.size))) (l := [numO oob, some (f5 0), some (f6 0), some (f6 1), none, numO qob, some (f15 0), none, some gx, some (f17 0), some (f17 1), some gp]) hwy.fr (by kernel_rfl) (numsCons (numsHead qold) ⟨(numsTail qold).1, (numsTail qold).2.1, (numsTail qold).2.2.1, nums0 (numsCons (numsHead (numsTail (numsTail (numsTail (numsTail (numsTail (q6 (r := []) trivial))))))) (⟨(qnew _ (Nat.le_trans hsz9 (l15 0))), nums0 (⟨(qnew _ (Nat.le_trans hsz9 zx)), ⟨(qnew _ (Nat.le_trans hsz9 (Nat.le_trans Uzx.size (l17 0)))), ⟨(qnew _ (Nat.le_trans hsz9 (Nat.le_trans Uzx.size (l17 1)))), ⟨(qnew _ zp.1), trivial⟩⟩⟩⟩)⟩))⟩))
                  have Uy1 := Up.fr (l := [numO oob, some (f5 0), some (f6 0), some (f6 1), none, numO qob, some (f15 0), none, some gx, some (f17 0), some (f17 1), some gp]) hwy.fr (by kernel_rfl) (numsCons (numsHead hu9) ⟨(numsTail hu9).1, (numsTail hu9).2.1, (numsTail hu9).2.2.1, nums0 (numsCons (numsHead (numsTail (numsTail (numsTail (numsTail (numsTail (v6 (r := []) trivial))))))) (⟨(.inl (l15 0)), nums0 (⟨(.inl zx), ⟨(Uzx.new (l17 0)), ⟨(Uzx.new (l17 1)), ⟨zp.2, trivial⟩⟩⟩⟩)⟩))⟩)
                  have zy : w9.heap.size ≤ gy := by
                    rcases hoy with h | h
                    · rw [h]; exact (Nat.le_trans Uzx.size (l17 0))
                    · rw [h]; exact Uy1.size
                  have Lzy := Ly1.grown hgy (fun b hb => by cases hb; exact (Lzx.new (l17 0)))
                  have Kzy := Ky1.trans (grown_kept hgy (fun b hb => by cases hb; exact (qnew _ (Nat.le_trans hsz9 (Nat.le_trans Uzx.size (l17 0))))))
                  have Uzy := Uy1.grown hgy (fun b hb => by cases hb; exact (Uzx.new (l17 0)))
                  refine To.slotE 87 (.slice (some ⟨gy, 0, none⟩) (0 + r.mask.length) cy) (.slice (some ⟨gy, 0, none⟩) r.mask.length cy) (by kernel_rfl) (by rw [Nat.zero_add]) ?_
                  refine To.runF 1 [] (fun _ _ => by kernel_rfl) fun f19 g19 l19 => ?_
                  refine To.appendAny (ty := 27) elBs 5 qa qn qc qob qcss hq1 ⟨f19 0, 0, none⟩ 1 [.slice (some ⟨gy, 0, none⟩) r.mask.length cy] (qn + 1) (by kernel_rfl) (by kernel_rfl) rfl rfl
                    (fun wy hwy j u hj => hwy.cellAt0 (j := 13) (b := f19 0) (l := [.slice (some ⟨gy, 0, none⟩) r.mask.length cy]) (e := 30) (f := (0, 0)) (q := true) (by kernel_rfl) hj)
                    (fun u hu => by simp only [List.mem_cons, List.not_mem_nil, or_false] at hu; rcases hu with rfl; rfl) (by simp only [maxLen]; omega) (by omega) (held_inO [3, 6] 5 (by kernel_rfl) (by kernel_rfl) (by decide)) ?_
                  intro wq gq cq tq hfrq hoq hOq
                  have Lq := Lzy.fr (l := [numO oob, some (f5 0), some (f6 0), some (f6 1), none, numO qob, some (f15 0), none, some gx, none, some (f17 1), some gp, some gy, some (f19 0)]) hfrq (by kernel_rfl) (numsCons (numsHead offx) ⟨(numsTail offx).1, (numsTail offx).2.1, (numsTail offx).2.2.1, nums0 (numsCons (numsHead (numsTail (numsTail (numsTail (numsTail (numsTail (o6 (r := []) trivial))))))) (⟨(hk9.new (l15 0)), nums0 (⟨(.inl (Nat.le_trans h48 (Nat.le_trans hsz9 zx))), nums0 (⟨(Lzx.new (l17 1)), ⟨(.inl (Nat.le_trans h48 zp.1)), ⟨(.inl (Nat.le_trans h48 (Nat.le_trans hsz9 zy))), ⟨(Lzy.new (l19 0)), trivial⟩⟩⟩⟩)⟩)⟩))⟩)
                  have Kq := Kzy.trans (Fr.kept (Q := (fun b => Foot fb ab ts b ∨ (w7.heap.size ≤ b ∧ b < w8.heap.size))) (l := [numO oob, some (f5 0), some (f6 0), some (f6 1), none, numO qob, some (f15 0), none, some gx, none, some (f17 1), some gp, some gy, some (f19 0)]) hfrq (by kernel_rfl) (numsCons (numsHead qold) ⟨(numsTail qold).1, (numsTail qold).2.1, (numsTail qold).2.2.1, nums0 (numsCons (numsHead (numsTail (numsTail (numsTail (numsTail (numsTail (q6 (r := []) trivial))))))) (⟨(qnew _ (Nat.le_trans hsz9 (l15 0))), nums0 (⟨(qnew _ (Nat.le_trans hsz9 zx)), nums0 (⟨(qnew _ (Nat.le_trans hsz9 (Nat.le_trans Uzx.size (l17 1)))), ⟨(qnew _ zp.1), ⟨(qnew _ (Nat.le_trans hsz9 zy)), ⟨(qnew _ (Nat.le_trans hsz9 (Nat.le_trans Uzy.size (l19 0)))), trivial⟩⟩⟩⟩)⟩)⟩))⟩))
                  have Uq := Uzy.fr (l := [numO oob, some (f5 0), some (f6 0), some (f6 1), none, numO qob, some (f15 0), none, some gx, none, some (f17 1), some gp, some gy, some (f19 0)]) hfrq (by kernel_rfl) (numsCons (numsHead hu9) ⟨(numsTail hu9).1, (numsTail hu9).2.1, (numsTail hu9).2.2.1, nums0 (numsCons (numsHead (numsTail (numsTail (numsTail (numsTail (numsTail (v6 (r := []) trivial))))))) (⟨(.inl (l15 0)), nums0 (⟨(.inl zx), nums0 (⟨(Uzx.new (l17 1)), ⟨zp.2, ⟨(.inl zy), ⟨(Uzy.new (l19 0)), trivial⟩⟩⟩⟩)⟩)⟩))⟩)
                  have zq : w8.heap.size ≤ gq ∧ OffTy U8 w9 gq := by
                    rcases hoq with h | h
                    · exact ⟨hq2 gq (hq1.numO h), hq1.off (T := U8) hqt (by unfold U8; decide) gq (hq1.numO h)⟩
                    · exact ⟨Nat.le_trans hsz9 (Nat.le_trans Uzy.size h), Uzy.new h⟩
                  exact join _ _ ((gp, cp, tp), (gq, cq, tq), (gx, cx, tx), (gy, cy, ty)) [0, 1, 2, 3, 11, 14, 8, 12] ⟨by kernel_rfl, by kernel_rfl, by kernel_rfl, by kernel_rfl, by kernel_rfl, rfl⟩
                    (fun wz hwz => ⟨Lq.fr (l := [numO oob, some (f5 0), some (f6 0), some (f6 1), none, none, some (f15 0), none, some gx, none, some (f17 1), some gp, some gy, some (f19 0), some gq]) hwz.fr (by kernel_rfl) (numsCons (numsHead offx) ⟨(numsTail offx).1, (numsTail offx).2.1, (numsTail offx).2.2.1, nums0 (nums0 (⟨(hk9.new (l15 0)), nums0 (⟨(.inl (Nat.le_trans h48 (Nat.le_trans hsz9 zx))), nums0 (⟨(Lzx.new (l17 1)), ⟨(.inl (Nat.le_trans h48 zp.1)), ⟨(.inl (Nat.le_trans h48 (Nat.le_trans hsz9 zy))), ⟨(Lzy.new (l19 0)), ⟨(.inl (Nat.le_trans h48 zq.1)), trivial⟩⟩⟩⟩⟩)⟩)⟩))⟩), Kq.trans (Fr.kept (Q := (fun b => Foot fb ab ts b ∨ (w7.heap.size ≤ b ∧ b < w8.heap.size))) (l := [numO oob, some (f5 0), some (f6 0), some (f6 1), none, none, some (f15 0), none, some gx, none, some (f17 1), some gp, some gy, some (f19 0), some gq]) hwz.fr (by kernel_rfl) (numsCons (numsHead qold) ⟨(numsTail qold).1, (numsTail qold).2.1, (numsTail qold).2.2.1, nums0 (nums0 (⟨(qnew _ (Nat.le_trans hsz9 (l15 0))), nums0 (⟨(qnew _ (Nat.le_trans hsz9 zx)), nums0 (⟨(qnew _ (Nat.le_trans hsz9 (Nat.le_trans Uzx.size (l17 1)))), ⟨(qnew _ zp.1), ⟨(qnew _ (Nat.le_trans hsz9 zy)), ⟨(qnew _ (Nat.le_trans hsz9 (Nat.le_trans Uzy.size (l19 0)))), ⟨(qnew _ zq.1), trivial⟩⟩⟩⟩⟩)⟩)⟩))⟩)), Uq.fr (l := [numO oob, some (f5 0), some (f6 0), some (f6 1), none, none, some (f15 0), none, some gx, none, some (f17 1), some gp, some gy, some (f19 0), some gq]) hwz.fr (by kernel_rfl) (numsCons (numsHead hu9) ⟨(numsTail hu9).1, (numsTail hu9).2.1, (numsTail hu9).2.2.1, nums0 (nums0 (⟨(.inl (l15 0)), nums0 (⟨(.inl zx), nums0 (⟨(Uzx.new (l17 1)), ⟨zp.2, ⟨(.inl zy), ⟨(Uzy.new (l19 0)), ⟨zq.2, trivial⟩⟩⟩⟩⟩)⟩)⟩))⟩), hOp, hOq, zp, zq, zx, zy⟩)
              · refine To.runF 1 [] (fun _ _ => by kernel_rfl) fun f17 g17 l17 => ?_
                refine To.append2 (ty := 30) elB uIP 7 (f16 0) 0 0 [] [] (some ⟨ri, 0, none⟩) r.ip.length rci (ucells r.ip) (by kernel_rfl) (by kernel_rfl) rfl rfl (Nat.le_refl _) (by decide) (by simp [ucells])
                  (fun wy hwy j u hj => (hb9i.kept ((K9.trans (Fr.kept (Q := (fun b => Foot fb ab ts b ∨ (w7.heap.size ≤ b ∧ b < w8.heap.size))) (l := [numO oob, some (f5 0), some (f6 0), some (f6 1), numO pob, numO qob, some (f15 0), some (f16 0), some (f17 0)]) hwy.fr (by kernel_rfl) (q6 (⟨(qnew _ (Nat.le_trans hsz9 (l15 0))), ⟨(qnew _ (Nat.le_trans hsz9 (Nat.le_trans U9.size (l16 0)))), ⟨(qnew _ (Nat.le_trans hsz9 (Nat.le_trans U9.size (l17 0)))), trivial⟩⟩⟩))))) (fun ad e => by cases e; exact .inl (.inr (.inr hfri)))).cells j u hj) (fun e => by cases e)
                  (fun u hu => by unfold ucells at hu; obtain ⟨y, _, rfl⟩ := List.mem_map.1 hu; rfl) (by simp only [maxLen]; omega) (by omega) (held_in (g := f16 0) (o := .cells ⟨[]⟩ 5 (0, 0)) (q := true) [3, 6] 7 (by kernel_rfl) (by kernel_rfl) (by decide)) ?_
                intro wxa wxb gx cx tx hwx hgx hox hrx hcx hmx
                have Lx1 := hk9.fr (l := [numO oob, some (f5 0), some (f6 0), some (f6 1), numO pob, numO qob, some (f15 0), some (f16 0), some (f17 0)]) hwx.fr (by kernel_rfl) (o6 (⟨(hk9.new (l15 0)), ⟨(hk9.new (l16 0)), ⟨(hk9.new (l17 0)), trivial⟩⟩⟩))
                have Kx1 := K9.trans (Fr.kept (Q := (fun b => Foot fb ab ts b ∨ (w7.heap.size ≤ b ∧ b < w8.heap.size))) (l := [numO oob, some (f5 0), some (f6 0), some (f6 1), numO pob, numO qob, some (f15 0), some (f16 0), some (f17 0)]) hwx.fr (by kernel_rfl) (q6 (⟨(qnew _ (Nat.le_trans hsz9 (l15 0))), ⟨(qnew _ (Nat.le_trans hsz9 (Nat.le_trans U9.size (l16 0)))), ⟨(qnew _ (Nat.le_trans hsz9 (Nat.le_trans U9.size (l17 0)))), trivial⟩⟩⟩)))
                have Ux1 := U9.fr (l := [numO oob, some (f5 0), some (f6 0), some (f6 1), numO pob, numO qob, some (f15 0), some (f16 0), some (f17 0)]) hwx.fr (by kernel_rfl) (v6 (⟨(.inl (l15 0)), ⟨(U9.new (l16 0)), ⟨(U9.new (l17 0)), trivial⟩⟩⟩))
                have zx : w9.heap.size ≤ gx := by
                  rcases hox with h | h
                  · rw [h]; exact (Nat.le_trans U9.size (l16 0))
                  · rw [h]; exact Ux1.size
                have Lzx := Lx1.grown hgx (fun b hb => by cases hb; exact (hk9.new (l16 0)))
                have Kzx := Kx1.trans (grown_kept hgx (fun b hb => by cases hb; exact (qnew _ (Nat.le_trans hsz9 (Nat.le_trans U9.size (l16 0))))))
                have Uzx := Ux1.grown hgx (fun b hb => by cases hb; exact (U9.new (l16 0)))
                refine To.slotE 79 (.slice (some ⟨gx, 0, none⟩) (0 + r.ip.length) cx) (.slice (some ⟨gx, 0, none⟩) r.ip.length cx) (by kernel_rfl) (by rw [Nat.zero_add]) ?_
                refine To.runF 1 [] (fun _ _ => by kernel_rfl) fun f18 g18 l18 => ?_
                refine To.appendAny (ty := 27) elBs 4 pa pn pc pob pcss hp1 ⟨f18 0, 0, none⟩ 1 [.slice (some ⟨gx, 0, none⟩) r.ip.length cx] (pn + 1) (by kernel_rfl) (by kernel_rfl) rfl rfl
                  (fun wy hwy j u hj => hwy.cellAt0 (j := 10) (b := f18 0) (l := [.slice (some ⟨gx, 0, none⟩) r.ip.length cx]) (e := 30) (f := (0, 0)) (q := true) (by kernel_rfl) hj)
                  (fun u hu => by simp only [List.mem_cons, List.not_mem_nil, or_false] at hu; rcases hu with rfl; rfl) (by simp only [maxLen]; omega) (by omega) (held_inO [3, 6] 4 (by kernel_rfl) (by kernel_rfl) (by decide)) ?_
                intro wp gp cp tp hfrp hop hOp
                have Lp := Lzx.fr (l := [numO oob, some (f5 0), some (f6 0), some (f6 1), numO pob, numO qob, some (f15 0), none, some (f17 0), some gx, some (f18 0)]) hfrp (by kernel_rfl) (o6 (⟨(hk9.new (l15 0)), nums0 (⟨(hk9.new (l17 0)), ⟨(.inl (Nat.le_trans h48 (Nat.le_trans hsz9 zx))), ⟨(Lzx.new (l18 0)), trivial⟩⟩⟩)⟩))
                have Kp := Kzx.trans (Fr.kept (Q := (fun b => Foot fb ab ts b ∨ (w7.heap.size ≤ b ∧ b < w8.heap.size))) (l := [numO oob, some (f5 0), some (f6 0), some (f6 1), numO pob, numO qob, some (f15 0), none, some (f17 0), some gx, some (f18 0)]) hfrp (by kernel_rfl) (q6 (⟨(qnew _ (Nat.le_trans hsz9 (l15 0))), nums0 (⟨(qnew _ (Nat.le_trans hsz9 (Nat.le_trans U9.size (l17 0)))), ⟨(qnew _ (Nat.le_trans hsz9 zx)), ⟨(qnew _ (Nat.le_trans hsz9 (Nat.le_trans Uzx.size (l18 0)))), trivial⟩⟩⟩)⟩)))
                have Up := Uzx.fr (l := [numO oob, some (f5 0), some (f6 0), some (f6 1), numO pob, numO qob, some (f15 0), none, some (f17 0), some gx, some (f18 0)]) hfrp (by kernel_rfl) (v6 (⟨(.inl (l15 0)), nums0 (⟨(U9.new (l17 0)), ⟨(.inl zx), ⟨(Uzx.new (l18 0)), trivial⟩⟩⟩)⟩))
                have zp : w8.heap.size ≤ gp ∧ OffTy U8 w9 gp := by
                  rcases hop with h | h
                  · exact ⟨hp2 gp (hp1.numO h), hp1.off (T := U8) hpt (by unfold U8; decide) gp (hp1.numO h)⟩
                  · exact ⟨Nat.le_trans hsz9 (Nat.le_trans Uzx.size h), Uzx.new h⟩
                refine To.runF 1 [16] (fun _ _ => by kernel_rfl) fun f19 g19 l19 => ?_
                refine To.append2 (ty := 30) elB uIM 8 (f17 0) 0 0 [] [] (some ⟨rm, 0, none⟩) r.mask.length rcm (ucells r.mask) (by kernel_rfl) (by kernel_rfl) rfl rfl (Nat.le_refl _) (by decide) (by simp [ucells])
                  (fun wy hwy j u hj => (hb9m.kept ((Kp.trans (Fr.kept (Q := (fun b => Foot fb ab ts b ∨ (w7.heap.size ≤ b ∧ b < w8.heap.size))) (l := [numO oob, some (f5 0), some (f6 0), some (f6 1), none, numO qob, some (f15 0), none, some (f17 0), some gx, some (f18 0), some gp]) hwy.fr (by kernel_rfl) (numsCons (numsHead qold) ⟨(numsTail qold).1, (numsTail qold).2.1, (numsTail qold).2.2.1, nums0 (numsCons (numsHead (numsTail (numsTail (numsTail (numsTail (numsTail (q6 (r := []) trivial))))))) (⟨(qnew _ (Nat.le_trans hsz9 (l15 0))), nums0 (⟨(qnew _ (Nat.le_trans hsz9 (Nat.le_trans U9.size (l17 0)))), ⟨(qnew _ (Nat.le_trans hsz9 zx)), ⟨(qnew _ (Nat.le_trans hsz9 (Nat.le_trans Uzx.size (l18 0)))), ⟨(qnew _ zp.1), trivial⟩⟩⟩⟩)⟩))⟩)))) (fun ad e => by cases e; exact .inl (.inr (.inr hfrm)))).cells j u hj) (fun e => by cases e)
                  (fun u hu => by unfold ucells at hu; obtain ⟨y, _, rfl⟩ := List.mem_map.1 hu; rfl) (by simp only [maxLen]; omega) (by omega) (held_in (g := f17 0) (o := .cells ⟨[]⟩ 5 (0, 0)) (q := true) [3, 6] 8 (by kernel_rfl) (by kernel_rfl) (by decide)) ?_
                intro wya wyb gy cy ty hwy hgy hoy hry hcy hmy
                have Ly1 := Lp.fr (l := [numO oob, some (f5 0), some (f6 0), some (f6 1), none, numO qob, some (f15 0), none, some (f17 0), some gx, some (f18 0), some gp]) hwy.fr (by kernel_rfl) (numsCons (numsHead offx) ⟨(numsTail offx).1, (numsTail offx).2.1, (numsTail offx).2.2.1, nums0 (numsCons (numsHead (numsTail (numsTail (numsTail (numsTail (numsTail (o6 (r := []) trivial))))))) (⟨(hk9.new (l15 0)), nums0 (⟨(hk9.new (l17 0)), ⟨(.inl (Nat.le_trans h48 (Nat.le_trans hsz9 zx))), ⟨(Lzx.new (l18 0)), ⟨(.inl (Nat.le_trans h48 zp.1)), trivial⟩⟩⟩⟩)⟩))⟩)
                have Ky1 := Kp.trans (Fr.kept (Q := (fun b => Foot fb ab ts b ∨ (w7.heap.size ≤ b ∧ b < w8.heap.size))) (l := [numO oob, some (f5 0), some (f6 0), some (f6 1), none, numO qob, some (f15 0), none, some (f17 0), some gx, some (f18 0), some gp]) hwy.fr (by kernel_rfl) (numsCons (numsHead qold) ⟨(numsTail qold).1, (numsTail qold).2.1, (numsTail qold).2.2.1, nums0 (numsCons (numsHead (numsTail (numsTail (numsTail (numsTail (numsTail (q6 (r := []) trivial))))))) (⟨(qnew _ (Nat.le_trans hsz9 (l15 0))), nums0 (⟨(qnew _ (Nat.le_trans hsz9 (Nat.le_trans U9.size (l17 0)))), ⟨(qnew _ (Nat.le_trans hsz9 zx)), ⟨(qnew _ (Nat.le_trans hsz9 (Nat.le_trans Uzx.size (l18 0)))), ⟨(qnew _ zp.1), trivial⟩⟩⟩⟩)⟩))⟩))
                have Uy1 := Up.fr (l := [numO oob, some (f5 0), some (f6 0), some (f6 1), none, numO qob, some (f15 0), none, some (f17 0), some gx, some (f18 0), some gp]) hwy.fr (by kernel_rfl) (numsCons (numsHead hu9) ⟨(numsTail hu9).1, (numsTail hu9).2.1, (numsTail hu9).2.2.1, nums0 (numsCons (numsHead (numsTail (numsTail (numsTail (numsTail (numsTail (v6 (r := []) trivial))))))) (⟨(.inl (l15 0)), nums0 (⟨(U9.new (l17 0)), ⟨(.inl zx), ⟨(Uzx.new (l18 0)), ⟨zp.2, trivial⟩⟩⟩⟩)⟩))⟩)
                have zy : w9.heap.size ≤ gy := by
                  rcases hoy with h | h
                  · rw [h]; exact (Nat.le_trans U9.size (l17 0))
                  · rw [h]; exact Uy1.size
                have Lzy := Ly1.grown hgy (fun b hb => by cases hb; exact (hk9.new (l17 0)))
                have Kzy := Ky1.trans (grown_kept hgy (fun b hb => by cases hb; exact (qnew _ (Nat.le_trans hsz9 (Nat.le_trans U9.size (l17 0))))))
                have Uzy := Uy1.grown hgy (fun b hb => by cases hb; exact (U9.new (l17 0)))
                refine To.slotE 87 (.slice (some ⟨gy, 0, none⟩) (0 + r.mask.length) cy) (.slice (some ⟨gy, 0, none⟩) r.mask.length cy) (by kernel_rfl) (by rw [Nat.zero_add]) ?_
                refine To.runF 1 [] (fun _ _ => by kernel_rfl) fun f20 g20 l20 => ?_
                refine To.appendAny (ty := 27) elBs 5 qa qn qc qob qcss hq1 ⟨f20 0, 0, none⟩ 1 [.slice (some ⟨gy, 0, none⟩) r.mask.length cy] (qn + 1) (by kernel_rfl) (by kernel_rfl) rfl rfl
                  (fun wy hwy j u hj => hwy.cellAt0 (j := 13) (b := f20 0) (l := [.slice (some ⟨gy, 0, none⟩) r.mask.length cy]) (e := 30) (f := (0, 0)) (q := true) (by kernel_rfl) hj)
                  (fun u hu => by simp only [List.mem_cons, List.not_mem_nil, or_false] at hu; rcases hu with rfl; rfl) (by simp only [maxLen]; omega) (by omega) (held_inO [3, 6] 5 (by kernel_rfl) (by kernel_rfl) (by decide)) ?_
                intro wq gq cq tq hfrq hoq hOq
                have Lq := Lzy.fr (l := [numO oob, some (f5 0), some (f6 0), some (f6 1), none, numO qob, some (f15 0), none, none, some gx, some (f18 0), some gp, some gy, some (f20 0)]) hfrq (by kernel_rfl) (numsCons (numsHead offx) ⟨(numsTail offx).1, (numsTail offx).2.1, (numsTail offx).2.2.1, nums0 (numsCons (numsHead (numsTail (numsTail (numsTail (numsTail (numsTail (o6 (r := []) trivial))))))) (⟨(hk9.new (l15 0)), nums0 (nums0 (⟨(.inl (Nat.le_trans h48 (Nat.le_trans hsz9 zx))), ⟨(Lzx.new (l18 0)), ⟨(.inl (Nat.le_trans h48 zp.1)), ⟨(.inl (Nat.le_trans h48 (Nat.le_trans hsz9 zy))), ⟨(Lzy.new (l20 0)), trivial⟩⟩⟩⟩⟩))⟩))⟩)
                have Kq := Kzy.trans (Fr.kept (Q := (fun b => Foot fb ab ts b ∨ (w7.heap.size ≤ b ∧ b < w8.heap.size))) (l := [numO oob, some (f5 0), some (f6 0), some (f6 1), none, numO qob, some (f15 0), none, none, some gx, some (f18 0), some gp, some gy, some (f20 0)]) hfrq (by kernel_rfl) (numsCons (numsHead qold) ⟨(numsTail qold).1, (numsTail qold).2.1, (numsTail qold).2.2.1, nums0 (numsCons (numsHead (numsTail (numsTail (numsTail (numsTail (numsTail (q6 (r := []) trivial))))))) (⟨(qnew _ (Nat.le_trans hsz9 (l15 0))), nums0 (nums0 (⟨(qnew _ (Nat.le_trans hsz9 zx)), ⟨(qnew _ (Nat.le_trans hsz9 (Nat.le_trans Uzx.size (l18 0)))), ⟨(qnew _ zp.1), ⟨(qnew _ (Nat.le_trans hsz9 zy)), ⟨(qnew _ (Nat.le_trans hsz9 (Nat.le_trans Uzy.size (l20 0)))), trivial⟩⟩⟩⟩⟩))⟩))⟩))
                have Uq := Uzy.fr (l := [numO oob, some (f5 0), some (f6 0), some (f6 1), none, numO qob, some (f15 0), none, none, some gx, some (f18 0), some gp, some gy, some (f20 0)]) hfrq (by kernel_rfl) (numsCons (numsHead hu9) ⟨(numsTail hu9).1, (numsTail hu9).2.1, (numsTail hu9).2.2.1, nums0 (numsCons (numsHead (numsTail (numsTail (numsTail (numsTail (numsTail (v6 (r := []) trivial))))))) (⟨(.inl (l15 0)), nums0 (nums0 (⟨(.inl zx), ⟨(Uzx.new (l18 0)), ⟨zp.2, ⟨(.inl zy), ⟨(Uzy.new (l20 0)), trivial⟩⟩⟩⟩⟩))⟩))⟩)
                have zq : w8.heap.size ≤ gq ∧ OffTy U8 w9 gq := by
                  rcases hoq with h | h
                  · exact ⟨hq2 gq (hq1.numO h), hq1.off (T := U8) hqt (by unfold U8; decide) gq (hq1.numO h)⟩
                  · exact ⟨Nat.le_trans hsz9 (Nat.le_trans Uzy.size h), Uzy.new h⟩
                exact join _ _ ((gp, cp, tp), (gq, cq, tq), (gx, cx, tx), (gy, cy, ty)) [0, 1, 2, 3, 11, 14, 9, 12] ⟨by kernel_rfl, by kernel_rfl, by kernel_rfl, by kernel_rfl, by kernel_rfl, rfl⟩
                  (fun wz hwz => ⟨Lq.fr (l := [numO oob, some (f5 0), some (f6 0), some (f6 1), none, none, some (f15 0), none, none, some gx, some (f18 0), some gp, some gy, some (f20 0), some gq]) hwz.fr (by kernel_rfl) (numsCons (numsHead offx) ⟨(numsTail offx).1, (numsTail offx).2.1, (numsTail offx).2.2.1, nums0 (nums0 (⟨(hk9.new (l15 0)), nums0 (nums0 (⟨(.inl (Nat.le_trans h48 (Nat.le_trans hsz9 zx))), ⟨(Lzx.new (l18 0)), ⟨(.inl (Nat.le_trans h48 zp.1)), ⟨(.inl (Nat.le_trans h48 (Nat.le_trans hsz9 zy))), ⟨(Lzy.new (l20 0)), ⟨(.inl (Nat.le_trans h48 zq.1)), trivial⟩⟩⟩⟩⟩⟩))⟩))⟩), Kq.trans (Fr.kept (Q := (fun b => Foot fb ab ts b ∨ (w7.heap.size ≤ b ∧ b < w8.heap.size))) (l := [numO oob, some (f5 0), some (f6 0), some (f6 1), none, none, some (f15 0), none, none, some gx, some (f18 0), some gp, some gy, some (f20 0), some gq]) hwz.fr (by kernel_rfl) (numsCons (numsHead qold) ⟨(numsTail qold).1, (numsTail qold).2.1, (numsTail qold).2.2.1, nums0 (nums0 (⟨(qnew _ (Nat.le_trans hsz9 (l15 0))), nums0 (nums0 (⟨(qnew _ (Nat.le_trans hsz9 zx)), ⟨(qnew _ (Nat.le_trans hsz9 (Nat.le_trans Uzx.size (l18 0)))), ⟨(qnew _ zp.1), ⟨(qnew _ (Nat.le_trans hsz9 zy)), ⟨(qnew _ (Nat.le_trans hsz9 (Nat.le_trans Uzy.size (l20 0)))), ⟨(qnew _ zq.1), trivial⟩⟩⟩⟩⟩⟩))⟩))⟩)), Uq.fr (l := [numO oob, some (f5 0), some (f6 0), some (f6 1), none, none, some (f15 0), none, none, some gx, some (f18 0), some gp, some gy, some (f20 0), some gq]) hwz.fr (by kernel_rfl) (numsCons (numsHead hu9) ⟨(numsTail hu9).1, (numsTail hu9).2.1, (numsTail hu9).2.2.1, nums0 (nums0 (⟨(.inl (l15 0)), nums0 (nums0 (⟨(.inl zx), ⟨(Uzx.new (l18 0)), ⟨zp.2, ⟨(.inl zy), ⟨(Uzy.new (l20 0)), ⟨zq.2, trivial⟩⟩⟩⟩⟩⟩))⟩))⟩), hOp, hOq, zp, zq, zx, zy⟩)
            · refine To.runF 2 [] (fun _ _ => by kernel_rfl) fun f16 g16 l16 => ?_
              refine To.append2 (ty := 30) elB uIP 8 (f16 1) 0 0 [] [] (some ⟨ri, 0, none⟩) r.ip.length rci (ucells r.ip) (by kernel_rfl) (by kernel_rfl) rfl rfl (Nat.le_refl _) (by decide) (by simp [ucells])
                (fun wy hwy j u hj => (hb9i.kept ((K9.trans (Fr.kept (Q := (fun b => Foot fb ab ts b ∨ (w7.heap.size ≤ b ∧ b < w8.heap.size))) (l := [numO oob, some (f5 0), some (f6 0), some (f6 1), numO pob, numO qob, some (f15 0), some (f16 0), some (f16 1)]) hwy.fr (by kernel_rfl) (q6 (⟨(qnew _ (Nat.le_trans hsz9 (l15 0))), ⟨(qnew _ (Nat.le_trans hsz9 (Nat.le_trans U9.size (l16 0)))), ⟨(qnew _ (Nat.le_trans hsz9 (Nat.le_trans U9.size (l16 1)))), trivial⟩⟩⟩))))) (fun ad e => by cases e; exact .inl (.inr (.inr hfri)))).cells j u hj) (fun e => by cases e)
                (fun u hu => by unfold ucells at hu; obtain ⟨y, _, rfl⟩ := List.mem_map.1 hu; rfl) (by simp only [maxLen]; omega) (by omega) (held_in (g := f16 1) (o := .cells ⟨[]⟩ 5 (0, 0)) (q := true) [3, 6] 8 (by kernel_rfl) (by kernel_rfl) (by decide)) ?_
              intro wxa wxb gx cx tx hwx hgx hox hrx hcx hmx
              have Lx1 := hk9.fr (l := [numO oob, some (f5 0), some (f6 0), some (f6 1), numO pob, numO qob, some (f15 0), some (f16 0), some (f16 1)]) hwx.fr (by kernel_rfl) (o6 (⟨(hk9.new (l15 0)), ⟨(hk9.new (l16 0)), ⟨(hk9.new (l16 1)), trivial⟩⟩⟩))
              have Kx1 := K9.trans (Fr.kept (Q := (fun b => Foot fb ab ts b ∨ (w7.heap.size ≤ b ∧ b < w8.heap.size))) (l := [numO oob, some (f5 0), some (f6 0), some (f6 1), numO pob, numO qob, some (f15 0), some (f16 0), some (f16 1)]) hwx.fr (by kernel_rfl) (q6 (⟨(qnew _ (Nat.le_trans hsz9 (l15 0))), ⟨(qnew _ (Nat.le_trans hsz9 (Nat.le_trans U9.size (l16 0)))), ⟨(qnew _ (Nat.le_trans hsz9 (Nat.le_trans U9.size (l16 1)))), trivial⟩⟩⟩)))
              have Ux1 := U9.fr (l := [numO oob, some (f5 0), some (f6 0), some (f6 1), numO pob, numO qob, some (f15 0), some (f16 0), some (f16 1)]) hwx.fr (by kernel_rfl) (v6 (⟨(.inl (l15 0)), ⟨(U9.new (l16 0)), ⟨(U9.new (l16 1)), trivial⟩⟩⟩))
              have zx : w9.heap.size ≤ gx := by
                rcases hox with h | h
                · rw [h]; exact (Nat.le_trans U9.size (l16 1))
                · rw [h]; exact Ux1.size
              have Lzx := Lx1.grown hgx (fun b hb => by cases hb; exact (hk9.new (l16 1)))
              have Kzx := Kx1.trans (grown_kept hgx (fun b hb => by cases hb; exact (qnew _ (Nat.le_trans hsz9 (Nat.le_trans U9.size (l16 1))))))
              have Uzx := Ux1.grown hgx (fun b hb => by cases hb; exact (U9.new (l16 1)))
              refine To.slotE 79 (.slice (some ⟨gx, 0, none⟩) (0 + r.ip.length) cx) (.slice (some ⟨gx, 0, none⟩) r.ip.length cx) (by kernel_rfl) (by rw [Nat.zero_add]) ?_
              refine To.runF 1 [] (fun _ _ => by kernel_rfl) fun f17 g17 l17 => ?_
              refine To.appendAny (ty := 27) elBs 4 pa pn pc pob pcss hp1 ⟨f17 0, 0, none⟩ 1 [.slice (some ⟨gx, 0, none⟩) r.ip.length cx] (pn + 1) (by kernel_rfl) (by kernel_rfl) rfl rfl
                (fun wy hwy j u hj => hwy.cellAt0 (j := 10) (b := f17 0) (l := [.slice (some ⟨gx, 0, none⟩) r.ip.length cx]) (e := 30) (f := (0, 0)) (q := true) (by kernel_rfl) hj)
                (fun u hu => by simp only [List.mem_cons, List.not_mem_nil, or_false] at hu; rcases hu with rfl; rfl) (by simp only [maxLen]; omega) (by omega) (held_inO [3, 6] 4 (by kernel_rfl) (by kernel_rfl) (by decide)) ?_
              intro wp gp cp tp hfrp hop hOp
              have Lp := Lzx.fr (l := [numO oob, some (f5 0), some (f6 0), some (f6 1), numO pob, numO qob, some (f15 0), some (f16 0), none, some gx, some (f17 0)]) hfrp (by kernel_rfl) (o6 (⟨(hk9.new (l15 0)), ⟨(hk9.new (l16 0)), nums0 (⟨(.inl (Nat.le_trans h48 (Nat.le_trans hsz9 zx))), ⟨(Lzx.new (l17 0)), trivial⟩⟩)⟩⟩))
              have Kp := Kzx.trans (Fr.kept (Q := (fun b => Foot fb ab ts b ∨ (w7.heap.size ≤ b ∧ b < w8.heap.size))) (l := [numO oob, some (f5 0), some (f6 0), some (f6 1), numO pob, numO qob, some (f15 0), some (f16 0), none, some gx, some (f17 0)]) hfrp (by kernel_rfl) (q6 (⟨(qnew _ (Nat.le_trans hsz9 (l15 0))), ⟨(qnew _ (Nat.le_trans hsz9 (Nat.le_trans U9.size (l16 0)))), nums0 (⟨(qnew _ (Nat.le_trans hsz9 zx)), ⟨(qnew _ (Nat.le_trans hsz9 (Nat.le_trans Uzx.size (l17 0)))), trivial⟩⟩)⟩⟩)))
              have Up := Uzx.fr (l := [numO oob, some (f5 0), some (f6 0), some (f6 1), numO pob, numO qob, some (f15 0), some (f16 0), none, some gx, some (f17 0)]) hfrp (by kernel_rfl) (v6 (⟨(.inl (l15 0)), ⟨(U9.new (l16 0)), nums0 (⟨(.inl zx), ⟨(Uzx.new (l17 0)), trivial⟩⟩)⟩⟩))
              have zp : w8.heap.size ≤ gp ∧ OffTy U8 w9 gp := by
                rcases hop with h | h
                · exact ⟨hp2 gp (hp1.numO h), hp1.off (T := U8) hpt (by unfold U8; decide) gp (hp1.numO h)⟩
                · exact ⟨Nat.le_trans hsz9 (Nat.le_trans Uzx.size h), Uzx.new h⟩
              refine To.runF 1 [16] (fun _ _ => by kernel_rfl) fun f18 g18 l18 => ?_
              refine To.append2 (ty := 30) elB uIM 7 (f16 0) 0 0 [] [] (some ⟨rm, 0, none⟩) r.mask.length rcm (ucells r.mask) (by kernel_rfl) (by kernel_rfl) rfl rfl (Nat.le_refl _) (by decide) (by simp [ucells])
                (fun wy hwy j u hj => (hb9m.kept ((Kp.trans (Fr.kept (Q := (fun b => Foot fb ab ts b ∨ (w7.heap.size ≤ b ∧ b < w8.heap.size))) (l := [numO oob, some (f5 0), some (f6 0), some (f6 1), none, numO qob, some (f15 0), some (f16 0), none, some gx, some (f17 0), some gp]) hwy.fr (by kernel_rfl) (numsCons (numsHead qold) ⟨(numsTail qold).1, (numsTail qold).2.1, (numsTail qold).2.2.1, nums0 (numsCons (numsHead (numsTail (numsTail (numsTail (numsTail (numsTail (q6 (r := []) trivial))))))) (⟨(qnew _ (Nat.le_trans hsz9 (l15 0))), ⟨(qnew _ (Nat.le_trans hsz9 (Nat.le_trans U9.size (l16 0)))), nums0 (⟨(qnew _ (Nat.le_trans hsz9 zx)), ⟨(qnew _ (Nat.le_trans hsz9 (Nat.le_trans Uzx.size (l17 0)))), ⟨(qnew _ zp.1), trivial⟩⟩⟩)⟩⟩))⟩)))) (fun ad e => by cases e; exact .inl (.inr (.inr hfrm)))).cells j u hj) (fun e => by cases e)
                (fun u hu => by unfold ucells at hu; obtain ⟨y, _, rfl⟩ := List.mem_map.1 hu; rfl) (by simp only [maxLen]; omega) (by omega) (held_in (g := f16 0) (o := .cells ⟨[]⟩ 5 (0, 0)) (q := true) [3, 6] 7 (by kernel_rfl) (by kernel_rfl) (by decide)) ?_
              intro wya wyb gy cy ty hwy hgy hoy hry hcy hmy
              have Ly1 := Lp.fr (l := [numO oob, some (f5 0), some (f6 0), some (f6 1), none, numO qob, some (f15 0), some (f16 0), none, some gx, some (f17 0), some gp]) hwy.fr (by kernel_rfl) (numsCons (numsHead offx) ⟨(numsTail offx).1, (numsTail offx).2.1, (numsTail offx).2.2.1, nums0 (numsCons (numsHead (numsTail (numsTail (numsTail (numsTail (numsTail (o6 (r := []) trivial))))))) (⟨(hk9.new (l15 0)), ⟨(hk9.new (l16 0)), nums0 (⟨(.inl (Nat.le_trans h48 (Nat.le_trans hsz9 zx))), ⟨(Lzx.new (l17 0)), ⟨(.inl (Nat.le_trans h48 zp.1)), trivial⟩⟩⟩)⟩⟩))⟩)
              have Ky1 := Kp.trans (Fr.kept (Q := (fun b => Foot fb ab ts b ∨ (w7.heap.size ≤ b ∧ b < w8.heap.size))) (l := [numO oob, some (f5 0), some (f6 0), some (f6 1), none, numO qob, some (f15 0), some (f16 0), none, some gx, some (f17 0), some gp]) hwy.fr (by kernel_rfl) (numsCons (numsHead qold) ⟨(numsTail qold).1, (numsTail qold).2.1, (numsTail qold).2.2.1, nums0 (numsCons (numsHead (numsTail (numsTail (numsTail (numsTail (numsTail (q6 (r := []) trivial))))))) (⟨(qnew _ (Nat.le_trans hsz9 (l15 0))), ⟨(qnew _ (Nat.le_trans hsz9 (Nat.le_trans U9.size (l16 0)))), nums0 (⟨(qnew _ (Nat.le_trans hsz9 zx)), ⟨(qnew _ (Nat.le_trans hsz9 (Nat.le_trans Uzx.size (l17 0)))), ⟨(qnew _ zp.1), trivial⟩⟩⟩)⟩⟩))⟩))
              have Uy1 := Up.fr (l := [numO oob, some (f5 0), some (f6 0), some (f6 1), none, numO qob, some (f15 0), some (f16 0), none, some gx, some (f17 0), some gp]) hwy.fr (by kernel_rfl) (numsCons (numsHead hu9) ⟨(numsTail hu9).1, (numsTail hu9).2.1, (numsTail hu9).2.2.1, nums0 (numsCons (numsHead (numsTail (numsTail (numsTail (numsTail (numsTail (v6 (r := []) trivial))))))) (⟨(.inl (l15 0)), ⟨(U9.new (l16 0)), nums0 (⟨(.inl zx), ⟨(Uzx.new (l17 0)), ⟨zp.2, trivial⟩⟩⟩)⟩⟩))⟩)
              have zy : w9.heap.size ≤ gy := by
                rcases hoy with h | h
                · rw [h]; exact (Nat.le_trans U9.size (l16 0))
                · rw [h]; exact Uy1.size
              have Lzy := Ly1.grown hgy (fun b hb => by cases hb; exact (hk9.new (l16 0)))
              have Kzy := Ky1.trans (grown_kept hgy (fun b hb => by cases hb; exact (qnew _ (Nat.le_trans hsz9 (Nat.le_trans U9.size (l16 0))))))
              have Uzy := Uy1.grown hgy (fun b hb => by cases hb; exact (U9.new (l16 0)))
              refine To.slotE 87 (.slice (some ⟨gy, 0, none⟩) (0 + r.mask.length) cy) (.slice (some ⟨gy, 0, none⟩) r.mask.length cy) (by kernel_rfl) (by rw [Nat.zero_add]) ?_
              refine To.runF 1 [] (fun _ _ => by kernel_rfl) fun f19 g19 l19 => ?_
              refine To.appendAny (ty := 27) elBs 5 qa qn qc qob qcss hq1 ⟨f19 0, 0, none⟩ 1 [.slice (some ⟨gy, 0, none⟩) r.mask.length cy] (qn + 1) (by kernel_rfl) (by kernel_rfl) rfl rfl
                (fun wy hwy j u hj => hwy.cellAt0 (j := 13) (b := f19 0) (l := [.slice (some ⟨gy, 0, none⟩) r.mask.length cy]) (e := 30) (f := (0, 0)) (q := true) (by kernel_rfl) hj)
                (fun u hu => by simp only [List.mem_cons, List.not_mem_nil, or_false] at hu; rcases hu with rfl; rfl) (by simp only [maxLen]; omega) (by omega) (held_inO [3, 6] 5 (by kernel_rfl) (by kernel_rfl) (by decide)) ?_
              intro wq gq cq tq hfrq hoq hOq
              have Lq := Lzy.fr (l := [numO oob, some (f5 0), some (f6 0), some (f6 1), none, numO qob, some (f15 0), none, none, some gx, some (f17 0), some gp, some gy, some (f19 0)]) hfrq (by kernel_rfl) (numsCons (numsHead offx) ⟨(numsTail offx).1, (numsTail offx).2.1, (numsTail offx).2.2.1, nums0 (numsCons (numsHead (numsTail (numsTail (numsTail (numsTail (numsTail (o6 (r := []) trivial))))))) (⟨(hk9.new (l15 0)), nums0 (nums0 (⟨(.inl (Nat.le_trans h48 (Nat.le_trans hsz9 zx))), ⟨(Lzx.new (l17 0)), ⟨(.inl (Nat.le_trans h48 zp.1)), ⟨(.inl (Nat.le_trans h48 (Nat.le_trans hsz9 zy))), ⟨(Lzy.new (l19 0)), trivial⟩⟩⟩⟩⟩))⟩))⟩)
              have Kq := Kzy.trans (Fr.kept (Q := (fun b => Foot fb ab ts b ∨ (w7.heap.size ≤ b ∧ b < w8.heap.size))) (l := [numO oob, some (f5 0), some (f6 0), some (f6 1), none, numO qob, some (f15 0), none, none, some gx, some (f17 0), some gp, some gy, some (f19 0)]) hfrq (by kernel_rfl) (numsCons (numsHead qold) ⟨(numsTail qold).1, (numsTail qold).2.1, (numsTail qold).2.2.1, nums0 (numsCons (numsHead (numsTail (numsTail (numsTail (numsTail (numsTail (q6 (r := []) trivial))))))) (⟨(qnew _ (Nat.le_trans hsz9 (l15 0))), nums0 (nums0 (⟨(qnew _ (Nat.le_trans hsz9 zx)), ⟨(qnew _ (Nat.le_trans hsz9 (Nat.le_trans Uzx.size (l17 0)))), ⟨(qnew _ zp.1), ⟨(qnew _ (Nat.le_trans hsz9 zy)), ⟨(qnew _ (Nat.le_trans hsz9 (Nat.le_trans Uzy.size (l19 0)))), trivial⟩⟩⟩⟩⟩))⟩))⟩))
              have Uq := Uzy.fr (l := [numO oob, some (f5 0), some (f6 0), some (f6 1), none, numO qob, some (f15 0), none, none, some gx, some (f17 0), some gp, some gy, some (f19 0)]) hfrq (by kernel_rfl) (numsCons (numsHead hu9) ⟨(numsTail hu9).1, (numsTail hu9).2.1, (numsTail hu9).2.2.1, nums0 (numsCons (numsHead (numsTail (numsTail (numsTail (numsTail (numsTail (v6 (r := []) trivial))))))) (⟨(.inl (l15 0)), nums0 (nums0 (⟨(.inl zx), ⟨(Uzx.new (l17 0)), ⟨zp.2, ⟨(.inl zy), ⟨(Uzy.new (l19 0)), trivial⟩⟩⟩⟩⟩))⟩))⟩)
              have zq : w8.heap.size ≤ gq ∧ OffTy U8 w9 gq := by
                rcases hoq with h | h
                · exact ⟨hq2 gq (hq1.numO h), hq1.off (T := U8) hqt (by unfold U8; decide) gq (hq1.numO h)⟩
                · exact ⟨Nat.le_trans hsz9 (Nat.le_trans Uzy.size h), Uzy.new h⟩
              exact join _ _ ((gp, cp, tp), (gq, cq, tq), (gx, cx, tx), (gy, cy, ty)) [0, 1, 2, 3, 11, 14, 9, 12] ⟨by kernel_rfl, by kernel_rfl, by kernel_rfl, by kernel_rfl, by kernel_rfl, rfl⟩
                (fun wz hwz => ⟨Lq.fr (l := [numO oob, some (f5 0), some (f6 0), some (f6 1), none, none, some (f15 0), none, none, some gx, some (f17 0), some gp, some gy, some (f19 0), some gq]) hwz.fr (by kernel_rfl) (numsCons (numsHead offx) ⟨(numsTail offx).1, (numsTail offx).2.1, (numsTail offx).2.2.1, nums0 (nums0 (⟨(hk9.new (l15 0)), nums0 (nums0 (⟨(.inl (Nat.le_trans h48 (Nat.le_trans hsz9 zx))), ⟨(Lzx.new (l17 0)), ⟨(.inl (Nat.le_trans h48 zp.1)), ⟨(.inl (Nat.le_trans h48 (Nat.le_trans hsz9 zy))), ⟨(Lzy.new (l19 0)), ⟨(.inl (Nat.le_trans h48 zq.1)), trivial⟩⟩⟩⟩⟩⟩))⟩))⟩), Kq.trans (Fr.kept (Q := (fun b => Foot fb ab ts b ∨ (w7.heap.size ≤ b ∧ b < w8.heap.size))) (l := [numO oob, some (f5 0), some (f6 0), some (f6 1), none, none, some (f15 0), none, none, some gx, some (f17 0), some gp, some gy, some (f19 0), some gq]) hwz.fr (by kernel_rfl) (numsCons (numsHead qold) ⟨(numsTail qold).1, (numsTail qold).2.1, (numsTail qold).2.2.1, nums0 (nums0 (⟨(qnew _ (Nat.le_trans hsz9 (l15 0))), nums0 (nums0 (⟨(qnew _ (Nat.le_trans hsz9 zx)), ⟨(qnew _ (Nat.le_trans hsz9 (Nat.le_trans Uzx.size (l17 0)))), ⟨(qnew _ zp.1), ⟨(qnew _ (Nat.le_trans hsz9 zy)), ⟨(qnew _ (Nat.le_trans hsz9 (Nat.le_trans Uzy.size (l19 0)))), ⟨(qnew _ zq.1), trivial⟩⟩⟩⟩⟩⟩))⟩))⟩)), Uq.fr (l := [numO oob, some (f5 0), some (f6 0), some (f6 1), none, none, some (f15 0), none, none, some gx, some (f17 0), some gp, some gy, some (f19 0), some gq]) hwz.fr (by kernel_rfl) (numsCons (numsHead hu9) ⟨(numsTail hu9).1, (numsTail hu9).2.1, (numsTail hu9).2.2.1, nums0 (nums0 (⟨(.inl (l15 0)), nums0 (nums0 (⟨(.inl zx), ⟨(Uzx.new (l17 0)), ⟨zp.2, ⟨(.inl zy), ⟨(Uzy.new (l19 0)), ⟨zq.2, trivial⟩⟩⟩⟩⟩⟩))⟩))⟩), hOp, hOq, zp, zq, zx, zy⟩)
          obtain ⟨⟨gp, cp, tp⟩, ⟨gq, cq, tq⟩, ⟨gx, cx, tx⟩, gy, cy, ty⟩ := x
          obtain ⟨hLz, hKz, hUz, hOp, hOq, hzp, hzq, hzx, hzy⟩ := hz9
          simp only at hOp hOq hzp hzq hzx hzy
          have og : ∀ n, w8.heap.size ≤ n → OffTy AnsTy w4 n := fun n h => .inl (Nat.le_trans h48 h)
          have z8x : w8.heap.size ≤ gx := Nat.le_trans hsz9 hzx
          have z8y : w8.heap.size ≤ gy := Nat.le_trans hsz9 hzy
          refine To.runF 9 [3, 3] (fun _ _ => by kernel_rfl) fun f16 g16 l16 => ?_
          refine To.slotE 70 (.int .i64 (IntKind.i64.wrap (Int.ofNat i + 1))) (.int .i64 (Int.ofNat (i + 1))) (by kernel_rfl) (by rw [wrap_succ i (by omega)]) ?_
          refine back3 _ _ (i + 1, ⟨some ⟨gp, 0, none⟩, pn + 1, cp, some ⟨gp, .cells ⟨(pcss ++ [[Value.slice (some ⟨gx, 0, none⟩) r.ip.length cx]]).flatten ++ tp⟩ 30 (0, 0), true⟩, pcss ++ [[Value.slice (some ⟨gx, 0, none⟩) r.ip.length cx]]⟩,
            ⟨some ⟨gq, 0, none⟩, qn + 1, cq, some ⟨gq, .cells ⟨(qcss ++ [[Value.slice (some ⟨gy, 0, none⟩) r.mask.length cy]]).flatten ++ tq⟩ 30 (0, 0), true⟩, qcss ++ [[Value.slice (some ⟨gy, 0, none⟩) r.mask.length cy]]⟩) [0, 1, 2, 3, 4, 5] (by simp only; omega)
            ⟨by kernel_rfl, by kernel_rfl, by kernel_rfl, by kernel_rfl, by kernel_rfl, rfl⟩ (fun wv hwv => ?_)
          have hU := hUz.fr (l := [numO oob, some (f5 0), some (f6 0), some (f6 1), some gp, some gq, some gx, some gy]) hwv.fr (by kernel_rfl) (numsCons (numsHead hu9) ⟨(numsTail hu9).1, (numsTail hu9).2.1, (numsTail hu9).2.2.1, hzp.2, hzq.2, .inl hzx, .inl hzy, trivial⟩)
          have hx1 := hwv.blk (j := 6) (b := gx) (o := .cells ⟨[] ++ ucells r.ip ++ tx⟩ 5 (0, 0)) (q := true) (by kernel_rfl)
          have hy1 := hwv.blk (j := 7) (b := gy) (o := .cells ⟨[] ++ ucells r.mask ++ ty⟩ 5 (0, 0)) (q := true) (by kernel_rfl)
          refine ⟨hil, hLz.fr (l := [numO oob, some (f5 0), some (f6 0), some (f6 1), some gp, some gq, some gx, some gy]) hwv.fr (by kernel_rfl) (numsCons (numsHead offx) ⟨(numsTail offx).1, (numsTail offx).2.1, (numsTail offx).2.2.1, og _ hzp.1, og _ hzq.1, og _ z8x, og _ z8y, trivial⟩),
            (hkp.trans hKz).trans (Fr.kept (Q := (fun b => Foot fb ab ts b ∨ (w7.heap.size ≤ b ∧ b < w8.heap.size))) (l := [numO oob, some (f5 0), some (f6 0), some (f6 1), some gp, some gq, some gx, some gy]) hwv.fr (by kernel_rfl) (numsCons (numsHead qold) ⟨(numsTail qold).1, (numsTail qold).2.1, (numsTail qold).2.2.1, qnew _ hzp.1, qnew _ hzq.1, qnew _ z8x, qnew _ z8y, trivial⟩)),
            Nat.le_trans hsz9 hU.size, u8 [.bool false, .int .i64 0, .slice (some ⟨gp, 0, none⟩) (pn + 1) cp, .slice (some ⟨gq, 0, none⟩) (qn + 1) cq] hwv (by kernel_rfl) (by kernel_rfl) (by kernel_rfl) (by kernel_rfl),
            ⟨hOp, OTrue.of hwv (j := 4) (by kernel_rfl), ⟨fun n h => by cases h; exact hzp.1, ?_⟩⟩, hOq, OTrue.of hwv (j := 5) (by kernel_rfl), ⟨fun n h => by cases h; exact hzq.1, ?_⟩⟩
          · rw [hst, List.map_append]
            exact (hp3.mono fun t cs ⟨b, cb, e, h⟩ => ⟨b, cb, e, h.keptU hU.kept⟩).snoc ⟨some ⟨gx, 0, none⟩, cx, rfl, ownRow hx1⟩
          · rw [hst, List.map_append]
            exact (hq3.mono fun t cs ⟨b, cb, e, h⟩ => ⟨b, cb, e, h.keptU hU.kept⟩).snoc ⟨some ⟨gy, 0, none⟩, cy, rfl, ownRow hy1⟩
        · have hi1 : i = ((rulesAt (l.take k)).filter (hasAct s.act)).length := by omega
          have hall : ((rulesAt (l.take k)).filter (hasAct s.act)).take i = (rulesAt (l.take k)).filter (hasAct s.act) := by rw [hi1, List.take_length]
          rw [hall] at hp3 hq3
          refine To.testF (decide (Int.ofNat i < Int.ofNat ((rulesAt (l.take k)).filter (hasAct s.act)).length)) (by kernel_rfl) (by rw [hi1]; simp) ?_
          refine To.runF 2 [] (fun _ _ => by kernel_rfl) fun f14 g14 l14 => ?_
          have hans : ansOf (actAt (l.take k)) (rulesAt (l.take k)) s = ⟨false, 0, ((rulesAt (l.take k)).filter (hasAct s.act)).map Rule.ip, ((rulesAt (l.take k)).filter (hasAct s.act)).map Rule.mask⟩ := by
            unfold ansOf; rw [if_neg (by rw [c4']; decide), if_neg (by rw [c4']; decide), if_neg (by rw [c4']; decide), if_pos c4']
          exact join _ _ (⟨ab, fcap, frest, ts⟩, false, 0, (pa, pn, pc), (qa, qn, qc)) [0, 3] ⟨by kernel_rfl, by kernel_rfl, by kernel_rfl, by kernel_rfl, by kernel_rfl, rfl⟩
            (fun wv hwv => ⟨hk9.fr (l := [numO oob, some (f5 0), some (f6 0), some (f6 1), numO pob, numO qob]) hwv.fr (by kernel_rfl) (o6 trivial), by
                rw [hd1 c4' (by decide), hr1 c4' (by decide) (by decide)]
                exact hF8.kept ((hkp.trans (Fr.kept (Q := (fun b => Foot fb ab ts b ∨ (w7.heap.size ≤ b ∧ b < w8.heap.size))) (l := [numO oob, some (f5 0), some (f6 0), some (f6 1), numO pob, numO qob]) hwv.fr (by kernel_rfl) (q6 trivial))).mono (fun b hb => .inl hb)), habw, htsw, OTrue.of hwv (j := 0) (by kernel_rfl),
              hx6 [.bool false, .int .i64 0, .slice pa pn pc, .slice qa qn qc] hwv (by kernel_rfl), by
                have hU := (Later.refl U8 w9).fr (l := [numO oob, some (f5 0), some (f6 0), some (f6 1), numO pob, numO qob]) hwv.fr (by kernel_rfl) (v6 trivial)
                rw [hans]
                exact ⟨pa, pn, pc, qa, qn, qc, rfl, ⟨pob, pcss, hp1, OTrue.of hwv (j := 4) (by kernel_rfl), hp3.mono fun t cs ⟨b, cb, e, h⟩ => ⟨b, cb, e, h.keptU hU.kept⟩⟩, ⟨qob, qcss, hq1, OTrue.of hwv (j := 5) (by kernel_rfl), hq3.mono fun t cs ⟨b, cb, e, h⟩ => ⟨b, cb, e, h.keptU hU.kept⟩⟩⟩, numsHead clx, (numsTail clx).2.2.1⟩)
      refine To.runF 5 [] (fun _ _ => by kernel_rfl) fun f11 g11 l11 => ?_
      refine To.test (s.op == 5) (by kernel_rfl) (fun c5 => ?_) (fun c5 => ?_)
      · have c5' : s.op = 5 := by simpa using c5
        refine To.runF 7 [1] (fun _ _ => by kernel_rfl) fun f12 g12 l12 => ?_
        refine To.slotE 98 (.int .i32 (IntKind.i32.wrap s.act)) (.int .i32 s.act) (by kernel_rfl) (by rw [wrap32 hSt.1.act]) ?_
        refine To.withAt fb (.cells ⟨fsCells (actAt (l.take k)) (.slice (some ⟨ab, 0, none⟩) (rulesAt (l.take k)).length fcap)⟩ 73 (0, 0)) true hF6.blk (fun j x hj e => (nums_all (l := [numO oob, some (f5 0), some (f6 0), some (f6 1)]) (by kernel_rfl) clx j x hj) (.inl e)) (fun _ => .inl hfbw) ?_
        refine To.runF 3 [4] (fun _ _ => by kernel_rfl) fun f13 g13 l13 => ?_
        have hd5 : actAt (l.take (k + 1)) = s.act := by rw [actAt_next hsk]; unfold nextD; rw [if_pos c5']
        have clq : NumsAll (fun n => ¬ (n ≠ fb ∧ Foot fb ab ts n)) [numO oob, some (f5 0), some (f6 0), some (f6 1), some fb] := by
          have h := numsMono (R := fun n => ¬ (n ≠ fb ∧ Foot fb ab ts n)) (fun n h hq => h hq.2) clx
          exact numsCons (numsHead h) ⟨(numsTail h).1, (numsTail h).2.1, (numsTail h).2.2.1, fun hq => hq.1 rfl, trivial⟩
        have offy : NumsAll (OffTy AnsTy w4) [numO oob, some (f5 0), some (f6 0), some (f6 1), some fb] := numsCons (numsHead offx) ⟨(numsTail offx).1, (numsTail offx).2.1, (numsTail offx).2.2.1, offf, trivial⟩
        exact join _ _ (⟨ab, fcap, frest, ts⟩, false, 0, (none, 0, 0), (none, 0, 0)) [0, 3] ⟨by kernel_rfl, by kernel_rfl, by kernel_rfl, by kernel_rfl, by kernel_rfl, rfl⟩
          (fun w9 hw9 => ⟨L6.fr (l := [numO oob, some (f5 0), some (f6 0), some (f6 1), some fb]) hw9.fr (by kernel_rfl) offy, by
              have hb := hw9.blk (j := 4) (b := fb) (o := .cells ⟨fsCells s.act (.slice (some ⟨ab, 0, none⟩) (rulesAt (l.take k)).length fcap)⟩ 73 (0, 0)) (q := true) (by kernel_rfl)
              rw [hd5, hr1 c5' (by decide) (by decide)]
              exact ⟨hb, hF6.ls.swap (Fr.kept (Q := fun n => n ≠ fb ∧ Foot fb ab ts n) hw9.fr (by kernel_rfl) clq) hb rfl⟩, habw, htsw, OTrue.of hw9 (j := 0) (by kernel_rfl),
            hx6 [.bool false, .int .i64 0, .slice none 0 0, .slice none 0 0] hw9 (by kernel_rfl), hX0 w9 _ _ _ (by unfold ansOf; rw [c5']; rfl), numsHead clx, (numsTail clx).2.2.1⟩)
      exfalso
      rcases hSt.1.op with h | h | h | h | h | h <;> simp [h] at c0 c1 c2 c3 c4 c5
    obtain ⟨⟨ab', fcap', frest', ts'⟩, xb, xz, ⟨xa, xn, xc⟩, ⟨ya, yn, yc⟩⟩ := i
    obtain ⟨hk8, hF8, hab8, hts8, hPT', ⟨x6, hx6'⟩, hX, hcl8, hcl6⟩ := hi8
    simp only at hk8 hF8 hab8 hts8 hPT' hX hcl8 hcl6
    refine To.runF 4 [1, 1, 1, 1] (fun _ _ => by kernel_rfl) fun f7 g7 l7 => ?_
    have hon60 : on ≤ 60 := by have := hP.len; have := hQ.len; have := answers_length (l.take k); rw [List.length_take] at this; omega
    refine To.appendAny (ty := 25) elAn 0 oa on oc oob ocss hP ⟨f7 0, 0, none⟩ 1 [.bool xb, .int .i64 xz, .slice xa xn xc, .slice ya yn yc] (on + 1) (by kernel_rfl) (by kernel_rfl) rfl rfl
      (fun w9 hw9 j u hj => hw9.cellAt0 (j := 2) (b := f7 0) (l := [.bool xb, .int .i64 xz, .slice xa xn xc, .slice ya yn yc]) (e := 29) (f := (0, 0)) (q := true) (by kernel_rfl) hj)
      (fun u hu => by simp only [List.mem_cons, List.not_mem_nil, or_false] at hu; rcases hu with rfl | rfl | rfl | rfl <;> rfl) (by simp only [maxLen]; omega) (by omega) (held_nilO (by kernel_rfl)) ?_
    intro w9 g' c' rest' hfr ho' hP'
    have offo' := hP.off (T := AnsTy) hPT' (by unfold AnsTy; decide)
    have off6 : OffTy AnsTy w8 (f6 1) := .inr ⟨_, _, _, hx6', by unfold AnsTy; decide⟩
    have hnF8 : ∀ n, w8.heap.size ≤ n → ¬ Foot fb ab' ts' n := fun n hn hf => absurd (hF8.lt n hf) (by omega)
    have hg' : OffTy AnsTy w8 g' := by
      rcases ho' with h | h
      · exact hP.offA hPT' (by unfold AnsTy; decide) h
      · exact .inl h
    have hgF : ¬ Foot fb ab' ts' g' := by
      rcases ho' with h | h
      · exact hcl8 g' (hP.numO h)
      · exact hnF8 g' h
    have k9 := (Later.refl AnsTy w8).fr (l := [numO oob, some (f6 1), some (f7 0)]) hfr (by kernel_rfl) (numsCons offo' ⟨off6, .inl (l7 0), trivial⟩)
    have hF9 : FsAt w9 fb ab' fcap' frest' ts' (actAt (l.take (k + 1))) (rulesAt (l.take (k + 1))) := hF8.kept (Fr.kept (Q := Foot fb ab' ts') (l := [numO oob, some (f6 1), some (f7 0)]) hfr (by kernel_rfl) (numsCons hcl8 ⟨hcl6, hnF8 _ (l7 0), trivial⟩))
    refine To.runF 7 [] (fun _ _ => by kernel_rfl) fun f8 g8 l8 => ?_
    refine To.slotE 16 (.int .i64 (IntKind.i64.wrap (Int.ofNat k + 1))) (.int .i64 (Int.ofNat (k + 1))) (by kernel_rfl) (by rw [wrap_succ k (by omega)]) ?_
    refine back _ _ (k + 1, ⟨some ⟨g', 0, none⟩, on + 1, c', some ⟨g', .cells ⟨(ocss ++ [[Value.bool xb, Value.int .i64 xz, Value.slice xa xn xc, Value.slice ya yn yc]]).flatten ++ rest'⟩ 29 (0, 0), true⟩, ocss ++ [[Value.bool xb, Value.int .i64 xz, Value.slice xa xn xc, Value.slice ya yn yc]]⟩, ⟨ab', fcap', frest', ts'⟩) [3] (by simp only; omega)
      ⟨by kernel_rfl, by kernel_rfl, by kernel_rfl, by kernel_rfl, by kernel_rfl, rfl⟩ (fun w10 hw10 => ⟨hlt, hF9.kept (Fr.kept (Q := Foot fb ab' ts') (l := [none, some (f6 1), some (f7 0), some g']) hw10.fr (by kernel_rfl) (nums0 ⟨hcl6, hnF8 _ (l7 0), hgF, trivial⟩)), hab8, hts8, hP', OTrue.of hw10 (j := 3) (by kernel_rfl), ?_, fun n h => by cases h; exact hgF⟩)
    have k10 := k9.fr (l := [none, some (f6 1), some (f7 0), some g']) hw10.fr (by kernel_rfl) (nums0 ⟨off6, .inl (l7 0), hg', trivial⟩)
    show All2 (AnsT OwnB w10) _ (answers (l.take (k + 1)))
    rw [answers_next hsk]
    exact (hQ.mono fun x cs h => h.kept (hk8.kept.trans k10.kept) (fun _ _ h => h.kept (hk8.kept.trans k10.kept))).snoc (hX.kept k10.kept (fun _ _ h => h.kept k10.kept))
  · have hk1 : k = l.length := by omega
    subst hk1
    refine To.testF (decide (Int.ofNat l.length < Int.ofNat l.length)) (by kernel_rfl) (by simp) ?_
    refine To.runF 6 [] (fun _ _ => by kernel_rfl) fun f4 g4 l4 => ?_
    exact To.ret [] (.slice oa on oc) (by kernel_rfl) (by kernel_rfl) fun w9 hw9 => ⟨_, rfl, hw9.ext, oa, on, oc, rfl, oob, ocss, hP, OTrue.of hw9 (j := 0) (by kernel_rfl), by
      have k9 := (Later.refl AnsTy w4).fr (l := [numO oob]) hw9.fr (by kernel_rfl) (numsCons (hP.off (T := AnsTy) hPT (by unfold AnsTy; decide)) trivial)
      rw [List.take_length] at hQ
      exact hQ.mono fun x cs h => h.kept k9.kept (fun _ _ h => h.kept k9.kept)⟩
end Go.Proofs.YtkhonkejebdcgaaGreatDoor
