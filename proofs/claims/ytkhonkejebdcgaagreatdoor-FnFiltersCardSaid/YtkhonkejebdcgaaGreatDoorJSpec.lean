/- The reference carries out a script: it answers as the plain lists do. Conditions: the script lies in memory and is right. -/
import Derived.Test.YtkhonkejebdcgaaGreatDoorJFine
/- The reference carries out a script: it answers as the plain lists do. Conditions: the script lies in memory. -/
namespace Go.Proofs.YtkhonkejebdcgaaGreatDoor
open Go Go.SX
set_option maxHeartbeats 8000000
set_option maxRecDepth 100000
abbrev StillB (w0 : World) : World → Option Addr → List UInt8 → Prop := fun _ b t => BytesIn w0 b t
abbrev SpecPost (l : List Step) (w : World) (e : Ending) (w1 : World) : Prop := ∃ v, e = .returned v ∧ Ext [] w w1 ∧ ∃ a n c, v = .slice a n c ∧ AnswersT (StillB w) w1 a n c (answers l)
theorem wrap_pred (n : Nat) (h : n < 9223372036854775807) : IntKind.i64.wrap (Int.ofNat n - 1) = Int.ofNat n - 1 := by
  rw [IntWalk.i64_in]
  simp only [Int.ofNat_eq_natCast]; omega
theorem nets_at {l : List Step} {k : Nat} (h : OkTo l k) (hk : k ≤ l.length) : ∀ r ∈ rulesAt (l.take k), Net r.ip r.mask := by
  induction k with
  | zero => intro r hr; simp [rulesAt] at hr
  | succ k ih =>
    have ih := ih (fun j x hj hx => h j x (by omega) hx) (by omega)
    obtain ⟨s, hs⟩ : ∃ s, l[k]? = some s := ⟨l[k], by simp [show k < l.length by omega]⟩
    rw [rulesAt_next hs]
    intro r hr
    unfold nextR at hr
    split at hr
    · rename_i h0
      rcases List.mem_append.1 hr with hr | hr
      · exact ih r hr
      · simp only [List.mem_singleton] at hr; rw [hr]; exact (h k s (by omega) hs).1.net (.inl h0)
    · split at hr
      · split at hr
        · exact ih r hr
        · exact ih r (List.mem_of_mem_eraseIdx hr)
      · exact ih r hr
theorem decides_zero (d : Int) (L : List Rule) (x : Comps) : decides d (L.take 0) x = d := by
  cases x with
  | nil => rfl
  | cons p x => simp [decides, lastAct]
theorem decides_next {d : Int} {L : List Rule} {k : Nat} {r : Rule} (hr : L[k]? = some r) {p : Int × List UInt8} {x : Comps} : decides d (L.take (k + 1)) (p :: x) = if isIP p && has r.ip r.mask p.2 then r.act else decides d (L.take k) (p :: x) := by
  rw [take_snoc hr]
  simp only [decides, lastAct, List.foldl_append, List.foldl_cons, List.foldl_nil]
  cases isIP p <;> simp
theorem filters (l : List Step) (a : Option Addr) (cap : Nat) (w : World) (hin : StepsIn w a l) (hlen : l.length ≤ 60) (hs : ∀ s ∈ l, StepLen s) (hok : OkTo l l.length) :
    Calls Tryz.prog 8 #[.slice a l.length cap] w (SpecPost l w) := by
  refine calls_of0 (args := [.slice a l.length cap]) Tryz.func8 rfl rfl rfl ?_
  refine To.runF 24 [] (fun _ _ => by kernel_rfl) fun f1 g1 l1 => ?_
  refine To.loop (fun i : Nat × OR × OR => l.length - i.1) (fun i => ([(0, .slice a l.length cap), (3, .slice i.2.1.a i.2.1.n i.2.1.c), (4, .int .i64 (actAt (l.take i.1))), (5, .slice i.2.2.a i.2.2.n i.2.2.c), (17, .slice a l.length cap), (18, .int .i64 (Int.ofNat l.length)), (19, .int .i64 (Int.ofNat i.1))], [i.2.1.ob, i.2.2.ob]))
    (fun i w1 => i.1 ≤ l.length ∧ (ORow 3 39 i.2.1.a i.2.1.n i.2.1.c i.2.1.ob i.2.1.css ∧ OTrue i.2.1.ob w1 ∧ All2 (ruleI (fun r => .int .i64 r.act) w) i.2.1.css (rulesAt (l.take i.1))) ∧
      ORow 4 29 i.2.2.a i.2.2.n i.2.2.c i.2.2.ob i.2.2.css ∧ OTrue i.2.2.ob w1 ∧ All2 (AnsT (StillB w) w1) i.2.2.css (answers (l.take i.1))) (0, OR.none, OR.none) [0, 1] (by kernel_rfl) (by kernel_rfl) (by kernel_rfl) rfl
    (fun w1 _ => ⟨Nat.zero_le _, ⟨ORow.nil _ _, OTrue.none w1, All2.nil⟩, ORow.nil _ _, OTrue.none w1, All2.nil⟩) ?_
  rintro ⟨k, ⟨ra, rn, rc, rob, css⟩, ⟨oa, on, oc, oob, ocss⟩⟩ w4 ⟨hk, ⟨hO, hOT, hA⟩, hP, hPT, hQ⟩ hx4 back
  simp only at hk hO hOT hA hP hPT hQ
  refine To.runF 5 [] (fun _ _ => by kernel_rfl) fun f2 g2 l2 => ?_
  by_cases hlt : k < l.length
  · obtain ⟨s, hsk⟩ : ∃ s, l[k]? = some s := ⟨l[k], by simp [hlt]⟩
    obtain ⟨ad, ai, am, aa, ci, cm, ca, had, hsp, hcs, hI⟩ := hin.at_ k s hsk
    have hL := hs s (List.mem_of_getElem? hsk)
    refine To.testT (decide (Int.ofNat k < Int.ofNat l.length)) (by kernel_rfl) (decide_eq_true (Int.ofNat_lt.2 hlt)) ?_
    refine To.runF 5 [] (fun _ _ => by kernel_rfl) fun f3 g3 l3 => ?_
    refine To.indexAt elSt a ad l.length cap k (by kernel_rfl) had hlt ?_
    refine To.loadAgg (t := 33) (by kernel_rfl) 5 (by kernel_rfl) (ad.add (k * 5)) (stepCells s ai am aa ci cm ca) rfl (by kernel_rfl) (fun w5 hw5 j u hj => hw5.ext.cell (hcs j u hj) (by simp)) ?_
    refine To.runF 18 [2, 2, 2, 2, 2] (fun _ _ => by kernel_rfl) fun f4 g4 l4 => ?_
    have offr := hO.off (T := AnsTy) hOT (by unfold AnsTy; decide)
    have offo := hP.off (T := AnsTy) hPT (by unfold AnsTy; decide)
    have off3 : ∀ {l : List (Option Nat)}, NumsAll (fun n => w4.heap.size ≤ n) l → NumsAll (OffTy AnsTy w4) (numO rob :: numO oob :: l) := fun h => numsCons offr (numsCons offo (numsMono (fun _ h => .inl h) h))
    have hn : rn = (rulesAt (l.take k)).length := by rw [← hO.len, hA.len]
    have hlr : (rulesAt (l.take k)).length ≤ 60 := by have := rulesAt_length (l.take k); rw [List.length_take] at this; omega
    refine To.slotE 9 (.int .i64 (IntKind.i64.wrap (Int.ofNat rn - 1))) (.int .i64 (Int.ofNat rn - 1)) (by kernel_rfl) (by rw [wrap_pred rn (by omega)]) ?_
    refine To.slotE 8 (.int .i64 (Int.ofNat rn)) (.int .i64 (atV (Int.ofNat rn) ((findR s.ip s.mask ((rulesAt (l.take k)).drop rn)).map (· + rn)))) (by kernel_rfl) (by rw [hn, List.drop_length]; rfl) ?_
    refine To.loop (fun m : Nat => m) (fun m => ([(0, .slice a l.length cap), (3, .slice ra rn rc), (4, .int .i64 (actAt (l.take k))), (5, .slice oa on oc), (7, .pointer (some ⟨f4 0, 0, none⟩)), (8, .int .i64 (atV (Int.ofNat rn) ((findR s.ip s.mask ((rulesAt (l.take k)).drop m)).map (· + m)))), (9, .int .i64 (Int.ofNat m - 1)),
        (17, .slice a l.length cap), (18, .int .i64 (Int.ofNat l.length)), (19, .int .i64 (Int.ofNat k))], [rob, oob, some ⟨f4 0, .cells ⟨stepCells s ai am aa ci cm ca⟩ 33 (0, 0), true⟩]))
      (fun m w6 => m ≤ rn ∧ Later AnsTy w4 w6) rn [0, 1, 2] (by kernel_rfl) (by kernel_rfl) (by kernel_rfl) rfl (fun w6 hw6 => ⟨Nat.le_refl _, (Later.refl _ _).fr (l := [numO rob, numO oob, some (f4 0)]) hw6.fr (by kernel_rfl) (off3 (l := [some (f4 0)]) ⟨l4 0, trivial⟩)⟩) ?_
    intro m w7 ⟨hm, hkt⟩ hx7 back2
    refine To.runF 6 [] (fun _ _ => by kernel_rfl) fun f5 g5 l5 => ?_
    rcases Nat.eq_zero_or_pos m with hm0 | hpos
    · subst hm0
      have hSt := hok k s hlt hsk
      refine To.testF (decide (Int.ofNat 0 - 1 ≥ 0)) (by kernel_rfl) (by decide) ?_
      refine To.slotE 8 (.int .i64 (atV (Int.ofNat rn) ((findR s.ip s.mask ((rulesAt (l.take k)).drop 0)).map (· + 0)))) (.int .i64 (atV (Int.ofNat rn) (findR s.ip s.mask (rulesAt (l.take k))))) (by kernel_rfl) (by simp) ?_
      refine To.runF 19 [3, 3, 3, 3, 2] (fun _ _ => by kernel_rfl) fun f6 g6 l6 => ?_
      have offx : ∀ {l : List (Option Nat)}, NumsAll (OffTy AnsTy w4) l → NumsAll (OffTy AnsTy w4) (numO rob :: numO oob :: some (f4 0) :: some (f6 0) :: l) := fun h => numsCons offr (numsCons offo ⟨.inl (l4 0), hkt.new (l6 0), h⟩)
      have hd1 : ∀ {x : Int}, s.op = x → x ≠ 5 → actAt (l.take (k + 1)) = actAt (l.take k) := fun h h5 => by rw [actAt_next hsk]; unfold nextD; rw [if_neg (by rw [h]; exact h5)]
      have hr1 : ∀ {x : Int}, s.op = x → x ≠ 0 → x ≠ 1 → rulesAt (l.take (k + 1)) = rulesAt (l.take k) := fun h h0 h1 => by rw [rulesAt_next hsk]; unfold nextR; rw [if_neg (by rw [h]; exact h0), if_neg (by rw [h]; exact h1)]
      have hno : ∀ w9, AnsT (StillB w) w9 noAns [.bool false, .int .i64 0, .slice none 0 0, .slice none 0 0] := fun w9 => ⟨none, 0, 0, none, 0, 0, rfl, TextsT.nil _ _, TextsT.nil _ _⟩
      have hx6 : ∀ {E : Env} {hp : List (Option Blk)} {w9 : World} {cs : List Value}, Facts E hp w9 → nth hp 3 = some ⟨f6 0, .cells ⟨cs⟩ 29 (0, 0), true⟩ → ∃ c, w9.heap[f6 0]? = some (.cells c 29 (0, 0)) := fun hw9 h => ⟨_, hw9.blk h⟩
      refine To.meet 2 (ι := OR × Bool × Int × (Option Addr × Nat × Nat) × (Option Addr × Nat × Nat)) (fun i => ([(0, .slice a l.length cap), (3, .slice i.1.a i.1.n i.1.c), (4, .int .i64 (actAt (l.take (k + 1)))), (5, .slice oa on oc), (10, .pointer (some ⟨f6 0, 0, none⟩)), (17, .slice a l.length cap), (18, .int .i64 (Int.ofNat l.length)), (19, .int .i64 (Int.ofNat k))],
          [i.1.ob, oob, some ⟨f6 0, .cells ⟨[.bool i.2.1, .int .i64 i.2.2.1, .slice i.2.2.2.1.1 i.2.2.2.1.2.1 i.2.2.2.1.2.2, .slice i.2.2.2.2.1 i.2.2.2.2.2.1 i.2.2.2.2.2.2]⟩ 29 (0, 0), true⟩]))
        (fun i w8 => Later AnsTy w4 w8 ∧ ORow 3 39 i.1.a i.1.n i.1.c i.1.ob i.1.css ∧ OTrue i.1.ob w8 ∧ All2 (ruleI (fun r => .int .i64 r.act) w) i.1.css (rulesAt (l.take (k + 1))) ∧
          OTrue oob w8 ∧ (∃ c, w8.heap[f6 0]? = some (.cells c 29 (0, 0))) ∧ AnsT (StillB w) w8 (ansOf (actAt (l.take k)) (rulesAt (l.take k)) s) [.bool i.2.1, .int .i64 i.2.2.1, .slice i.2.2.2.1.1 i.2.2.2.1.2.1 i.2.2.2.1.2.2, .slice i.2.2.2.2.1 i.2.2.2.2.2.1 i.2.2.2.2.2.2]) (fun join => ?_) (fun i w8 hi8 hx8 => ?_)
      · refine To.test (s.op == 0) (by kernel_rfl) (fun c0 => ?_) (fun c0 => ?_)
        · have c0' : s.op = 0 := by simpa using c0
          refine To.runF 10 [2, 2, 2] (fun _ _ => by kernel_rfl) fun f7 g7 l7 => ?_
          refine To.appendAny (ty := 35) elFl 0 ra rn rc rob css hO ⟨f7 0, 0, none⟩ 1 [.slice ai s.ip.length ci, .slice am s.mask.length cm, .int .i64 s.act] (rn + 1) (by kernel_rfl) (by kernel_rfl) rfl rfl
            (fun w8 hw8 j u hj => hw8.cellAt0 (j := 4) (b := f7 0) (l := [.slice ai s.ip.length ci, .slice am s.mask.length cm, .int .i64 s.act]) (e := 39) (f := (0, 0)) (q := true) (by kernel_rfl) hj)
            (fun u hu => by simp only [List.mem_cons, List.not_mem_nil, or_false] at hu; rcases hu with rfl | rfl | rfl <;> rfl) (by simp only [maxLen]; omega) (by omega) (held_nilO (by kernel_rfl)) ?_
          intro w8 g' c' rest' hfr ho' hO'
          refine To.runF 3 [] (fun _ _ => by kernel_rfl) fun f8 g8 l8 => ?_
          have hk8 := hkt.fr (l := [numO rob, numO oob, some (f4 0), some (f6 0), some (f7 0)]) hfr (by kernel_rfl) (offx ⟨hkt.new (l7 0), trivial⟩)
          have hg' : OffTy AnsTy w4 g' := by
            rcases ho' with h | h
            · exact hO.offA hOT (by unfold AnsTy; decide) h
            · exact hkt.new h
          have hne : rulesAt (l.take (k + 1)) = rulesAt (l.take k) ++ [⟨s.ip, s.mask, s.act⟩] := by rw [rulesAt_next hsk]; unfold nextR; rw [if_pos c0']
          have hans : ansOf (actAt (l.take k)) (rulesAt (l.take k)) s = noAns := by unfold ansOf; rw [c0']; rfl
          refine To.slotE 4 (.int .i64 (actAt (l.take k))) (.int .i64 (actAt (l.take (k + 1)))) (by kernel_rfl) (by rw [hd1 c0' (by decide)]) ?_
          exact join _ _ (⟨some ⟨g', 0, none⟩, rn + 1, c', some ⟨g', .cells ⟨(css ++ [[Value.slice ai s.ip.length ci, Value.slice am s.mask.length cm, Value.int .i64 s.act]]).flatten ++ rest'⟩ 39 (0, 0), true⟩, css ++ [[Value.slice ai s.ip.length ci, Value.slice am s.mask.length cm, Value.int .i64 s.act]]⟩, false, 0, (none, 0, 0), (none, 0, 0)) [5, 1, 3] ⟨by kernel_rfl, by kernel_rfl, by kernel_rfl, by kernel_rfl, by kernel_rfl, rfl⟩
            (fun w9 hw9 => ⟨hk8.fr (l := [none, numO oob, some (f4 0), some (f6 0), some (f7 0), some g']) hw9.fr (by kernel_rfl) (nums0 (numsCons offo ⟨.inl (l4 0), hkt.new (l6 0), hkt.new (l7 0), hg', trivial⟩)), hO', OTrue.of hw9 (j := 5) (by kernel_rfl),
              by rw [hne]; exact hA.snoc ⟨ai, am, ci, cm, rfl, hI.bi, hI.bm⟩, OTrue.of hw9 (j := 1) (by kernel_rfl), hx6 (cs := [.bool false, .int .i64 0, .slice none 0 0, .slice none 0 0]) hw9 (by kernel_rfl), by rw [hans]; exact hno w9⟩)
        refine To.runF 5 [] (fun _ _ => by kernel_rfl) fun f7 g7 l7 => ?_
        refine To.test (s.op == 1) (by kernel_rfl) (fun c1 => ?_) (fun c1 => ?_)
        · have c1' : s.op = 1 := by simpa using c1
          rcases noneOr (findR s.ip s.mask (rulesAt (l.take k))) with hf | ⟨j, hf⟩
          · refine To.slotE 8 (.int .i64 (atV (Int.ofNat rn) (findR s.ip s.mask (rulesAt (l.take k))))) (.int .i64 (Int.ofNat rn)) (by kernel_rfl) (by rw [hf]; rfl) ?_
            refine To.runF 14 [3, 3] (fun _ _ => by kernel_rfl) fun f8 g8 l8 => ?_
            refine To.testF (decide (Int.ofNat rn < Int.ofNat rn)) (by kernel_rfl) (by simp) ?_
            refine To.runF 2 [] (fun _ _ => by kernel_rfl) fun f9 g9 l9 => ?_
            have hne : rulesAt (l.take (k + 1)) = rulesAt (l.take k) := by rw [rulesAt_next hsk]; unfold nextR; rw [if_neg (by rw [c1']; decide), if_pos c1', hf]
            have hans : ansOf (actAt (l.take k)) (rulesAt (l.take k)) s = ⟨false, 0, [], []⟩ := by unfold ansOf; rw [if_pos c1', hf]; rfl
            refine To.slotE 4 (.int .i64 (actAt (l.take k))) (.int .i64 (actAt (l.take (k + 1)))) (by kernel_rfl) (by rw [hd1 c1' (by decide)]) ?_
            exact join _ _ (⟨ra, rn, rc, rob, css⟩, decide (Int.ofNat rn < Int.ofNat rn), 0, (none, 0, 0), (none, 0, 0)) [0, 1, 3] ⟨by kernel_rfl, by kernel_rfl, by kernel_rfl, by kernel_rfl, by kernel_rfl, rfl⟩
              (fun w9 hw9 => ⟨hkt.fr (l := [numO rob, numO oob, some (f4 0), some (f6 0)]) hw9.fr (by kernel_rfl) (offx trivial), hO, OTrue.of hw9 (j := 0) (by kernel_rfl), by rw [hne]; exact hA, OTrue.of hw9 (j := 1) (by kernel_rfl), hx6 (cs := [.bool (decide (Int.ofNat rn < Int.ofNat rn)), .int .i64 (0), .slice none 0 0, .slice none 0 0]) hw9 (by kernel_rfl), by rw [hans]; exact ⟨none, 0, 0, none, 0, 0, by simp, TextsT.nil _ _, TextsT.nil _ _⟩⟩)
          · obtain ⟨rj, hrj, _, _⟩ := find_some hf
            have hji : j < rn := by have := (List.getElem?_eq_some_iff.1 hrj).1; omega
            refine To.slotE 8 (.int .i64 (atV (Int.ofNat rn) (findR s.ip s.mask (rulesAt (l.take k))))) (.int .i64 (Int.ofNat j)) (by kernel_rfl) (by rw [hf]; rfl) ?_
            refine To.runF 14 [3, 3] (fun _ _ => by kernel_rfl) fun f8 g8 l8 => ?_
            refine To.testT (decide (Int.ofNat j < Int.ofNat rn)) (by kernel_rfl) (decide_eq_true (Int.ofNat_lt.2 hji)) ?_
            refine To.runF 6 [0, 0, 1, 2, 5, 6, 7] (fun _ _ => by kernel_rfl) fun f9 g9 l9 => ?_
            refine To.slotE 86 (.int .i64 (IntKind.i64.wrap (Int.ofNat j + 1))) (.int .i64 (Int.ofNat (j + 1))) (by kernel_rfl) (by rw [wrap_succ j (by omega)]) ?_
            refine To.sliceUpToE 3 (t := 35) elFl ra rn j rc (by have := hO.le; omega) (by kernel_rfl) ?_
            refine To.sliceFromE 8 (t := 35) elFl ra rn (j + 1) rc (by omega) hO.le (by kernel_rfl) ?_
            refine To.runF 1 [] (fun _ _ => by kernel_rfl) fun f10 g10 l10 => ?_
            have hcl : css.length = rn := hO.len
            have hone := hA.one (rule_one (fun _ => rfl))
            have hfl : ∀ j, (css.take j).flatten.length = (css.take j).length * 3 := fun j => flat_length (fun cs hc => hO.each cs (List.mem_of_mem_take hc))
            refine To.appendE (ty := 35) elFl 4 (f10 0) 0 0 [] [] ra j rc (css.take j).flatten j (css.take j).flatten (by kernel_rfl) (by kernel_rfl) (by omega) rfl rfl rfl (Nat.le_refl _) (by decide) (by rw [hfl, List.length_take]; omega)
              (fun w8 hw8 => hO.front hw8 (i := 0) (by kernel_rfl) j) (fun e => by obtain ⟨g, hg⟩ := hO.start (by omega : 0 < rn); rw [hg] at e; cases e) (fun u hu => by obtain ⟨cs, h1, h2⟩ := List.mem_flatten.1 hu; exact hone cs (List.mem_of_mem_take h1) u h2) (by simp only [maxLen]; omega) (by omega) (held_nil (by kernel_rfl)) ?_
            intro w8 w9 gg1 cap1 rest1 hw8 hg8 hg1 hr1' hc1 hm1
            have k8 := (hkt.fr (l := [numO rob, numO oob, some (f4 0), some (f6 0), some (f10 0)]) hw8.fr (by kernel_rfl) (offx ⟨hkt.new (l10 0), trivial⟩))
            have o1 : OffTy AnsTy w4 gg1 := by
              rcases hg1 with h | h
              · rw [h]; exact hkt.new (l10 0)
              · exact k8.new (by rw [h]; exact Nat.le_refl _)
            have k9 := k8.grown hg8 (fun b hb => by cases hb; exact hkt.new (l10 0))
            refine To.appendE (ty := 35) elFl 5 gg1 j cap1 (css.take j).flatten rest1 (onA ra (j + 1) 3 rc) (rn - (j + 1)) (rc - (j + 1)) (css.drop (j + 1)).flatten (rn - 1) (css.eraseIdx j).flatten (by kernel_rfl) (by kernel_rfl) (by omega)
              (by rw [List.eraseIdx_eq_take_drop_succ, List.flatten_append]) (by rw [hfl, List.length_take]; omega) hr1' hc1 hm1 (by rw [flat_length (fun cs hc => hO.each cs (List.mem_of_mem_drop hc)), List.length_drop]; omega)
              (fun w10 hw10 => hO.rear hw10 (i := 0) (by kernel_rfl) (by omega)) (fun e => hO.rearNone e) (fun u hu => by obtain ⟨cs, h1, h2⟩ := List.mem_flatten.1 hu; exact hone cs (List.mem_of_mem_drop h1) u h2) (by simp only [maxLen]; omega) (by omega) (held_nil (by kernel_rfl)) ?_
            intro w10 w11 gg2 cap2 rest2 hw10 hg10 hg2 hr2 hc2 hm2
            have k10 := (k9.fr (l := [numO rob, numO oob, some (f4 0), some (f6 0), none, some gg1]) hw10.fr (by kernel_rfl) (offx (nums0 ⟨o1, trivial⟩)))
            have o2 : OffTy AnsTy w4 gg2 := by
              rcases hg2 with h | h
              · rw [h]; exact o1
              · exact k10.new (by rw [h]; exact Nat.le_refl _)
            have k11 := k10.grown hg10 (fun b hb => by cases hb; exact o1)
            refine To.runF 3 [] (fun _ _ => by kernel_rfl) fun f11 g11 l11 => ?_
            have hne : rulesAt (l.take (k + 1)) = (rulesAt (l.take k)).eraseIdx j := by rw [rulesAt_next hsk]; unfold nextR; rw [if_neg (by rw [c1']; decide), if_pos c1', hf]
            have hans : ansOf (actAt (l.take k)) (rulesAt (l.take k)) s = ⟨true, 0, [], []⟩ := by unfold ansOf; rw [if_pos c1', hf]; rfl
            refine To.slotE 4 (.int .i64 (actAt (l.take k))) (.int .i64 (actAt (l.take (k + 1)))) (by kernel_rfl) (by rw [hd1 c1' (by decide)]) ?_
            exact join _ _ (⟨some ⟨gg2, 0, none⟩, rn - 1, cap2, some ⟨gg2, .cells ⟨(css.eraseIdx j).flatten ++ rest2⟩ 39 (0, 0), true⟩, css.eraseIdx j⟩, decide (Int.ofNat j < Int.ofNat rn), 0, (none, 0, 0), (none, 0, 0)) [6, 1, 3] ⟨by kernel_rfl, by kernel_rfl, by kernel_rfl, by kernel_rfl, by kernel_rfl, rfl⟩
              (fun w9 hw9 => ⟨k11.fr (l := [numO rob, numO oob, some (f4 0), some (f6 0), none, none, some gg2]) hw9.fr (by kernel_rfl) (offx (nums0 (nums0 ⟨o2, trivial⟩))),
                ⟨.inr ⟨gg2, rest2, rfl, rfl, by show (css.eraseIdx j).length = rn - 1; rw [List.length_eraseIdx, if_pos (by omega)]; omega, fun cs hc => hO.each cs (List.mem_of_mem_eraseIdx hc), hr2, hc2, hm2⟩⟩,
                OTrue.of hw9 (j := 6) (by kernel_rfl), by rw [hne]; exact hA.erase j, OTrue.of hw9 (j := 1) (by kernel_rfl), hx6 (cs := [.bool (decide (Int.ofNat j < Int.ofNat rn)), .int .i64 (0), .slice none 0 0, .slice none 0 0]) hw9 (by kernel_rfl), by rw [hans]; exact ⟨none, 0, 0, none, 0, 0, by simp [hji], TextsT.nil _ _, TextsT.nil _ _⟩⟩)
        refine To.runF 5 [] (fun _ _ => by kernel_rfl) fun f8 g8 l8 => ?_
        refine To.test (s.op == 3) (by kernel_rfl) (fun c3 => ?_) (fun c3 => ?_)
        · have c3' : s.op = 3 := by simpa using c3
          have hne := hr1 c3' (by decide) (by decide)
          rcases noneOr (findR s.ip s.mask (rulesAt (l.take k))) with hf | ⟨j, hf⟩
          · refine To.slotE 8 (.int .i64 (atV (Int.ofNat rn) (findR s.ip s.mask (rulesAt (l.take k))))) (.int .i64 (Int.ofNat rn)) (by kernel_rfl) (by rw [hf]; rfl) ?_
            refine To.runF 14 [3, 3] (fun _ _ => by kernel_rfl) fun f9 g9 l9 => ?_
            refine To.testF (decide (Int.ofNat rn < Int.ofNat rn)) (by kernel_rfl) (by simp) ?_
            refine To.runF 2 [] (fun _ _ => by kernel_rfl) fun f10 g10 l10 => ?_
            have hans : ansOf (actAt (l.take k)) (rulesAt (l.take k)) s = ⟨false, 0, [], []⟩ := by unfold ansOf; rw [if_neg (by rw [c3']; decide), if_neg (by rw [c3']; decide), if_pos c3', hf]; rfl
            refine To.slotE 4 (.int .i64 (actAt (l.take k))) (.int .i64 (actAt (l.take (k + 1)))) (by kernel_rfl) (by rw [hd1 c3' (by decide)]) ?_
            exact join _ _ (⟨ra, rn, rc, rob, css⟩, decide (Int.ofNat rn < Int.ofNat rn), 0, (none, 0, 0), (none, 0, 0)) [0, 1, 3] ⟨by kernel_rfl, by kernel_rfl, by kernel_rfl, by kernel_rfl, by kernel_rfl, rfl⟩
              (fun w9 hw9 => ⟨hkt.fr (l := [numO rob, numO oob, some (f4 0), some (f6 0)]) hw9.fr (by kernel_rfl) (offx trivial), hO, OTrue.of hw9 (j := 0) (by kernel_rfl), by rw [hne]; exact hA, OTrue.of hw9 (j := 1) (by kernel_rfl), hx6 (cs := [.bool (decide (Int.ofNat rn < Int.ofNat rn)), .int .i64 (0), .slice none 0 0, .slice none 0 0]) hw9 (by kernel_rfl), by rw [hans]; exact ⟨none, 0, 0, none, 0, 0, by simp, TextsT.nil _ _, TextsT.nil _ _⟩⟩)
          · obtain ⟨rj, hrj, _, _⟩ := find_some hf
            have hji : j < rn := by have := (List.getElem?_eq_some_iff.1 hrj).1; omega
            obtain ⟨cs, hcsj, bi, bm, bci, bcm, rfl, hbi, hbm⟩ := hA.get hrj
            obtain ⟨g, rfl⟩ := hO.start (by omega)
            refine To.slotE 8 (.int .i64 (atV (Int.ofNat rn) (findR s.ip s.mask (rulesAt (l.take k))))) (.int .i64 (Int.ofNat j)) (by kernel_rfl) (by rw [hf]; rfl) ?_
            refine To.runF 14 [3, 3] (fun _ _ => by kernel_rfl) fun f9 g9 l9 => ?_
            refine To.testT (decide (Int.ofNat j < Int.ofNat rn)) (by kernel_rfl) (decide_eq_true (Int.ofNat_lt.2 hji)) ?_
            refine To.runF 3 [] (fun _ _ => by kernel_rfl) fun f10 g10 l10 => ?_
            refine To.indexAt elFl (some ⟨g, 0, none⟩) ⟨g, 0, none⟩ rn rc j (by kernel_rfl) rfl hji ?_
            refine To.runF 1 [] (fun _ _ => by kernel_rfl) fun f11 g11 l11 => ?_
            refine To.loadOne uInt rfl (((⟨g, 0, none⟩ : Addr).add (j * 3)).add 2) (.int .i64 rj.act) (by kernel_rfl) (fun w8 hw8 => by rw [add_add rfl]; exact hO.cell hw8 (j := 0) (by kernel_rfl) hcsj (m := 2) rfl rfl) ?_
            refine To.runF 4 [3] (fun _ _ => by kernel_rfl) fun f12 g12 l12 => ?_
            have hans : ansOf (actAt (l.take k)) (rulesAt (l.take k)) s = ⟨true, rj.act, [], []⟩ := by unfold ansOf; rw [if_neg (by rw [c3']; decide), if_neg (by rw [c3']; decide), if_pos c3', hf]; simp [actOf, hrj]
            refine To.slotE 4 (.int .i64 (actAt (l.take k))) (.int .i64 (actAt (l.take (k + 1)))) (by kernel_rfl) (by rw [hd1 c3' (by decide)]) ?_
            exact join _ _ (⟨some ⟨g, 0, none⟩, rn, rc, rob, css⟩, decide (Int.ofNat j < Int.ofNat rn), rj.act, (none, 0, 0), (none, 0, 0)) [0, 1, 3] ⟨by kernel_rfl, by kernel_rfl, by kernel_rfl, by kernel_rfl, by kernel_rfl, rfl⟩
              (fun w9 hw9 => ⟨hkt.fr (l := [numO rob, numO oob, some (f4 0), some (f6 0)]) hw9.fr (by kernel_rfl) (offx trivial), hO, OTrue.of hw9 (j := 0) (by kernel_rfl), by rw [hne]; exact hA, OTrue.of hw9 (j := 1) (by kernel_rfl), hx6 (cs := [.bool (decide (Int.ofNat j < Int.ofNat rn)), .int .i64 (rj.act), .slice none 0 0, .slice none 0 0]) hw9 (by kernel_rfl), by rw [hans]; exact ⟨none, 0, 0, none, 0, 0, by simp [hji], TextsT.nil _ _, TextsT.nil _ _⟩⟩)
        refine To.runF 5 [] (fun _ _ => by kernel_rfl) fun f9 g9 l9 => ?_
        refine To.test (s.op == 4) (by kernel_rfl) (fun c4 => ?_) (fun c4 => ?_)
        · have c4' : s.op = 4 := by simpa using c4
          have hne := hr1 c4' (by decide) (by decide)
          refine To.runF 7 [] (fun _ _ => by kernel_rfl) fun f10 g10 l10 => ?_
          refine To.loop (fun i : Nat × OR × OR => rn - i.1) (fun i => ([(0, .slice a l.length cap), (3, .slice ra rn rc), (4, .int .i64 (actAt (l.take k))), (5, .slice oa on oc), (7, .pointer (some ⟨f4 0, 0, none⟩)), (10, .pointer (some ⟨f6 0, 0, none⟩)), (17, .slice a l.length cap), (18, .int .i64 (Int.ofNat l.length)), (19, .int .i64 (Int.ofNat k)),
              (106, .slice ra rn rc), (107, .int .i64 (Int.ofNat rn)), (108, .int .i64 (Int.ofNat i.1))], [rob, oob, some ⟨f4 0, .cells ⟨stepCells s ai am aa ci cm ca⟩ 33 (0, 0), true⟩,
              some ⟨f6 0, .cells ⟨[.bool false, .int .i64 0, .slice i.2.1.a i.2.1.n i.2.1.c, .slice i.2.2.a i.2.2.n i.2.2.c]⟩ 29 (0, 0), true⟩, i.2.1.ob, i.2.2.ob]))
            (fun i w8 => i.1 ≤ rn ∧ Later AnsTy w4 w8 ∧ (ORow 1 30 i.2.1.a i.2.1.n i.2.1.c i.2.1.ob i.2.1.css ∧ (∀ n, numO i.2.1.ob = some n → OffTy AnsTy w4 n) ∧ All2 (textI w) i.2.1.css ((((rulesAt (l.take k)).take i.1).filter (hasAct s.act)).map Rule.ip)) ∧
              (ORow 1 30 i.2.2.a i.2.2.n i.2.2.c i.2.2.ob i.2.2.css ∧ (∀ n, numO i.2.2.ob = some n → OffTy AnsTy w4 n) ∧ All2 (textI w) i.2.2.css ((((rulesAt (l.take k)).take i.1).filter (hasAct s.act)).map Rule.mask)))
            (0, OR.none, OR.none) [0, 1, 2, 3, 40, 41] (by kernel_rfl) (by kernel_rfl) (by kernel_rfl) rfl
            (fun w8 hw8 => ⟨Nat.zero_le _, hkt.fr (l := [numO rob, numO oob, some (f4 0), some (f6 0)]) hw8.fr (by kernel_rfl) (offx trivial), ⟨ORow.nil _ _, ⟨fun n h => (by cases h), All2.nil⟩⟩, ORow.nil _ _, ⟨fun n h => (by cases h), All2.nil⟩⟩) ?_
          rintro ⟨i, ⟨pa, pn, pc, pob, pcss⟩, ⟨qa, qn, qc, qob, qcss⟩⟩ w8 ⟨hi, hk8, ⟨hp1, hp2, hp3⟩, hq1, hq2, hq3⟩ hx8 back3
          simp only at hi hk8 hp1 hp2 hp3 hq1 hq2 hq3
          have offy : ∀ {l : List (Option Nat)}, NumsAll (OffTy AnsTy w4) l → NumsAll (OffTy AnsTy w4) (numO rob :: numO oob :: some (f4 0) :: some (f6 0) :: numO pob :: numO qob :: l) := fun h => offx (numsCons hp2 (numsCons hq2 h))
          refine To.runF 5 [] (fun _ _ => by kernel_rfl) fun f11 g11 l11 => ?_
          by_cases hil : i < rn
          · obtain ⟨r, hri⟩ : ∃ r, (rulesAt (l.take k))[i]? = some r := ⟨(rulesAt (l.take k))[i]'(by omega), by simp [show i < (rulesAt (l.take k)).length by omega]⟩
            obtain ⟨cs, hcsi, bi, bm, bci, bcm, rfl, hbi, hbm⟩ := hA.get hri
            obtain ⟨g, rfl⟩ := hO.start (by omega)
            have hst : (rulesAt (l.take k)).take (i + 1) = (rulesAt (l.take k)).take i ++ [r] := take_snoc hri
            refine To.testT (decide (Int.ofNat i < Int.ofNat rn)) (by kernel_rfl) (decide_eq_true (Int.ofNat_lt.2 hil)) ?_
            refine To.runF 5 [] (fun _ _ => by kernel_rfl) fun f12 g12 l12 => ?_
            refine To.indexAt elFl (some ⟨g, 0, none⟩) ⟨g, 0, none⟩ rn rc i (by kernel_rfl) rfl hil ?_
            refine To.loadAgg (t := 39) (by kernel_rfl) 3 (by kernel_rfl) ((⟨g, 0, none⟩ : Addr).add (i * 3)) [.slice bi r.ip.length bci, .slice bm r.mask.length bcm, .int .i64 r.act] rfl (by kernel_rfl) (fun w8 hw8 j u hj => by rw [add_add rfl]; exact hO.cell hw8 (j := 0) (by kernel_rfl) hcsi hj rfl) ?_
            refine To.runF 11 [6, 6, 6, 6, 2] (fun _ _ => by kernel_rfl) fun f13 g13 l13 => ?_
            by_cases hact : r.act = s.act
            · refine To.testT (r.act == s.act) (by kernel_rfl) (by simpa using hact) ?_
              refine To.runF 7 [2, 3, 6, 14, 0, 1, 0, 2, 3, 1, 6, 7, 0] (fun _ _ => by kernel_rfl) fun f14 g14 l14 => ?_
              have hpl : pn ≤ 60 := by
                have h1 := hp1.len; have h2 := hp3.len; rw [List.length_map] at h2
                have h3 := List.length_filter_le (hasAct s.act) ((rulesAt (l.take k)).take i); rw [List.length_take] at h3; omega
              have hql : qn ≤ 60 := by
                have h1 := hq1.len; have h2 := hq3.len; rw [List.length_map] at h2
                have h3 := List.length_filter_le (hasAct s.act) ((rulesAt (l.take k)).take i); rw [List.length_take] at h3; omega
              refine To.meetI (ι := (Nat × Nat × List Value) × (Nat × Nat × List Value)) 3 [true, true, true, true, true, true, true, true, true, true, true, true, true, false, false, false] (fun x => ([(0, .slice a l.length cap), (3, .slice (some ⟨g, 0, none⟩) rn rc), (4, .int .i64 (actAt (l.take k))), (5, .slice oa on oc), (7, .pointer (some ⟨f4 0, 0, none⟩)), (10, .pointer (some ⟨f6 0, 0, none⟩)),
                  (17, .slice a l.length cap), (18, .int .i64 (Int.ofNat l.length)), (19, .int .i64 (Int.ofNat k)), (106, .slice (some ⟨g, 0, none⟩) rn rc), (107, .int .i64 (Int.ofNat rn)), (108, .int .i64 (Int.ofNat i)), (117, .pointer (some ⟨f6 0, 2, none⟩)), (123, .pointer (some ⟨f6 0, 3, none⟩)), (129, .pointer (some ⟨f6 0, 2, none⟩)),
                  (122, .slice (some ⟨x.1.1, 0, none⟩) (pn + 1) x.1.2.1), (128, .slice (some ⟨x.2.1, 0, none⟩) (qn + 1) x.2.2.1)],
                  [rob, oob, some ⟨f4 0, .cells ⟨stepCells s ai am aa ci cm ca⟩ 33 (0, 0), true⟩, some ⟨f6 0, .cells ⟨[.bool false, .int .i64 0, .slice pa pn pc, .slice qa qn qc]⟩ 29 (0, 0), true⟩,
                   some ⟨x.1.1, .cells ⟨(pcss ++ [[Value.slice bi r.ip.length bci]]).flatten ++ x.1.2.2⟩ 30 (0, 0), true⟩, some ⟨x.2.1, .cells ⟨(qcss ++ [[Value.slice bm r.mask.length bcm]]).flatten ++ x.2.2.2⟩ 30 (0, 0), true⟩]))
                (fun x w9 => Later AnsTy w4 w9 ∧ ORow 1 30 (some ⟨x.1.1, 0, none⟩) (pn + 1) x.1.2.1 (some ⟨x.1.1, .cells ⟨(pcss ++ [[Value.slice bi r.ip.length bci]]).flatten ++ x.1.2.2⟩ 30 (0, 0), true⟩) (pcss ++ [[Value.slice bi r.ip.length bci]]) ∧
                  ORow 1 30 (some ⟨x.2.1, 0, none⟩) (qn + 1) x.2.2.1 (some ⟨x.2.1, .cells ⟨(qcss ++ [[Value.slice bm r.mask.length bcm]]).flatten ++ x.2.2.2⟩ 30 (0, 0), true⟩) (qcss ++ [[Value.slice bm r.mask.length bcm]]) ∧ OffTy AnsTy w4 x.1.1 ∧ OffTy AnsTy w4 x.2.1) (fun join => ?_) (fun x w9 hx9 hxe9 => ?_)
              · skip
                refine To.pick 1 (by kernel_rfl) ⟨⟨trivial, ?_⟩, ?_⟩
                · refine To.runF 1 [] (fun _ _ => by kernel_rfl) fun f15 g15 l15 => ?_
                  refine To.pick 1 (by kernel_rfl) ⟨⟨trivial, ?_⟩, ?_⟩
                  · skip
                    refine To.appendAny (ty := 27) elBs 4 pa pn pc pob pcss hp1 ⟨f15 0, 0, none⟩ 1 [.slice bi r.ip.length bci] (pn + 1) (by kernel_rfl) (by kernel_rfl) rfl rfl
                      (fun w9 hw9 j u hj => hw9.cellAt0 (j := 7) (b := f15 0) (l := [.slice bi r.ip.length bci]) (e := 30) (f := (0, 0)) (q := true) (by kernel_rfl) hj)
                      (fun u hu => by simp only [List.mem_cons, List.not_mem_nil, or_false] at hu; rcases hu with rfl; rfl) (by simp only [maxLen]; omega) (by omega) (held_inO [3, 6] 4 (by kernel_rfl) (by kernel_rfl) (by decide)) ?_
                    intro wp gp cp tp hfrp hop hOp
                    have klp := hk8.fr (l := [numO rob, numO oob, some (f4 0), some (f6 0), numO pob, numO qob, some (f13 0), some (f15 0)]) hfrp (by kernel_rfl) (numsCons offr (numsCons offo (⟨(.inl (l4 0)), ⟨(hkt.new (l6 0)), numsCons hp2 (numsCons hq2 (⟨(hk8.new (l13 0)), ⟨(hk8.new (l15 0)), trivial⟩⟩))⟩⟩)))
                    have og_p : OffTy AnsTy w4 gp := by
                      rcases hop with h | h
                      · exact hp2 gp ((hp1).numO h)
                      · exact hk8.new h
                    refine To.runF 4 [12, 6] (fun _ _ => by kernel_rfl) fun f16 g16 l16 => ?_
                    refine To.appendAny (ty := 27) elBs 5 qa qn qc qob qcss hq1 ⟨f16 0, 0, none⟩ 1 [.slice bm r.mask.length bcm] (qn + 1) (by kernel_rfl) (by kernel_rfl) rfl rfl
                      (fun w9 hw9 j u hj => hw9.cellAt0 (j := 9) (b := f16 0) (l := [.slice bm r.mask.length bcm]) (e := 30) (f := (0, 0)) (q := true) (by kernel_rfl) hj)
                      (fun u hu => by simp only [List.mem_cons, List.not_mem_nil, or_false] at hu; rcases hu with rfl; rfl) (by simp only [maxLen]; omega) (by omega) (held_inO [3, 6] 5 (by kernel_rfl) (by kernel_rfl) (by decide)) ?_
                    intro wq gq cq tq hfrq hoq hOq
                    have klq := klp.fr (l := [numO rob, numO oob, some (f4 0), some (f6 0), none, numO qob, some (f13 0), some (f15 0), some gp, some (f16 0)]) hfrq (by kernel_rfl) (numsCons offr (numsCons offo (⟨(.inl (l4 0)), ⟨(hkt.new (l6 0)), nums0 (numsCons hq2 (⟨(hk8.new (l13 0)), ⟨(hk8.new (l15 0)), ⟨og_p, ⟨(klp.new (l16 0)), trivial⟩⟩⟩⟩))⟩⟩)))
                    have og_q : OffTy AnsTy w4 gq := by
                      rcases hoq with h | h
                      · exact hq2 gq ((hq1).numO h)
                      · exact klp.new h
                    exact join _ _ ((gp, cp, tp), (gq, cq, tq)) [0, 1, 2, 3, 8, 10] ⟨by kernel_rfl, by kernel_rfl, by kernel_rfl, by kernel_rfl, by kernel_rfl, rfl⟩ (fun w9 hw9 => ⟨klq.fr (l := [numO rob, numO oob, some (f4 0), some (f6 0), none, none, some (f13 0), some (f15 0), some gp, some (f16 0), some gq]) hw9.fr (by kernel_rfl) (numsCons offr (numsCons offo (⟨(.inl (l4 0)), ⟨(hkt.new (l6 0)), nums0 (nums0 (⟨(hk8.new (l13 0)), ⟨(hk8.new (l15 0)), ⟨og_p, ⟨(klp.new (l16 0)), ⟨og_q, trivial⟩⟩⟩⟩⟩))⟩⟩))), hOp, hOq, og_p, og_q⟩)
                  · refine To.runF 1 [] (fun _ _ => by kernel_rfl) fun f16 g16 l16 => ?_
                    refine To.pick 1 (by kernel_rfl) ⟨⟨trivial, ?_⟩, ?_⟩
                    · skip
                      refine To.appendAny (ty := 27) elBs 4 pa pn pc pob pcss hp1 ⟨f15 0, 0, none⟩ 1 [.slice bi r.ip.length bci] (pn + 1) (by kernel_rfl) (by kernel_rfl) rfl rfl
                        (fun w9 hw9 j u hj => hw9.cellAt0 (j := 7) (b := f15 0) (l := [.slice bi r.ip.length bci]) (e := 30) (f := (0, 0)) (q := true) (by kernel_rfl) hj)
                        (fun u hu => by simp only [List.mem_cons, List.not_mem_nil, or_false] at hu; rcases hu with rfl; rfl) (by simp only [maxLen]; omega) (by omega) (held_inO [3, 6] 4 (by kernel_rfl) (by kernel_rfl) (by decide)) ?_
                      intro wp gp cp tp hfrp hop hOp
                      have klp := hk8.fr (l := [numO rob, numO oob, some (f4 0), some (f6 0), numO pob, numO qob, some (f13 0), some (f15 0)]) hfrp (by kernel_rfl) (numsCons offr (numsCons offo (⟨(.inl (l4 0)), ⟨(hkt.new (l6 0)), numsCons hp2 (numsCons hq2 (⟨(hk8.new (l13 0)), ⟨(hk8.new (l15 0)), trivial⟩⟩))⟩⟩)))
                      have og_p : OffTy AnsTy w4 gp := by
                        rcases hop with h | h
                        · exact hp2 gp ((hp1).numO h)
                        · exact hk8.new h
                      refine To.runF 3 [12, 6] (fun _ _ => by kernel_rfl) fun f17 g17 l17 => ?_
                      refine To.appendAny (ty := 27) elBs 5 qa qn qc qob qcss hq1 ⟨f17 0, 0, none⟩ 1 [.slice bm r.mask.length bcm] (qn + 1) (by kernel_rfl) (by kernel_rfl) rfl rfl
                        (fun w9 hw9 j u hj => hw9.cellAt0 (j := 9) (b := f17 0) (l := [.slice bm r.mask.length bcm]) (e := 30) (f := (0, 0)) (q := true) (by kernel_rfl) hj)
                        (fun u hu => by simp only [List.mem_cons, List.not_mem_nil, or_false] at hu; rcases hu with rfl; rfl) (by simp only [maxLen]; omega) (by omega) (held_inO [3, 6] 5 (by kernel_rfl) (by kernel_rfl) (by decide)) ?_
                      intro wq gq cq tq hfrq hoq hOq
                      have klq := klp.fr (l := [numO rob, numO oob, some (f4 0), some (f6 0), none, numO qob, some (f13 0), some (f15 0), some gp, some (f17 0)]) hfrq (by kernel_rfl) (numsCons offr (numsCons offo (⟨(.inl (l4 0)), ⟨(hkt.new (l6 0)), nums0 (numsCons hq2 (⟨(hk8.new (l13 0)), ⟨(hk8.new (l15 0)), ⟨og_p, ⟨(klp.new (l17 0)), trivial⟩⟩⟩⟩))⟩⟩)))
                      have og_q : OffTy AnsTy w4 gq := by
                        rcases hoq with h | h
                        · exact hq2 gq ((hq1).numO h)
                        · exact klp.new h
                      exact join _ _ ((gp, cp, tp), (gq, cq, tq)) [0, 1, 2, 3, 8, 10] ⟨by kernel_rfl, by kernel_rfl, by kernel_rfl, by kernel_rfl, by kernel_rfl, rfl⟩ (fun w9 hw9 => ⟨klq.fr (l := [numO rob, numO oob, some (f4 0), some (f6 0), none, none, some (f13 0), some (f15 0), some gp, some (f17 0), some gq]) hw9.fr (by kernel_rfl) (numsCons offr (numsCons offo (⟨(.inl (l4 0)), ⟨(hkt.new (l6 0)), nums0 (nums0 (⟨(hk8.new (l13 0)), ⟨(hk8.new (l15 0)), ⟨og_p, ⟨(klp.new (l17 0)), ⟨og_q, trivial⟩⟩⟩⟩⟩))⟩⟩))), hOp, hOq, og_p, og_q⟩)
                    · refine To.runF 1 [6] (fun _ _ => by kernel_rfl) fun f17 g17 l17 => ?_
                      refine To.pick 1 (by kernel_rfl) ⟨⟨trivial, ?_⟩, ?_⟩
                      · skip
                        refine To.appendAny (ty := 27) elBs 4 pa pn pc pob pcss hp1 ⟨f15 0, 0, none⟩ 1 [.slice bi r.ip.length bci] (pn + 1) (by kernel_rfl) (by kernel_rfl) rfl rfl
                          (fun w9 hw9 j u hj => hw9.cellAt0 (j := 7) (b := f15 0) (l := [.slice bi r.ip.length bci]) (e := 30) (f := (0, 0)) (q := true) (by kernel_rfl) hj)
                          (fun u hu => by simp only [List.mem_cons, List.not_mem_nil, or_false] at hu; rcases hu with rfl; rfl) (by simp only [maxLen]; omega) (by omega) (held_inO [3, 6] 4 (by kernel_rfl) (by kernel_rfl) (by decide)) ?_
                        intro wp gp cp tp hfrp hop hOp
                        have klp := hk8.fr (l := [numO rob, numO oob, some (f4 0), some (f6 0), numO pob, numO qob, some (f13 0), some (f15 0)]) hfrp (by kernel_rfl) (numsCons offr (numsCons offo (⟨(.inl (l4 0)), ⟨(hkt.new (l6 0)), numsCons hp2 (numsCons hq2 (⟨(hk8.new (l13 0)), ⟨(hk8.new (l15 0)), trivial⟩⟩))⟩⟩)))
                        have og_p : OffTy AnsTy w4 gp := by
                          rcases hop with h | h
                          · exact hp2 gp ((hp1).numO h)
                          · exact hk8.new h
                        refine To.runF 2 [12] (fun _ _ => by kernel_rfl) fun f18 g18 l18 => ?_
                        refine To.appendAny (ty := 27) elBs 5 qa qn qc qob qcss hq1 ⟨f18 0, 0, none⟩ 1 [.slice bm r.mask.length bcm] (qn + 1) (by kernel_rfl) (by kernel_rfl) rfl rfl
                          (fun w9 hw9 j u hj => hw9.cellAt0 (j := 9) (b := f18 0) (l := [.slice bm r.mask.length bcm]) (e := 30) (f := (0, 0)) (q := true) (by kernel_rfl) hj)
                          (fun u hu => by simp only [List.mem_cons, List.not_mem_nil, or_false] at hu; rcases hu with rfl; rfl) (by simp only [maxLen]; omega) (by omega) (held_inO [3, 6] 5 (by kernel_rfl) (by kernel_rfl) (by decide)) ?_
                        intro wq gq cq tq hfrq hoq hOq
                        have klq := klp.fr (l := [numO rob, numO oob, some (f4 0), some (f6 0), none, numO qob, some (f13 0), some (f15 0), some gp, some (f18 0)]) hfrq (by kernel_rfl) (numsCons offr (numsCons offo (⟨(.inl (l4 0)), ⟨(hkt.new (l6 0)), nums0 (numsCons hq2 (⟨(hk8.new (l13 0)), ⟨(hk8.new (l15 0)), ⟨og_p, ⟨(klp.new (l18 0)), trivial⟩⟩⟩⟩))⟩⟩)))
                        have og_q : OffTy AnsTy w4 gq := by
                          rcases hoq with h | h
                          · exact hq2 gq ((hq1).numO h)
                          · exact klp.new h
                        exact join _ _ ((gp, cp, tp), (gq, cq, tq)) [0, 1, 2, 3, 8, 10] ⟨by kernel_rfl, by kernel_rfl, by kernel_rfl, by kernel_rfl, by kernel_rfl, rfl⟩ (fun w9 hw9 => ⟨klq.fr (l := [numO rob, numO oob, some (f4 0), some (f6 0), none, none, some (f13 0), some (f15 0), some gp, some (f18 0), some gq]) hw9.fr (by kernel_rfl) (numsCons offr (numsCons offo (⟨(.inl (l4 0)), ⟨(hkt.new (l6 0)), nums0 (nums0 (⟨(hk8.new (l13 0)), ⟨(hk8.new (l15 0)), ⟨og_p, ⟨(klp.new (l18 0)), ⟨og_q, trivial⟩⟩⟩⟩⟩))⟩⟩))), hOp, hOq, og_p, og_q⟩)
                      · refine To.runF 1 [] (fun _ _ => by kernel_rfl) fun f18 g18 l18 => ?_
                        refine To.appendAny (ty := 27) elBs 4 pa pn pc pob pcss hp1 ⟨f15 0, 0, none⟩ 1 [.slice bi r.ip.length bci] (pn + 1) (by kernel_rfl) (by kernel_rfl) rfl rfl
                          (fun w9 hw9 j u hj => hw9.cellAt0 (j := 7) (b := f15 0) (l := [.slice bi r.ip.length bci]) (e := 30) (f := (0, 0)) (q := true) (by kernel_rfl) hj)
                          (fun u hu => by simp only [List.mem_cons, List.not_mem_nil, or_false] at hu; rcases hu with rfl; rfl) (by simp only [maxLen]; omega) (by omega) (held_inO [3, 6] 4 (by kernel_rfl) (by kernel_rfl) (by decide)) ?_
                        intro wp gp cp tp hfrp hop hOp
                        have klp := hk8.fr (l := [numO rob, numO oob, some (f4 0), some (f6 0), numO pob, numO qob, some (f13 0), some (f15 0), some (f18 0)]) hfrp (by kernel_rfl) (numsCons offr (numsCons offo (⟨(.inl (l4 0)), ⟨(hkt.new (l6 0)), numsCons hp2 (numsCons hq2 (⟨(hk8.new (l13 0)), ⟨(hk8.new (l15 0)), ⟨(hk8.new (l18 0)), trivial⟩⟩⟩))⟩⟩)))
                        have og_p : OffTy AnsTy w4 gp := by
                          rcases hop with h | h
                          · exact hp2 gp ((hp1).numO h)
                          · exact hk8.new h
                        refine To.runF 1 [12] (fun _ _ => by kernel_rfl) fun f19 g19 l19 => ?_
                        refine To.appendAny (ty := 27) elBs 5 qa qn qc qob qcss hq1 ⟨f18 0, 0, none⟩ 1 [.slice bm r.mask.length bcm] (qn + 1) (by kernel_rfl) (by kernel_rfl) rfl rfl
                          (fun w9 hw9 j u hj => hw9.cellAt0 (j := 8) (b := f18 0) (l := [.slice bm r.mask.length bcm]) (e := 30) (f := (0, 0)) (q := true) (by kernel_rfl) hj)
                          (fun u hu => by simp only [List.mem_cons, List.not_mem_nil, or_false] at hu; rcases hu with rfl; rfl) (by simp only [maxLen]; omega) (by omega) (held_inO [3, 6] 5 (by kernel_rfl) (by kernel_rfl) (by decide)) ?_
                        intro wq gq cq tq hfrq hoq hOq
                        have klq := klp.fr (l := [numO rob, numO oob, some (f4 0), some (f6 0), none, numO qob, some (f13 0), some (f15 0), some (f18 0), some gp]) hfrq (by kernel_rfl) (numsCons offr (numsCons offo (⟨(.inl (l4 0)), ⟨(hkt.new (l6 0)), nums0 (numsCons hq2 (⟨(hk8.new (l13 0)), ⟨(hk8.new (l15 0)), ⟨(hk8.new (l18 0)), ⟨og_p, trivial⟩⟩⟩⟩))⟩⟩)))
                        have og_q : OffTy AnsTy w4 gq := by
                          rcases hoq with h | h
                          · exact hq2 gq ((hq1).numO h)
                          · exact klp.new h
                        exact join _ _ ((gp, cp, tp), (gq, cq, tq)) [0, 1, 2, 3, 9, 10] ⟨by kernel_rfl, by kernel_rfl, by kernel_rfl, by kernel_rfl, by kernel_rfl, rfl⟩ (fun w9 hw9 => ⟨klq.fr (l := [numO rob, numO oob, some (f4 0), some (f6 0), none, none, some (f13 0), some (f15 0), some (f18 0), some gp, some gq]) hw9.fr (by kernel_rfl) (numsCons offr (numsCons offo (⟨(.inl (l4 0)), ⟨(hkt.new (l6 0)), nums0 (nums0 (⟨(hk8.new (l13 0)), ⟨(hk8.new (l15 0)), ⟨(hk8.new (l18 0)), ⟨og_p, ⟨og_q, trivial⟩⟩⟩⟩⟩))⟩⟩))), hOp, hOq, og_p, og_q⟩)
                · refine To.runF 1 [] (fun _ _ => by kernel_rfl) fun f15 g15 l15 => ?_
                  refine To.pick 1 (by kernel_rfl) ⟨⟨trivial, ?_⟩, ?_⟩
                  · refine To.runF 1 [] (fun _ _ => by kernel_rfl) fun f16 g16 l16 => ?_
                    refine To.pick 1 (by kernel_rfl) ⟨⟨trivial, ?_⟩, ?_⟩
                    · skip
                      refine To.appendAny (ty := 27) elBs 4 pa pn pc pob pcss hp1 ⟨f16 0, 0, none⟩ 1 [.slice bi r.ip.length bci] (pn + 1) (by kernel_rfl) (by kernel_rfl) rfl rfl
                        (fun w9 hw9 j u hj => hw9.cellAt0 (j := 7) (b := f16 0) (l := [.slice bi r.ip.length bci]) (e := 30) (f := (0, 0)) (q := true) (by kernel_rfl) hj)
                        (fun u hu => by simp only [List.mem_cons, List.not_mem_nil, or_false] at hu; rcases hu with rfl; rfl) (by simp only [maxLen]; omega) (by omega) (held_inO [3, 6] 4 (by kernel_rfl) (by kernel_rfl) (by decide)) ?_
                      intro wp gp cp tp hfrp hop hOp
                      have klp := hk8.fr (l := [numO rob, numO oob, some (f4 0), some (f6 0), numO pob, numO qob, some (f13 0), some (f16 0)]) hfrp (by kernel_rfl) (numsCons offr (numsCons offo (⟨(.inl (l4 0)), ⟨(hkt.new (l6 0)), numsCons hp2 (numsCons hq2 (⟨(hk8.new (l13 0)), ⟨(hk8.new (l16 0)), trivial⟩⟩))⟩⟩)))
                      have og_p : OffTy AnsTy w4 gp := by
                        rcases hop with h | h
                        · exact hp2 gp ((hp1).numO h)
                        · exact hk8.new h
                      refine To.runF 3 [12, 6] (fun _ _ => by kernel_rfl) fun f17 g17 l17 => ?_
                      refine To.appendAny (ty := 27) elBs 5 qa qn qc qob qcss hq1 ⟨f17 0, 0, none⟩ 1 [.slice bm r.mask.length bcm] (qn + 1) (by kernel_rfl) (by kernel_rfl) rfl rfl
                        (fun w9 hw9 j u hj => hw9.cellAt0 (j := 9) (b := f17 0) (l := [.slice bm r.mask.length bcm]) (e := 30) (f := (0, 0)) (q := true) (by kernel_rfl) hj)
                        (fun u hu => by simp only [List.mem_cons, List.not_mem_nil, or_false] at hu; rcases hu with rfl; rfl) (by simp only [maxLen]; omega) (by omega) (held_inO [3, 6] 5 (by kernel_rfl) (by kernel_rfl) (by decide)) ?_
                      intro wq gq cq tq hfrq hoq hOq
                      have klq := klp.fr (l := [numO rob, numO oob, some (f4 0), some (f6 0), none, numO qob, some (f13 0), some (f16 0), some gp, some (f17 0)]) hfrq (by kernel_rfl) (numsCons offr (numsCons offo (⟨(.inl (l4 0)), ⟨(hkt.new (l6 0)), nums0 (numsCons hq2 (⟨(hk8.new (l13 0)), ⟨(hk8.new (l16 0)), ⟨og_p, ⟨(klp.new (l17 0)), trivial⟩⟩⟩⟩))⟩⟩)))
                      have og_q : OffTy AnsTy w4 gq := by
                        rcases hoq with h | h
                        · exact hq2 gq ((hq1).numO h)
                        · exact klp.new h
                      exact join _ _ ((gp, cp, tp), (gq, cq, tq)) [0, 1, 2, 3, 8, 10] ⟨by kernel_rfl, by kernel_rfl, by kernel_rfl, by kernel_rfl, by kernel_rfl, rfl⟩ (fun w9 hw9 => ⟨klq.fr (l := [numO rob, numO oob, some (f4 0), some (f6 0), none, none, some (f13 0), some (f16 0), some gp, some (f17 0), some gq]) hw9.fr (by kernel_rfl) (numsCons offr (numsCons offo (⟨(.inl (l4 0)), ⟨(hkt.new (l6 0)), nums0 (nums0 (⟨(hk8.new (l13 0)), ⟨(hk8.new (l16 0)), ⟨og_p, ⟨(klp.new (l17 0)), ⟨og_q, trivial⟩⟩⟩⟩⟩))⟩⟩))), hOp, hOq, og_p, og_q⟩)
                    · refine To.runF 1 [6] (fun _ _ => by kernel_rfl) fun f17 g17 l17 => ?_
                      refine To.pick 1 (by kernel_rfl) ⟨⟨trivial, ?_⟩, ?_⟩
                      · skip
                        refine To.appendAny (ty := 27) elBs 4 pa pn pc pob pcss hp1 ⟨f16 0, 0, none⟩ 1 [.slice bi r.ip.length bci] (pn + 1) (by kernel_rfl) (by kernel_rfl) rfl rfl
                          (fun w9 hw9 j u hj => hw9.cellAt0 (j := 7) (b := f16 0) (l := [.slice bi r.ip.length bci]) (e := 30) (f := (0, 0)) (q := true) (by kernel_rfl) hj)
                          (fun u hu => by simp only [List.mem_cons, List.not_mem_nil, or_false] at hu; rcases hu with rfl; rfl) (by simp only [maxLen]; omega) (by omega) (held_inO [3, 6] 4 (by kernel_rfl) (by kernel_rfl) (by decide)) ?_
                        intro wp gp cp tp hfrp hop hOp
                        have klp := hk8.fr (l := [numO rob, numO oob, some (f4 0), some (f6 0), numO pob, numO qob, some (f13 0), some (f16 0)]) hfrp (by kernel_rfl) (numsCons offr (numsCons offo (⟨(.inl (l4 0)), ⟨(hkt.new (l6 0)), numsCons hp2 (numsCons hq2 (⟨(hk8.new (l13 0)), ⟨(hk8.new (l16 0)), trivial⟩⟩))⟩⟩)))
                        have og_p : OffTy AnsTy w4 gp := by
                          rcases hop with h | h
                          · exact hp2 gp ((hp1).numO h)
                          · exact hk8.new h
                        refine To.runF 2 [12] (fun _ _ => by kernel_rfl) fun f18 g18 l18 => ?_
                        refine To.appendAny (ty := 27) elBs 5 qa qn qc qob qcss hq1 ⟨f18 0, 0, none⟩ 1 [.slice bm r.mask.length bcm] (qn + 1) (by kernel_rfl) (by kernel_rfl) rfl rfl
                          (fun w9 hw9 j u hj => hw9.cellAt0 (j := 9) (b := f18 0) (l := [.slice bm r.mask.length bcm]) (e := 30) (f := (0, 0)) (q := true) (by kernel_rfl) hj)
                          (fun u hu => by simp only [List.mem_cons, List.not_mem_nil, or_false] at hu; rcases hu with rfl; rfl) (by simp only [maxLen]; omega) (by omega) (held_inO [3, 6] 5 (by kernel_rfl) (by kernel_rfl) (by decide)) ?_
                        intro wq gq cq tq hfrq hoq hOq
                        have klq := klp.fr (l := [numO rob, numO oob, some (f4 0), some (f6 0), none, numO qob, some (f13 0), some (f16 0), some gp, some (f18 0)]) hfrq (by kernel_rfl) (numsCons offr (numsCons offo (⟨(.inl (l4 0)), ⟨(hkt.new (l6 0)), nums0 (numsCons hq2 (⟨(hk8.new (l13 0)), ⟨(hk8.new (l16 0)), ⟨og_p, ⟨(klp.new (l18 0)), trivial⟩⟩⟩⟩))⟩⟩)))
                        have og_q : OffTy AnsTy w4 gq := by
                          rcases hoq with h | h
                          · exact hq2 gq ((hq1).numO h)
                          · exact klp.new h
                        exact join _ _ ((gp, cp, tp), (gq, cq, tq)) [0, 1, 2, 3, 8, 10] ⟨by kernel_rfl, by kernel_rfl, by kernel_rfl, by kernel_rfl, by kernel_rfl, rfl⟩ (fun w9 hw9 => ⟨klq.fr (l := [numO rob, numO oob, some (f4 0), some (f6 0), none, none, some (f13 0), some (f16 0), some gp, some (f18 0), some gq]) hw9.fr (by kernel_rfl) (numsCons offr (numsCons offo (⟨(.inl (l4 0)), ⟨(hkt.new (l6 0)), nums0 (nums0 (⟨(hk8.new (l13 0)), ⟨(hk8.new (l16 0)), ⟨og_p, ⟨(klp.new (l18 0)), ⟨og_q, trivial⟩⟩⟩⟩⟩))⟩⟩))), hOp, hOq, og_p, og_q⟩)
                      · refine To.runF 1 [] (fun _ _ => by kernel_rfl) fun f18 g18 l18 => ?_
                        refine To.appendAny (ty := 27) elBs 4 pa pn pc pob pcss hp1 ⟨f16 0, 0, none⟩ 1 [.slice bi r.ip.length bci] (pn + 1) (by kernel_rfl) (by kernel_rfl) rfl rfl
                          (fun w9 hw9 j u hj => hw9.cellAt0 (j := 7) (b := f16 0) (l := [.slice bi r.ip.length bci]) (e := 30) (f := (0, 0)) (q := true) (by kernel_rfl) hj)
                          (fun u hu => by simp only [List.mem_cons, List.not_mem_nil, or_false] at hu; rcases hu with rfl; rfl) (by simp only [maxLen]; omega) (by omega) (held_inO [3, 6] 4 (by kernel_rfl) (by kernel_rfl) (by decide)) ?_
                        intro wp gp cp tp hfrp hop hOp
                        have klp := hk8.fr (l := [numO rob, numO oob, some (f4 0), some (f6 0), numO pob, numO qob, some (f13 0), some (f16 0), some (f18 0)]) hfrp (by kernel_rfl) (numsCons offr (numsCons offo (⟨(.inl (l4 0)), ⟨(hkt.new (l6 0)), numsCons hp2 (numsCons hq2 (⟨(hk8.new (l13 0)), ⟨(hk8.new (l16 0)), ⟨(hk8.new (l18 0)), trivial⟩⟩⟩))⟩⟩)))
                        have og_p : OffTy AnsTy w4 gp := by
                          rcases hop with h | h
                          · exact hp2 gp ((hp1).numO h)
                          · exact hk8.new h
                        refine To.runF 1 [12] (fun _ _ => by kernel_rfl) fun f19 g19 l19 => ?_
                        refine To.appendAny (ty := 27) elBs 5 qa qn qc qob qcss hq1 ⟨f18 0, 0, none⟩ 1 [.slice bm r.mask.length bcm] (qn + 1) (by kernel_rfl) (by kernel_rfl) rfl rfl
                          (fun w9 hw9 j u hj => hw9.cellAt0 (j := 8) (b := f18 0) (l := [.slice bm r.mask.length bcm]) (e := 30) (f := (0, 0)) (q := true) (by kernel_rfl) hj)
                          (fun u hu => by simp only [List.mem_cons, List.not_mem_nil, or_false] at hu; rcases hu with rfl; rfl) (by simp only [maxLen]; omega) (by omega) (held_inO [3, 6] 5 (by kernel_rfl) (by kernel_rfl) (by decide)) ?_
                        intro wq gq cq tq hfrq hoq hOq
                        have klq := klp.fr (l := [numO rob, numO oob, some (f4 0), some (f6 0), none, numO qob, some (f13 0), some (f16 0), some (f18 0), some gp]) hfrq (by kernel_rfl) (numsCons offr (numsCons offo (⟨(.inl (l4 0)), ⟨(hkt.new (l6 0)), nums0 (numsCons hq2 (⟨(hk8.new (l13 0)), ⟨(hk8.new (l16 0)), ⟨(hk8.new (l18 0)), ⟨og_p, trivial⟩⟩⟩⟩))⟩⟩)))
                        have og_q : OffTy AnsTy w4 gq := by
                          rcases hoq with h | h
                          · exact hq2 gq ((hq1).numO h)
                          · exact klp.new h
                        exact join _ _ ((gp, cp, tp), (gq, cq, tq)) [0, 1, 2, 3, 9, 10] ⟨by kernel_rfl, by kernel_rfl, by kernel_rfl, by kernel_rfl, by kernel_rfl, rfl⟩ (fun w9 hw9 => ⟨klq.fr (l := [numO rob, numO oob, some (f4 0), some (f6 0), none, none, some (f13 0), some (f16 0), some (f18 0), some gp, some gq]) hw9.fr (by kernel_rfl) (numsCons offr (numsCons offo (⟨(.inl (l4 0)), ⟨(hkt.new (l6 0)), nums0 (nums0 (⟨(hk8.new (l13 0)), ⟨(hk8.new (l16 0)), ⟨(hk8.new (l18 0)), ⟨og_p, ⟨og_q, trivial⟩⟩⟩⟩⟩))⟩⟩))), hOp, hOq, og_p, og_q⟩)
                  · refine To.runF 1 [6] (fun _ _ => by kernel_rfl) fun f16 g16 l16 => ?_
                    refine To.pick 1 (by kernel_rfl) ⟨⟨trivial, ?_⟩, ?_⟩
                    · refine To.runF 1 [] (fun _ _ => by kernel_rfl) fun f17 g17 l17 => ?_
                      refine To.pick 1 (by kernel_rfl) ⟨⟨trivial, ?_⟩, ?_⟩
                      · skip
                        refine To.appendAny (ty := 27) elBs 4 pa pn pc pob pcss hp1 ⟨f17 0, 0, none⟩ 1 [.slice bi r.ip.length bci] (pn + 1) (by kernel_rfl) (by kernel_rfl) rfl rfl
                          (fun w9 hw9 j u hj => hw9.cellAt0 (j := 7) (b := f17 0) (l := [.slice bi r.ip.length bci]) (e := 30) (f := (0, 0)) (q := true) (by kernel_rfl) hj)
                          (fun u hu => by simp only [List.mem_cons, List.not_mem_nil, or_false] at hu; rcases hu with rfl; rfl) (by simp only [maxLen]; omega) (by omega) (held_inO [3, 6] 4 (by kernel_rfl) (by kernel_rfl) (by decide)) ?_
                        intro wp gp cp tp hfrp hop hOp
                        have klp := hk8.fr (l := [numO rob, numO oob, some (f4 0), some (f6 0), numO pob, numO qob, some (f13 0), some (f17 0)]) hfrp (by kernel_rfl) (numsCons offr (numsCons offo (⟨(.inl (l4 0)), ⟨(hkt.new (l6 0)), numsCons hp2 (numsCons hq2 (⟨(hk8.new (l13 0)), ⟨(hk8.new (l17 0)), trivial⟩⟩))⟩⟩)))
                        have og_p : OffTy AnsTy w4 gp := by
                          rcases hop with h | h
                          · exact hp2 gp ((hp1).numO h)
                          · exact hk8.new h
                        refine To.runF 2 [12] (fun _ _ => by kernel_rfl) fun f18 g18 l18 => ?_
                        refine To.appendAny (ty := 27) elBs 5 qa qn qc qob qcss hq1 ⟨f18 0, 0, none⟩ 1 [.slice bm r.mask.length bcm] (qn + 1) (by kernel_rfl) (by kernel_rfl) rfl rfl
                          (fun w9 hw9 j u hj => hw9.cellAt0 (j := 9) (b := f18 0) (l := [.slice bm r.mask.length bcm]) (e := 30) (f := (0, 0)) (q := true) (by kernel_rfl) hj)
                          (fun u hu => by simp only [List.mem_cons, List.not_mem_nil, or_false] at hu; rcases hu with rfl; rfl) (by simp only [maxLen]; omega) (by omega) (held_inO [3, 6] 5 (by kernel_rfl) (by kernel_rfl) (by decide)) ?_
                        intro wq gq cq tq hfrq hoq hOq
                        have klq := klp.fr (l := [numO rob, numO oob, some (f4 0), some (f6 0), none, numO qob, some (f13 0), some (f17 0), some gp, some (f18 0)]) hfrq (by kernel_rfl) (numsCons offr (numsCons offo (⟨(.inl (l4 0)), ⟨(hkt.new (l6 0)), nums0 (numsCons hq2 (⟨(hk8.new (l13 0)), ⟨(hk8.new (l17 0)), ⟨og_p, ⟨(klp.new (l18 0)), trivial⟩⟩⟩⟩))⟩⟩)))
                        have og_q : OffTy AnsTy w4 gq := by
                          rcases hoq with h | h
                          · exact hq2 gq ((hq1).numO h)
                          · exact klp.new h
                        exact join _ _ ((gp, cp, tp), (gq, cq, tq)) [0, 1, 2, 3, 8, 10] ⟨by kernel_rfl, by kernel_rfl, by kernel_rfl, by kernel_rfl, by kernel_rfl, rfl⟩ (fun w9 hw9 => ⟨klq.fr (l := [numO rob, numO oob, some (f4 0), some (f6 0), none, none, some (f13 0), some (f17 0), some gp, some (f18 0), some gq]) hw9.fr (by kernel_rfl) (numsCons offr (numsCons offo (⟨(.inl (l4 0)), ⟨(hkt.new (l6 0)), nums0 (nums0 (⟨(hk8.new (l13 0)), ⟨(hk8.new (l17 0)), ⟨og_p, ⟨(klp.new (l18 0)), ⟨og_q, trivial⟩⟩⟩⟩⟩))⟩⟩))), hOp, hOq, og_p, og_q⟩)
                      · refine To.runF 1 [] (fun _ _ => by kernel_rfl) fun f18 g18 l18 => ?_
                        refine To.appendAny (ty := 27) elBs 4 pa pn pc pob pcss hp1 ⟨f17 0, 0, none⟩ 1 [.slice bi r.ip.length bci] (pn + 1) (by kernel_rfl) (by kernel_rfl) rfl rfl
                          (fun w9 hw9 j u hj => hw9.cellAt0 (j := 7) (b := f17 0) (l := [.slice bi r.ip.length bci]) (e := 30) (f := (0, 0)) (q := true) (by kernel_rfl) hj)
                          (fun u hu => by simp only [List.mem_cons, List.not_mem_nil, or_false] at hu; rcases hu with rfl; rfl) (by simp only [maxLen]; omega) (by omega) (held_inO [3, 6] 4 (by kernel_rfl) (by kernel_rfl) (by decide)) ?_
                        intro wp gp cp tp hfrp hop hOp
                        have klp := hk8.fr (l := [numO rob, numO oob, some (f4 0), some (f6 0), numO pob, numO qob, some (f13 0), some (f17 0), some (f18 0)]) hfrp (by kernel_rfl) (numsCons offr (numsCons offo (⟨(.inl (l4 0)), ⟨(hkt.new (l6 0)), numsCons hp2 (numsCons hq2 (⟨(hk8.new (l13 0)), ⟨(hk8.new (l17 0)), ⟨(hk8.new (l18 0)), trivial⟩⟩⟩))⟩⟩)))
                        have og_p : OffTy AnsTy w4 gp := by
                          rcases hop with h | h
                          · exact hp2 gp ((hp1).numO h)
                          · exact hk8.new h
                        refine To.runF 1 [12] (fun _ _ => by kernel_rfl) fun f19 g19 l19 => ?_
                        refine To.appendAny (ty := 27) elBs 5 qa qn qc qob qcss hq1 ⟨f18 0, 0, none⟩ 1 [.slice bm r.mask.length bcm] (qn + 1) (by kernel_rfl) (by kernel_rfl) rfl rfl
                          (fun w9 hw9 j u hj => hw9.cellAt0 (j := 8) (b := f18 0) (l := [.slice bm r.mask.length bcm]) (e := 30) (f := (0, 0)) (q := true) (by kernel_rfl) hj)
                          (fun u hu => by simp only [List.mem_cons, List.not_mem_nil, or_false] at hu; rcases hu with rfl; rfl) (by simp only [maxLen]; omega) (by omega) (held_inO [3, 6] 5 (by kernel_rfl) (by kernel_rfl) (by decide)) ?_
                        intro wq gq cq tq hfrq hoq hOq
                        have klq := klp.fr (l := [numO rob, numO oob, some (f4 0), some (f6 0), none, numO qob, some (f13 0), some (f17 0), some (f18 0), some gp]) hfrq (by kernel_rfl) (numsCons offr (numsCons offo (⟨(.inl (l4 0)), ⟨(hkt.new (l6 0)), nums0 (numsCons hq2 (⟨(hk8.new (l13 0)), ⟨(hk8.new (l17 0)), ⟨(hk8.new (l18 0)), ⟨og_p, trivial⟩⟩⟩⟩))⟩⟩)))
                        have og_q : OffTy AnsTy w4 gq := by
                          rcases hoq with h | h
                          · exact hq2 gq ((hq1).numO h)
                          · exact klp.new h
                        exact join _ _ ((gp, cp, tp), (gq, cq, tq)) [0, 1, 2, 3, 9, 10] ⟨by kernel_rfl, by kernel_rfl, by kernel_rfl, by kernel_rfl, by kernel_rfl, rfl⟩ (fun w9 hw9 => ⟨klq.fr (l := [numO rob, numO oob, some (f4 0), some (f6 0), none, none, some (f13 0), some (f17 0), some (f18 0), some gp, some gq]) hw9.fr (by kernel_rfl) (numsCons offr (numsCons offo (⟨(.inl (l4 0)), ⟨(hkt.new (l6 0)), nums0 (nums0 (⟨(hk8.new (l13 0)), ⟨(hk8.new (l17 0)), ⟨(hk8.new (l18 0)), ⟨og_p, ⟨og_q, trivial⟩⟩⟩⟩⟩))⟩⟩))), hOp, hOq, og_p, og_q⟩)
                    · refine To.runF 2 [] (fun _ _ => by kernel_rfl) fun f17 g17 l17 => ?_
                      refine To.appendAny (ty := 27) elBs 4 pa pn pc pob pcss hp1 ⟨f17 1, 0, none⟩ 1 [.slice bi r.ip.length bci] (pn + 1) (by kernel_rfl) (by kernel_rfl) rfl rfl
                        (fun w9 hw9 j u hj => hw9.cellAt0 (j := 8) (b := f17 1) (l := [.slice bi r.ip.length bci]) (e := 30) (f := (0, 0)) (q := true) (by kernel_rfl) hj)
                        (fun u hu => by simp only [List.mem_cons, List.not_mem_nil, or_false] at hu; rcases hu with rfl; rfl) (by simp only [maxLen]; omega) (by omega) (held_inO [3, 6] 4 (by kernel_rfl) (by kernel_rfl) (by decide)) ?_
                      intro wp gp cp tp hfrp hop hOp
                      have klp := hk8.fr (l := [numO rob, numO oob, some (f4 0), some (f6 0), numO pob, numO qob, some (f13 0), some (f17 0), some (f17 1)]) hfrp (by kernel_rfl) (numsCons offr (numsCons offo (⟨(.inl (l4 0)), ⟨(hkt.new (l6 0)), numsCons hp2 (numsCons hq2 (⟨(hk8.new (l13 0)), ⟨(hk8.new (l17 0)), ⟨(hk8.new (l17 1)), trivial⟩⟩⟩))⟩⟩)))
                      have og_p : OffTy AnsTy w4 gp := by
                        rcases hop with h | h
                        · exact hp2 gp ((hp1).numO h)
                        · exact hk8.new h
                      refine To.runF 1 [12] (fun _ _ => by kernel_rfl) fun f18 g18 l18 => ?_
                      refine To.appendAny (ty := 27) elBs 5 qa qn qc qob qcss hq1 ⟨f17 0, 0, none⟩ 1 [.slice bm r.mask.length bcm] (qn + 1) (by kernel_rfl) (by kernel_rfl) rfl rfl
                        (fun w9 hw9 j u hj => hw9.cellAt0 (j := 7) (b := f17 0) (l := [.slice bm r.mask.length bcm]) (e := 30) (f := (0, 0)) (q := true) (by kernel_rfl) hj)
                        (fun u hu => by simp only [List.mem_cons, List.not_mem_nil, or_false] at hu; rcases hu with rfl; rfl) (by simp only [maxLen]; omega) (by omega) (held_inO [3, 6] 5 (by kernel_rfl) (by kernel_rfl) (by decide)) ?_
                      intro wq gq cq tq hfrq hoq hOq
                      have klq := klp.fr (l := [numO rob, numO oob, some (f4 0), some (f6 0), none, numO qob, some (f13 0), some (f17 0), some (f17 1), some gp]) hfrq (by kernel_rfl) (numsCons offr (numsCons offo (⟨(.inl (l4 0)), ⟨(hkt.new (l6 0)), nums0 (numsCons hq2 (⟨(hk8.new (l13 0)), ⟨(hk8.new (l17 0)), ⟨(hk8.new (l17 1)), ⟨og_p, trivial⟩⟩⟩⟩))⟩⟩)))
                      have og_q : OffTy AnsTy w4 gq := by
                        rcases hoq with h | h
                        · exact hq2 gq ((hq1).numO h)
                        · exact klp.new h
                      exact join _ _ ((gp, cp, tp), (gq, cq, tq)) [0, 1, 2, 3, 9, 10] ⟨by kernel_rfl, by kernel_rfl, by kernel_rfl, by kernel_rfl, by kernel_rfl, rfl⟩ (fun w9 hw9 => ⟨klq.fr (l := [numO rob, numO oob, some (f4 0), some (f6 0), none, none, some (f13 0), some (f17 0), some (f17 1), some gp, some gq]) hw9.fr (by kernel_rfl) (numsCons offr (numsCons offo (⟨(.inl (l4 0)), ⟨(hkt.new (l6 0)), nums0 (nums0 (⟨(hk8.new (l13 0)), ⟨(hk8.new (l17 0)), ⟨(hk8.new (l17 1)), ⟨og_p, ⟨og_q, trivial⟩⟩⟩⟩⟩))⟩⟩))), hOp, hOq, og_p, og_q⟩)
              obtain ⟨⟨gp, cp, tp⟩, gq, cq, tq⟩ := x
              obtain ⟨hk9, hOp, hOq, og_p, og_q⟩ := hx9
              simp only at hk9 hOp hOq og_p og_q
              refine To.runF 9 [3, 3] (fun _ _ => by kernel_rfl) fun f15 g15 l15 => ?_
              have hfi : ((rulesAt (l.take k)).take (i + 1)).filter (hasAct s.act) = ((rulesAt (l.take k)).take i).filter (hasAct s.act) ++ [r] := by rw [hst, List.filter_append]; simp [hasAct, hact]
              refine To.slotE 108 (.int .i64 (IntKind.i64.wrap (Int.ofNat i + 1))) (.int .i64 (Int.ofNat (i + 1))) (by kernel_rfl) (by rw [wrap_succ i (by omega)]) ?_
              exact back3 _ _ (i + 1, ⟨some ⟨gp, 0, none⟩, pn + 1, cp, some ⟨gp, .cells ⟨(pcss ++ [[Value.slice bi r.ip.length bci]]).flatten ++ tp⟩ 30 (0, 0), true⟩, pcss ++ [[Value.slice bi r.ip.length bci]]⟩, ⟨some ⟨gq, 0, none⟩, qn + 1, cq, some ⟨gq, .cells ⟨(qcss ++ [[Value.slice bm r.mask.length bcm]]).flatten ++ tq⟩ 30 (0, 0), true⟩, qcss ++ [[Value.slice bm r.mask.length bcm]]⟩) [0, 1, 2, 3, 4, 5] (by simp only; omega)
                ⟨by kernel_rfl, by kernel_rfl, by kernel_rfl, by kernel_rfl, by kernel_rfl, rfl⟩ (fun w10 hw10 => ⟨hil, hk9.fr (l := [numO rob, numO oob, some (f4 0), some (f6 0), some gp, some gq]) hw10.fr (by kernel_rfl) (offx ⟨og_p, og_q, trivial⟩),
                  ⟨hOp, ⟨fun n h => by cases h; exact og_p, by rw [hfi, List.map_append]; exact hp3.snoc ⟨bi, bci, rfl, hbi⟩⟩⟩, hOq, ⟨fun n h => by cases h; exact og_q, by rw [hfi, List.map_append]; exact hq3.snoc ⟨bm, bcm, rfl, hbm⟩⟩⟩)
            · refine To.testF (r.act == s.act) (by kernel_rfl) (by simpa using hact) ?_
              refine To.runF 6 [] (fun _ _ => by kernel_rfl) fun f14 g14 l14 => ?_
              have hfi : ((rulesAt (l.take k)).take (i + 1)).filter (hasAct s.act) = ((rulesAt (l.take k)).take i).filter (hasAct s.act) := by rw [hst, List.filter_append]; simp [hasAct, hact]
              refine To.slotE 108 (.int .i64 (IntKind.i64.wrap (Int.ofNat i + 1))) (.int .i64 (Int.ofNat (i + 1))) (by kernel_rfl) (by rw [wrap_succ i (by omega)]) ?_
              exact back3 _ _ (i + 1, ⟨pa, pn, pc, pob, pcss⟩, ⟨qa, qn, qc, qob, qcss⟩) [0, 1, 2, 3, 4, 5] (by simp only; omega) ⟨by kernel_rfl, by kernel_rfl, by kernel_rfl, by kernel_rfl, by kernel_rfl, rfl⟩
                (fun w10 hw10 => ⟨hil, hk8.fr (l := [numO rob, numO oob, some (f4 0), some (f6 0), numO pob, numO qob, some (f13 0)]) hw10.fr (by kernel_rfl) (offy ⟨hk8.new (l13 0), trivial⟩), ⟨hp1, ⟨hp2, by rw [hfi]; exact hp3⟩⟩, hq1, ⟨hq2, by rw [hfi]; exact hq3⟩⟩)
          · have hi1 : i = rn := by omega
            subst hi1
            refine To.testF (decide (Int.ofNat i < Int.ofNat i)) (by kernel_rfl) (by simp) ?_
            refine To.runF 2 [] (fun _ _ => by kernel_rfl) fun f12 g12 l12 => ?_
            have hall : (rulesAt (l.take k)).take i = rulesAt (l.take k) := by rw [hn, List.take_length]
            rw [hall] at hp3 hq3
            have hans : ansOf (actAt (l.take k)) (rulesAt (l.take k)) s = ⟨false, 0, ((rulesAt (l.take k)).filter (hasAct s.act)).map Rule.ip, ((rulesAt (l.take k)).filter (hasAct s.act)).map Rule.mask⟩ := by
              unfold ansOf; rw [if_neg (by rw [c4']; decide), if_neg (by rw [c4']; decide), if_neg (by rw [c4']; decide), if_pos c4']
            refine To.slotE 4 (.int .i64 (actAt (l.take k))) (.int .i64 (actAt (l.take (k + 1)))) (by kernel_rfl) (by rw [hd1 c4' (by decide)]) ?_
            exact join _ _ (⟨ra, i, rc, rob, css⟩, false, 0, (pa, pn, pc), (qa, qn, qc)) [0, 1, 3] ⟨by kernel_rfl, by kernel_rfl, by kernel_rfl, by kernel_rfl, by kernel_rfl, rfl⟩
              (fun w9 hw9 => ⟨hk8.fr (l := [numO rob, numO oob, some (f4 0), some (f6 0), numO pob, numO qob]) hw9.fr (by kernel_rfl) (offy trivial), hO, OTrue.of hw9 (j := 0) (by kernel_rfl), by rw [hne]; exact hA, OTrue.of hw9 (j := 1) (by kernel_rfl),
                hx6 (cs := [.bool false, .int .i64 0, .slice pa pn pc, .slice qa qn qc]) hw9 (by kernel_rfl), by rw [hans]; exact ⟨pa, pn, pc, qa, qn, qc, rfl, ⟨pob, pcss, hp1, OTrue.of hw9 (j := 4) (by kernel_rfl), hp3⟩, ⟨qob, qcss, hq1, OTrue.of hw9 (j := 5) (by kernel_rfl), hq3⟩⟩⟩)
        refine To.runF 5 [] (fun _ _ => by kernel_rfl) fun f10 g10 l10 => ?_
        refine To.test (s.op == 5) (by kernel_rfl) (fun c5 => ?_) (fun c5 => ?_)
        · have c5' : s.op = 5 := by simpa using c5
          have hne := hr1 c5' (by decide) (by decide)
          refine To.runF 6 [2] (fun _ _ => by kernel_rfl) fun f11 g11 l11 => ?_
          have hans : ansOf (actAt (l.take k)) (rulesAt (l.take k)) s = ⟨false, 0, [], []⟩ := by unfold ansOf; rw [if_neg (by rw [c5']; decide), if_neg (by rw [c5']; decide), if_neg (by rw [c5']; decide), if_neg (by rw [c5']; decide)]; rfl
          refine To.slotE 4 (.int .i64 s.act) (.int .i64 (actAt (l.take (k + 1)))) (by kernel_rfl) (by rw [actAt_next hsk]; unfold nextD; rw [if_pos c5']) ?_
          exact join _ _ (⟨ra, rn, rc, rob, css⟩, false, 0, (none, 0, 0), (none, 0, 0)) [0, 1, 3] ⟨by kernel_rfl, by kernel_rfl, by kernel_rfl, by kernel_rfl, by kernel_rfl, rfl⟩
            (fun w9 hw9 => ⟨hkt.fr (l := [numO rob, numO oob, some (f4 0), some (f6 0)]) hw9.fr (by kernel_rfl) (offx trivial), hO, OTrue.of hw9 (j := 0) (by kernel_rfl), by rw [hne]; exact hA, OTrue.of hw9 (j := 1) (by kernel_rfl), hx6 (cs := [.bool (false), .int .i64 (0), .slice none 0 0, .slice none 0 0]) hw9 (by kernel_rfl), by rw [hans]; exact ⟨none, 0, 0, none, 0, 0, rfl, TextsT.nil _ _, TextsT.nil _ _⟩⟩)
        refine To.runF 5 [] (fun _ _ => by kernel_rfl) fun f11 g11 l11 => ?_
        refine To.test (s.op == 2) (by kernel_rfl) (fun c2 => ?_) (fun c2 => ?_)
        · have c2' : s.op = 2 := by simpa using c2
          have hne := hr1 c2' (by decide) (by decide)
          obtain ⟨⟨ha1, ha12, hasz⟩, hpl⟩ := hSt.1.addr c2'
          obtain ⟨⟨code, val⟩, hp0⟩ : ∃ p, s.addr[0]? = some p := ⟨s.addr[0], by simp [show 0 < s.addr.length by omega]⟩
          obtain ⟨ad2, va, cv, haa, hsp2, hcode, hvslice, hval, hcv⟩ := hI.addr.at_ 0 code val hp0
          refine To.runF 13 [] (fun _ _ => by kernel_rfl) fun f12 g12 l12 => ?_
          refine To.slotE 13 (.int .i64 (actAt (l.take k))) (.int .i64 (decides (actAt (l.take k)) ((rulesAt (l.take k)).take 0) s.addr)) (by kernel_rfl) (by rw [decides_zero]) ?_
          refine To.loop (fun i : Nat => rn - i) (fun i => ([(0, .slice a l.length cap), (3, .slice ra rn rc), (4, .int .i64 (actAt (l.take k))), (5, .slice oa on oc), (7, .pointer (some ⟨f4 0, 0, none⟩)), (10, .pointer (some ⟨f6 0, 0, none⟩)), (13, .int .i64 (decides (actAt (l.take k)) ((rulesAt (l.take k)).take i) s.addr)), (17, .slice a l.length cap), (18, .int .i64 (Int.ofNat l.length)), (19, .int .i64 (Int.ofNat k)),
              (139, .slice ra rn rc), (140, .int .i64 (Int.ofNat rn)), (141, .int .i64 (Int.ofNat i))], [rob, oob, some ⟨f4 0, .cells ⟨stepCells s ai am aa ci cm ca⟩ 33 (0, 0), true⟩,
              some ⟨f6 0, .cells ⟨[.bool false, .int .i64 0, .slice none 0 0, .slice none 0 0]⟩ 29 (0, 0), true⟩]))
            (fun i w8 => i ≤ rn ∧ Later AnsTy w4 w8) 0 [0, 1, 2, 3] (by kernel_rfl) (by kernel_rfl) (by kernel_rfl) rfl
            (fun w8 hw8 => ⟨Nat.zero_le _, hkt.fr (l := [numO rob, numO oob, some (f4 0), some (f6 0)]) hw8.fr (by kernel_rfl) (offx trivial)⟩) ?_
          intro i w8 ⟨hi, hk8⟩ hx8 back3
          refine To.runF 5 [] (fun _ _ => by kernel_rfl) fun f13 g13 l13 => ?_
          by_cases hil : i < rn
          · obtain ⟨r, hri⟩ : ∃ r, (rulesAt (l.take k))[i]? = some r := ⟨(rulesAt (l.take k))[i]'(by omega), by simp [show i < (rulesAt (l.take k)).length by omega]⟩
            obtain ⟨cs, hcsi, bi, bm, bci, bcm, rfl, hbi, hbm⟩ := hA.get hri
            obtain ⟨g, rfl⟩ := hO.start (by omega)
            have hst : (rulesAt (l.take k)).take (i + 1) = (rulesAt (l.take k)).take i ++ [r] := take_snoc hri
            refine To.testT (decide (Int.ofNat i < Int.ofNat rn)) (by kernel_rfl) (decide_eq_true (Int.ofNat_lt.2 hil)) ?_
            refine To.runF 5 [] (fun _ _ => by kernel_rfl) fun f14 g14 l14 => ?_
            refine To.indexAt elFl (some ⟨g, 0, none⟩) ⟨g, 0, none⟩ rn rc i (by kernel_rfl) rfl hil ?_
            refine To.loadAgg (t := 39) (by kernel_rfl) 3 (by kernel_rfl) ((⟨g, 0, none⟩ : Addr).add (i * 3)) [.slice bi r.ip.length bci, .slice bm r.mask.length bcm, .int .i64 r.act] rfl (by kernel_rfl) (fun w8 hw8 j u hj => by rw [add_add rfl]; exact hO.cell hw8 (j := 0) (by kernel_rfl) hcsi hj rfl) ?_
            refine To.runF 15 [4, 4, 4, 2, 1, 4, 0] (fun _ _ => by kernel_rfl) fun f15 g15 l15 => ?_
            refine To.slotT 150 (decide (Int.ofNat s.addr.length > 0)) (by kernel_rfl) (by simp only [Int.ofNat_eq_natCast, decide_eq_true_eq]; omega) ?_
            refine To.runF 1 [] (fun _ _ => by kernel_rfl) fun f16 g16 l16 => ?_
            refine To.indexAt elC aa ad2 s.addr.length ca 0 (by kernel_rfl) haa (by omega) ?_
            refine To.runF 1 [] (fun _ _ => by kernel_rfl) fun f17 g17 l17 => ?_
            refine To.loadOne uInt rfl ((ad2.add (0 * 2)).add 0) (.int .i64 code) (by kernel_rfl) (fun w9 hw9 => hw9.ext.cell (by rw [add_add hsp2]; exact hcode) (by simp)) ?_
            refine To.runF 2 [] (fun _ _ => by kernel_rfl) fun f18 g18 l18 => ?_
            have hadd : s.addr = (code, val) :: s.addr.drop 1 := by
              cases hs0 : s.addr with
              | nil => rw [hs0] at hp0; cases hp0
              | cons p x => rw [hs0] at hp0; cases hp0; rfl
            have hdn : decides (actAt (l.take k)) ((rulesAt (l.take k)).take (i + 1)) s.addr = if isIP (code, val) && has r.ip r.mask val then r.act else decides (actAt (l.take k)) ((rulesAt (l.take k)).take i) s.addr := by
              rw [hadd]; exact decides_next hri
            have hnet : Net r.ip r.mask := nets_at (fun j x hj => hok j x (by omega)) hk r (List.mem_of_getElem? hri)
            have hvl : val.length ≤ 2147483647 := hL.2.2.2 (code, val) (List.mem_of_getElem? hp0)
            refine To.meetD 20 [true, true, true, true, true, true, true, true, true, true, true, true, true, true, true, true, true, true, true, false, false, false, false, true, true, true, false, false, false, false, false, false, false, false, false, false, false, false, false, false, false, false] ([(0, .slice a l.length cap), (3, .slice (some ⟨g, 0, none⟩) rn rc), (4, .int .i64 (actAt (l.take k))), (5, .slice oa on oc), (7, .pointer (some ⟨f4 0, 0, none⟩)), (10, .pointer (some ⟨f6 0, 0, none⟩)), (13, .int .i64 (decides (actAt (l.take k)) ((rulesAt (l.take k)).take i) s.addr)), (17, .slice a l.length cap), (18, .int .i64 (Int.ofNat l.length)), (19, .int .i64 (Int.ofNat k)), (139, .slice (some ⟨g, 0, none⟩) rn rc), (140, .int .i64 (Int.ofNat rn)), (141, .int .i64 (Int.ofNat i)), (15, .pointer (some ⟨f15 0, 0, none⟩)), (16, .slice aa s.addr.length ca), (164, .bool true), (165, .slice aa s.addr.length ca), (172, .int .i64 (Int.ofNat r.ip.length))], [rob, oob, some ⟨f4 0, .cells ⟨stepCells s ai am aa ci cm ca⟩ 33 (0, 0), true⟩, some ⟨f6 0, .cells ⟨[.bool false, .int .i64 0, .slice none 0 0, .slice none 0 0]⟩ 29 (0, 0), true⟩, some ⟨f15 0, .cells ⟨[.slice bi r.ip.length bci, .slice bm r.mask.length bcm, .int .i64 r.act]⟩ 39 (0, 0), true⟩])
              (fun w9 => Later AnsTy w4 w9 ∧ isIP (code, val) = true) (fun join => ?_) (fun w9 hw9' hx9 => ?_)
            · by_cases h4 : code = 4
              · refine To.slotT 156 (code == 4) (by kernel_rfl) (by simpa using h4) ?_
                refine To.runF 12 [18, 23, 24, 0, 25] (fun _ _ => by kernel_rfl) fun f19 g19 l19 => ?_
                exact join _ _ [0, 1, 2, 3, 4] ⟨by kernel_rfl, by kernel_rfl, by kernel_rfl, by kernel_rfl, by kernel_rfl, rfl⟩ (fun w9 hw9 => ⟨hk8.fr (l := [numO rob, numO oob, some (f4 0), some (f6 0), some (f15 0)]) hw9.fr (by kernel_rfl) (offx ⟨hk8.new (l15 0), trivial⟩), by simp [isIP, h4]⟩)
              · refine To.slotF 156 (code == 4) (by kernel_rfl) (by simpa using h4) ?_
                refine To.runF 1 [] (fun _ _ => by kernel_rfl) fun f19 g19 l19 => ?_
                refine To.indexAt elC aa ad2 s.addr.length ca 0 (by kernel_rfl) haa (by omega) ?_
                refine To.runF 1 [] (fun _ _ => by kernel_rfl) fun f20 g20 l20 => ?_
                refine To.loadOne uInt rfl ((ad2.add (0 * 2)).add 0) (.int .i64 code) (by kernel_rfl) (fun w9 hw9 => hw9.ext.cell (by rw [add_add hsp2]; exact hcode) (by simp)) ?_
                refine To.runF 4 [] (fun _ _ => by kernel_rfl) fun f21 g21 l21 => ?_
                by_cases h41 : code = 41
                · refine To.slotT 164 (code == 41) (by kernel_rfl) (by simpa using h41) ?_
                  refine To.runF 4 [18, 23, 24, 0, 25] (fun _ _ => by kernel_rfl) fun f22 g22 l22 => ?_
                  exact join _ _ [0, 1, 2, 3, 4] ⟨by kernel_rfl, by kernel_rfl, by kernel_rfl, by kernel_rfl, by kernel_rfl, rfl⟩ (fun w9 hw9 => ⟨hk8.fr (l := [numO rob, numO oob, some (f4 0), some (f6 0), some (f15 0)]) hw9.fr (by kernel_rfl) (offx ⟨hk8.new (l15 0), trivial⟩), by simp [isIP, h41]⟩)
                · refine To.slotF 164 (code == 41) (by kernel_rfl) (by simpa using h41) ?_
                  refine To.runF 32 [18, 19, 20, 21, 22, 29, 30, 31, 32, 33, 34, 35, 36] (fun _ _ => by kernel_rfl) fun f22 g22 l22 => ?_
                  have hip : isIP (code, val) = false := by simp [isIP, h4, h41]
                  refine To.slotE 141 (.int .i64 (IntKind.i64.wrap (Int.ofNat i + 1))) (.int .i64 (Int.ofNat (i + 1))) (by kernel_rfl) (by rw [wrap_succ i (by omega)]) ?_
                  refine To.slotE 13 (.int .i64 (decides (actAt (l.take k)) ((rulesAt (l.take k)).take i) s.addr)) (.int .i64 (decides (actAt (l.take k)) ((rulesAt (l.take k)).take (i + 1)) s.addr)) (by kernel_rfl) (by rw [hdn]; rw [hip]; rfl) ?_
                  exact back3 _ _ (i + 1) [0, 1, 2, 3] (by omega) ⟨by kernel_rfl, by kernel_rfl, by kernel_rfl, by kernel_rfl, by kernel_rfl, rfl⟩ (fun w10 hw10 => ⟨hil, hk8.fr (l := [numO rob, numO oob, some (f4 0), some (f6 0), some (f15 0)]) hw10.fr (by kernel_rfl) (offx ⟨hk8.new (l15 0), trivial⟩)⟩)
            obtain ⟨hk9, hip⟩ := hw9'
            refine To.indexAt elC aa ad2 s.addr.length ca 0 (by kernel_rfl) haa (by omega) ?_
            refine To.runF 1 [] (fun _ _ => by kernel_rfl) fun f19 g19 l19 => ?_
            refine To.loadOne uBytes rfl ((ad2.add (0 * 2)).add 1) (.slice va val.length cv) (by kernel_rfl) (fun w9 hw9 => hw9.ext.cell (by rw [add_add hsp2]; exact hvslice) (by simp)) ?_
            refine To.runF 4 [] (fun _ _ => by kernel_rfl) fun f20 g20 l20 => ?_
            by_cases hvr : val.length = r.ip.length
            · refine To.slotT 175 (Int.ofNat val.length == Int.ofNat r.ip.length) (by kernel_rfl) (by rw [hvr]; simp) ?_
              refine To.runF 5 [29, 33, 34, 0, 37, 38, 0] (fun _ _ => by kernel_rfl) fun f21 g21 l21 => ?_
              refine To.indexAtE 30 elC aa ad2 s.addr.length ca 0 (by kernel_rfl) haa (by omega) ?_
              refine To.runF 1 [31] (fun _ _ => by kernel_rfl) fun f22 g22 l22 => ?_
              refine To.meetD 2 [true, true, true, true, true, true, true, true, true, true, true, true, true, true, true, true, true, true, true, true, true, true, true, true, true, true, true, true, true, true, true, true, true, true, true, true, true, true, true, true, false, false] ([(0, .slice a l.length cap), (3, .slice (some ⟨g, 0, none⟩) rn rc), (4, .int .i64 (actAt (l.take k))), (5, .slice oa on oc), (7, .pointer (some ⟨f4 0, 0, none⟩)), (10, .pointer (some ⟨f6 0, 0, none⟩)), (13, .int .i64 (decides (actAt (l.take k)) ((rulesAt (l.take k)).take i) s.addr)), (17, .slice a l.length cap), (18, .int .i64 (Int.ofNat l.length)), (19, .int .i64 (Int.ofNat k)), (139, .slice (some ⟨g, 0, none⟩) rn rc), (140, .int .i64 (Int.ofNat rn)), (141, .int .i64 (Int.ofNat i)), (15, .pointer (some ⟨f15 0, 0, none⟩)), (175, .bool true), (183, .string ⟨⟨masked val r.mask⟩⟩), (186, .string ⟨⟨r.ip⟩⟩)], [rob, oob, some ⟨f4 0, .cells ⟨stepCells s ai am aa ci cm ca⟩ 33 (0, 0), true⟩, some ⟨f6 0, .cells ⟨[.bool false, .int .i64 0, .slice none 0 0, .slice none 0 0]⟩ 29 (0, 0), true⟩, some ⟨f15 0, .cells ⟨[.slice bi r.ip.length bci, .slice bm r.mask.length bcm, .int .i64 r.act]⟩ 39 (0, 0), true⟩]) (fun w9 => Later AnsTy w4 w9) (fun join => ?_) (fun w9 hkc hx9 => ?_)
              · refine To.pick 1 (by kernel_rfl) ⟨⟨trivial, ?_⟩, ?_⟩
                · skip
                  refine To.loadOne uBytes rfl ((ad2.add (0 * 2)).add 1) (.slice va val.length cv) (by kernel_rfl) (fun w9 hw9 => hw9.ext.cell (by rw [add_add hsp2]; exact hvslice) (by simp)) ?_
                  refine To.pick 1 (by kernel_rfl) ⟨⟨trivial, ?_⟩, ?_⟩
                  · skip
                    refine To.callN 22 #[.slice va val.length cv, .slice bm r.mask.length bcm] (by kernel_rfl) (fun _ => by kernel_rfl) (fun wa hwa => maMasked val r.mask va bm cv bcm wa (hval.later hwa.ext) (hbm.later hwa.ext) (by rw [hvr, hnet.same]) (by rcases hnet.len with h | h <;> omega)) (fun wa va' wb hwa hxa hva hnewa hwia => ?_)
                    obtain ⟨gm, rfl, hgm, hgml⟩ := hva
                    have hka := (hk9.fr (l := [numO rob, numO oob, some (f4 0), some (f6 0), some (f15 0)]) hwa.fr (by kernel_rfl) (offx ⟨hk8.new (l15 0), trivial⟩))
                    have hgmo : OffTy AnsTy w4 gm := hka.new hgml
                    have hkb := hka.ext hxa
                    refine To.withAt gm (.cells ⟨ucells (masked val r.mask)⟩ 5 (0, 0)) false hgm (hnewa gm hgml) (fun h => by cases h) ?_
                    refine To.pick 1 (by kernel_rfl) ⟨⟨trivial, ?_⟩, ?_⟩
                    · skip
                      refine To.textOf (src := 30) (dst := 9) (e := 5) (some ⟨gm, 0, none⟩) val.length val.length (masked val r.mask) (masked_length (by rw [hvr, hnet.same])).symm uBytes uString uU8 (by kernel_rfl) (fun w8 hw8 j u hj => (bytesOfRow (hw8.blk (j := 5) (b := gm) (o := .cells ⟨ucells (masked val r.mask)⟩ 5 (0, 0)) (q := false) (by kernel_rfl))).at_ j u hj) (fun h => by cases h) ?_
                      refine To.textOf (src := 30) (dst := 9) (e := 5) bi r.ip.length bci r.ip rfl uBytes uString uU8 (by kernel_rfl) (fun w8 hw8 j u hj => (hbi.later hw8.ext).at_ j u hj) hbi.none ?_
                      exact join _ _ [0, 1, 2, 3, 4] ⟨by kernel_rfl, by kernel_rfl, by kernel_rfl, by kernel_rfl, by kernel_rfl, rfl⟩ (fun w9 hw9 => hkb.fr (l := [numO rob, numO oob, some (f4 0), some (f6 0), some (f15 0), some gm]) hw9.fr (by kernel_rfl) (offx ⟨hk8.new (l15 0), hgmo, trivial⟩))
                    · skip
                      refine To.textOf (src := 30) (dst := 9) (e := 5) bi r.ip.length bci r.ip rfl uBytes uString uU8 (by kernel_rfl) (fun w8 hw8 j u hj => (hbi.later hw8.ext).at_ j u hj) hbi.none ?_
                      refine To.textOf (src := 30) (dst := 9) (e := 5) (some ⟨gm, 0, none⟩) val.length val.length (masked val r.mask) (masked_length (by rw [hvr, hnet.same])).symm uBytes uString uU8 (by kernel_rfl) (fun w8 hw8 j u hj => (bytesOfRow (hw8.blk (j := 5) (b := gm) (o := .cells ⟨ucells (masked val r.mask)⟩ 5 (0, 0)) (q := false) (by kernel_rfl))).at_ j u hj) (fun h => by cases h) ?_
                      exact join _ _ [0, 1, 2, 3, 4] ⟨by kernel_rfl, by kernel_rfl, by kernel_rfl, by kernel_rfl, by kernel_rfl, rfl⟩ (fun w9 hw9 => hkb.fr (l := [numO rob, numO oob, some (f4 0), some (f6 0), some (f15 0), some gm]) hw9.fr (by kernel_rfl) (offx ⟨hk8.new (l15 0), hgmo, trivial⟩))
                  · skip
                    refine To.textOf (src := 30) (dst := 9) (e := 5) bi r.ip.length bci r.ip rfl uBytes uString uU8 (by kernel_rfl) (fun w8 hw8 j u hj => (hbi.later hw8.ext).at_ j u hj) hbi.none ?_
                    refine To.callN 22 #[.slice va val.length cv, .slice bm r.mask.length bcm] (by kernel_rfl) (fun _ => by kernel_rfl) (fun wa hwa => maMasked val r.mask va bm cv bcm wa (hval.later hwa.ext) (hbm.later hwa.ext) (by rw [hvr, hnet.same]) (by rcases hnet.len with h | h <;> omega)) (fun wa va' wb hwa hxa hva hnewa hwia => ?_)
                    obtain ⟨gm, rfl, hgm, hgml⟩ := hva
                    have hka := (hk9.fr (l := [numO rob, numO oob, some (f4 0), some (f6 0), some (f15 0)]) hwa.fr (by kernel_rfl) (offx ⟨hk8.new (l15 0), trivial⟩))
                    have hgmo : OffTy AnsTy w4 gm := hka.new hgml
                    have hkb := hka.ext hxa
                    refine To.withAt gm (.cells ⟨ucells (masked val r.mask)⟩ 5 (0, 0)) false hgm (hnewa gm hgml) (fun h => by cases h) ?_
                    refine To.textOf (src := 30) (dst := 9) (e := 5) (some ⟨gm, 0, none⟩) val.length val.length (masked val r.mask) (masked_length (by rw [hvr, hnet.same])).symm uBytes uString uU8 (by kernel_rfl) (fun w8 hw8 j u hj => (bytesOfRow (hw8.blk (j := 5) (b := gm) (o := .cells ⟨ucells (masked val r.mask)⟩ 5 (0, 0)) (q := false) (by kernel_rfl))).at_ j u hj) (fun h => by cases h) ?_
                    exact join _ _ [0, 1, 2, 3, 4] ⟨by kernel_rfl, by kernel_rfl, by kernel_rfl, by kernel_rfl, by kernel_rfl, rfl⟩ (fun w9 hw9 => hkb.fr (l := [numO rob, numO oob, some (f4 0), some (f6 0), some (f15 0), some gm]) hw9.fr (by kernel_rfl) (offx ⟨hk8.new (l15 0), hgmo, trivial⟩))
                · skip
                  refine To.textOf (src := 30) (dst := 9) (e := 5) bi r.ip.length bci r.ip rfl uBytes uString uU8 (by kernel_rfl) (fun w8 hw8 j u hj => (hbi.later hw8.ext).at_ j u hj) hbi.none ?_
                  refine To.loadOne uBytes rfl ((ad2.add (0 * 2)).add 1) (.slice va val.length cv) (by kernel_rfl) (fun w9 hw9 => hw9.ext.cell (by rw [add_add hsp2]; exact hvslice) (by simp)) ?_
                  refine To.callN 22 #[.slice va val.length cv, .slice bm r.mask.length bcm] (by kernel_rfl) (fun _ => by kernel_rfl) (fun wa hwa => maMasked val r.mask va bm cv bcm wa (hval.later hwa.ext) (hbm.later hwa.ext) (by rw [hvr, hnet.same]) (by rcases hnet.len with h | h <;> omega)) (fun wa va' wb hwa hxa hva hnewa hwia => ?_)
                  obtain ⟨gm, rfl, hgm, hgml⟩ := hva
                  have hka := (hk9.fr (l := [numO rob, numO oob, some (f4 0), some (f6 0), some (f15 0)]) hwa.fr (by kernel_rfl) (offx ⟨hk8.new (l15 0), trivial⟩))
                  have hgmo : OffTy AnsTy w4 gm := hka.new hgml
                  have hkb := hka.ext hxa
                  refine To.withAt gm (.cells ⟨ucells (masked val r.mask)⟩ 5 (0, 0)) false hgm (hnewa gm hgml) (fun h => by cases h) ?_
                  refine To.textOf (src := 30) (dst := 9) (e := 5) (some ⟨gm, 0, none⟩) val.length val.length (masked val r.mask) (masked_length (by rw [hvr, hnet.same])).symm uBytes uString uU8 (by kernel_rfl) (fun w8 hw8 j u hj => (bytesOfRow (hw8.blk (j := 5) (b := gm) (o := .cells ⟨ucells (masked val r.mask)⟩ 5 (0, 0)) (q := false) (by kernel_rfl))).at_ j u hj) (fun h => by cases h) ?_
                  exact join _ _ [0, 1, 2, 3, 4] ⟨by kernel_rfl, by kernel_rfl, by kernel_rfl, by kernel_rfl, by kernel_rfl, rfl⟩ (fun w9 hw9 => hkb.fr (l := [numO rob, numO oob, some (f4 0), some (f6 0), some (f15 0), some gm]) hw9.fr (by kernel_rfl) (offx ⟨hk8.new (l15 0), hgmo, trivial⟩))
              refine To.runF 3 [] (fun _ _ => by kernel_rfl) fun f23 g23 l23 => ?_
              by_cases hmm : masked val r.mask = r.ip
              · refine To.testT ((ByteArray.mk ⟨masked val r.mask⟩).toList == (ByteArray.mk ⟨r.ip⟩).toList) (by kernel_rfl) (by rw [strEq]; exact decide_eq_true hmm) ?_
                refine To.runF 10 [4] (fun _ _ => by kernel_rfl) fun f24 g24 l24 => ?_
                have hhas : has r.ip r.mask val = true := by simp [has, hvr, hmm]
                refine To.slotE 141 (.int .i64 (IntKind.i64.wrap (Int.ofNat i + 1))) (.int .i64 (Int.ofNat (i + 1))) (by kernel_rfl) (by rw [wrap_succ i (by omega)]) ?_
                refine To.slotE 13 (.int .i64 r.act) (.int .i64 (decides (actAt (l.take k)) ((rulesAt (l.take k)).take (i + 1)) s.addr)) (by kernel_rfl) (by rw [hdn]; rw [hip, hhas]; rfl) ?_
                exact back3 _ _ (i + 1) [0, 1, 2, 3] (by omega) ⟨by kernel_rfl, by kernel_rfl, by kernel_rfl, by kernel_rfl, by kernel_rfl, rfl⟩ (fun w10 hw10 => ⟨hil, hkc.fr (l := [numO rob, numO oob, some (f4 0), some (f6 0), some (f15 0)]) hw10.fr (by kernel_rfl) (offx ⟨hk8.new (l15 0), trivial⟩)⟩)
              · refine To.testF ((ByteArray.mk ⟨masked val r.mask⟩).toList == (ByteArray.mk ⟨r.ip⟩).toList) (by kernel_rfl) (by rw [strEq]; exact decide_eq_false hmm) ?_
                refine To.runF 6 [] (fun _ _ => by kernel_rfl) fun f24 g24 l24 => ?_
                have hhas : has r.ip r.mask val = false := by simp [has, hmm]
                refine To.slotE 141 (.int .i64 (IntKind.i64.wrap (Int.ofNat i + 1))) (.int .i64 (Int.ofNat (i + 1))) (by kernel_rfl) (by rw [wrap_succ i (by omega)]) ?_
                refine To.slotE 13 (.int .i64 (decides (actAt (l.take k)) ((rulesAt (l.take k)).take i) s.addr)) (.int .i64 (decides (actAt (l.take k)) ((rulesAt (l.take k)).take (i + 1)) s.addr)) (by kernel_rfl) (by rw [hdn]; rw [hip, hhas]; rfl) ?_
                exact back3 _ _ (i + 1) [0, 1, 2, 3] (by omega) ⟨by kernel_rfl, by kernel_rfl, by kernel_rfl, by kernel_rfl, by kernel_rfl, rfl⟩ (fun w10 hw10 => ⟨hil, hkc.fr (l := [numO rob, numO oob, some (f4 0), some (f6 0), some (f15 0)]) hw10.fr (by kernel_rfl) (offx ⟨hk8.new (l15 0), trivial⟩)⟩)
            · refine To.slotF 175 (Int.ofNat val.length == Int.ofNat r.ip.length) (by kernel_rfl) (by rw [beq_eq_false_iff_ne]; exact fun e => hvr (Int.ofNat.inj e)) ?_
              refine To.runF 21 [29, 30, 31, 32, 33, 34, 35, 36] (fun _ _ => by kernel_rfl) fun f21 g21 l21 => ?_
              have hhas : has r.ip r.mask val = false := by simp [has, hvr]
              refine To.slotE 141 (.int .i64 (IntKind.i64.wrap (Int.ofNat i + 1))) (.int .i64 (Int.ofNat (i + 1))) (by kernel_rfl) (by rw [wrap_succ i (by omega)]) ?_
              refine To.slotE 13 (.int .i64 (decides (actAt (l.take k)) ((rulesAt (l.take k)).take i) s.addr)) (.int .i64 (decides (actAt (l.take k)) ((rulesAt (l.take k)).take (i + 1)) s.addr)) (by kernel_rfl) (by rw [hdn]; rw [hip, hhas]; rfl) ?_
              exact back3 _ _ (i + 1) [0, 1, 2, 3] (by omega) ⟨by kernel_rfl, by kernel_rfl, by kernel_rfl, by kernel_rfl, by kernel_rfl, rfl⟩ (fun w10 hw10 => ⟨hil, hk9.fr (l := [numO rob, numO oob, some (f4 0), some (f6 0), some (f15 0)]) hw10.fr (by kernel_rfl) (offx ⟨hk8.new (l15 0), trivial⟩)⟩)
          · have hi1 : i = rn := by omega
            subst hi1
            refine To.testF (decide (Int.ofNat i < Int.ofNat i)) (by kernel_rfl) (by simp) ?_
            refine To.runF 8 [3] (fun _ _ => by kernel_rfl) fun f14 g14 l14 => ?_
            have hall : (rulesAt (l.take k)).take i = rulesAt (l.take k) := by rw [hn, List.take_length]
            have hans : ansOf (actAt (l.take k)) (rulesAt (l.take k)) s = ⟨decides (actAt (l.take k)) (rulesAt (l.take k)) s.addr == 2, 0, [], []⟩ := by
              unfold ansOf; rw [if_neg (by rw [c2']; decide), if_pos c2']
            refine To.slotE 4 (.int .i64 (actAt (l.take k))) (.int .i64 (actAt (l.take (k + 1)))) (by kernel_rfl) (by rw [hd1 c2' (by decide)]) ?_
            exact join _ _ (⟨ra, i, rc, rob, css⟩, decides (actAt (l.take k)) ((rulesAt (l.take k)).take i) s.addr == 2, 0, (none, 0, 0), (none, 0, 0)) [0, 1, 3] ⟨by kernel_rfl, by kernel_rfl, by kernel_rfl, by kernel_rfl, by kernel_rfl, rfl⟩
              (fun w9 hw9 => ⟨hk8.fr (l := [numO rob, numO oob, some (f4 0), some (f6 0)]) hw9.fr (by kernel_rfl) (offx trivial), hO, OTrue.of hw9 (j := 0) (by kernel_rfl), by rw [hne]; exact hA, OTrue.of hw9 (j := 1) (by kernel_rfl),
                hx6 (cs := [.bool (decides (actAt (l.take k)) ((rulesAt (l.take k)).take i) s.addr == 2), .int .i64 0, .slice none 0 0, .slice none 0 0]) hw9 (by kernel_rfl), by rw [hans]; exact ⟨none, 0, 0, none, 0, 0, by rw [hall], TextsT.nil _ _, TextsT.nil _ _⟩⟩)
        exfalso
        rcases hSt.1.op with h | h | h | h | h | h <;> simp [h] at c0 c1 c2 c3 c4 c5
      obtain ⟨⟨ra', rn', rc', rob', css'⟩, xb, xz, ⟨xa, xn, xc⟩, ⟨ya, yn, yc⟩⟩ := i
      obtain ⟨hk8, hO', hOT', hA', hPT', ⟨x6, hx6'⟩, hX⟩ := hi8
      simp only at hk8 hO' hOT' hA' hX
      have hoff' := hO'.off (T := AnsTy) hOT' (by unfold AnsTy; decide)
      refine To.runF 4 [2, 2, 2, 2] (fun _ _ => by kernel_rfl) fun f7 g7 l7 => ?_
      have hon : on ≤ 60 := by have := hP.len; have := hQ.len; have := answers_length (l.take k); rw [List.length_take] at this; omega
      refine To.appendAny (ty := 25) elAn 1 oa on oc oob ocss hP ⟨f7 0, 0, none⟩ 1 [.bool xb, .int .i64 xz, .slice xa xn xc, .slice ya yn yc] (on + 1) (by kernel_rfl) (by kernel_rfl) rfl rfl
        (fun w9 hw9 j u hj => hw9.cellAt0 (j := 3) (b := f7 0) (l := [.bool xb, .int .i64 xz, .slice xa xn xc, .slice ya yn yc]) (e := 29) (f := (0, 0)) (q := true) (by kernel_rfl) hj)
        (fun u hu => by simp only [List.mem_cons, List.not_mem_nil, or_false] at hu; rcases hu with rfl | rfl | rfl | rfl <;> rfl) (by simp only [maxLen]; omega) (by omega) (held_nilO (by kernel_rfl)) ?_
      intro w9 g' c' rest' hfr ho' hP'
      have offo' := hP.off (T := AnsTy) hPT' (by unfold AnsTy; decide)
      have off6 : OffTy AnsTy w8 (f6 0) := .inr ⟨_, _, _, hx6', by unfold AnsTy; decide⟩
      have hg' : OffTy AnsTy w8 g' := by
        rcases ho' with h | h
        · exact hP.offA hPT' (by unfold AnsTy; decide) h
        · exact .inl h
      have k9 := (Later.refl AnsTy w8).fr (l := [numO rob', numO oob, some (f6 0), some (f7 0)]) hfr (by kernel_rfl) (numsCons hoff' (numsCons offo' ⟨off6, .inl (l7 0), trivial⟩))
      refine To.runF 7 [] (fun _ _ => by kernel_rfl) fun f8 g8 l8 => ?_
      refine To.slotE 19 (.int .i64 (IntKind.i64.wrap (Int.ofNat k + 1))) (.int .i64 (Int.ofNat (k + 1))) (by kernel_rfl) (by rw [wrap_succ k (by omega)]) ?_
      refine back _ _ (k + 1, ⟨ra', rn', rc', rob', css'⟩, ⟨some ⟨g', 0, none⟩, on + 1, c', some ⟨g', .cells ⟨(ocss ++ [[Value.bool xb, Value.int .i64 xz, Value.slice xa xn xc, Value.slice ya yn yc]]).flatten ++ rest'⟩ 29 (0, 0), true⟩, ocss ++ [[Value.bool xb, Value.int .i64 xz, Value.slice xa xn xc, Value.slice ya yn yc]]⟩) [0, 4] (by simp only; omega)
        ⟨by kernel_rfl, by kernel_rfl, by kernel_rfl, by kernel_rfl, by kernel_rfl, rfl⟩ (fun w10 hw10 => ⟨hlt, ⟨hO', OTrue.of hw10 (j := 0) (by kernel_rfl), hA'⟩, hP', OTrue.of hw10 (j := 4) (by kernel_rfl), ?_⟩)
      have k10 := k9.fr (l := [numO rob', none, some (f6 0), some (f7 0), some g']) hw10.fr (by kernel_rfl) (numsCons hoff' (nums0 ⟨off6, .inl (l7 0), hg', trivial⟩))
      show All2 (AnsT (StillB w) w10) _ (answers (l.take (k + 1)))
      rw [answers_next hsk]
      exact (hQ.mono fun x cs h => h.kept (hk8.kept.trans k10.kept) (fun _ _ h => h)).snoc (hX.kept k10.kept (fun _ _ h => h))
    · obtain ⟨q, hq⟩ : ∃ q, m = q + 1 := ⟨m - 1, by omega⟩
      have e9 : Int.ofNat m - 1 = Int.ofNat q := by rw [hq]; simp only [Int.ofNat_eq_natCast]; omega
      obtain ⟨r, hri⟩ : ∃ r, (rulesAt (l.take k))[q]? = some r := ⟨(rulesAt (l.take k))[q]'(by omega), by simp [show q < (rulesAt (l.take k)).length by omega]⟩
      obtain ⟨cs, hcsi, bi, bm, bci, bcm, rfl, hbi, hbm⟩ := hA.get hri
      obtain ⟨g, rfl⟩ := hO.start (by omega)
      have ht := find_drop (ip := s.ip) (mask := s.mask) hri (Int.ofNat rn)
      refine To.testT (decide (Int.ofNat m - 1 ≥ 0)) (by kernel_rfl) (by rw [e9]; simp) ?_
      refine To.slotE 9 (.int .i64 (Int.ofNat m - 1)) (.int .i64 (Int.ofNat q)) (by kernel_rfl) (by rw [e9]) ?_
      refine To.runF 9 [1, 2, 0, 0, 1, 6, 7, 0] (fun _ _ => by kernel_rfl) fun f6 g6 l6 => ?_
      refine To.indexAtE 2 elFl (some ⟨g, 0, none⟩) ⟨g, 0, none⟩ rn rc q (by kernel_rfl) rfl (by omega) ?_
      refine To.runF 1 [3] (fun _ _ => by kernel_rfl) fun f7 g7 l7 => ?_
      have hld : ∀ {E : Env} {hp : List (Option Blk)} {w8 : World}, Facts E hp w8 → nth hp 0 = rob → ∀ i u, [Value.slice bi r.ip.length bci, .slice bm r.mask.length bcm, .int .i64 r.act][i]? = some u → w8.cell? (((⟨g, 0, none⟩ : Addr).add (q * 3)).add i) = some u := fun hw8 hj i u hu => by
        rw [add_add rfl]; exact hO.cell hw8 hj hcsi hu rfl
      refine To.meetD 13 [true, true, true, true, true, true, true, true, true, false, false, false, false, false, false, false, false, false, false, false, false, false] ([(0, .slice a l.length cap), (3, .slice (some ⟨g, 0, none⟩) rn rc), (4, .int .i64 (actAt (l.take k))), (5, .slice oa on oc), (7, .pointer (some ⟨f4 0, 0, none⟩)),
          (8, .int .i64 (atV (Int.ofNat rn) ((findR s.ip s.mask ((rulesAt (l.take k)).drop m)).map (· + m)))), (9, .int .i64 (Int.ofNat q)), (17, .slice a l.length cap), (18, .int .i64 (Int.ofNat l.length)), (19, .int .i64 (Int.ofNat k)), (37, .string ⟨⟨r.ip⟩⟩), (40, .string ⟨⟨s.ip⟩⟩)],
          [rob, oob, some ⟨f4 0, .cells ⟨stepCells s ai am aa ci cm ca⟩ 33 (0, 0), true⟩]) (fun w8 => Later AnsTy w4 w8) (fun join => ?_) (fun w8 hkt8 hx8 => ?_)
      · refine To.pick 1 (by kernel_rfl) ⟨⟨trivial, ?_⟩, ?_⟩
        · skip
          refine To.loadOne uBytes rfl (((⟨g, 0, none⟩ : Addr).add (q * 3)).add 0) (.slice bi r.ip.length bci) (by kernel_rfl) (fun w8 hw8 => hld hw8 (by kernel_rfl) 0 _ rfl) ?_
          refine To.pick 1 (by kernel_rfl) ⟨⟨trivial, ?_⟩, ?_⟩
          · skip
            refine To.textOf (src := 30) (dst := 9) (e := 5) bi r.ip.length bci r.ip rfl uBytes uString uU8 (by kernel_rfl) (fun w8 hw8 j u hj => (hbi.later hw8.ext).at_ j u hj) hbi.none ?_
            refine To.textOf (src := 30) (dst := 9) (e := 5) ai s.ip.length ci s.ip rfl uBytes uString uU8 (by kernel_rfl) (fun w8 hw8 j u hj => (hI.bi.later hw8.ext).at_ j u hj) hI.bi.none ?_
            exact join _ _ [0, 1, 2] ⟨by kernel_rfl, by kernel_rfl, by kernel_rfl, by kernel_rfl, by kernel_rfl, rfl⟩ (fun w9 hw9 => hkt.fr (l := [numO rob, numO oob, some (f4 0)]) hw9.fr (by kernel_rfl) (off3 (l := [some (f4 0)]) ⟨l4 0, trivial⟩))
          · skip
            refine To.textOf (src := 30) (dst := 9) (e := 5) ai s.ip.length ci s.ip rfl uBytes uString uU8 (by kernel_rfl) (fun w8 hw8 j u hj => (hI.bi.later hw8.ext).at_ j u hj) hI.bi.none ?_
            refine To.textOf (src := 30) (dst := 9) (e := 5) bi r.ip.length bci r.ip rfl uBytes uString uU8 (by kernel_rfl) (fun w8 hw8 j u hj => (hbi.later hw8.ext).at_ j u hj) hbi.none ?_
            exact join _ _ [0, 1, 2] ⟨by kernel_rfl, by kernel_rfl, by kernel_rfl, by kernel_rfl, by kernel_rfl, rfl⟩ (fun w9 hw9 => hkt.fr (l := [numO rob, numO oob, some (f4 0)]) hw9.fr (by kernel_rfl) (off3 (l := [some (f4 0)]) ⟨l4 0, trivial⟩))
        · skip
          refine To.textOf (src := 30) (dst := 9) (e := 5) ai s.ip.length ci s.ip rfl uBytes uString uU8 (by kernel_rfl) (fun w8 hw8 j u hj => (hI.bi.later hw8.ext).at_ j u hj) hI.bi.none ?_
          refine To.loadOne uBytes rfl (((⟨g, 0, none⟩ : Addr).add (q * 3)).add 0) (.slice bi r.ip.length bci) (by kernel_rfl) (fun w8 hw8 => hld hw8 (by kernel_rfl) 0 _ rfl) ?_
          refine To.textOf (src := 30) (dst := 9) (e := 5) bi r.ip.length bci r.ip rfl uBytes uString uU8 (by kernel_rfl) (fun w8 hw8 j u hj => (hbi.later hw8.ext).at_ j u hj) hbi.none ?_
          exact join _ _ [0, 1, 2] ⟨by kernel_rfl, by kernel_rfl, by kernel_rfl, by kernel_rfl, by kernel_rfl, rfl⟩ (fun w9 hw9 => hkt.fr (l := [numO rob, numO oob, some (f4 0)]) hw9.fr (by kernel_rfl) (off3 (l := [some (f4 0)]) ⟨l4 0, trivial⟩))
      refine To.runF 2 [] (fun _ _ => by kernel_rfl) fun f8 g8 l8 => ?_
      by_cases hip : r.ip = s.ip
      · refine To.slotT 42 ((ByteArray.mk ⟨r.ip⟩).toList == (ByteArray.mk ⟨s.ip⟩).toList) (by kernel_rfl) (by rw [strEq]; exact decide_eq_true hip) ?_
        refine To.runF 4 [11, 12, 17, 18, 0] (fun _ _ => by kernel_rfl) fun f9 g9 l9 => ?_
        refine To.indexAtE 13 elFl (some ⟨g, 0, none⟩) ⟨g, 0, none⟩ rn rc q (by kernel_rfl) rfl (by omega) ?_
        refine To.runF 1 [14] (fun _ _ => by kernel_rfl) fun f10 g10 l10 => ?_
        refine To.meetD 2 [true, true, true, true, true, true, true, true, true, true, true, true, true, true, true, true, true, true, true, true, false, false] ([(0, .slice a l.length cap), (3, .slice (some ⟨g, 0, none⟩) rn rc), (4, .int .i64 (actAt (l.take k))), (5, .slice oa on oc), (7, .pointer (some ⟨f4 0, 0, none⟩)),
            (8, .int .i64 (atV (Int.ofNat rn) ((findR s.ip s.mask ((rulesAt (l.take k)).drop m)).map (· + m)))), (9, .int .i64 (Int.ofNat q)), (17, .slice a l.length cap), (18, .int .i64 (Int.ofNat l.length)), (19, .int .i64 (Int.ofNat k)), (48, .string ⟨⟨r.mask⟩⟩), (51, .string ⟨⟨s.mask⟩⟩), (42, .bool true)],
            [rob, oob, some ⟨f4 0, .cells ⟨stepCells s ai am aa ci cm ca⟩ 33 (0, 0), true⟩]) (fun w8 => Later AnsTy w4 w8) (fun join => ?_) (fun w8 hkt9 hx8 => ?_)
        · refine To.pick 1 (by kernel_rfl) ⟨⟨trivial, ?_⟩, ?_⟩
          · skip
            refine To.loadOne uBytes rfl (((⟨g, 0, none⟩ : Addr).add (q * 3)).add 1) (.slice bm r.mask.length bcm) (by kernel_rfl) (fun w8 hw8 => hld hw8 (by kernel_rfl) 1 _ rfl) ?_
            refine To.pick 1 (by kernel_rfl) ⟨⟨trivial, ?_⟩, ?_⟩
            · skip
              refine To.textOf (src := 30) (dst := 9) (e := 5) bm r.mask.length bcm r.mask rfl uBytes uString uU8 (by kernel_rfl) (fun w8 hw8 j u hj => (hbm.later hw8.ext).at_ j u hj) hbm.none ?_
              refine To.textOf (src := 30) (dst := 9) (e := 5) am s.mask.length cm s.mask rfl uBytes uString uU8 (by kernel_rfl) (fun w8 hw8 j u hj => (hI.bm.later hw8.ext).at_ j u hj) hI.bm.none ?_
              exact join _ _ [0, 1, 2] ⟨by kernel_rfl, by kernel_rfl, by kernel_rfl, by kernel_rfl, by kernel_rfl, rfl⟩ (fun w9 hw9 => hkt8.fr (l := [numO rob, numO oob, some (f4 0)]) hw9.fr (by kernel_rfl) (off3 (l := [some (f4 0)]) ⟨l4 0, trivial⟩))
            · skip
              refine To.textOf (src := 30) (dst := 9) (e := 5) am s.mask.length cm s.mask rfl uBytes uString uU8 (by kernel_rfl) (fun w8 hw8 j u hj => (hI.bm.later hw8.ext).at_ j u hj) hI.bm.none ?_
              refine To.textOf (src := 30) (dst := 9) (e := 5) bm r.mask.length bcm r.mask rfl uBytes uString uU8 (by kernel_rfl) (fun w8 hw8 j u hj => (hbm.later hw8.ext).at_ j u hj) hbm.none ?_
              exact join _ _ [0, 1, 2] ⟨by kernel_rfl, by kernel_rfl, by kernel_rfl, by kernel_rfl, by kernel_rfl, rfl⟩ (fun w9 hw9 => hkt8.fr (l := [numO rob, numO oob, some (f4 0)]) hw9.fr (by kernel_rfl) (off3 (l := [some (f4 0)]) ⟨l4 0, trivial⟩))
          · skip
            refine To.textOf (src := 30) (dst := 9) (e := 5) am s.mask.length cm s.mask rfl uBytes uString uU8 (by kernel_rfl) (fun w8 hw8 j u hj => (hI.bm.later hw8.ext).at_ j u hj) hI.bm.none ?_
            refine To.loadOne uBytes rfl (((⟨g, 0, none⟩ : Addr).add (q * 3)).add 1) (.slice bm r.mask.length bcm) (by kernel_rfl) (fun w8 hw8 => hld hw8 (by kernel_rfl) 1 _ rfl) ?_
            refine To.textOf (src := 30) (dst := 9) (e := 5) bm r.mask.length bcm r.mask rfl uBytes uString uU8 (by kernel_rfl) (fun w8 hw8 j u hj => (hbm.later hw8.ext).at_ j u hj) hbm.none ?_
            exact join _ _ [0, 1, 2] ⟨by kernel_rfl, by kernel_rfl, by kernel_rfl, by kernel_rfl, by kernel_rfl, rfl⟩ (fun w9 hw9 => hkt8.fr (l := [numO rob, numO oob, some (f4 0)]) hw9.fr (by kernel_rfl) (off3 (l := [some (f4 0)]) ⟨l4 0, trivial⟩))
        refine To.runF 3 [] (fun _ _ => by kernel_rfl) fun f11 g11 l11 => ?_
        by_cases hmk : r.mask = s.mask
        · refine To.testT ((ByteArray.mk ⟨r.mask⟩).toList == (ByteArray.mk ⟨s.mask⟩).toList) (by kernel_rfl) (by rw [strEq]; exact decide_eq_true hmk) ?_
          refine To.runF 10 [] (fun _ _ => by kernel_rfl) fun f12 g12 l12 => ?_
          have hx : isNet s.ip s.mask r = true := isNet_iff.2 ⟨hip, hmk⟩
          refine To.slotE 9 (.int .i64 (IntKind.i64.wrap (Int.ofNat q - 1))) (.int .i64 (Int.ofNat q - 1)) (by kernel_rfl) (by rw [wrap_pred q (by omega)]) ?_
          refine To.slotE 8 (.int .i64 (Int.ofNat q)) (.int .i64 (atV (Int.ofNat rn) ((findR s.ip s.mask ((rulesAt (l.take k)).drop q)).map (· + q)))) (by kernel_rfl) (by rw [ht, hx]; rfl) ?_
          exact back2 _ _ q [0, 1, 2] (by omega) ⟨by kernel_rfl, by kernel_rfl, by kernel_rfl, by kernel_rfl, by kernel_rfl, rfl⟩ (fun w9 hw9 => ⟨by omega, hkt9.fr (l := [numO rob, numO oob, some (f4 0)]) hw9.fr (by kernel_rfl) (off3 (l := [some (f4 0)]) ⟨l4 0, trivial⟩)⟩)
        · refine To.testF ((ByteArray.mk ⟨r.mask⟩).toList == (ByteArray.mk ⟨s.mask⟩).toList) (by kernel_rfl) (by rw [strEq]; exact decide_eq_false hmk) ?_
          refine To.runF 7 [] (fun _ _ => by kernel_rfl) fun f12 g12 l12 => ?_
          have hx : isNet s.ip s.mask r = false := by simp [isNet, hmk]
          refine To.slotE 9 (.int .i64 (IntKind.i64.wrap (Int.ofNat q - 1))) (.int .i64 (Int.ofNat q - 1)) (by kernel_rfl) (by rw [wrap_pred q (by omega)]) ?_
          refine To.slotE 8 (.int .i64 (atV (Int.ofNat rn) ((findR s.ip s.mask ((rulesAt (l.take k)).drop m)).map (· + m)))) (.int .i64 (atV (Int.ofNat rn) ((findR s.ip s.mask ((rulesAt (l.take k)).drop q)).map (· + q)))) (by kernel_rfl) (by rw [ht, hx, ← hq]; rfl) ?_
          exact back2 _ _ q [0, 1, 2] (by omega) ⟨by kernel_rfl, by kernel_rfl, by kernel_rfl, by kernel_rfl, by kernel_rfl, rfl⟩ (fun w9 hw9 => ⟨by omega, hkt9.fr (l := [numO rob, numO oob, some (f4 0)]) hw9.fr (by kernel_rfl) (off3 (l := [some (f4 0)]) ⟨l4 0, trivial⟩)⟩)
      · refine To.slotF 42 ((ByteArray.mk ⟨r.ip⟩).toList == (ByteArray.mk ⟨s.ip⟩).toList) (by kernel_rfl) (by rw [strEq]; exact decide_eq_false hip) ?_
        refine To.runF 20 [11, 12, 13, 14, 15, 16] (fun _ _ => by kernel_rfl) fun f9 g9 l9 => ?_
        have hx : isNet s.ip s.mask r = false := by simp [isNet, hip]
        refine To.slotE 9 (.int .i64 (IntKind.i64.wrap (Int.ofNat q - 1))) (.int .i64 (Int.ofNat q - 1)) (by kernel_rfl) (by rw [wrap_pred q (by omega)]) ?_
        refine To.slotE 8 (.int .i64 (atV (Int.ofNat rn) ((findR s.ip s.mask ((rulesAt (l.take k)).drop m)).map (· + m)))) (.int .i64 (atV (Int.ofNat rn) ((findR s.ip s.mask ((rulesAt (l.take k)).drop q)).map (· + q)))) (by kernel_rfl) (by rw [ht, hx, ← hq]; rfl) ?_
        exact back2 _ _ q [0, 1, 2] (by omega) ⟨by kernel_rfl, by kernel_rfl, by kernel_rfl, by kernel_rfl, by kernel_rfl, rfl⟩ (fun w9 hw9 => ⟨by omega, hkt8.fr (l := [numO rob, numO oob, some (f4 0)]) hw9.fr (by kernel_rfl) (off3 (l := [some (f4 0)]) ⟨l4 0, trivial⟩)⟩)
  · have hk1 : k = l.length := by omega
    subst hk1
    refine To.testF (decide (Int.ofNat l.length < Int.ofNat l.length)) (by kernel_rfl) (by simp) ?_
    refine To.runF 6 [] (fun _ _ => by kernel_rfl) fun f3 g3 l3 => ?_
    exact To.ret [] (.slice oa on oc) (by kernel_rfl) (by kernel_rfl) fun w9 hw9 => ⟨_, rfl, hw9.ext, oa, on, oc, rfl, oob, ocss, hP, OTrue.of hw9 (j := 1) (by kernel_rfl), by
      have k9 := (Later.refl AnsTy w4).fr (l := [numO rob, numO oob]) hw9.fr (by kernel_rfl) (numsCons (hO.off (T := AnsTy) hOT (by unfold AnsTy; decide)) (numsCons (hP.off (T := AnsTy) hPT (by unfold AnsTy; decide)) trivial))
      rw [List.take_length] at hQ
      exact hQ.mono fun x cs h => h.kept k9.kept (fun _ _ h => h)⟩
end Go.Proofs.YtkhonkejebdcgaaGreatDoor
