/- The argument, read as data out of the memory as it stands: what it holds, in plain lists. Conditions: the argument is read through. -/
import Derived.Test.YtkhonkejebdcgaaGreatDoorJSteps
import Derived.Deep.Slices
import Derived.ProofKit
import Derived.SizedLaws
/- The argument, read as data out of the memory as it stands: what it holds, in plain lists, and how long these may be. Conditions: the argument is read through, and no slice takes more bytes than a process reaches. -/
namespace Go.Proofs.YtkhonkejebdcgaaGreatDoor
open Go Go.SX Go.ChangeShapes Go.WideShapes Go.Deep
set_option maxHeartbeats 8000000
set_option maxRecDepth 100000

instance : Inhabited Step := ⟨⟨0, [], [], 0, []⟩⟩
theorem uComps : Tryz.prog.underlying 31 = some (.slice 75) := by kernel_rfl
theorem uSteps : Tryz.prog.underlying 22 = some (.slice 33) := by kernel_rfl
section
variable {H : Type} {enc : TypeId × Value → H} {w : World} {held : Bool}

/-- No slice in it takes more bytes than a process reaches. -/
def Light (t : TypeId) (d : DataW H) : Prop := ∀ n ∈ d.weights Tryz.prog t, n ≤ reachBytes
theorem weightsAll_mem {P : Program} {e : TypeId} : ∀ {l : List (DataW H)} {d : DataW H}, d ∈ l → ∀ n ∈ d.weights P e, n ∈ DataW.weightsAll P e l
  | [], _, h, _, _ => by cases h
  | x :: l, d, h, n, hn => by
    simp only [DataW.weightsAll, List.mem_append]
    rcases List.mem_cons.1 h with rfl | h
    · exact .inl hn
    · exact .inr (weightsAll_mem h n hn)
theorem light_slice {t e : TypeId} {xs sp : List (DataW H)} (ht : Tryz.prog.underlying t = some (.slice e)) (h : Light t (.slice xs sp)) : (xs.length + sp.length) * Tryz.prog.bytesOf e ≤ reachBytes ∧ ∀ d ∈ xs, Light e d := by
  have hw : DataW.weights Tryz.prog t (.slice xs sp) = (xs.length + sp.length) * Tryz.prog.bytesOf e :: (DataW.weightsAll Tryz.prog e xs ++ DataW.weightsAll Tryz.prog e sp) := by
    rw [DataW.weights, ht]
  unfold Light at h
  rw [hw] at h
  exact ⟨h _ (List.mem_cons_self ..), fun d hd n hn => h n (List.mem_cons_of_mem _ (List.mem_append_left _ (weightsAll_mem hd n hn)))⟩
theorem weightsEach_mem {P : Program} : ∀ {ts : List TypeId} {ds : List (DataW H)} {j : Nat} {t : TypeId} {d : DataW H}, ts[j]? = some t → ds[j]? = some d → ∀ n ∈ d.weights P t, n ∈ DataW.weightsEach P ts ds := fun h1 h2 n hn => DataW.weights_mem_each h1 h2 n hn
theorem light_field {t : TypeId} {fs : Array Field} {ds : List (DataW H)} (ht : Tryz.prog.underlying t = some (.struct fs)) (h : Light t (.agg ds)) {j : Nat} {f : Field} {d : DataW H} (hf : fs[j]? = some f) (hd : ds[j]? = some d) : Light f.type d := by
  have hw : DataW.weights Tryz.prog t (.agg ds) = DataW.weightsEach Tryz.prog (fs.toList.map (·.type)) ds := by
    rw [DataW.weights, ht]
  unfold Light at h
  rw [hw] at h
  exact fun n hn => h n (weightsEach_mem (j := j) (by rw [List.getElem?_map, Array.getElem?_toList, hf]; rfl) hd n hn)
theorem spot_of {a : Addr} {j : Nat} {v : Value} (h : w.cell? (a.add j) = some v) : a.spot = none ∨ j ≠ 0 := by
  by_cases hj : j = 0
  · subst hj; exact .inl (by simpa [Addr.add] using World.cell?_spot h)
  · exact .inr hj
theorem add_plus {a : Addr} {i j : Nat} : (a.add i).add j = a.add (i + j) := Go.Deep.add_add a i j

/-- A slice, opened to the list of what its elements hold. -/
theorem open_rows {α : Type} [Inhabited α] {t e : TypeId} (sz : Nat) (I : α → List Value → Prop) (ht : Tryz.prog.underlying t = some (.slice e)) (hc : Tryz.prog.cellsOf e = sz) (hpos : 0 < sz) (hb : 0 < Tryz.prog.bytesOf e)
    (each : ∀ (fuel : Nat) (cs : List Value) (x : DataW H × List MemPlace), cs.length = sz → DataW.trod enc Tryz.prog w 0 (fun _ => true) held fuel e cs = some x → Light e x.1 → ∃ y : α, I y cs)
    {fuel : Nat} {cs : List Value} {x : DataW H × List MemPlace} (h : DataW.trod enc Tryz.prog w 0 (fun _ => true) held fuel t cs = some x) (hl : Light t x.1) :
    ∃ (a : Option Addr) (l : List α) (cap : Nat), cs = [.slice a l.length cap] ∧ l.length ≤ 1152921504606846976 ∧ l.length ≤ cap ∧ (a = none → l = []) ∧
      ∀ (j : Nat) (y : α), l[j]? = some y → ∃ (ad : Addr) (cs' : List Value), a = some ad ∧ ad.spot = none ∧ (∀ i, i < sz → w.cell? (ad.add (j * sz + i)) = cs'[i]?) ∧ cs'.length = sz ∧ I y cs' := by
  rcases open_slice ht h with ⟨rfl, rfl⟩ | ⟨a, len, cap, m, n, D, Pl, rfl, _, hlc, hcm, hm, rfl, hi⟩
  · exact ⟨none, [], 0, rfl, by simp, by simp, fun _ => rfl, fun j y hj => by simp at hj⟩
  · obtain ⟨h1, h2⟩ := light_slice ht hl
    simp only [if_true] at hm
    have hlm : len ≤ m := by omega
    have hlen : len ≤ 1152921504606846976 := by
      simp only [List.length_map, List.length_range, reachBytes] at h1
      have := Nat.le_mul_of_pos_right (len + (m - len)) hb
      omega
    have pick : ∀ i, i < len → ∃ y : α, ∃ cs', w.cells? 0 (a.add (i * sz)) sz = some cs' ∧ I y cs' := fun i hil => by
      obtain ⟨cs', hcs, hx⟩ := hi i (by omega)
      rw [hc] at hcs
      obtain ⟨_, hcl, _⟩ := World.cells?_some hcs
      obtain ⟨y, hy⟩ := each n cs' _ hcl hx (h2 (D i) (List.mem_map.2 ⟨i, List.mem_range.2 hil, rfl⟩))
      exact ⟨y, cs', hcs, hy⟩
    obtain ⟨Y, hY⟩ := choose_lt pick
    refine ⟨some a, (List.range len).map Y, cap, by simp, by simpa using hlen, by simpa using hlc, (fun e => by cases e), fun j y hj => ?_⟩
    rw [List.getElem?_map] at hj
    have hjl : j < len := by
      by_cases hjl : j < len
      · exact hjl
      · rw [List.getElem?_eq_none (by simpa using hjl)] at hj; cases hj
    rw [List.getElem?_range hjl] at hj
    obtain rfl := Option.some.inj hj
    obtain ⟨cs0, hcs0, _⟩ := hY 0 (by omega)
    obtain ⟨_, hcl0, hat0⟩ := World.cells?_some hcs0
    obtain ⟨cs', hcs, hy⟩ := hY j hjl
    obtain ⟨_, hcl, hat⟩ := World.cells?_some hcs
    have hspot : a.spot = none := by
      have := hat0 0 hpos
      rw [List.getElem?_eq_getElem (by omega), Nat.zero_mul, add_plus] at this
      simpa [Addr.add] using World.cell?_spot this
    exact ⟨a, cs', rfl, hspot, fun i hi => by rw [← add_plus]; exact hat i hi, hcl, hy⟩

/-- Bytes. -/
theorem open_bytes {fuel : Nat} {cs : List Value} {x : DataW H × List MemPlace} (h : DataW.trod enc Tryz.prog w 0 (fun _ => true) held fuel 30 cs = some x) (hl : Light 30 x.1) :
    ∃ (a : Option Addr) (l : List UInt8) (cap : Nat), cs = [.slice a l.length cap] ∧ l.length ≤ 1152921504606846976 ∧ l.length ≤ cap ∧ BytesIn w a l := by
  obtain ⟨a, l, cap, h1, h2, hc, h3, h4⟩ := open_rows (α := UInt8) 1 (fun n cs => cs = [.int .u8 (n.toNat : Int)]) uBytes (by kernel_rfl) (by omega) (Nat.le_of_ble_eq_true (by kernel_rfl)) (fun fuel cs x _ hx _ => by
    obtain ⟨n, hn, _, hwf⟩ := DataW.trod_int uU8 hx
    have hr : 0 ≤ n ∧ n ≤ 255 := by
      simp [Lit.wf, IntKind.min, IntKind.max, IntKind.signed, IntKind.bits] at hwf
      omega
    refine ⟨UInt8.ofNat n.toNat, ?_⟩
    rw [hn]
    have : (UInt8.ofNat n.toNat).toNat = n.toNat := by rw [UInt8.toNat_ofNat']; omega
    rw [this]
    congr 2
    omega) h hl
  refine ⟨a, l, cap, h1, h2, hc, ⟨fun j n hj => ?_, h3⟩⟩
  obtain ⟨ad, cs', h5, _, h7, _, rfl⟩ := h4 j n hj
  refine ⟨ad, h5, ?_⟩
  have := h7 0 (by omega)
  simpa using this

/-- The shape of a component of plain data: a code, then a value. -/
def pairShape (P : Program) (t a b : TypeId) : Bool :=
  match P.underlying t with
  | some (.struct ⟨[f0, f1]⟩) => f0.type == a && f0.offset == 0 && f1.type == b && f1.offset == 1
  | _ => false
theorem pair_of {P : Program} {t a b : TypeId} (h : pairShape P t a b = true) : ∃ f0 f1 : Field, P.underlying t = some (.struct #[f0, f1]) ∧ f0.type = a ∧ f0.offset = 0 ∧ f1.type = b ∧ f1.offset = 1 := by
  unfold pairShape at h
  split at h
  · rename_i f0 f1 hu
    simp only [Bool.and_eq_true, beq_iff_eq] at h
    exact ⟨f0, f1, hu, h.1.1.1, h.1.1.2, h.1.2, h.2⟩
  · cases h

/-- A component of plain data. -/
theorem open_comp {fuel : Nat} {cs : List Value} {x : DataW H × List MemPlace} (h : DataW.trod enc Tryz.prog w 0 (fun _ => true) held fuel 75 cs = some x) (hl : Light 75 x.1) :
    ∃ (y : Int × List UInt8) (va : Option Addr) (cv : Nat), cs = [.int .i64 y.1, .slice va y.2.length cv] ∧ BytesIn w va y.2 ∧ y.2.length ≤ cv := by
  obtain ⟨f0, f1, hu, t0, o0, t1, o1⟩ := pair_of (P := Tryz.prog) (t := 75) (a := 3) (b := 30) (by kernel_rfl)
  obtain ⟨y0, y1, n, rfl, hcl, h0, h1⟩ := trod_struct2 hu h
  have hC : Tryz.prog.cellsOf 75 = 2 := by kernel_rfl
  have hI : Tryz.prog.cellsOf 3 = 1 := by kernel_rfl
  have hB : Tryz.prog.cellsOf 30 = 1 := by kernel_rfl
  have l1 : Light f1.type y1.1 := light_field hu hl (j := 1) rfl rfl
  rw [t0, o0, hI] at h0
  rw [t1, o1, hB] at h1
  rw [t1] at l1
  rw [hC] at hcl
  match cs, hcl with
  | [c0, c1], _ =>
    obtain ⟨k, e0, _⟩ := DataW.trod_int uInt h0
    obtain ⟨va, l, cv, e1, _, e3, e2⟩ := open_bytes h1 l1
    simp only [List.drop_zero, List.take_succ_cons, List.take_zero, List.drop_succ_cons, List.cons.injEq, and_true] at e0 e1
    subst e0; subst e1
    exact ⟨(k, l), va, cv, rfl, e2, e3⟩

/-- An address of plain data. -/
theorem open_comps {fuel : Nat} {cs : List Value} {x : DataW H × List MemPlace} (h : DataW.trod enc Tryz.prog w 0 (fun _ => true) held fuel 31 cs = some x) (hl : Light 31 x.1) :
    ∃ (a : Option Addr) (l : Comps) (cap : Nat), cs = [.slice a l.length cap] ∧ l.length ≤ 1152921504606846976 ∧ CompsC w a l := by
  obtain ⟨a, l, cap, h1, h2, _, _, h4⟩ := open_rows (α := Int × List UInt8) 2 (fun y cs => ∃ (va : Option Addr) (cv : Nat), cs = [.int .i64 y.1, .slice va y.2.length cv] ∧ BytesIn w va y.2 ∧ y.2.length ≤ cv) uComps (by kernel_rfl) (by omega) (Nat.le_of_ble_eq_true (by kernel_rfl)) (fun fuel cs x _ hx hlx => open_comp hx hlx) h hl
  refine ⟨a, l, cap, h1, h2, ⟨fun j c val hj => ?_⟩⟩
  obtain ⟨ad, cs', h5, h6, h7, _, va, cv, rfl, h8, h9⟩ := h4 j (c, val) hj
  exact ⟨ad, va, cv, h5, h6, h7 0 (by omega), h7 1 (by omega), h8, h9⟩

/-- The shape of a step of a script. -/
def fiveShape (P : Program) (t : TypeId) (l : List TypeId) : Bool :=
  match P.underlying t with
  | some (.struct ⟨[f0, f1, f2, f3, f4]⟩) => [f0.type, f1.type, f2.type, f3.type, f4.type] == l && [f0.offset, f1.offset, f2.offset, f3.offset, f4.offset] == [0, 1, 2, 3, 4]
  | _ => false
theorem five_of {P : Program} {t a0 a1 a2 a3 a4 : TypeId} (h : fiveShape P t [a0, a1, a2, a3, a4] = true) : ∃ f0 f1 f2 f3 f4 : Field, P.underlying t = some (.struct #[f0, f1, f2, f3, f4]) ∧
    (f0.type = a0 ∧ f1.type = a1 ∧ f2.type = a2 ∧ f3.type = a3 ∧ f4.type = a4) ∧ (f0.offset = 0 ∧ f1.offset = 1 ∧ f2.offset = 2 ∧ f3.offset = 3 ∧ f4.offset = 4) := by
  unfold fiveShape at h
  split at h
  · rename_i f0 f1 f2 f3 f4 hu
    simp only [Bool.and_eq_true, beq_iff_eq, List.cons.injEq, and_true] at h
    exact ⟨f0, f1, f2, f3, f4, hu, h.1, h.2⟩
  · cases h
theorem trod_struct5 {t : TypeId} {f0 f1 f2 f3 f4 : Field} {fuel : Nat} {cs : List Value} {x : DataW H × List MemPlace} (ht : Tryz.prog.underlying t = some (.struct #[f0, f1, f2, f3, f4])) (h : DataW.trod enc Tryz.prog w 0 (fun _ => true) held fuel t cs = some x) :
    ∃ y0 y1 y2 y3 y4 n, x.1 = .agg [y0.1, y1.1, y2.1, y3.1, y4.1] ∧ cs.length = Tryz.prog.cellsOf t ∧ DataW.trod enc Tryz.prog w 0 (fun _ => true) held n f0.type ((cs.drop f0.offset).take (Tryz.prog.cellsOf f0.type)) = some y0 ∧
      DataW.trod enc Tryz.prog w 0 (fun _ => true) held n f1.type ((cs.drop f1.offset).take (Tryz.prog.cellsOf f1.type)) = some y1 ∧ DataW.trod enc Tryz.prog w 0 (fun _ => true) held n f2.type ((cs.drop f2.offset).take (Tryz.prog.cellsOf f2.type)) = some y2 ∧
      DataW.trod enc Tryz.prog w 0 (fun _ => true) held n f3.type ((cs.drop f3.offset).take (Tryz.prog.cellsOf f3.type)) = some y3 ∧ DataW.trod enc Tryz.prog w 0 (fun _ => true) held n f4.type ((cs.drop f4.offset).take (Tryz.prog.cellsOf f4.type)) = some y4 := by
  obtain ⟨xs, n, _, rfl, hl, hlen, hf⟩ := DataW.trod_struct ht h
  match xs, hlen with
  | [y0, y1, y2, y3, y4], _ => exact ⟨y0, y1, y2, y3, y4, n, rfl, hl, by simpa using hf 0 f0 rfl, by simpa using hf 1 f1 rfl, by simpa using hf 2 f2 rfl, by simpa using hf 3 f3 rfl, by simpa using hf 4 f4 rfl⟩
/-- A step of a script. -/
theorem open_step {fuel : Nat} {cs : List Value} {x : DataW H × List MemPlace} (h : DataW.trod enc Tryz.prog w 0 (fun _ => true) held fuel 33 cs = some x) (hl : Light 33 x.1) :
    ∃ (s : Step) (ai am aa : Option Addr) (ci cm ca : Nat), cs = stepCells s ai am aa ci cm ca ∧ StepIn w s ai am aa ci cm ∧ s.ip.length ≤ 1152921504606846976 ∧ s.mask.length ≤ 1152921504606846976 ∧ s.addr.length ≤ 1152921504606846976 := by
  obtain ⟨f0, f1, f2, f3, f4, hu, ⟨t0, t1, t2, t3, t4⟩, o0, o1, o2, o3, o4⟩ := five_of (P := Tryz.prog) (t := 33) (a0 := 3) (a1 := 30) (a2 := 30) (a3 := 3) (a4 := 31) (by kernel_rfl)
  obtain ⟨y0, y1, y2, y3, y4, n, hx, hcl, h0, h1, h2, h3, h4⟩ := trod_struct5 hu h
  have hC : Tryz.prog.cellsOf 33 = 5 := by kernel_rfl
  have hI : Tryz.prog.cellsOf 3 = 1 := by kernel_rfl
  have hB : Tryz.prog.cellsOf 30 = 1 := by kernel_rfl
  have hS : Tryz.prog.cellsOf 31 = 1 := by kernel_rfl
  rw [hx] at hl
  have l1 : Light f1.type y1.1 := light_field hu hl (j := 1) rfl rfl
  have l2 : Light f2.type y2.1 := light_field hu hl (j := 2) rfl rfl
  have l4 : Light f4.type y4.1 := light_field hu hl (j := 4) rfl rfl
  rw [t0, o0, hI] at h0
  rw [t1, o1, hB] at h1
  rw [t2, o2, hB] at h2
  rw [t3, o3, hI] at h3
  rw [t4, o4, hS] at h4
  rw [t1] at l1
  rw [t2] at l2
  rw [t4] at l4
  rw [hC] at hcl
  match cs, hcl with
  | [c0, c1, c2, c3, c4], _ =>
    obtain ⟨k0, e0, _⟩ := DataW.trod_int uInt h0
    obtain ⟨ai, ip, ci, e1, b1, k1, i1⟩ := open_bytes h1 l1
    obtain ⟨am, mask, cm, e2, b2, k2, i2⟩ := open_bytes h2 l2
    obtain ⟨k3, e3, _⟩ := DataW.trod_int uInt h3
    obtain ⟨aa, addr, ca, e4, b4, i4⟩ := open_comps h4 l4
    simp only [List.drop_zero, List.take_succ_cons, List.take_zero, List.drop_succ_cons, List.cons.injEq, and_true] at e0 e1 e2 e3 e4
    subst e0; subst e1; subst e2; subst e3; subst e4
    exact ⟨⟨k0, ip, mask, k3, addr⟩, ai, am, aa, ci, cm, ca, rfl, ⟨i1, i2, k1, k2, i4⟩, b1, b2, b4⟩
/-- A script. -/
theorem open_steps {fuel : Nat} {cs : List Value} {x : DataW H × List MemPlace} (h : DataW.trod enc Tryz.prog w 0 (fun _ => true) held fuel 22 cs = some x) (hl : Light 22 x.1) :
    ∃ (a : Option Addr) (l : List Step) (cap : Nat), cs = [.slice a l.length cap] ∧ l.length ≤ 1152921504606846976 ∧ (∀ s ∈ l, s.ip.length ≤ 1152921504606846976 ∧ s.mask.length ≤ 1152921504606846976 ∧ s.addr.length ≤ 1152921504606846976) ∧ StepsIn w a l := by
  obtain ⟨a, l, cap, h1, h2, _, _, h4⟩ := open_rows (α := Step) 5 (fun s cs => ∃ (ai am aa : Option Addr) (ci cm ca : Nat), cs = stepCells s ai am aa ci cm ca ∧ StepIn w s ai am aa ci cm ∧ s.ip.length ≤ 1152921504606846976 ∧ s.mask.length ≤ 1152921504606846976 ∧ s.addr.length ≤ 1152921504606846976)
    uSteps (by kernel_rfl) (by omega) (Nat.le_of_ble_eq_true (by kernel_rfl)) (fun fuel cs x _ hx hlx => open_step hx hlx) h hl
  refine ⟨a, l, cap, h1, h2, fun s hs => ?_, ⟨fun j s hj => ?_⟩⟩
  · obtain ⟨j, hj⟩ := List.mem_iff_getElem?.1 hs
    obtain ⟨_, _, _, _, _, _, _, _, _, _, _, _, _, _, h9⟩ := h4 j s hj
    exact h9
  · obtain ⟨ad, cs', h5, h6, h7, _, ai, am, aa, ci, cm, ca, rfl, h8, _⟩ := h4 j s hj
    refine ⟨ad, ai, am, aa, ci, cm, ca, h5, h6, fun i u hi => ?_, h8⟩
    have hi5 : i < 5 := (List.getElem?_eq_some_iff.1 hi).1
    rw [add_plus, h7 i hi5, hi]
end
end Go.Proofs.YtkhonkejebdcgaaGreatDoor
