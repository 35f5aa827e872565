/- The argument, read as data out of the memory as it stands: what it holds, in a plain list. Conditions: the argument is read through. -/
import Derived.Test.YtgodhbgnhapemaaGreatDoorJRef
import Derived.Deep.Slices
import Derived.ProofKit
set_option linter.unusedVariables false
set_option linter.unusedSimpArgs false
/- The argument, read as data out of the memory as it stands: what it holds, in a plain list, and how long this may be. Conditions: the argument is read through, and no slice takes more bytes than a process reaches. -/
namespace Go.Proofs.YtgodhbgnhapemaaGreatDoor
open Go Go.SX Go.ChangeShapes Go.WideShapes Go.Deep
set_option maxHeartbeats 8000000
set_option maxRecDepth 100000
theorem uComps : Tryz.prog.underlying 22 = some (.slice 34) := by kernel_rfl

section
variable {H : Type} {enc : TypeId × Value → H} {w : World} {held : Bool}

/-- No slice in it takes more bytes than a process reaches. -/
def Light (t : TypeId) (d : DataW H) : Prop := ∀ n ∈ d.weights Tryz.prog t, n ≤ reachBytes
theorem weightsAll_mem {P : Program} {e : TypeId} : ∀ {l : List (DataW H)} {d : DataW H}, d ∈ l → ∀ n ∈ d.weights P e, n ∈ DataW.weightsAll P e l
  | [], _, h, _, _ => by cases h
  | x :: l, d, h, n, hn => by
    simp only [DataW.weightsAll, List.mem_append]
    rcases List.mem_cons.1 h with rfl | h
    · exact .inl hn
    · exact .inr (weightsAll_mem h n hn)
theorem light_slice {t e : TypeId} {xs sp : List (DataW H)} (ht : Tryz.prog.underlying t = some (.slice e)) (h : Light t (.slice xs sp)) : (xs.length + sp.length) * Tryz.prog.bytesOf e ≤ reachBytes ∧ ∀ d ∈ xs, Light e d := by
  have hw : DataW.weights Tryz.prog t (.slice xs sp) = (xs.length + sp.length) * Tryz.prog.bytesOf e :: (DataW.weightsAll Tryz.prog e xs ++ DataW.weightsAll Tryz.prog e sp) := by
    rw [DataW.weights, ht]
  unfold Light at h
  rw [hw] at h
  exact ⟨h _ (List.mem_cons_self ..), fun d hd n hn => h n (List.mem_cons_of_mem _ (List.mem_append_left _ (weightsAll_mem hd n hn)))⟩
theorem light_two {t : TypeId} {f0 f1 : Field} {d0 d1 : DataW H} (ht : Tryz.prog.underlying t = some (.struct #[f0, f1])) (h : Light t (.agg [d0, d1])) : Light f0.type d0 ∧ Light f1.type d1 := by
  have hw : DataW.weights Tryz.prog t (.agg [d0, d1]) = DataW.weights Tryz.prog f0.type d0 ++ (DataW.weights Tryz.prog f1.type d1 ++ []) := by
    rw [DataW.weights, ht]
    simp only [List.map_cons, List.map_nil, DataW.weightsEach]
  unfold Light at h
  rw [hw] at h
  exact ⟨fun n hn => h n (List.mem_append_left _ hn), fun n hn => h n (List.mem_append_right _ (List.mem_append_left _ hn))⟩
theorem spot_of {a : Addr} {j : Nat} {v : Value} (h : w.cell? (a.add j) = some v) : a.spot = none ∨ j ≠ 0 := by
  by_cases hj : j = 0
  · subst hj; exact .inl (by simpa [Addr.add] using World.cell?_spot h)
  · exact .inr hj
theorem add_plus {a : Addr} {i j : Nat} : (a.add i).add j = a.add (i + j) := Go.Deep.add_add a i j

/-- A slice, opened to the list of what its elements hold. -/
theorem open_rows {α : Type} [Inhabited α] {t e : TypeId} (sz : Nat) (I : α → List Value → Prop) (ht : Tryz.prog.underlying t = some (.slice e)) (hc : Tryz.prog.cellsOf e = sz) (hpos : 0 < sz) (hb : 0 < Tryz.prog.bytesOf e)
    (each : ∀ (fuel : Nat) (cs : List Value) (x : DataW H × List MemPlace), cs.length = sz → DataW.trod enc Tryz.prog w 0 (fun _ => true) held fuel e cs = some x → Light e x.1 → ∃ y : α, I y cs)
    {fuel : Nat} {cs : List Value} {x : DataW H × List MemPlace} (h : DataW.trod enc Tryz.prog w 0 (fun _ => true) held fuel t cs = some x) (hl : Light t x.1) :
    ∃ (a : Option Addr) (l : List α) (cap : Nat), cs = [.slice a l.length cap] ∧ l.length ≤ cap ∧ l.length ≤ 1152921504606846976 ∧ (a = none → l = []) ∧
      ∀ (j : Nat) (y : α), l[j]? = some y → ∃ (ad : Addr) (cs' : List Value), a = some ad ∧ ad.spot = none ∧ (∀ i, i < sz → w.cell? (ad.add (j * sz + i)) = cs'[i]?) ∧ cs'.length = sz ∧ I y cs' := by
  rcases open_slice ht h with ⟨rfl, rfl⟩ | ⟨a, len, cap, m, n, D, Pl, rfl, _, hlc, hcm, hm, rfl, hi⟩
  · exact ⟨none, [], 0, rfl, by simp, by simp, fun _ => rfl, fun j y hj => by simp at hj⟩
  · obtain ⟨h1, h2⟩ := light_slice ht hl
    simp only [if_true] at hm
    have hlm : len ≤ m := by omega
    have hlen : len ≤ 1152921504606846976 := by
      simp only [List.length_map, List.length_range, reachBytes] at h1
      have := Nat.le_mul_of_pos_right (len + (m - len)) hb
      omega
    have pick : ∀ i, i < len → ∃ y : α, ∃ cs', w.cells? 0 (a.add (i * sz)) sz = some cs' ∧ I y cs' := fun i hil => by
      obtain ⟨cs', hcs, hx⟩ := hi i (by omega)
      rw [hc] at hcs
      obtain ⟨_, hcl, _⟩ := World.cells?_some hcs
      obtain ⟨y, hy⟩ := each n cs' _ hcl hx (h2 (D i) (List.mem_map.2 ⟨i, List.mem_range.2 hil, rfl⟩))
      exact ⟨y, cs', hcs, hy⟩
    obtain ⟨Y, hY⟩ := choose_lt pick
    refine ⟨some a, (List.range len).map Y, cap, by simp, by simpa using hlc, by simpa using hlen, (fun e => by cases e), fun j y hj => ?_⟩
    rw [List.getElem?_map] at hj
    have hjl : j < len := by
      by_cases hjl : j < len
      · exact hjl
      · rw [List.getElem?_eq_none (by simpa using hjl)] at hj; cases hj
    rw [List.getElem?_range hjl] at hj
    obtain rfl := Option.some.inj hj
    obtain ⟨cs0, hcs0, _⟩ := hY 0 (by omega)
    obtain ⟨_, hcl0, hat0⟩ := World.cells?_some hcs0
    obtain ⟨cs', hcs, hy⟩ := hY j hjl
    obtain ⟨_, hcl, hat⟩ := World.cells?_some hcs
    have hspot : a.spot = none := by
      have := hat0 0 hpos
      rw [List.getElem?_eq_getElem (by omega), Nat.zero_mul, add_plus] at this
      simpa [Addr.add] using World.cell?_spot this
    exact ⟨a, cs', rfl, hspot, fun i hi => by rw [← add_plus]; exact hat i hi, hcl, hy⟩

/-- Bytes. -/
theorem open_bytes {fuel : Nat} {cs : List Value} {x : DataW H × List MemPlace} (h : DataW.trod enc Tryz.prog w 0 (fun _ => true) held fuel 28 cs = some x) (hl : Light 28 x.1) :
    ∃ (a : Option Addr) (l : List UInt8) (cap : Nat), cs = [.slice a l.length cap] ∧ l.length ≤ cap ∧ l.length ≤ 1152921504606846976 ∧ BytesIn w a l := by
  obtain ⟨a, l, cap, h1, hlc, h2, h3, h4⟩ := open_rows (α := UInt8) 1 (fun n cs => cs = [.int .u8 (n.toNat : Int)]) uBytes (by kernel_rfl) (by omega) (Nat.le_of_ble_eq_true (by kernel_rfl)) (fun fuel cs x _ hx _ => by
    obtain ⟨n, hn, _, hwf⟩ := DataW.trod_int uU8 hx
    have hr : 0 ≤ n ∧ n ≤ 255 := by
      simp [Lit.wf, IntKind.min, IntKind.max, IntKind.signed, IntKind.bits] at hwf
      omega
    refine ⟨UInt8.ofNat n.toNat, ?_⟩
    rw [hn]
    have : (UInt8.ofNat n.toNat).toNat = n.toNat := by rw [UInt8.toNat_ofNat']; omega
    rw [this]
    congr 2
    omega) h hl
  refine ⟨a, l, cap, h1, hlc, h2, ⟨fun j n hj => ?_, h3⟩⟩
  obtain ⟨ad, cs', h5, _, h7, _, rfl⟩ := h4 j n hj
  refine ⟨ad, h5, ?_⟩
  have := h7 0 (by omega)
  simpa using this

/-- The shape of a component of plain data: a code, then a value. -/
def pairShape (P : Program) (t a b : TypeId) : Bool :=
  match P.underlying t with
  | some (.struct ⟨[f0, f1]⟩) => f0.type == a && f0.offset == 0 && f1.type == b && f1.offset == 1
  | _ => false
theorem pair_of {P : Program} {t a b : TypeId} (h : pairShape P t a b = true) : ∃ f0 f1 : Field, P.underlying t = some (.struct #[f0, f1]) ∧ f0.type = a ∧ f0.offset = 0 ∧ f1.type = b ∧ f1.offset = 1 := by
  unfold pairShape at h
  split at h
  · rename_i f0 f1 hu
    simp only [Bool.and_eq_true, beq_iff_eq] at h
    exact ⟨f0, f1, hu, h.1.1.1, h.1.1.2, h.1.2, h.2⟩
  · cases h

/-- A component of plain data. -/
theorem open_comp {fuel : Nat} {cs : List Value} {x : DataW H × List MemPlace} (h : DataW.trod enc Tryz.prog w 0 (fun _ => true) held fuel 34 cs = some x) (hl : Light 34 x.1) :
    ∃ (y : Int × List UInt8) (va : Option Addr) (cv : Nat), cs = [.int .i64 y.1, .slice va y.2.length cv] ∧ y.2.length ≤ cv ∧ BytesIn w va y.2 := by
  obtain ⟨f0, f1, hu, t0, o0, t1, o1⟩ := pair_of (P := Tryz.prog) (t := 34) (a := 3) (b := 28) (by kernel_rfl)
  obtain ⟨y0, y1, n, rfl, hcl, h0, h1⟩ := trod_struct2 hu h
  have hC : Tryz.prog.cellsOf 34 = 2 := by kernel_rfl
  have hI : Tryz.prog.cellsOf 3 = 1 := by kernel_rfl
  have hB : Tryz.prog.cellsOf 28 = 1 := by kernel_rfl
  obtain ⟨_, l1⟩ := light_two hu hl
  rw [t0, o0, hI] at h0
  rw [t1, o1, hB] at h1
  rw [t1] at l1
  rw [hC] at hcl
  match cs, hcl with
  | [c0, c1], _ =>
    obtain ⟨k, e0, _⟩ := DataW.trod_int uInt h0
    obtain ⟨va, l, cv, e1, ec, _, e2⟩ := open_bytes h1 l1
    simp only [List.drop_zero, List.take_succ_cons, List.take_zero, List.drop_succ_cons, List.cons.injEq, and_true] at e0 e1
    subst e0; subst e1
    exact ⟨(k, l), va, cv, rfl, ec, e2⟩

/-- An address of plain data. -/
theorem open_comps {fuel : Nat} {cs : List Value} {x : DataW H × List MemPlace} (h : DataW.trod enc Tryz.prog w 0 (fun _ => true) held fuel 22 cs = some x) (hl : Light 22 x.1) :
    ∃ (a : Option Addr) (l : Comps) (cap : Nat), cs = [.slice a l.length cap] ∧ l.length ≤ 1152921504606846976 ∧ CompsC w a l := by
  obtain ⟨a, l, cap, h1, _, h2, _, h4⟩ := open_rows (α := Int × List UInt8) 2 (fun y cs => ∃ (va : Option Addr) (cv : Nat), cs = [.int .i64 y.1, .slice va y.2.length cv] ∧ y.2.length ≤ cv ∧ BytesIn w va y.2) uComps (by kernel_rfl) (by omega) (Nat.le_of_ble_eq_true (by kernel_rfl)) (fun fuel cs x _ hx hlx => open_comp hx hlx) h hl
  refine ⟨a, l, cap, h1, h2, ⟨fun j c val hj => ?_⟩⟩
  obtain ⟨ad, cs', h5, h6, h7, _, va, cv, rfl, hcv, h8⟩ := h4 j (c, val) hj
  exact ⟨ad, va, cv, h5, h6, h7 0 (by omega), h7 1 (by omega), h8, hcv⟩

end
end Go.Proofs.YtgodhbgnhapemaaGreatDoor
