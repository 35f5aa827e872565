/- Lists of addresses of plain data: bounds, equality, contained, once each, kept. Conditions: as each says. -/
import Derived.Test.YtegcplghgnafjaaGreatDoorJSimple
import Derived.Laws.Strings
import Derived.Test.YtegcplghgnafjaaGreatDoorSxB
/- Whether components are no longer than a bound; whether they are a simple address: some answer is given, and nothing else happens; what a yes means. Conditions: as each says. -/
namespace Go.Proofs.YtegcplghgnafjaaGreatDoor
open Go Go.SX
set_option maxHeartbeats 8000000
set_option maxRecDepth 100000
abbrev FitsPost (l : List (Int × List UInt8)) (w : World) (e : Ending) (w1 : World) : Prop := ∃ v, e = .returned v ∧ Ext [] w w1 ∧ ∃ b, v = .bool b ∧ (b = true → l.length ≤ 2147483647 ∧ ∀ p ∈ l, p.2.length ≤ 2147483647)
theorem zzFits6 (l : List (Int × List UInt8)) (a : Option Addr) (cap : Nat) (w : World) (hin : CompsIn w a l) (hlen : l.length ≤ 1152921504606846976) :
    Calls Tryz.prog 5 #[.slice a l.length cap] w (FitsPost l w) := by
  refine calls_of0 (args := [.slice a l.length cap]) Tryz.func5 rfl rfl rfl ?_
  refine To.runF 11 [] (fun _ _ => by kernel_rfl) fun f1 g1 l1 => ?_
  refine To.test (decide (Int.ofNat l.length > 2147483647)) (by kernel_rfl) (fun _ => ?_) (fun h0 => ?_)
  · refine To.runF 4 [] (fun _ _ => by kernel_rfl) fun f2 g2 l2 => ?_
    exact To.ret [] (.bool false) (by kernel_rfl) (by kernel_rfl) fun w4 hw4 => ⟨_, rfl, hw4.ext, _, rfl, fun h => by cases h⟩
  have h1 : l.length ≤ 2147483647 := by have := of_decide_eq_false h0; simp only [Int.ofNat_eq_natCast] at this; omega
  refine To.runF 9 [] (fun _ _ => by kernel_rfl) fun f2 g2 l2 => ?_
  refine To.loop (fun k : Nat => l.length - k) (fun k => ([(8, .slice a l.length cap), (9, .int .i64 (Int.ofNat l.length)), (10, .int .i64 (Int.ofNat k))], [])) (fun k _ => k ≤ l.length ∧ ∀ j p, j < k → l[j]? = some p → p.2.length ≤ 2147483647) 0 [] (by kernel_rfl) (by kernel_rfl) (by kernel_rfl) rfl (fun _ _ => ⟨Nat.zero_le _, fun j p h => by omega⟩) ?_
  rintro k w1 ⟨hk, hall⟩ hx1 back
  refine To.runF 5 [] (fun _ _ => by kernel_rfl) fun f3 g3 l3 => ?_
  by_cases hlt : k < l.length
  · obtain ⟨p, hp⟩ : ∃ p, l[k]? = some p := ⟨l[k], by simp [hlt]⟩
    obtain ⟨ad, va, cv, ha, hsp, hc0, hc1, hb⟩ := hin.at_ k p.1 p.2 hp
    refine To.testT (decide (Int.ofNat k < Int.ofNat l.length)) (by kernel_rfl) (decide_eq_true (Int.ofNat_lt.2 hlt)) ?_
    refine To.runF 5 [] (fun _ _ => by kernel_rfl) fun f4 g4 l4 => ?_
    refine To.indexAt elC a ad l.length cap k (by kernel_rfl) ha hlt ?_
    refine To.loadAgg (t := 37) (by kernel_rfl) 2 (by kernel_rfl) (ad.add (k * 2)) [.int .i64 p.1, .slice va p.2.length cv] rfl (by kernel_rfl) (fun w2 hw2 j v hj => by
      rw [add_add hsp]
      rcases j with _ | _ | j
      · cases hj; exact hw2.ext.cell hc0 (by simp)
      · cases hj; exact hw2.ext.cell hc1 (by simp)
      · cases hj) ?_
    refine To.runF 20 [0, 0, 0, 0, 1] (fun _ _ => by kernel_rfl) fun f5 g5 l5 => ?_
    refine To.test (decide (Int.ofNat p.2.length > 2147483647)) (by kernel_rfl) (fun _ => ?_) (fun h2 => ?_)
    · refine To.runF 12 [] (fun _ _ => by kernel_rfl) fun f6 g6 l6 => ?_
      exact To.ret [] (.bool false) (by kernel_rfl) (by kernel_rfl) fun w4 hw4 => ⟨_, rfl, hw4.ext, _, rfl, fun h => by cases h⟩
    have h3 : p.2.length ≤ 2147483647 := by have := of_decide_eq_false h2; simp only [Int.ofNat_eq_natCast] at this; omega
    refine To.runF 15 [] (fun _ _ => by kernel_rfl) fun f6 g6 l6 => ?_
    refine To.slotE 10 (.int .i64 (IntKind.i64.wrap (Int.ofNat k + 1))) (.int .i64 (Int.ofNat (k + 1))) (by kernel_rfl) (by rw [wrap_succ k (by omega)]) ?_
    exact back _ _ (k + 1) [] (by omega) ⟨by kernel_rfl, by kernel_rfl, by kernel_rfl, by kernel_rfl, by kernel_rfl, rfl⟩ (fun w7 hw7 => ⟨hlt, fun j q hj hq => by
      by_cases hjk : j = k
      · subst hjk; rw [hp] at hq; cases hq; exact h3
      · exact hall j q (by omega) hq⟩)
  · have hk1 : k = l.length := by omega
    subst hk1
    refine To.testF (decide (Int.ofNat l.length < Int.ofNat l.length)) (by kernel_rfl) (by simp) ?_
    refine To.runF 5 [] (fun _ _ => by kernel_rfl) fun f4 g4 l4 => ?_
    exact To.ret [] (.bool true) (by kernel_rfl) (by kernel_rfl) fun w4 hw4 => ⟨_, rfl, hw4.ext, _, rfl, fun _ => ⟨h1, fun p hp => by
      obtain ⟨j, hj⟩ := List.mem_iff_getElem?.1 hp
      exact hall j p (List.getElem?_eq_some_iff.1 hj).1 hj⟩⟩
abbrev AddressPost (l : List (Int × List UInt8)) (w : World) (e : Ending) (w1 : World) : Prop := ∃ v, e = .returned v ∧ Ext [] w w1 ∧ ∃ b, v = .bool b ∧ (b = true → 1 ≤ l.length ∧ l.length ≤ 12 ∧ ∀ p ∈ l, ∃ sz, SimpleC p.1 p.2 sz)
theorem maAddress (l : List (Int × List UInt8)) (a : Option Addr) (cap : Nat) (w : World) (hin : CompsIn w a l) (hlen : l.length ≤ 1152921504606846976) (hval : ∀ p ∈ l, p.2.length ≤ 1152921504606846976) :
    Calls Tryz.prog 18 #[.slice a l.length cap] w (AddressPost l w) := by
  refine calls_of0 (args := [.slice a l.length cap]) Tryz.func18 rfl rfl rfl ?_
  refine To.runF 12 [] (fun _ _ => by kernel_rfl) fun f1 g1 l1 => ?_
  refine To.loop (fun k : Nat => l.length - k) (fun k => ([(0, .slice a l.length cap), (5, .slice a l.length cap), (6, .int .i64 (Int.ofNat l.length)), (7, .int .i64 (Int.ofNat k))], [])) (fun k _ => k ≤ l.length ∧ ∀ j p, j < k → l[j]? = some p → ∃ sz, SimpleC p.1 p.2 sz) 0 [] (by kernel_rfl) (by kernel_rfl) (by kernel_rfl) rfl (fun _ _ => ⟨Nat.zero_le _, fun j p h => by omega⟩) ?_
  rintro k w1 ⟨hk, hall⟩ hx1 back
  refine To.runF 5 [] (fun _ _ => by kernel_rfl) fun f2 g2 l2 => ?_
  by_cases hlt : k < l.length
  · obtain ⟨p, hp⟩ : ∃ p, l[k]? = some p := ⟨l[k], by simp [hlt]⟩
    obtain ⟨ad, va, cv, ha, hsp, hc0, hc1, hb⟩ := hin.at_ k p.1 p.2 hp
    refine To.testT (decide (Int.ofNat k < Int.ofNat l.length)) (by kernel_rfl) (decide_eq_true (Int.ofNat_lt.2 hlt)) ?_
    refine To.runF 6 [] (fun _ _ => by kernel_rfl) fun f3 g3 l3 => ?_
    refine To.indexAt elC a ad l.length cap k (by kernel_rfl) ha hlt ?_
    refine To.loadAgg (t := 37) (by kernel_rfl) 2 (by kernel_rfl) (ad.add (k * 2)) [.int .i64 p.1, .slice va p.2.length cv] rfl (by kernel_rfl) (fun w2 hw2 j v hj => by
      rw [add_add hsp]
      rcases j with _ | _ | j
      · cases hj; exact hw2.ext.cell hc0 (by simp)
      · cases hj; exact hw2.ext.cell hc1 (by simp)
      · cases hj) ?_
    refine To.runF 7 [0, 0, 0, 0] (fun _ _ => by kernel_rfl) fun f4 g4 l4 => ?_
    refine To.callN 33 #[.agg #[.int .i64 p.1, .slice va p.2.length cv]] (by kernel_rfl) (fun _ => by kernel_rfl) (fun w2 hw2 => simple p.1 va cv p.2 w2 (hb.later hw2.ext) (hval p (List.mem_of_getElem? hp))) (fun w2 v2 w3 hw2 hx2 hv2 hnew2 hwi2 => ?_)
    obtain ⟨b, rfl, hbs⟩ := hv2
    refine To.runF 2 [] (fun _ _ => by kernel_rfl) fun f5 g5 l5 => ?_
    refine To.slot 15 (!b) (by kernel_rfl) (fun _ => ?_) (fun hb0 => ?_)
    · refine To.runF 17 [] (fun _ _ => by kernel_rfl) fun f6 g6 l6 => ?_
      exact To.ret [] (.bool false) (by kernel_rfl) (by kernel_rfl) fun w4 hw4 => ⟨_, rfl, hw4.ext, _, rfl, fun h => by cases h⟩
    have hb1 : b = true := by simpa using hb0
    have hs1 := hbs hb1
    refine To.runF 4 [0] (fun _ _ => by kernel_rfl) fun f6 g6 l6 => ?_
    refine To.slot 19 (p.1 == 400) (by kernel_rfl) (fun _ => ?_) (fun _ => ?_)
    · refine To.runF 8 [] (fun _ _ => by kernel_rfl) fun f7 g7 l7 => ?_
      refine To.test (decide (Int.ofNat k < IntKind.i64.wrap (Int.ofNat l.length - 1))) (by kernel_rfl) (fun _ => ?_) (fun _ => ?_)
      · refine To.runF 4 [] (fun _ _ => by kernel_rfl) fun f8 g8 l8 => ?_
        exact To.ret [] (.bool false) (by kernel_rfl) (by kernel_rfl) fun w4 hw4 => ⟨_, rfl, hw4.ext, _, rfl, fun h => by cases h⟩
      refine To.runF 6 [] (fun _ _ => by kernel_rfl) fun f8 g8 l8 => ?_
      refine To.slotE 7 (.int .i64 (IntKind.i64.wrap (Int.ofNat k + 1))) (.int .i64 (Int.ofNat (k + 1))) (by kernel_rfl) (by rw [wrap_succ k (by omega)]) ?_
      exact back _ _ (k + 1) [] (by omega) ⟨by kernel_rfl, by kernel_rfl, by kernel_rfl, by kernel_rfl, by kernel_rfl, rfl⟩ (fun w7 hw7 => ⟨hlt, fun j q hj hq => by
        by_cases hjk : j = k
        · subst hjk; rw [hp] at hq; cases hq; exact hs1
        · exact hall j q (by omega) hq⟩)
    · refine To.runF 15 [] (fun _ _ => by kernel_rfl) fun f7 g7 l7 => ?_
      refine To.slotE 7 (.int .i64 (IntKind.i64.wrap (Int.ofNat k + 1))) (.int .i64 (Int.ofNat (k + 1))) (by kernel_rfl) (by rw [wrap_succ k (by omega)]) ?_
      exact back _ _ (k + 1) [] (by omega) ⟨by kernel_rfl, by kernel_rfl, by kernel_rfl, by kernel_rfl, by kernel_rfl, rfl⟩ (fun w7 hw7 => ⟨hlt, fun j q hj hq => by
        by_cases hjk : j = k
        · subst hjk; rw [hp] at hq; cases hq; exact hs1
        · exact hall j q (by omega) hq⟩)
  · have hk1 : k = l.length := by omega
    subst hk1
    refine To.testF (decide (Int.ofNat l.length < Int.ofNat l.length)) (by kernel_rfl) (by simp) ?_
    refine To.runF 7 [] (fun _ _ => by kernel_rfl) fun f3 g3 l3 => ?_
    refine To.slot 31 (decide (Int.ofNat l.length ≥ 1)) (by kernel_rfl) (fun h1 => ?_) (fun _ => ?_)
    · refine To.runF 6 [] (fun _ _ => by kernel_rfl) fun f4 g4 l4 => ?_
      exact To.ret [] (.bool (decide (Int.ofNat l.length ≤ 12))) (by kernel_rfl) (by kernel_rfl) fun w4 hw4 => ⟨_, rfl, hw4.ext, _, rfl, fun h => by
        have h2 := of_decide_eq_true h1
        have h3 := of_decide_eq_true h
        simp only [Int.ofNat_eq_natCast] at h2 h3
        exact ⟨by omega, by omega, fun p hp => by
          obtain ⟨j, hj⟩ := List.mem_iff_getElem?.1 hp
          exact hall j p (List.getElem?_eq_some_iff.1 hj).1 hj⟩⟩
    · refine To.runF 6 [] (fun _ _ => by kernel_rfl) fun f4 g4 l4 => ?_
      exact To.ret [] (.bool false) (by kernel_rfl) (by kernel_rfl) fun w4 hw4 => ⟨_, rfl, hw4.ext, _, rfl, fun h => by cases h⟩
end Go.Proofs.YtegcplghgnafjaaGreatDoor
/- Lists of addresses of plain data: whether they are no longer than a bound, whether they are simple. Conditions: as each says. -/
namespace Go.Proofs.YtegcplghgnafjaaGreatDoor
open Go Go.SX
set_option maxHeartbeats 8000000
set_option maxRecDepth 100000
abbrev Comps := List (Int × List UInt8)
/-- A slice holds these addresses. -/
structure AddrsIn (w : World) (a : Option Addr) (L : List Comps) : Prop where
  at_ : ∀ (j : Nat) (x : Comps), L[j]? = some x → ∃ ad b cap, a = some ad ∧ ad.spot = none ∧ w.cell? (ad.add (j * 1)) = some (.slice b x.length cap) ∧ CompsIn w b x
theorem AddrsIn.later {w w' : World} {a : Option Addr} {L : List Comps} (h : AddrsIn w a L) (hx : Ext [] w w') : AddrsIn w' a L :=
  ⟨fun j x hj => let ⟨ad, b, cap, h1, h2, h3, h4⟩ := h.at_ j x hj; ⟨ad, b, cap, h1, h2, hx.cell h3 (by simp), h4.later hx⟩⟩
theorem elA : Elem Tryz.prog 22 23 1 24 := Elem.of (z := .slice none 0 0) (by kernel_rfl) (by kernel_rfl) rfl
theorem uComps : Tryz.prog.underlying 23 = some (.slice 37) := by kernel_rfl
/-- What is small. -/
def Small (x : Comps) : Prop := x.length ≤ 2147483647 ∧ ∀ p ∈ x, p.2.length ≤ 2147483647
abbrev Fits12Post (L : List Comps) (w : World) (e : Ending) (w1 : World) : Prop := ∃ v, e = .returned v ∧ Ext [] w w1 ∧ ∃ b, v = .bool b ∧ (b = true → L.length ≤ 2147483647 ∧ ∀ x ∈ L, Small x)
theorem zzFits12 (L : List Comps) (a : Option Addr) (cap : Nat) (w : World) (hin : AddrsIn w a L) (hlen : L.length ≤ 1152921504606846976) (hlens : ∀ x ∈ L, x.length ≤ 1152921504606846976) :
    Calls Tryz.prog 4 #[.slice a L.length cap] w (Fits12Post L w) := by
  refine calls_of0 (args := [.slice a L.length cap]) Tryz.func4 rfl rfl rfl ?_
  refine To.runF 11 [] (fun _ _ => by kernel_rfl) fun f1 g1 l1 => ?_
  refine To.test (decide (Int.ofNat L.length > 2147483647)) (by kernel_rfl) (fun _ => ?_) (fun h0 => ?_)
  · refine To.runF 4 [] (fun _ _ => by kernel_rfl) fun f2 g2 l2 => ?_
    exact To.ret [] (.bool false) (by kernel_rfl) (by kernel_rfl) fun w4 hw4 => ⟨_, rfl, hw4.ext, _, rfl, fun h => by cases h⟩
  have h1 : L.length ≤ 2147483647 := by have := of_decide_eq_false h0; simp only [Int.ofNat_eq_natCast] at this; omega
  refine To.runF 9 [] (fun _ _ => by kernel_rfl) fun f2 g2 l2 => ?_
  refine To.loop (fun k : Nat => L.length - k) (fun k => ([(8, .slice a L.length cap), (9, .int .i64 (Int.ofNat L.length)), (10, .int .i64 (Int.ofNat k))], [])) (fun k _ => k ≤ L.length ∧ ∀ j x, j < k → L[j]? = some x → Small x) 0 [] (by kernel_rfl) (by kernel_rfl) (by kernel_rfl) rfl (fun _ _ => ⟨Nat.zero_le _, fun j p h => by omega⟩) ?_
  rintro k w1 ⟨hk, hall⟩ hx1 back
  refine To.runF 5 [] (fun _ _ => by kernel_rfl) fun f3 g3 l3 => ?_
  by_cases hlt : k < L.length
  · obtain ⟨x, hp⟩ : ∃ x, L[k]? = some x := ⟨L[k], by simp [hlt]⟩
    obtain ⟨ad, b0, cb, ha, hsp, hc0, hc⟩ := hin.at_ k x hp
    refine To.testT (decide (Int.ofNat k < Int.ofNat L.length)) (by kernel_rfl) (decide_eq_true (Int.ofNat_lt.2 hlt)) ?_
    refine To.runF 5 [] (fun _ _ => by kernel_rfl) fun f4 g4 l4 => ?_
    refine To.indexAt elA a ad L.length cap k (by kernel_rfl) ha hlt ?_
    refine To.loadOne uComps rfl (ad.add (k * 1)) (.slice b0 x.length cb) (by kernel_rfl) (fun w2 hw2 => hw2.ext.cell hc0 (by simp)) ?_
    refine To.runF 5 [] (fun _ _ => by kernel_rfl) fun f5 g5 l5 => ?_
    refine To.callN 5 #[.slice b0 x.length cb] (by kernel_rfl) (fun _ => by kernel_rfl) (fun w2 hw2 => zzFits6 x b0 cb w2 (hc.later hw2.ext) (hlens x (List.mem_of_getElem? hp))) (fun w2 v2 w3 hw2 hx2 hv2 hnew2 hwi2 => ?_)
    obtain ⟨b, rfl, hb⟩ := hv2
    refine To.runF 2 [] (fun _ _ => by kernel_rfl) fun f6 g6 l6 => ?_
    refine To.test (!b) (by kernel_rfl) (fun _ => ?_) (fun h2 => ?_)
    · refine To.runF 4 [] (fun _ _ => by kernel_rfl) fun f7 g7 l7 => ?_
      exact To.ret [] (.bool false) (by kernel_rfl) (by kernel_rfl) fun w4 hw4 => ⟨_, rfl, hw4.ext, _, rfl, fun h => by cases h⟩
    have h3 : Small x := hb (by simpa using h2)
    refine To.runF 6 [] (fun _ _ => by kernel_rfl) fun f7 g7 l7 => ?_
    refine To.slotE 10 (.int .i64 (IntKind.i64.wrap (Int.ofNat k + 1))) (.int .i64 (Int.ofNat (k + 1))) (by kernel_rfl) (by rw [wrap_succ k (by omega)]) ?_
    exact back _ _ (k + 1) [] (by omega) ⟨by kernel_rfl, by kernel_rfl, by kernel_rfl, by kernel_rfl, by kernel_rfl, rfl⟩ (fun w7 hw7 => ⟨hlt, fun j q hj hq => by
      by_cases hjk : j = k
      · subst hjk; rw [hp] at hq; cases hq; exact h3
      · exact hall j q (by omega) hq⟩)
  · have hk1 : k = L.length := by omega
    subst hk1
    refine To.testF (decide (Int.ofNat L.length < Int.ofNat L.length)) (by kernel_rfl) (by simp) ?_
    refine To.runF 5 [] (fun _ _ => by kernel_rfl) fun f4 g4 l4 => ?_
    exact To.ret [] (.bool true) (by kernel_rfl) (by kernel_rfl) fun w4 hw4 => ⟨_, rfl, hw4.ext, _, rfl, fun _ => ⟨h1, fun p hp => by
      obtain ⟨j, hj⟩ := List.mem_iff_getElem?.1 hp
      exact hall j p (List.getElem?_eq_some_iff.1 hj).1 hj⟩⟩
/-- A simple address, or an empty one. -/
def Simples (x : Comps) : Prop := x = [] ∨ (1 ≤ x.length ∧ x.length ≤ 12 ∧ ∀ p ∈ x, ∃ sz, SimpleC p.1 p.2 sz)
abbrev SimplesPost (L : List Comps) (w : World) (e : Ending) (w1 : World) : Prop := ∃ v, e = .returned v ∧ Ext [] w w1 ∧ ∃ b, v = .bool b ∧ (b = true → ∀ x ∈ L, Simples x)
theorem maSimple (L : List Comps) (a : Option Addr) (cap : Nat) (w : World) (hin : AddrsIn w a L) (hlen : L.length ≤ 1152921504606846976) (hs : ∀ x ∈ L, Small x) :
    Calls Tryz.prog 7 #[.slice a L.length cap] w (SimplesPost L w) := by
  refine calls_of0 (args := [.slice a L.length cap]) Tryz.func7 rfl rfl rfl ?_
  refine To.runF 12 [] (fun _ _ => by kernel_rfl) fun f1 g1 l1 => ?_
  refine To.loop (fun k : Nat => L.length - k) (fun k => ([(5, .slice a L.length cap), (6, .int .i64 (Int.ofNat L.length)), (7, .int .i64 (Int.ofNat k))], [])) (fun k _ => k ≤ L.length ∧ ∀ j x, j < k → L[j]? = some x → Simples x) 0 [] (by kernel_rfl) (by kernel_rfl) (by kernel_rfl) rfl (fun _ _ => ⟨Nat.zero_le _, fun j p h => by omega⟩) ?_
  rintro k w1 ⟨hk, hall⟩ hx1 back
  refine To.runF 5 [] (fun _ _ => by kernel_rfl) fun f2 g2 l2 => ?_
  by_cases hlt : k < L.length
  · obtain ⟨x, hp⟩ : ∃ x, L[k]? = some x := ⟨L[k], by simp [hlt]⟩
    obtain ⟨ad, b0, cb, ha, hsp, hc0, hc⟩ := hin.at_ k x hp
    have hsm := hs x (List.mem_of_getElem? hp)
    have fin : ∀ h3 : Simples x, ∀ j q, j < k + 1 → L[j]? = some q → Simples q := fun h3 j q hj hq => by
      by_cases hjk : j = k
      · subst hjk; rw [hp] at hq; cases hq; exact h3
      · exact hall j q (by omega) hq
    refine To.testT (decide (Int.ofNat k < Int.ofNat L.length)) (by kernel_rfl) (decide_eq_true (Int.ofNat_lt.2 hlt)) ?_
    refine To.runF 5 [] (fun _ _ => by kernel_rfl) fun f3 g3 l3 => ?_
    refine To.indexAt elA a ad L.length cap k (by kernel_rfl) ha hlt ?_
    refine To.loadOne uComps rfl (ad.add (k * 1)) (.slice b0 x.length cb) (by kernel_rfl) (fun w2 hw2 => hw2.ext.cell hc0 (by simp)) ?_
    refine To.runF 8 [] (fun _ _ => by kernel_rfl) fun f4 g4 l4 => ?_
    refine To.slot 14 (decide (Int.ofNat x.length > 0)) (by kernel_rfl) (fun _ => ?_) (fun h0 => ?_)
    · refine To.runF 1 [] (fun _ _ => by kernel_rfl) fun f5 g5 l5 => ?_
      refine To.callN 18 #[.slice b0 x.length cb] (by kernel_rfl) (fun _ => by kernel_rfl) (fun w2 hw2 => maAddress x b0 cb w2 (hc.later hw2.ext) (by have := hsm.1; omega) (fun p hp => by have := hsm.2 p hp; omega)) (fun w2 v2 w3 hw2 hx2 hv2 hnew2 hwi2 => ?_)
      obtain ⟨b, rfl, hb⟩ := hv2
      refine To.runF 3 [] (fun _ _ => by kernel_rfl) fun f6 g6 l6 => ?_
      refine To.test (!b) (by kernel_rfl) (fun _ => ?_) (fun h2 => ?_)
      · refine To.runF 4 [] (fun _ _ => by kernel_rfl) fun f7 g7 l7 => ?_
        exact To.ret [] (.bool false) (by kernel_rfl) (by kernel_rfl) fun w4 hw4 => ⟨_, rfl, hw4.ext, _, rfl, fun h => by cases h⟩
      refine To.runF 6 [] (fun _ _ => by kernel_rfl) fun f7 g7 l7 => ?_
      refine To.slotE 7 (.int .i64 (IntKind.i64.wrap (Int.ofNat k + 1))) (.int .i64 (Int.ofNat (k + 1))) (by kernel_rfl) (by rw [wrap_succ k (by omega)]) ?_
      exact back _ _ (k + 1) [] (by omega) ⟨by kernel_rfl, by kernel_rfl, by kernel_rfl, by kernel_rfl, by kernel_rfl, rfl⟩ (fun w7 hw7 => ⟨hlt, fin (.inr (hb (by simpa using h2)))⟩)
    · have hnil : x = [] := by
        have := of_decide_eq_false h0
        simp only [Int.ofNat_eq_natCast] at this
        exact List.eq_nil_of_length_eq_zero (by omega)
      refine To.runF 12 [] (fun _ _ => by kernel_rfl) fun f5 g5 l5 => ?_
      refine To.slotE 7 (.int .i64 (IntKind.i64.wrap (Int.ofNat k + 1))) (.int .i64 (Int.ofNat (k + 1))) (by kernel_rfl) (by rw [wrap_succ k (by omega)]) ?_
      exact back _ _ (k + 1) [] (by omega) ⟨by kernel_rfl, by kernel_rfl, by kernel_rfl, by kernel_rfl, by kernel_rfl, rfl⟩ (fun w7 hw7 => ⟨hlt, fin (.inl hnil)⟩)
  · have hk1 : k = L.length := by omega
    subst hk1
    refine To.testF (decide (Int.ofNat L.length < Int.ofNat L.length)) (by kernel_rfl) (by simp) ?_
    refine To.runF 5 [] (fun _ _ => by kernel_rfl) fun f3 g3 l3 => ?_
    exact To.ret [] (.bool true) (by kernel_rfl) (by kernel_rfl) fun w4 hw4 => ⟨_, rfl, hw4.ext, _, rfl, fun _ p hp => by
      obtain ⟨j, hj⟩ := List.mem_iff_getElem?.1 hp
      exact hall j p (List.getElem?_eq_some_iff.1 hj).1 hj⟩
end Go.Proofs.YtegcplghgnafjaaGreatDoor
/- Whether components, and addresses, of plain data are equal; whether a list has an address. Conditions: as each says. -/
namespace Go.Proofs.YtegcplghgnafjaaGreatDoor
open Go Go.SX
set_option maxHeartbeats 8000000
set_option maxRecDepth 100000
theorem str_eq (a b : List UInt8) : ((ByteArray.mk ⟨a⟩).toList == (ByteArray.mk ⟨b⟩).toList) = decide (a = b) := by
  rw [ByteArray.toList_eq, ByteArray.toList_eq]
  show (a == b) = decide (a = b)
  by_cases h : a = b <;> simp [h]
theorem maSame (p q : Int × List UInt8) (va vb : Option Addr) (ca cb : Nat) (w : World) (ha : BytesIn w va p.2) (hb : BytesIn w vb q.2) :
    Calls Tryz.prog 34 #[.agg #[.int .i64 p.1, .slice va p.2.length ca], .agg #[.int .i64 q.1, .slice vb q.2.length cb]] w
      (fun e w1 => ∃ v, e = .returned v ∧ Ext [] w w1 ∧ v = .bool (decide (p = q))) := by
  refine calls_of0 (args := [.agg #[.int .i64 p.1, .slice va p.2.length ca], .agg #[.int .i64 q.1, .slice vb q.2.length cb]]) Tryz.func34 rfl rfl rfl ?_
  refine To.runF 14 [0, 1] (fun _ _ => by kernel_rfl) fun f1 g1 l1 => ?_
  refine To.slot 10 (p.1 == q.1) (by kernel_rfl) (fun h1 => ?_) (fun h1 => ?_)
  · refine To.runF 2 [0] (fun _ _ => by kernel_rfl) fun f2 g2 l2 => ?_
    refine To.textOf va p.2.length ca p.2 rfl uBytes uString uU8 (by kernel_rfl) (fun w hw => (ha.later hw.ext).at_) ha.none ?_
    refine To.runF 2 [1] (fun _ _ => by kernel_rfl) fun f3 g3 l3 => ?_
    refine To.textOf vb q.2.length cb q.2 rfl uBytes uString uU8 (by kernel_rfl) (fun w hw => (hb.later hw.ext).at_) hb.none ?_
    refine To.runF 4 [] (fun _ _ => by kernel_rfl) fun f4 g4 l4 => ?_
    exact To.ret [] (.bool ((ByteArray.mk ⟨p.2⟩).toList == (ByteArray.mk ⟨q.2⟩).toList)) (by kernel_rfl) (by kernel_rfl) fun w4 hw4 => ⟨_, rfl, hw4.ext, by
      rw [str_eq]
      have e := eq_of_beq h1
      congr 1
      by_cases h : p.2 = q.2
      · rw [decide_eq_true h, decide_eq_true (Prod.ext e h)]
      · rw [decide_eq_false h, decide_eq_false (fun he => h (congrArg Prod.snd he))]⟩
  · refine To.runF 10 [] (fun _ _ => by kernel_rfl) fun f2 g2 l2 => ?_
    exact To.ret [] (.bool false) (by kernel_rfl) (by kernel_rfl) fun w4 hw4 => ⟨_, rfl, hw4.ext, by
      rw [decide_eq_false (fun he => by rw [he] at h1; simp at h1)]⟩
theorem spot_add {ad : Addr} (h : ad.spot = none) (i : Nat) : (ad.add i).spot = none := by unfold Addr.add; split <;> simp_all
theorem cells_at {w : World} {b : Nat} {c : Array Value} {e : TypeId} {z : Nat × Nat} {ad : Addr} {v : Value} (hB : w.heap[b]? = some (.cells c e z)) (hb : ad.block = b) (h : w.cell? ad = some v) : c[ad.off]? = some v := by
  obtain ⟨c', e', z', h1, _, h2⟩ := block_of_cell h
  rw [hb, hB] at h1
  simp only [Option.some.injEq, Obj.cells.injEq] at h1
  rw [h1.1]; exact h2
theorem maAlike (x y : Comps) (a b : Option Addr) (ca cb : Nat) (w : World) (ha : CompsIn w a x) (hb : CompsIn w b y) (hx : x.length ≤ 1152921504606846976) (hy : y.length ≤ 1152921504606846976) :
    Calls Tryz.prog 20 #[.slice a x.length ca, .slice b y.length cb] w (fun e w1 => ∃ v, e = .returned v ∧ Ext [] w w1 ∧ v = .bool (decide (x = y))) := by
  refine calls_of0 (args := [.slice a x.length ca, .slice b y.length cb]) Tryz.func20 rfl rfl rfl ?_
  refine To.runF 13 [] (fun _ _ => by kernel_rfl) fun f1 g1 l1 => ?_
  by_cases hl : x.length = y.length
  · refine To.testF (Int.ofNat x.length != Int.ofNat y.length) (by kernel_rfl) (by rw [hl]; simp) ?_
    refine To.runF 9 [] (fun _ _ => by kernel_rfl) fun f2 g2 l2 => ?_
    refine To.loop (fun k : Nat => x.length - k) (fun k => ([(0, .slice a x.length ca), (1, .slice b y.length cb), (12, .int .i64 (Int.ofNat x.length)), (13, .int .i64 (Int.ofNat k))], [])) (fun k _ => k ≤ x.length ∧ x.take k = y.take k) 0 [] (by kernel_rfl) (by kernel_rfl) (by kernel_rfl) rfl (fun _ _ => ⟨Nat.zero_le _, rfl⟩) ?_
    rintro k w1 ⟨hk, hall⟩ hx1 back
    refine To.runF 5 [] (fun _ _ => by kernel_rfl) fun f3 g3 l3 => ?_
    by_cases hlt : k < x.length
    · obtain ⟨p, hp⟩ : ∃ p, x[k]? = some p := ⟨x[k], by simp [hlt]⟩
      obtain ⟨q, hq⟩ : ∃ q, y[k]? = some q := ⟨y[k]'(by omega), by simp [← hl, hlt]⟩
      obtain ⟨ad, va, cv, ha0, hsp, hc0, hc1, hva⟩ := ha.at_ k p.1 p.2 hp
      obtain ⟨bd, vb, dv, hb0, hsq, hd0, hd1, hvb⟩ := hb.at_ k q.1 q.2 hq
      refine To.testT (decide (Int.ofNat k < Int.ofNat x.length)) (by kernel_rfl) (decide_eq_true (Int.ofNat_lt.2 hlt)) ?_
      obtain ⟨c1, e1, z1, hB1, _, hP0⟩ := block_of_cell hc0
      obtain ⟨c2, e2, z2, hB2, _, hQ0⟩ := block_of_cell hd0
      have hP1 := cells_at hB1 (by rw [add_block, add_block]) hc1
      have hQ1 := cells_at hB2 (by rw [add_block, add_block]) hd1
      rw [add_block] at hB1 hB2
      by_cases hbb : ad.block = bd.block
      · have hB3 := hB2
        rw [← hbb, hB1] at hB3
        simp only [Option.some.injEq, Obj.cells.injEq] at hB3
        obtain ⟨rfl, rfl, rfl⟩ := hB3
        refine To.withAt ad.block (.cells c1 e1 z1) false (hx1.at hB1 (by simp)) (nums_all (Q := fun n => n ≠ ad.block) (l := []) (by kernel_rfl) trivial) (by simp) ?_
        refine To.runF 14 [1, 0, 0, 1, 4, 5] (fun _ _ => by kernel_rfl) fun f4 g4 l4 => ?_
        refine To.indexAtE 2 elC a ad x.length ca k (by kernel_rfl) ha0 hlt ?_
        refine To.indexAtE 6 elC b bd y.length cb k (by kernel_rfl) hb0 (by omega) ?_
        refine To.loadAggE 3 (t := 37) (by kernel_rfl) 2 (by kernel_rfl) (ad.add (k * 2)) [.int .i64 p.1, .slice va p.2.length cv] rfl (by kernel_rfl) (fun w2 hw2 j v hj => by
          rw [add_add hsp]
          rcases j with _ | _ | j
          · cases hj; exact SH.cell (j := 0) (b := ad.block) (c := c1) (e := e1) (z := z1) (q := false) hw2 (by kernel_rfl) (add_block _ _) (spot_add hsp _) hP0
          · cases hj; exact SH.cell (j := 0) (b := ad.block) (c := c1) (e := e1) (z := z1) (q := false) hw2 (by kernel_rfl) (add_block _ _) (spot_add hsp _) hP1
          · cases hj) ?_
        refine To.loadAggE 7 (t := 37) (by kernel_rfl) 2 (by kernel_rfl) (bd.add (k * 2)) [.int .i64 q.1, .slice vb q.2.length dv] rfl (by kernel_rfl) (fun w2 hw2 j v hj => by
          rw [add_add hsq]
          rcases j with _ | _ | j
          · cases hj; exact SH.cell (j := 0) (b := ad.block) (c := c1) (e := e1) (z := z1) (q := false) hw2 (by kernel_rfl) ((add_block _ _).trans hbb.symm) (spot_add hsq _) hQ0
          · cases hj; exact SH.cell (j := 0) (b := ad.block) (c := c1) (e := e1) (z := z1) (q := false) hw2 (by kernel_rfl) ((add_block _ _).trans hbb.symm) (spot_add hsq _) hQ1
          · cases hj) ?_
        refine To.callN 34 #[.agg #[.int .i64 p.1, .slice va p.2.length cv], .agg #[.int .i64 q.1, .slice vb q.2.length dv]] (by kernel_rfl) (fun _ => by kernel_rfl) (fun w2 hw2 => maSame p q va vb cv dv w2 (hva.later hw2.ext) (hvb.later hw2.ext)) (fun w2 v2 w3 hw2 hx2 hv2 hnew2 hwi2 => ?_)
        subst hv2
        refine To.runF 2 [] (fun _ _ => by kernel_rfl) fun f5 g5 l5 => ?_
        refine To.test (!decide (p = q)) (by kernel_rfl) (fun h2 => ?_) (fun h2 => ?_)
        · refine To.runF 4 [] (fun _ _ => by kernel_rfl) fun f6 g6 l6 => ?_
          exact To.ret [] (.bool false) (by kernel_rfl) (by kernel_rfl) fun w4 hw4 => ⟨_, rfl, hw4.ext, by
            have hpq : p ≠ q := by simpa using h2
            rw [decide_eq_false (fun he => hpq (by rw [he, hq] at hp; exact (Option.some.inj hp).symm))]⟩
        have hpq : p = q := by simpa using h2
        refine To.runF 6 [] (fun _ _ => by kernel_rfl) fun f6 g6 l6 => ?_
        refine To.slotE 13 (.int .i64 (IntKind.i64.wrap (Int.ofNat k + 1))) (.int .i64 (Int.ofNat (k + 1))) (by kernel_rfl) (by rw [wrap_succ k (by omega)]) ?_
        exact back _ _ (k + 1) [] (by omega) ⟨by kernel_rfl, by kernel_rfl, by kernel_rfl, by kernel_rfl, by kernel_rfl, rfl⟩ (fun w7 hw7 => ⟨hlt, by
          rw [List.take_add_one, List.take_add_one, hall, hp, hq, hpq]⟩)
      · refine To.withAt ad.block (.cells c1 e1 z1) false (hx1.at hB1 (by simp)) (nums_all (Q := fun n => n ≠ ad.block) (l := []) (by kernel_rfl) trivial) (by simp) ?_
        refine To.withAt bd.block (.cells c2 e2 z2) false (hx1.at hB2 (by simp)) (nums_all (Q := fun n => n ≠ bd.block) (l := [some ad.block]) (by kernel_rfl) ⟨hbb, trivial⟩) (by simp) ?_
        refine To.runF 14 [2, 0, 1, 0, 1, 4, 5] (fun _ _ => by kernel_rfl) fun f4 g4 l4 => ?_
        refine To.indexAtE 2 elC a ad x.length ca k (by kernel_rfl) ha0 hlt ?_
        refine To.indexAtE 6 elC b bd y.length cb k (by kernel_rfl) hb0 (by omega) ?_
        refine To.loadAggE 3 (t := 37) (by kernel_rfl) 2 (by kernel_rfl) (ad.add (k * 2)) [.int .i64 p.1, .slice va p.2.length cv] rfl (by kernel_rfl) (fun w2 hw2 j v hj => by
          rw [add_add hsp]
          rcases j with _ | _ | j
          · cases hj; exact SH.cell (j := 0) (b := ad.block) (c := c1) (e := e1) (z := z1) (q := false) hw2 (by kernel_rfl) (add_block _ _) (spot_add hsp _) hP0
          · cases hj; exact SH.cell (j := 0) (b := ad.block) (c := c1) (e := e1) (z := z1) (q := false) hw2 (by kernel_rfl) (add_block _ _) (spot_add hsp _) hP1
          · cases hj) ?_
        refine To.loadAggE 7 (t := 37) (by kernel_rfl) 2 (by kernel_rfl) (bd.add (k * 2)) [.int .i64 q.1, .slice vb q.2.length dv] rfl (by kernel_rfl) (fun w2 hw2 j v hj => by
          rw [add_add hsq]
          rcases j with _ | _ | j
          · cases hj; exact SH.cell (j := 1) (b := bd.block) (c := c2) (e := e2) (z := z2) (q := false) hw2 (by kernel_rfl) (add_block _ _) (spot_add hsq _) hQ0
          · cases hj; exact SH.cell (j := 1) (b := bd.block) (c := c2) (e := e2) (z := z2) (q := false) hw2 (by kernel_rfl) (add_block _ _) (spot_add hsq _) hQ1
          · cases hj) ?_
        refine To.callN 34 #[.agg #[.int .i64 p.1, .slice va p.2.length cv], .agg #[.int .i64 q.1, .slice vb q.2.length dv]] (by kernel_rfl) (fun _ => by kernel_rfl) (fun w2 hw2 => maSame p q va vb cv dv w2 (hva.later hw2.ext) (hvb.later hw2.ext)) (fun w2 v2 w3 hw2 hx2 hv2 hnew2 hwi2 => ?_)
        subst hv2
        refine To.runF 2 [] (fun _ _ => by kernel_rfl) fun f5 g5 l5 => ?_
        refine To.test (!decide (p = q)) (by kernel_rfl) (fun h2 => ?_) (fun h2 => ?_)
        · refine To.runF 4 [] (fun _ _ => by kernel_rfl) fun f6 g6 l6 => ?_
          exact To.ret [] (.bool false) (by kernel_rfl) (by kernel_rfl) fun w4 hw4 => ⟨_, rfl, hw4.ext, by
            have hpq : p ≠ q := by simpa using h2
            rw [decide_eq_false (fun he => hpq (by rw [he, hq] at hp; exact (Option.some.inj hp).symm))]⟩
        have hpq : p = q := by simpa using h2
        refine To.runF 6 [] (fun _ _ => by kernel_rfl) fun f6 g6 l6 => ?_
        refine To.slotE 13 (.int .i64 (IntKind.i64.wrap (Int.ofNat k + 1))) (.int .i64 (Int.ofNat (k + 1))) (by kernel_rfl) (by rw [wrap_succ k (by omega)]) ?_
        exact back _ _ (k + 1) [] (by omega) ⟨by kernel_rfl, by kernel_rfl, by kernel_rfl, by kernel_rfl, by kernel_rfl, rfl⟩ (fun w7 hw7 => ⟨hlt, by
          rw [List.take_add_one, List.take_add_one, hall, hp, hq, hpq]⟩)
    · have hk1 : k = x.length := by omega
      subst hk1
      refine To.testF (decide (Int.ofNat x.length < Int.ofNat x.length)) (by kernel_rfl) (by simp) ?_
      refine To.runF 5 [] (fun _ _ => by kernel_rfl) fun f4 g4 l4 => ?_
      exact To.ret [] (.bool true) (by kernel_rfl) (by kernel_rfl) fun w4 hw4 => ⟨_, rfl, hw4.ext, by
        rw [List.take_length, hl, List.take_length] at hall
        rw [decide_eq_true hall]⟩
  · refine To.testT (Int.ofNat x.length != Int.ofNat y.length) (by kernel_rfl) (by simp only [bne_iff_ne, ne_eq]; intro h; exact hl (Int.ofNat.inj h)) ?_
    refine To.runF 4 [] (fun _ _ => by kernel_rfl) fun f2 g2 l2 => ?_
    exact To.ret [] (.bool false) (by kernel_rfl) (by kernel_rfl) fun w4 hw4 => ⟨_, rfl, hw4.ext, by rw [decide_eq_false (fun he => hl (congrArg List.length he))]⟩
end Go.Proofs.YtegcplghgnafjaaGreatDoor
/- Lists of codes of plain data; whether a list has an address; the first component with one of some codes. Conditions: as each says. -/
namespace Go.Proofs.YtegcplghgnafjaaGreatDoor
open Go Go.SX
set_option maxHeartbeats 8000000
set_option maxRecDepth 100000
/-- A slice holds these numbers. -/
structure IntsIn (w : World) (a : Option Addr) (l : List Int) : Prop where
  at_ : ∀ (j : Nat) (n : Int), l[j]? = some n → ∃ ad, a = some ad ∧ ad.spot = none ∧ w.cell? (ad.add (j * 1)) = some (.int .i64 n)
theorem IntsIn.later {w w' : World} {a : Option Addr} {l : List Int} (h : IntsIn w a l) (hx : Ext [] w w') : IntsIn w' a l :=
  ⟨fun j x hj => let ⟨ad, h1, h2, h3⟩ := h.at_ j x hj; ⟨ad, h1, h2, hx.cell h3 (by simp)⟩⟩
/-- A slice holds these lists of numbers. -/
structure CodesIn (w : World) (a : Option Addr) (L : List (List Int)) : Prop where
  at_ : ∀ (j : Nat) (x : List Int), L[j]? = some x → ∃ ad b cap, a = some ad ∧ ad.spot = none ∧ w.cell? (ad.add (j * 1)) = some (.slice b x.length cap) ∧ IntsIn w b x
theorem CodesIn.later {w w' : World} {a : Option Addr} {L : List (List Int)} (h : CodesIn w a L) (hx : Ext [] w w') : CodesIn w' a L :=
  ⟨fun j x hj => let ⟨ad, b, cap, h1, h2, h3, h4⟩ := h.at_ j x hj; ⟨ad, b, cap, h1, h2, hx.cell h3 (by simp), h4.later hx⟩⟩
theorem elI : Elem Tryz.prog 39 3 1 8 := Elem.of (z := .int .i64 0) (by kernel_rfl) (by kernel_rfl) rfl
theorem elL : Elem Tryz.prog 24 39 1 24 := Elem.of (z := .slice none 0 0) (by kernel_rfl) (by kernel_rfl) rfl
theorem uInts : Tryz.prog.underlying 39 = some (.slice 3) := by kernel_rfl
theorem uInt : Tryz.prog.underlying 3 = some (.int .i64) := by kernel_rfl
abbrev Fits13Post (L : List (List Int)) (w : World) (e : Ending) (w1 : World) : Prop := ∃ v, e = .returned v ∧ Ext [] w w1 ∧ ∃ b, v = .bool b ∧ (b = true → L.length ≤ 2147483647 ∧ ∀ x ∈ L, x.length ≤ 2147483647)
theorem zzFits13 (L : List (List Int)) (a : Option Addr) (cap : Nat) (w : World) (hin : CodesIn w a L) (hlen : L.length ≤ 1152921504606846976) (hlens : ∀ x ∈ L, x.length ≤ 1152921504606846976) :
    Calls Tryz.prog 6 #[.slice a L.length cap] w (Fits13Post L w) := by
  refine calls_of0 (args := [.slice a L.length cap]) Tryz.func6 rfl rfl rfl ?_
  refine To.runF 11 [] (fun _ _ => by kernel_rfl) fun f1 g1 l1 => ?_
  refine To.test (decide (Int.ofNat L.length > 2147483647)) (by kernel_rfl) (fun _ => ?_) (fun h0 => ?_)
  · refine To.runF 4 [] (fun _ _ => by kernel_rfl) fun f2 g2 l2 => ?_
    exact To.ret [] (.bool false) (by kernel_rfl) (by kernel_rfl) fun w4 hw4 => ⟨_, rfl, hw4.ext, _, rfl, fun h => by cases h⟩
  have h1 : L.length ≤ 2147483647 := by have := of_decide_eq_false h0; simp only [Int.ofNat_eq_natCast] at this; omega
  refine To.runF 9 [] (fun _ _ => by kernel_rfl) fun f2 g2 l2 => ?_
  refine To.loop (fun k : Nat => L.length - k) (fun k => ([(8, .slice a L.length cap), (9, .int .i64 (Int.ofNat L.length)), (10, .int .i64 (Int.ofNat k))], [])) (fun k _ => k ≤ L.length ∧ ∀ j x, j < k → L[j]? = some x → x.length ≤ 2147483647) 0 [] (by kernel_rfl) (by kernel_rfl) (by kernel_rfl) rfl (fun _ _ => ⟨Nat.zero_le _, fun j p h => by omega⟩) ?_
  rintro k w1 ⟨hk, hall⟩ hx1 back
  refine To.runF 5 [] (fun _ _ => by kernel_rfl) fun f3 g3 l3 => ?_
  by_cases hlt : k < L.length
  · obtain ⟨x, hp⟩ : ∃ x, L[k]? = some x := ⟨L[k], by simp [hlt]⟩
    obtain ⟨ad, b0, cb, ha, hsp, hc0, hc⟩ := hin.at_ k x hp
    refine To.testT (decide (Int.ofNat k < Int.ofNat L.length)) (by kernel_rfl) (decide_eq_true (Int.ofNat_lt.2 hlt)) ?_
    refine To.runF 5 [] (fun _ _ => by kernel_rfl) fun f4 g4 l4 => ?_
    refine To.indexAt elL a ad L.length cap k (by kernel_rfl) ha hlt ?_
    refine To.loadOne uInts rfl (ad.add (k * 1)) (.slice b0 x.length cb) (by kernel_rfl) (fun w2 hw2 => hw2.ext.cell hc0 (by simp)) ?_
    refine To.runF 8 [] (fun _ _ => by kernel_rfl) fun f5 g5 l5 => ?_
    refine To.test (decide (Int.ofNat x.length > 2147483647)) (by kernel_rfl) (fun _ => ?_) (fun h2 => ?_)
    · refine To.runF 4 [] (fun _ _ => by kernel_rfl) fun f6 g6 l6 => ?_
      exact To.ret [] (.bool false) (by kernel_rfl) (by kernel_rfl) fun w4 hw4 => ⟨_, rfl, hw4.ext, _, rfl, fun h => by cases h⟩
    have h3 : x.length ≤ 2147483647 := by have := of_decide_eq_false h2; simp only [Int.ofNat_eq_natCast] at this; omega
    refine To.runF 6 [] (fun _ _ => by kernel_rfl) fun f6 g6 l6 => ?_
    refine To.slotE 10 (.int .i64 (IntKind.i64.wrap (Int.ofNat k + 1))) (.int .i64 (Int.ofNat (k + 1))) (by kernel_rfl) (by rw [wrap_succ k (by omega)]) ?_
    exact back _ _ (k + 1) [] (by omega) ⟨by kernel_rfl, by kernel_rfl, by kernel_rfl, by kernel_rfl, by kernel_rfl, rfl⟩ (fun w7 hw7 => ⟨hlt, fun j q hj hq => by
      by_cases hjk : j = k
      · subst hjk; rw [hp] at hq; cases hq; exact h3
      · exact hall j q (by omega) hq⟩)
  · have hk1 : k = L.length := by omega
    subst hk1
    refine To.testF (decide (Int.ofNat L.length < Int.ofNat L.length)) (by kernel_rfl) (by simp) ?_
    refine To.runF 5 [] (fun _ _ => by kernel_rfl) fun f4 g4 l4 => ?_
    exact To.ret [] (.bool true) (by kernel_rfl) (by kernel_rfl) fun w4 hw4 => ⟨_, rfl, hw4.ext, _, rfl, fun _ => ⟨h1, fun p hp => by
      obtain ⟨j, hj⟩ := List.mem_iff_getElem?.1 hp
      exact hall j p (List.getElem?_eq_some_iff.1 hj).1 hj⟩⟩
theorem not_mem_take {α : Type} {L : List α} {x y : α} {k : Nat} (h : x ∉ L.take k) (hy : L[k]? = some y) (hne : x ≠ y) : x ∉ L.take (k + 1) := by
  rw [List.take_add_one, hy]
  simp only [Option.toList_some, List.mem_append, List.mem_singleton, not_or]
  exact ⟨h, hne⟩
theorem maContains (L : List Comps) (x : Comps) (a b : Option Addr) (ca cb : Nat) (w : World) (hin : AddrsIn w a L) (hb : CompsIn w b x) (hlen : L.length ≤ 1152921504606846976) (hx : x.length ≤ 1152921504606846976) (hs : ∀ x ∈ L, x.length ≤ 1152921504606846976) :
    Calls Tryz.prog 10 #[.slice a L.length ca, .slice b x.length cb] w (fun e w1 => ∃ v, e = .returned v ∧ Ext [] w w1 ∧ v = .bool (decide (x ∈ L))) := by
  refine calls_of0 (args := [.slice a L.length ca, .slice b x.length cb]) Tryz.func10 rfl rfl rfl ?_
  refine To.runF 12 [] (fun _ _ => by kernel_rfl) fun f1 g1 l1 => ?_
  refine To.loop (fun k : Nat => L.length - k) (fun k => ([(1, .slice b x.length cb), (7, .slice a L.length ca), (8, .int .i64 (Int.ofNat L.length)), (9, .int .i64 (Int.ofNat k))], [])) (fun k _ => k ≤ L.length ∧ x ∉ L.take k) 0 [] (by kernel_rfl) (by kernel_rfl) (by kernel_rfl) rfl (fun _ _ => ⟨Nat.zero_le _, by simp⟩) ?_
  rintro k w1 ⟨hk, hall⟩ hx1 back
  refine To.runF 5 [] (fun _ _ => by kernel_rfl) fun f2 g2 l2 => ?_
  by_cases hlt : k < L.length
  · obtain ⟨y, hp⟩ : ∃ y, L[k]? = some y := ⟨L[k], by simp [hlt]⟩
    obtain ⟨ad, b0, c0, ha, hsp, hc0, hc⟩ := hin.at_ k y hp
    refine To.testT (decide (Int.ofNat k < Int.ofNat L.length)) (by kernel_rfl) (decide_eq_true (Int.ofNat_lt.2 hlt)) ?_
    refine To.runF 5 [] (fun _ _ => by kernel_rfl) fun f3 g3 l3 => ?_
    refine To.indexAt elA a ad L.length ca k (by kernel_rfl) ha hlt ?_
    refine To.loadOne uComps rfl (ad.add (k * 1)) (.slice b0 y.length c0) (by kernel_rfl) (fun w2 hw2 => hw2.ext.cell hc0 (by simp)) ?_
    refine To.runF 6 [] (fun _ _ => by kernel_rfl) fun f4 g4 l4 => ?_
    refine To.callN 20 #[.slice b x.length cb, .slice b0 y.length c0] (by kernel_rfl) (fun _ => by kernel_rfl) (fun w2 hw2 => maAlike x y b b0 cb c0 w2 (hb.later hw2.ext) (hc.later hw2.ext) hx (hs y (List.mem_of_getElem? hp))) (fun w2 v2 w3 hw2 hx2 hv2 hnew2 hwi2 => ?_)
    subst hv2
    refine To.runF 1 [] (fun _ _ => by kernel_rfl) fun f5 g5 l5 => ?_
    refine To.test (decide (x = y)) (by kernel_rfl) (fun h2 => ?_) (fun h2 => ?_)
    · refine To.runF 4 [] (fun _ _ => by kernel_rfl) fun f6 g6 l6 => ?_
      exact To.ret [] (.bool true) (by kernel_rfl) (by kernel_rfl) fun w4 hw4 => ⟨_, rfl, hw4.ext, by
        rw [decide_eq_true]
        rw [of_decide_eq_true h2]; exact List.mem_of_getElem? hp⟩
    refine To.runF 6 [] (fun _ _ => by kernel_rfl) fun f6 g6 l6 => ?_
    refine To.slotE 9 (.int .i64 (IntKind.i64.wrap (Int.ofNat k + 1))) (.int .i64 (Int.ofNat (k + 1))) (by kernel_rfl) (by rw [wrap_succ k (by omega)]) ?_
    exact back _ _ (k + 1) [] (by omega) ⟨by kernel_rfl, by kernel_rfl, by kernel_rfl, by kernel_rfl, by kernel_rfl, rfl⟩ (fun w7 hw7 => ⟨hlt, not_mem_take hall hp (of_decide_eq_false h2)⟩)
  · have hk1 : k = L.length := by omega
    subst hk1
    refine To.testF (decide (Int.ofNat L.length < Int.ofNat L.length)) (by kernel_rfl) (by simp) ?_
    refine To.runF 5 [] (fun _ _ => by kernel_rfl) fun f3 g3 l3 => ?_
    exact To.ret [] (.bool false) (by kernel_rfl) (by kernel_rfl) fun w4 hw4 => ⟨_, rfl, hw4.ext, by
      rw [List.take_length] at hall
      rw [decide_eq_false hall]⟩
theorem maHas (l : List Int) (c : Int) (a : Option Addr) (ca : Nat) (w : World) (hin : IntsIn w a l) (hlen : l.length ≤ 1152921504606846976) :
    Calls Tryz.prog 42 #[.slice a l.length ca, .int .i64 c] w (fun e w1 => ∃ v, e = .returned v ∧ Ext [] w w1 ∧ v = .bool (decide (c ∈ l))) := by
  refine calls_of0 (args := [.slice a l.length ca, .int .i64 c]) Tryz.func42 rfl rfl rfl ?_
  refine To.runF 12 [] (fun _ _ => by kernel_rfl) fun f1 g1 l1 => ?_
  refine To.loop (fun k : Nat => l.length - k) (fun k => ([(1, .int .i64 c), (7, .slice a l.length ca), (8, .int .i64 (Int.ofNat l.length)), (9, .int .i64 (Int.ofNat k))], [])) (fun k _ => k ≤ l.length ∧ c ∉ l.take k) 0 [] (by kernel_rfl) (by kernel_rfl) (by kernel_rfl) rfl (fun _ _ => ⟨Nat.zero_le _, by simp⟩) ?_
  rintro k w1 ⟨hk, hall⟩ hx1 back
  refine To.runF 5 [] (fun _ _ => by kernel_rfl) fun f2 g2 l2 => ?_
  by_cases hlt : k < l.length
  · obtain ⟨y, hp⟩ : ∃ y, l[k]? = some y := ⟨l[k], by simp [hlt]⟩
    obtain ⟨ad, ha, hsp, hc0⟩ := hin.at_ k y hp
    refine To.testT (decide (Int.ofNat k < Int.ofNat l.length)) (by kernel_rfl) (decide_eq_true (Int.ofNat_lt.2 hlt)) ?_
    refine To.runF 5 [] (fun _ _ => by kernel_rfl) fun f3 g3 l3 => ?_
    refine To.indexAt elI a ad l.length ca k (by kernel_rfl) ha hlt ?_
    refine To.loadOne uInt rfl (ad.add (k * 1)) (.int .i64 y) (by kernel_rfl) (fun w2 hw2 => hw2.ext.cell hc0 (by simp)) ?_
    refine To.runF 8 [] (fun _ _ => by kernel_rfl) fun f4 g4 l4 => ?_
    refine To.test (y == c) (by kernel_rfl) (fun h2 => ?_) (fun h2 => ?_)
    · refine To.runF 4 [] (fun _ _ => by kernel_rfl) fun f5 g5 l5 => ?_
      exact To.ret [] (.bool true) (by kernel_rfl) (by kernel_rfl) fun w4 hw4 => ⟨_, rfl, hw4.ext, by
        rw [decide_eq_true]
        rw [← eq_of_beq h2]; exact List.mem_of_getElem? hp⟩
    refine To.runF 6 [] (fun _ _ => by kernel_rfl) fun f5 g5 l5 => ?_
    refine To.slotE 9 (.int .i64 (IntKind.i64.wrap (Int.ofNat k + 1))) (.int .i64 (Int.ofNat (k + 1))) (by kernel_rfl) (by rw [wrap_succ k (by omega)]) ?_
    exact back _ _ (k + 1) [] (by omega) ⟨by kernel_rfl, by kernel_rfl, by kernel_rfl, by kernel_rfl, by kernel_rfl, rfl⟩ (fun w7 hw7 => ⟨hlt, not_mem_take hall hp (fun he => by rw [he] at h2; simp at h2)⟩)
  · have hk1 : k = l.length := by omega
    subst hk1
    refine To.testF (decide (Int.ofNat l.length < Int.ofNat l.length)) (by kernel_rfl) (by simp) ?_
    refine To.runF 5 [] (fun _ _ => by kernel_rfl) fun f3 g3 l3 => ?_
    exact To.ret [] (.bool false) (by kernel_rfl) (by kernel_rfl) fun w4 hw4 => ⟨_, rfl, hw4.ext, by
      rw [List.take_length] at hall
      rw [decide_eq_false hall]⟩
/-- Whether an address has a component with one of these codes. -/
def anyOf (x : Comps) (l : List Int) : Bool := x.any fun p => decide (p.1 ∈ l)
abbrev FirstPost (x : Comps) (l : List Int) (w : World) (e : Ending) (w1 : World) : Prop := ∃ v, e = .returned v ∧ Ext [] w w1 ∧ ∃ k : Nat, v = .int .i64 (Int.ofNat k) ∧ decide (k < x.length) = anyOf x l
theorem maFirst (x : Comps) (l : List Int) (a b : Option Addr) (ca cb : Nat) (w : World) (hin : CompsIn w a x) (hl : IntsIn w b l) (hlen : x.length ≤ 1152921504606846976) (hlb : l.length ≤ 1152921504606846976) :
    Calls Tryz.prog 32 #[.slice a x.length ca, .slice b l.length cb] w (FirstPost x l w) := by
  refine calls_of0 (args := [.slice a x.length ca, .slice b l.length cb]) Tryz.func32 rfl rfl rfl ?_
  refine To.runF 12 [] (fun _ _ => by kernel_rfl) fun f1 g1 l1 => ?_
  refine To.loop (fun k : Nat => x.length - k) (fun k => ([(0, .slice a x.length ca), (1, .slice b l.length cb), (7, .slice a x.length ca), (8, .int .i64 (Int.ofNat x.length)), (9, .int .i64 (Int.ofNat k))], [])) (fun k _ => k ≤ x.length ∧ anyOf (x.take k) l = false) 0 [] (by kernel_rfl) (by kernel_rfl) (by kernel_rfl) rfl (fun _ _ => ⟨Nat.zero_le _, rfl⟩) ?_
  rintro k w1 ⟨hk, hall⟩ hx1 back
  refine To.runF 5 [] (fun _ _ => by kernel_rfl) fun f2 g2 l2 => ?_
  by_cases hlt : k < x.length
  · obtain ⟨p, hp⟩ : ∃ p, x[k]? = some p := ⟨x[k], by simp [hlt]⟩
    obtain ⟨ad, va, cv, ha, hsp, hc0, hc1, hv⟩ := hin.at_ k p.1 p.2 hp
    refine To.testT (decide (Int.ofNat k < Int.ofNat x.length)) (by kernel_rfl) (decide_eq_true (Int.ofNat_lt.2 hlt)) ?_
    refine To.runF 6 [] (fun _ _ => by kernel_rfl) fun f3 g3 l3 => ?_
    refine To.indexAt elC a ad x.length ca k (by kernel_rfl) ha hlt ?_
    refine To.loadAgg (t := 37) (by kernel_rfl) 2 (by kernel_rfl) (ad.add (k * 2)) [.int .i64 p.1, .slice va p.2.length cv] rfl (by kernel_rfl) (fun w2 hw2 j v hj => by
      rw [add_add hsp]
      rcases j with _ | _ | j
      · cases hj; exact hw2.ext.cell hc0 (by simp)
      · cases hj; exact hw2.ext.cell hc1 (by simp)
      · cases hj) ?_
    refine To.runF 9 [0, 0, 0] (fun _ _ => by kernel_rfl) fun f4 g4 l4 => ?_
    refine To.callN 42 #[.slice b l.length cb, .int .i64 p.1] (by kernel_rfl) (fun _ => by kernel_rfl) (fun w2 hw2 => maHas l p.1 b cb w2 (hl.later hw2.ext) hlb) (fun w2 v2 w3 hw2 hx2 hv2 hnew2 hwi2 => ?_)
    subst hv2
    refine To.runF 1 [] (fun _ _ => by kernel_rfl) fun f5 g5 l5 => ?_
    refine To.test (decide (p.1 ∈ l)) (by kernel_rfl) (fun h2 => ?_) (fun h2 => ?_)
    · refine To.runF 5 [] (fun _ _ => by kernel_rfl) fun f6 g6 l6 => ?_
      exact To.ret [] (.int .i64 (Int.ofNat k)) (by kernel_rfl) (by kernel_rfl) fun w4 hw4 => ⟨_, rfl, hw4.ext, k, rfl, by
        rw [decide_eq_true hlt]
        exact (List.any_eq_true.2 ⟨p, List.mem_of_getElem? hp, h2⟩).symm⟩
    refine To.runF 6 [] (fun _ _ => by kernel_rfl) fun f6 g6 l6 => ?_
    refine To.slotE 9 (.int .i64 (IntKind.i64.wrap (Int.ofNat k + 1))) (.int .i64 (Int.ofNat (k + 1))) (by kernel_rfl) (by rw [wrap_succ k (by omega)]) ?_
    exact back _ _ (k + 1) [] (by omega) ⟨by kernel_rfl, by kernel_rfl, by kernel_rfl, by kernel_rfl, by kernel_rfl, rfl⟩ (fun w7 hw7 => ⟨hlt, by
      unfold anyOf at hall ⊢
      rw [List.take_add_one, hp, List.any_append, hall]
      simp [h2]⟩)
  · have hk1 : k = x.length := by omega
    subst hk1
    refine To.testF (decide (Int.ofNat x.length < Int.ofNat x.length)) (by kernel_rfl) (by simp) ?_
    refine To.runF 7 [] (fun _ _ => by kernel_rfl) fun f3 g3 l3 => ?_
    exact To.ret [] (.int .i64 (Int.ofNat x.length)) (by kernel_rfl) (by kernel_rfl) fun w4 hw4 => ⟨_, rfl, hw4.ext, _, rfl, by
      rw [List.take_length] at hall
      rw [hall]; simp⟩
end Go.Proofs.YtegcplghgnafjaaGreatDoor
/- Whether two lists of addresses have the same ones; whether they are equal. Conditions: as each says. -/
namespace Go.Proofs.YtegcplghgnafjaaGreatDoor
open Go Go.SX
set_option maxHeartbeats 8000000
set_option maxRecDepth 100000
theorem onceEach (L M : List Comps) (a b : Option Addr) (ca cb : Nat) (w : World) (ha : AddrsIn w a L) (hb : AddrsIn w b M) (hL : L.length ≤ 1152921504606846976) (hM : M.length ≤ 1152921504606846976)
    (hs : ∀ x ∈ L, x.length ≤ 1152921504606846976) (ht : ∀ x ∈ M, x.length ≤ 1152921504606846976) :
    Calls Tryz.prog 11 #[.slice a L.length ca, .slice b M.length cb] w (fun e w1 => ∃ v, e = .returned v ∧ Ext [] w w1 ∧ v = .bool (decide ((∀ x ∈ M, x ∈ L) ∧ L.length = M.length))) := by
  refine calls_of0 (args := [.slice a L.length ca, .slice b M.length cb]) Tryz.func11 rfl rfl rfl ?_
  refine To.runF 12 [] (fun _ _ => by kernel_rfl) fun f1 g1 l1 => ?_
  refine To.loop (fun k : Nat => M.length - k) (fun k => ([(0, .slice a L.length ca), (1, .slice b M.length cb), (7, .slice b M.length cb), (8, .int .i64 (Int.ofNat M.length)), (9, .int .i64 (Int.ofNat k))], [])) (fun k _ => k ≤ M.length ∧ ∀ j x, j < k → M[j]? = some x → x ∈ L) 0 [] (by kernel_rfl) (by kernel_rfl) (by kernel_rfl) rfl (fun _ _ => ⟨Nat.zero_le _, fun j p h => by omega⟩) ?_
  rintro k w1 ⟨hk, hall⟩ hx1 back
  refine To.runF 5 [] (fun _ _ => by kernel_rfl) fun f2 g2 l2 => ?_
  by_cases hlt : k < M.length
  · obtain ⟨y, hp⟩ : ∃ y, M[k]? = some y := ⟨M[k], by simp [hlt]⟩
    obtain ⟨ad, b0, c0, hb0, hsp, hc0, hc⟩ := hb.at_ k y hp
    refine To.testT (decide (Int.ofNat k < Int.ofNat M.length)) (by kernel_rfl) (decide_eq_true (Int.ofNat_lt.2 hlt)) ?_
    refine To.runF 5 [] (fun _ _ => by kernel_rfl) fun f3 g3 l3 => ?_
    refine To.indexAt elA b ad M.length cb k (by kernel_rfl) hb0 hlt ?_
    refine To.loadOne uComps rfl (ad.add (k * 1)) (.slice b0 y.length c0) (by kernel_rfl) (fun w2 hw2 => hw2.ext.cell hc0 (by simp)) ?_
    refine To.runF 6 [] (fun _ _ => by kernel_rfl) fun f4 g4 l4 => ?_
    refine To.callN 10 #[.slice a L.length ca, .slice b0 y.length c0] (by kernel_rfl) (fun _ => by kernel_rfl) (fun w2 hw2 => maContains L y a b0 ca c0 w2 (ha.later hw2.ext) (hc.later hw2.ext) hL (ht y (List.mem_of_getElem? hp)) hs) (fun w2 v2 w3 hw2 hx2 hv2 hnew2 hwi2 => ?_)
    subst hv2
    refine To.runF 2 [] (fun _ _ => by kernel_rfl) fun f5 g5 l5 => ?_
    refine To.test (!decide (y ∈ L)) (by kernel_rfl) (fun h2 => ?_) (fun h2 => ?_)
    · refine To.runF 4 [] (fun _ _ => by kernel_rfl) fun f6 g6 l6 => ?_
      exact To.ret [] (.bool false) (by kernel_rfl) (by kernel_rfl) fun w4 hw4 => ⟨_, rfl, hw4.ext, by
        have h3 : y ∉ L := by simpa using h2
        rw [decide_eq_false (fun he => h3 (he.1 y (List.mem_of_getElem? hp)))]⟩
    have h3 : y ∈ L := by simpa using h2
    refine To.runF 6 [] (fun _ _ => by kernel_rfl) fun f6 g6 l6 => ?_
    refine To.slotE 9 (.int .i64 (IntKind.i64.wrap (Int.ofNat k + 1))) (.int .i64 (Int.ofNat (k + 1))) (by kernel_rfl) (by rw [wrap_succ k (by omega)]) ?_
    exact back _ _ (k + 1) [] (by omega) ⟨by kernel_rfl, by kernel_rfl, by kernel_rfl, by kernel_rfl, by kernel_rfl, rfl⟩ (fun w7 hw7 => ⟨hlt, fun j q hj hq => by
      by_cases hjk : j = k
      · subst hjk; rw [hp] at hq; cases hq; exact h3
      · exact hall j q (by omega) hq⟩)
  · have hk1 : k = M.length := by omega
    subst hk1
    refine To.testF (decide (Int.ofNat M.length < Int.ofNat M.length)) (by kernel_rfl) (by simp) ?_
    refine To.runF 10 [] (fun _ _ => by kernel_rfl) fun f3 g3 l3 => ?_
    exact To.ret [] (.bool (Int.ofNat L.length == Int.ofNat M.length)) (by kernel_rfl) (by kernel_rfl) fun w4 hw4 => ⟨_, rfl, hw4.ext, by
      have hm : ∀ x ∈ M, x ∈ L := fun p hp => by
        obtain ⟨j, hj⟩ := List.mem_iff_getElem?.1 hp
        exact hall j p (List.getElem?_eq_some_iff.1 hj).1 hj
      congr 1
      by_cases he : L.length = M.length
      · rw [decide_eq_true ⟨hm, he⟩, he]; simp
      · rw [decide_eq_false (fun h => he h.2)]
        simp only [beq_eq_false_iff_ne, ne_eq]
        exact fun h => he (Int.ofNat.inj h)⟩
theorem alikeAll (x y : List Comps) (a b : Option Addr) (ca cb : Nat) (w : World) (ha : AddrsIn w a x) (hb : AddrsIn w b y) (hx : x.length ≤ 1152921504606846976) (hy : y.length ≤ 1152921504606846976) (hs : ∀ x1 ∈ x, x1.length ≤ 1152921504606846976) (ht : ∀ x1 ∈ y, x1.length ≤ 1152921504606846976) :
    Calls Tryz.prog 14 #[.slice a x.length ca, .slice b y.length cb] w (fun e w1 => ∃ v, e = .returned v ∧ Ext [] w w1 ∧ v = .bool (decide (x = y))) := by
  refine calls_of0 (args := [.slice a x.length ca, .slice b y.length cb]) Tryz.func14 rfl rfl rfl ?_
  refine To.runF 13 [] (fun _ _ => by kernel_rfl) fun f1 g1 l1 => ?_
  by_cases hl : x.length = y.length
  · refine To.testF (Int.ofNat x.length != Int.ofNat y.length) (by kernel_rfl) (by rw [hl]; simp) ?_
    refine To.runF 9 [] (fun _ _ => by kernel_rfl) fun f2 g2 l2 => ?_
    refine To.loop (fun k : Nat => x.length - k) (fun k => ([(0, .slice a x.length ca), (1, .slice b y.length cb), (12, .int .i64 (Int.ofNat x.length)), (13, .int .i64 (Int.ofNat k))], [])) (fun k _ => k ≤ x.length ∧ x.take k = y.take k) 0 [] (by kernel_rfl) (by kernel_rfl) (by kernel_rfl) rfl (fun _ _ => ⟨Nat.zero_le _, rfl⟩) ?_
    rintro k w1 ⟨hk, hall⟩ hx1 back
    refine To.runF 5 [] (fun _ _ => by kernel_rfl) fun f3 g3 l3 => ?_
    by_cases hlt : k < x.length
    · obtain ⟨p, hp⟩ : ∃ p, x[k]? = some p := ⟨x[k], by simp [hlt]⟩
      obtain ⟨q, hq⟩ : ∃ q, y[k]? = some q := ⟨y[k]'(by omega), by simp [← hl, hlt]⟩
      obtain ⟨ad, va, cv, ha0, hsp, hc0, hva⟩ := ha.at_ k p hp
      obtain ⟨bd, vb, dv, hb0, hsq, hd0, hvb⟩ := hb.at_ k q hq
      refine To.testT (decide (Int.ofNat k < Int.ofNat x.length)) (by kernel_rfl) (decide_eq_true (Int.ofNat_lt.2 hlt)) ?_
      obtain ⟨c1, e1, z1, hB1, _, hP0⟩ := block_of_cell hc0
      obtain ⟨c2, e2, z2, hB2, _, hQ0⟩ := block_of_cell hd0
      rw [add_block] at hB1 hB2
      by_cases hbb : ad.block = bd.block
      · have hB3 := hB2
        rw [← hbb, hB1] at hB3
        simp only [Option.some.injEq, Obj.cells.injEq] at hB3
        obtain ⟨rfl, rfl, rfl⟩ := hB3
        refine To.withAt ad.block (.cells c1 e1 z1) false (hx1.at hB1 (by simp)) (nums_all (Q := fun n => n ≠ ad.block) (l := []) (by kernel_rfl) trivial) (by simp) ?_
        refine To.runF 14 [1, 0, 0, 1, 4, 5] (fun _ _ => by kernel_rfl) fun f4 g4 l4 => ?_
        refine To.indexAtE 2 elA a ad x.length ca k (by kernel_rfl) ha0 hlt ?_
        refine To.indexAtE 6 elA b bd y.length cb k (by kernel_rfl) hb0 (by omega) ?_
        refine To.loadOneE 3 uComps rfl (ad.add (k * 1)) (.slice va p.length cv) (by kernel_rfl) (fun w2 hw2 => SH.cell (j := 0) (b := ad.block) (c := c1) (e := e1) (z := z1) (q := false) hw2 (by kernel_rfl) (add_block _ _) (spot_add hsp _) hP0) ?_
        refine To.loadOneE 7 uComps rfl (bd.add (k * 1)) (.slice vb q.length dv) (by kernel_rfl) (fun w2 hw2 => SH.cell (j := 0) (b := ad.block) (c := c1) (e := e1) (z := z1) (q := false) hw2 (by kernel_rfl) ((add_block _ _).trans hbb.symm) (spot_add hsq _) hQ0) ?_
        refine To.callN 20 #[.slice va p.length cv, .slice vb q.length dv] (by kernel_rfl) (fun _ => by kernel_rfl) (fun w2 hw2 => maAlike p q va vb cv dv w2 (hva.later hw2.ext) (hvb.later hw2.ext) (hs p (List.mem_of_getElem? hp)) (ht q (List.mem_of_getElem? hq))) (fun w2 v2 w3 hw2 hx2 hv2 hnew2 hwi2 => ?_)
        subst hv2
        refine To.runF 2 [] (fun _ _ => by kernel_rfl) fun f5 g5 l5 => ?_
        refine To.test (!decide (p = q)) (by kernel_rfl) (fun h2 => ?_) (fun h2 => ?_)
        · refine To.runF 4 [] (fun _ _ => by kernel_rfl) fun f6 g6 l6 => ?_
          exact To.ret [] (.bool false) (by kernel_rfl) (by kernel_rfl) fun w4 hw4 => ⟨_, rfl, hw4.ext, by
            have hpq : p ≠ q := by simpa using h2
            rw [decide_eq_false (fun he => hpq (by rw [he, hq] at hp; exact (Option.some.inj hp).symm))]⟩
        have hpq : p = q := by simpa using h2
        refine To.runF 6 [] (fun _ _ => by kernel_rfl) fun f6 g6 l6 => ?_
        refine To.slotE 13 (.int .i64 (IntKind.i64.wrap (Int.ofNat k + 1))) (.int .i64 (Int.ofNat (k + 1))) (by kernel_rfl) (by rw [wrap_succ k (by omega)]) ?_
        exact back _ _ (k + 1) [] (by omega) ⟨by kernel_rfl, by kernel_rfl, by kernel_rfl, by kernel_rfl, by kernel_rfl, rfl⟩ (fun w7 hw7 => ⟨hlt, by
          rw [List.take_add_one, List.take_add_one, hall, hp, hq, hpq]⟩)
      · refine To.withAt ad.block (.cells c1 e1 z1) false (hx1.at hB1 (by simp)) (nums_all (Q := fun n => n ≠ ad.block) (l := []) (by kernel_rfl) trivial) (by simp) ?_
        refine To.withAt bd.block (.cells c2 e2 z2) false (hx1.at hB2 (by simp)) (nums_all (Q := fun n => n ≠ bd.block) (l := [some ad.block]) (by kernel_rfl) ⟨hbb, trivial⟩) (by simp) ?_
        refine To.runF 14 [2, 0, 1, 0, 1, 4, 5] (fun _ _ => by kernel_rfl) fun f4 g4 l4 => ?_
        refine To.indexAtE 2 elA a ad x.length ca k (by kernel_rfl) ha0 hlt ?_
        refine To.indexAtE 6 elA b bd y.length cb k (by kernel_rfl) hb0 (by omega) ?_
        refine To.loadOneE 3 uComps rfl (ad.add (k * 1)) (.slice va p.length cv) (by kernel_rfl) (fun w2 hw2 => SH.cell (j := 0) (b := ad.block) (c := c1) (e := e1) (z := z1) (q := false) hw2 (by kernel_rfl) (add_block _ _) (spot_add hsp _) hP0) ?_
        refine To.loadOneE 7 uComps rfl (bd.add (k * 1)) (.slice vb q.length dv) (by kernel_rfl) (fun w2 hw2 => SH.cell (j := 1) (b := bd.block) (c := c2) (e := e2) (z := z2) (q := false) hw2 (by kernel_rfl) (add_block _ _) (spot_add hsq _) hQ0) ?_
        refine To.callN 20 #[.slice va p.length cv, .slice vb q.length dv] (by kernel_rfl) (fun _ => by kernel_rfl) (fun w2 hw2 => maAlike p q va vb cv dv w2 (hva.later hw2.ext) (hvb.later hw2.ext) (hs p (List.mem_of_getElem? hp)) (ht q (List.mem_of_getElem? hq))) (fun w2 v2 w3 hw2 hx2 hv2 hnew2 hwi2 => ?_)
        subst hv2
        refine To.runF 2 [] (fun _ _ => by kernel_rfl) fun f5 g5 l5 => ?_
        refine To.test (!decide (p = q)) (by kernel_rfl) (fun h2 => ?_) (fun h2 => ?_)
        · refine To.runF 4 [] (fun _ _ => by kernel_rfl) fun f6 g6 l6 => ?_
          exact To.ret [] (.bool false) (by kernel_rfl) (by kernel_rfl) fun w4 hw4 => ⟨_, rfl, hw4.ext, by
            have hpq : p ≠ q := by simpa using h2
            rw [decide_eq_false (fun he => hpq (by rw [he, hq] at hp; exact (Option.some.inj hp).symm))]⟩
        have hpq : p = q := by simpa using h2
        refine To.runF 6 [] (fun _ _ => by kernel_rfl) fun f6 g6 l6 => ?_
        refine To.slotE 13 (.int .i64 (IntKind.i64.wrap (Int.ofNat k + 1))) (.int .i64 (Int.ofNat (k + 1))) (by kernel_rfl) (by rw [wrap_succ k (by omega)]) ?_
        exact back _ _ (k + 1) [] (by omega) ⟨by kernel_rfl, by kernel_rfl, by kernel_rfl, by kernel_rfl, by kernel_rfl, rfl⟩ (fun w7 hw7 => ⟨hlt, by
          rw [List.take_add_one, List.take_add_one, hall, hp, hq, hpq]⟩)
    · have hk1 : k = x.length := by omega
      subst hk1
      refine To.testF (decide (Int.ofNat x.length < Int.ofNat x.length)) (by kernel_rfl) (by simp) ?_
      refine To.runF 5 [] (fun _ _ => by kernel_rfl) fun f4 g4 l4 => ?_
      exact To.ret [] (.bool true) (by kernel_rfl) (by kernel_rfl) fun w4 hw4 => ⟨_, rfl, hw4.ext, by
        rw [List.take_length, hl, List.take_length] at hall
        rw [decide_eq_true hall]⟩
  · refine To.testT (Int.ofNat x.length != Int.ofNat y.length) (by kernel_rfl) (by simp only [bne_iff_ne, ne_eq]; intro h; exact hl (Int.ofNat.inj h)) ?_
    refine To.runF 4 [] (fun _ _ => by kernel_rfl) fun f2 g2 l2 => ?_
    exact To.ret [] (.bool false) (by kernel_rfl) (by kernel_rfl) fun w4 hw4 => ⟨_, rfl, hw4.ext, by rw [decide_eq_false (fun he => hl (congrArg List.length he))]⟩
end Go.Proofs.YtegcplghgnafjaaGreatDoor
/- The addresses of a list that are equal to no earlier one. Conditions: as each says. -/
namespace Go.Proofs.YtegcplghgnafjaaGreatDoor
open Go Go.SX
set_option maxHeartbeats 8000000
set_option maxRecDepth 100000
/-- The state of a loop that fills a row, element by element: how far it is, and the row. -/
abbrev OutIx := Nat × Option (Nat × Nat × List Value × List Value)
def outV (n : Nat) : Option (Nat × Nat × List Value × List Value) → Value
  | none => .slice none 0 0
  | some (g, c, _, _) => .slice (some ⟨g, 0, none⟩) n c
def outB (ty : TypeId) : Option (Nat × Nat × List Value × List Value) → List (Option Blk)
  | none => []
  | some (g, _, rest, vs) => [some ⟨g, .cells ⟨vs ++ rest⟩ ty (0, 0), true⟩]
def OutInv {α : Type} (I : World → α → Value → Prop) (ty : TypeId) (lo : Nat) (L : List α) : Option (Nat × Nat × List Value × List Value) → World → Prop
  | none, _ => L = []
  | some (g, c, rest, vs), w1 => Row1 I ty lo w1 g c rest vs L
/-- A value is a slice of this address, as it lay in this world. -/
def CompV (w : World) (x : Comps) (v : Value) : Prop := ∃ b cap, v = .slice b x.length cap ∧ CompsIn w b x
theorem CompV.one {w : World} {x : Comps} {v : Value} (h : CompV w x v) : v.oneCell' = true := by obtain ⟨b, c, rfl, _⟩ := h; rfl
/-- A row of such slices, as a list of addresses. -/
theorem row_addrsIn {w0 w : World} {ty : TypeId} {lo g c : Nat} {rest vs : List Value} {L : List Comps} (h : Row1 (fun _ => CompV w0) ty lo w g c rest vs L) (hx : Ext [] w0 w) : AddrsIn w (some ⟨g, 0, none⟩) L :=
  ⟨fun j x hj => by
    obtain ⟨v, h1, h2, b, cap, rfl, h3⟩ := h.get hj
    exact ⟨_, b, cap, rfl, rfl, h.cell h2, h3.later hx⟩⟩
theorem AddrsIn.nil {w : World} {a : Option Addr} : AddrsIn w a [] := ⟨fun j x hj => by cases hj⟩
def uniqStep (acc : List Comps) (a : Comps) : List Comps := if a ∈ acc then acc else acc ++ [a]
def uniqOf (L : List Comps) : List Comps := L.foldl uniqStep []
theorem fold_take {α β : Type} (f : β → α → β) (b : β) {L : List α} {k : Nat} {y : α} (h : L[k]? = some y) : (L.take (k + 1)).foldl f b = f ((L.take k).foldl f b) y := by
  rw [List.take_add_one, h, List.foldl_append]; rfl
theorem uniq_take {L : List Comps} {k : Nat} {y : Comps} (h : L[k]? = some y) : uniqOf (L.take (k + 1)) = uniqStep (uniqOf (L.take k)) y := fold_take uniqStep [] h
theorem uniq_sub (L : List Comps) : ∀ x ∈ uniqOf L, x ∈ L := by
  suffices h : ∀ (M acc : List Comps), ∀ x ∈ M.foldl uniqStep acc, x ∈ acc ∨ x ∈ M by
    intro x hx
    rcases h L [] x hx with h | h
    · cases h
    · exact h
  intro M
  induction M with
  | nil => intro acc x hx; exact .inl hx
  | cons y M ih =>
    intro acc x hx
    rcases ih (uniqStep acc y) x hx with h | h
    · unfold uniqStep at h
      split at h
      · exact .inl h
      · simp only [List.mem_append, List.mem_singleton] at h
        rcases h with h | rfl
        · exact .inl h
        · exact .inr (by simp)
    · exact .inr (by simp [h])
theorem uniq_le (L : List Comps) : (uniqOf L).length ≤ L.length := by
  suffices h : ∀ (M acc : List Comps), (M.foldl uniqStep acc).length ≤ acc.length + M.length by have := h L []; simp only [List.length_nil, Nat.zero_add] at this; exact this
  intro M
  induction M with
  | nil => intro acc; simp
  | cons y M ih =>
    intro acc
    have h := ih (uniqStep acc y)
    have h2 : (uniqStep acc y).length ≤ acc.length + 1 := by unfold uniqStep; split <;> simp
    simp only [List.foldl_cons, List.length_cons]
    omega
abbrev ListsPost (L : List Comps) (w : World) (e : Ending) (w1 : World) : Prop := ∃ v, e = .returned v ∧ Ext [] w w1 ∧ ∃ a cap, v = .slice a L.length cap ∧ AddrsIn w1 a L
theorem maUnique (L : List Comps) (a : Option Addr) (cap : Nat) (w : World) (hin : AddrsIn w a L) (hlen : L.length ≤ 1000000000) (hs : ∀ x ∈ L, x.length ≤ 1152921504606846976) :
    Calls Tryz.prog 13 #[.slice a L.length cap] w (ListsPost (uniqOf L) w) := by
  refine calls_of0 (args := [.slice a L.length cap]) Tryz.func13 rfl rfl rfl ?_
  refine To.runF 16 [] (fun _ _ => by kernel_rfl) fun f1 g1 l1 => ?_
  refine To.loop (fun i : OutIx => L.length - i.1) (fun i => ([(3, outV (uniqOf (L.take i.1)).length i.2), (6, .slice a L.length cap), (7, .int .i64 (Int.ofNat L.length)), (8, .int .i64 (Int.ofNat i.1))], outB 23 i.2))
    (fun i w1 => i.1 ≤ L.length ∧ OutInv (fun _ => CompV w) 23 w.heap.size (uniqOf (L.take i.1)) i.2 w1) (0, none) [] (by kernel_rfl) (by kernel_rfl) (by kernel_rfl) rfl (fun _ _ => ⟨Nat.zero_le _, rfl⟩) ?_
  rintro ⟨k, _ | ⟨g, c, rest, vs⟩⟩ w1 ⟨hk, hinv⟩ hx1 back
  · have hnil : uniqOf (L.take k) = [] := hinv
    have hk : k ≤ L.length := hk
    refine To.runF 5 [] (fun _ _ => by kernel_rfl) fun f2 g2 l2 => ?_
    by_cases hlt : k < L.length
    · obtain ⟨y, hp⟩ : ∃ y, L[k]? = some y := ⟨L[k], by simp [hlt]⟩
      obtain ⟨ad, b0, c0, ha, hsp, hc0, hc⟩ := hin.at_ k y hp
      refine To.testT (decide (Int.ofNat k < Int.ofNat L.length)) (by kernel_rfl) (decide_eq_true (Int.ofNat_lt.2 hlt)) ?_
      refine To.runF 5 [] (fun _ _ => by kernel_rfl) fun f3 g3 l3 => ?_
      refine To.indexAt elA a ad L.length cap k (by kernel_rfl) ha hlt ?_
      refine To.loadOne uComps rfl (ad.add (k * 1)) (.slice b0 y.length c0) (by kernel_rfl) (fun w2 hw2 => hw2.ext.cell hc0 (by simp)) ?_
      refine To.runF 6 [] (fun _ _ => by kernel_rfl) fun f4 g4 l4 => ?_
      refine To.callN 10 #[.slice none 0 0, .slice b0 y.length c0] (by kernel_rfl) (fun _ => by kernel_rfl) (fun w2 hw2 => maContains [] y none b0 0 c0 w2 AddrsIn.nil (hc.later hw2.ext) (Nat.zero_le _) (hs y (List.mem_of_getElem? hp)) (fun _ h => by cases h)) (fun w2 v2 w3 hw2 hx2 hv2 hnew2 hwi2 => ?_)
      subst hv2
      refine To.runF 7 [] (fun _ _ => by kernel_rfl) fun f5 g5 l5 => ?_
      refine To.append0 (ty := 22) elA ⟨f5 0, 0, none⟩ 1 1 [.slice b0 y.length c0] (by kernel_rfl) rfl
        (fun w hw j u hj => hw.cellAt0 (j := 0) (b := f5 0) (l := [.slice b0 y.length c0]) (e := 23) (f := (0, 0)) (q := true) (by kernel_rfl) hj) (by decide) (by decide) (by decide) ?_
      intro g' c' r' hl' hc' hm' hg'
      refine To.runF 7 [] (fun _ _ => by kernel_rfl) fun f6 g6 l6 => ?_
      refine To.slotE 8 (.int .i64 (IntKind.i64.wrap (Int.ofNat k + 1))) (.int .i64 (Int.ofNat (k + 1))) (by kernel_rfl) (by rw [wrap_succ k (by omega)]) ?_
      have hst : uniqOf (L.take (k + 1)) = [y] := by rw [uniq_take hp, hnil]; rfl
      refine To.slotE 3 (.slice (some ⟨g', 0, none⟩) 1 c') (.slice (some ⟨g', 0, none⟩) (uniqOf (L.take (k + 1))).length c') (by kernel_rfl) (by rw [hst]; rfl) ?_
      have q2 : w2.heap.size ≤ w3.heap.size := hx2.size
      have q3 : w.heap.size ≤ w2.heap.size := hwi2
      have q6 : w3.heap.size ≤ g' := hg'
      refine back _ _ (k + 1, some (g', c', r', [.slice b0 y.length c0])) [1] (by simp only; omega) ⟨by kernel_rfl, by kernel_rfl, by kernel_rfl, by kernel_rfl, by kernel_rfl, rfl⟩ (fun w7 hw7 => ⟨hlt, ?_⟩)
      show Row1 _ _ _ _ _ _ _ _ (uniqOf (L.take (k + 1)))
      rw [hst]
      exact Row1.one y _ (hw7.blk (j := 1) (b := g') (o := .cells ⟨[.slice b0 y.length c0] ++ r'⟩ 23 (0, 0)) (q := true) (by kernel_rfl)) hl' hc' hm' (by omega) ⟨b0, c0, rfl, hc⟩
    · have hk1 : k = L.length := by omega
      subst hk1
      refine To.testF (decide (Int.ofNat L.length < Int.ofNat L.length)) (by kernel_rfl) (by simp) ?_
      refine To.runF 6 [] (fun _ _ => by kernel_rfl) fun f3 g3 l3 => ?_
      exact To.ret [] (.slice none 0 0) (by kernel_rfl) (by kernel_rfl) fun w4 hw4 => by
        rw [List.take_length] at hnil
        rw [hnil]
        exact ⟨_, rfl, hw4.ext, none, 0, rfl, AddrsIn.nil⟩
  · have hk : k ≤ L.length := hk
    have hrow : Row1 (fun _ => CompV w) 23 w.heap.size w1 g c rest vs (uniqOf (L.take k)) := hinv
    refine To.runF 5 [] (fun _ _ => by kernel_rfl) fun f2 g2 l2 => ?_
    by_cases hlt : k < L.length
    · obtain ⟨y, hp⟩ : ∃ y, L[k]? = some y := ⟨L[k], by simp [hlt]⟩
      obtain ⟨ad, b0, c0, ha, hsp, hc0, hc⟩ := hin.at_ k y hp
      refine To.testT (decide (Int.ofNat k < Int.ofNat L.length)) (by kernel_rfl) (decide_eq_true (Int.ofNat_lt.2 hlt)) ?_
      refine To.runF 5 [] (fun _ _ => by kernel_rfl) fun f3 g3 l3 => ?_
      refine To.indexAt elA a ad L.length cap k (by kernel_rfl) ha hlt ?_
      refine To.loadOne uComps rfl (ad.add (k * 1)) (.slice b0 y.length c0) (by kernel_rfl) (fun w2 hw2 => hw2.ext.cell hc0 (by simp)) ?_
      have hul0 : (uniqOf (L.take k)).length ≤ 1000000000 := by have := uniq_le (L.take k); rw [List.length_take] at this; omega
      have hul : (uniqOf (L.take k)).length ≤ 1152921504606846976 := by omega
      have hus : ∀ x ∈ uniqOf (L.take k), x.length ≤ 1152921504606846976 := fun x hx => hs x (List.mem_of_mem_take (uniq_sub _ x hx))
      refine To.runF 6 [] (fun _ _ => by kernel_rfl) fun f4 g4 l4 => ?_
      refine To.callN 10 #[.slice (some ⟨g, 0, none⟩) (uniqOf (L.take k)).length c, .slice b0 y.length c0] (by kernel_rfl) (fun _ => by kernel_rfl) (fun w2 hw2 => maContains (uniqOf (L.take k)) y (some ⟨g, 0, none⟩) b0 c c0 w2 (row_addrsIn (hrow.kept ((hw2.blk (j := 0) (b := g) (o := .cells ⟨vs ++ rest⟩ 23 (0, 0)) (q := true) (by kernel_rfl)).trans hrow.blk.symm) (fun _ _ _ h => h)) hw2.ext) (hc.later hw2.ext) hul (hs y (List.mem_of_getElem? hp)) hus) (fun w2 v2 w3 hw2 hx2 hv2 hnew2 hwi2 => ?_)
      subst hv2
      refine To.runF 2 [] (fun _ _ => by kernel_rfl) fun f5 g5 l5 => ?_
      refine To.test (!decide (y ∈ uniqOf (L.take k))) (by kernel_rfl) (fun h2 => ?_) (fun h2 => ?_)
      · have h3 : y ∉ uniqOf (L.take k) := by simpa using h2
        refine To.runF 4 [] (fun _ _ => by kernel_rfl) fun f6 g6 l6 => ?_
        refine To.appendE (ty := 22) elA 0 g (uniqOf (L.take k)).length c vs rest (some ⟨f6 0, 0, none⟩) 1 1 [.slice b0 y.length c0] ((uniqOf (L.take k)).length + 1) (vs ++ [.slice b0 y.length c0])
          (by kernel_rfl) (by kernel_rfl) rfl rfl (by rw [hrow.len, Nat.mul_one]) hrow.room hrow.le hrow.cap rfl
          (fun w hw j u hj => ⟨_, rfl, hw.cellAt0 (j := 1) (b := f6 0) (l := [.slice b0 y.length c0]) (e := 23) (f := (0, 0)) (q := true) (by kernel_rfl) hj⟩) (fun h => by cases h)
          (by intro u hu; simp only [List.mem_cons, List.not_mem_nil, or_false] at hu; rw [hu]; rfl) (by simp only [maxLen]; omega) (by omega) (held_nil (by kernel_rfl)) ?_
        intro w5 w6 g' c' r' hw5 hg5 ho5 hl5 hc5 hm5
        refine To.runF 7 [] (fun _ _ => by kernel_rfl) fun f7 g7 l7 => ?_
        refine To.slotE 8 (.int .i64 (IntKind.i64.wrap (Int.ofNat k + 1))) (.int .i64 (Int.ofNat (k + 1))) (by kernel_rfl) (by rw [wrap_succ k (by omega)]) ?_
        have hst : uniqOf (L.take (k + 1)) = uniqOf (L.take k) ++ [y] := by rw [uniq_take hp]; unfold uniqStep; rw [if_neg h3]
        refine To.slotE 3 (.slice (some ⟨g', 0, none⟩) ((uniqOf (L.take k)).length + 1) c') (.slice (some ⟨g', 0, none⟩) (uniqOf (L.take (k + 1))).length c') (by kernel_rfl) (by rw [hst, List.length_append]; rfl) ?_
        have q0 := hrow.lo
        have q2 : w2.heap.size ≤ w3.heap.size := hx2.size
        have q3 : w.heap.size ≤ w2.heap.size := hwi2
        have q6 : w3.heap.size ≤ w5.heap.size := hw5.fr.size
        refine back _ _ (k + 1, some (g', c', r', vs ++ [.slice b0 y.length c0])) [2] (by simp only; omega) ⟨by kernel_rfl, by kernel_rfl, by kernel_rfl, by kernel_rfl, by kernel_rfl, rfl⟩ (fun w7 hw7 => ⟨hlt, ?_⟩)
        show Row1 _ _ _ _ _ _ _ _ (uniqOf (L.take (k + 1)))
        rw [hst]
        exact hrow.snoc y _ (hw7.blk (j := 2) (b := g') (o := .cells ⟨vs ++ [.slice b0 y.length c0] ++ r'⟩ 23 (0, 0)) (q := true) (by kernel_rfl)) hl5 hc5 hm5 (by rcases ho5 with rfl | rfl <;> omega) ⟨b0, c0, rfl, hc⟩ (fun _ _ _ h => h)
      · have h3 : y ∈ uniqOf (L.take k) := by simpa using h2
        refine To.runF 6 [] (fun _ _ => by kernel_rfl) fun f6 g6 l6 => ?_
        refine To.slotE 8 (.int .i64 (IntKind.i64.wrap (Int.ofNat k + 1))) (.int .i64 (Int.ofNat (k + 1))) (by kernel_rfl) (by rw [wrap_succ k (by omega)]) ?_
        have hst : uniqOf (L.take (k + 1)) = uniqOf (L.take k) := by rw [uniq_take hp]; unfold uniqStep; rw [if_pos h3]
        refine To.slotE 3 (.slice (some ⟨g, 0, none⟩) (uniqOf (L.take k)).length c) (.slice (some ⟨g, 0, none⟩) (uniqOf (L.take (k + 1))).length c) (by kernel_rfl) (by rw [hst]) ?_
        refine back _ _ (k + 1, some (g, c, rest, vs)) [0] (by simp only; omega) ⟨by kernel_rfl, by kernel_rfl, by kernel_rfl, by kernel_rfl, by kernel_rfl, rfl⟩ (fun w7 hw7 => ⟨hlt, ?_⟩)
        show Row1 _ _ _ _ _ _ _ _ (uniqOf (L.take (k + 1)))
        rw [hst]
        exact hrow.kept ((hw7.blk (j := 0) (b := g) (o := .cells ⟨vs ++ rest⟩ 23 (0, 0)) (q := true) (by kernel_rfl)).trans hrow.blk.symm) (fun _ _ _ h => h)
    · have hk1 : k = L.length := by omega
      subst hk1
      refine To.testF (decide (Int.ofNat L.length < Int.ofNat L.length)) (by kernel_rfl) (by simp) ?_
      refine To.runF 6 [] (fun _ _ => by kernel_rfl) fun f3 g3 l3 => ?_
      exact To.ret [0] (.slice (some ⟨g, 0, none⟩) (uniqOf (L.take L.length)).length c) (by kernel_rfl) (by kernel_rfl) fun w4 hw4 => by
        have h1 := hrow.kept ((hw4.blk (j := 0) (b := g) (o := .cells ⟨vs ++ rest⟩ 23 (0, 0)) (q := true) (by kernel_rfl)).trans hrow.blk.symm) (fun _ _ _ h => h)
        rw [List.take_length] at h1 ⊢
        exact ⟨_, rfl, hw4.ext, some ⟨g, 0, none⟩, c, rfl, row_addrsIn h1 hw4.ext⟩
end Go.Proofs.YtegcplghgnafjaaGreatDoor
/- The addresses that have, for each list of codes, a component with one of them. Conditions: as each says. -/
namespace Go.Proofs.YtegcplghgnafjaaGreatDoor
open Go Go.SX
set_option maxHeartbeats 8000000
set_option maxRecDepth 100000
def keptBy (K : List (List Int)) (x : Comps) : Bool := K.all (anyOf x)
theorem filter_take {α : Type} (f : α → Bool) {L : List α} {k : Nat} {y : α} (h : L[k]? = some y) : (L.take (k + 1)).filter f = (L.take k).filter f ++ (if f y then [y] else []) := by
  rw [List.take_add_one, h, List.filter_append]
  congr 1
  simp only [Option.toList_some, List.filter_cons, List.filter_nil]
theorem all_take {α : Type} (f : α → Bool) {L : List α} {k : Nat} {y : α} (h : L[k]? = some y) : (L.take (k + 1)).all f = ((L.take k).all f && f y) := by
  rw [List.take_add_one, h, List.all_append]
  simp
theorem maFilter (L : List Comps) (K : List (List Int)) (a b : Option Addr) (cap cb : Nat) (w : World) (hin : AddrsIn w a L) (hK : CodesIn w b K) (hlen : L.length ≤ 1000000000) (hlK : K.length ≤ 1152921504606846976) (hs : ∀ x ∈ L, x.length ≤ 1152921504606846976) (ht : ∀ c ∈ K, c.length ≤ 1152921504606846976) :
    Calls Tryz.prog 16 #[.slice a L.length cap, .slice b K.length cb] w (ListsPost (L.filter (keptBy K)) w) := by
  refine calls_of0 (args := [.slice a L.length cap, .slice b K.length cb]) Tryz.func16 rfl rfl rfl ?_
  refine To.runF 16 [] (fun _ _ => by kernel_rfl) fun f1 g1 l1 => ?_
  refine To.loop (fun i : OutIx => L.length - i.1) (fun i => ([(1, .slice b K.length cb), (5, outV ((L.take i.1).filter (keptBy K)).length i.2), (11, .slice a L.length cap), (12, .int .i64 (Int.ofNat L.length)), (13, .int .i64 (Int.ofNat i.1))], outB 23 i.2))
    (fun i w1 => i.1 ≤ L.length ∧ OutInv (fun _ => CompV w) 23 w.heap.size ((L.take i.1).filter (keptBy K)) i.2 w1) (0, none) [] (by kernel_rfl) (by kernel_rfl) (by kernel_rfl) rfl (fun _ _ => ⟨Nat.zero_le _, rfl⟩) ?_
  rintro ⟨k, _ | ⟨g, c, rest, vs⟩⟩ w1 ⟨hk, hinv⟩ hx1 back
  · have hk : k ≤ L.length := hk
    have hnil : (L.take k).filter (keptBy K) = [] := hinv
    refine To.runF 5 [] (fun _ _ => by kernel_rfl) fun f2 g2 l2 => ?_
    by_cases hlt : k < L.length
    · obtain ⟨y, hp⟩ : ∃ y, L[k]? = some y := ⟨L[k], by simp [hlt]⟩
      obtain ⟨ad, b0, c0, ha, hsp, hc0, hc⟩ := hin.at_ k y hp
      have hst : (L.take (k + 1)).filter (keptBy K) = (L.take k).filter (keptBy K) ++ (if keptBy K y then [y] else []) := filter_take _ hp
      refine To.testT (decide (Int.ofNat k < Int.ofNat L.length)) (by kernel_rfl) (decide_eq_true (Int.ofNat_lt.2 hlt)) ?_
      refine To.runF 5 [] (fun _ _ => by kernel_rfl) fun f3 g3 l3 => ?_
      refine To.indexAt elA a ad L.length cap k (by kernel_rfl) ha hlt ?_
      refine To.loadOne uComps rfl (ad.add (k * 1)) (.slice b0 y.length c0) (by kernel_rfl) (fun w2 hw2 => hw2.ext.cell hc0 (by simp)) ?_
      refine To.runF 14 [] (fun _ _ => by kernel_rfl) fun f4 g4 l4 => ?_
      refine To.loop (fun m : Nat => K.length - m) (fun m => ([(1, .slice b K.length cb), (5, (.slice none 0 0)), (7, .slice b0 y.length c0), (8, .bool ((K.take m).all (anyOf y))), (11, .slice a L.length cap), (12, .int .i64 (Int.ofNat L.length)), (13, .int .i64 (Int.ofNat k)), (17, .slice b K.length cb), (18, .int .i64 (Int.ofNat K.length)), (19, .int .i64 (Int.ofNat m))], [])) (fun m _ => m ≤ K.length) 0 [] (by kernel_rfl) (by kernel_rfl) (by kernel_rfl) rfl (fun _ _ => Nat.zero_le _) ?_
      intro m w2 hm hx2 back2
      refine To.runF 5 [] (fun _ _ => by kernel_rfl) fun f5 g5 l5 => ?_
      by_cases hmt : m < K.length
      · obtain ⟨z, hz⟩ : ∃ z, K[m]? = some z := ⟨K[m], by simp [hmt]⟩
        obtain ⟨bd, d0, e0, hbb, hbs, hd0, hd⟩ := hK.at_ m z hz
        refine To.testT (decide (Int.ofNat m < Int.ofNat K.length)) (by kernel_rfl) (decide_eq_true (Int.ofNat_lt.2 hmt)) ?_
        refine To.runF 5 [] (fun _ _ => by kernel_rfl) fun f6 g6 l6 => ?_
        refine To.indexAt elL b bd K.length cb m (by kernel_rfl) hbb hmt ?_
        refine To.loadOne uInts rfl (bd.add (m * 1)) (.slice d0 z.length e0) (by kernel_rfl) (fun w3 hw3 => hw3.ext.cell hd0 (by simp)) ?_
        refine To.runF 5 [] (fun _ _ => by kernel_rfl) fun f7 g7 l7 => ?_
        refine To.slot 24 ((K.take m).all (anyOf y)) (by kernel_rfl) (fun h2 => ?_) (fun h2 => ?_)
        · refine To.runF 2 [] (fun _ _ => by kernel_rfl) fun f8 g8 l8 => ?_
          refine To.callN 32 #[.slice b0 y.length c0, .slice d0 z.length e0] (by kernel_rfl) (fun _ => by kernel_rfl) (fun w3 hw3 => maFirst y z b0 d0 c0 e0 w3 (hc.later hw3.ext) (hd.later hw3.ext) (hs y (List.mem_of_getElem? hp)) (ht z (List.mem_of_getElem? hz))) (fun w3 v3 w4 hw3 hx3 hv3 hnew3 hwi3 => ?_)
          obtain ⟨q, rfl, hq⟩ := hv3
          refine To.runF 11 [] (fun _ _ => by kernel_rfl) fun f9 g9 l9 => ?_
          refine To.slotE 19 (.int .i64 (IntKind.i64.wrap (Int.ofNat m + 1))) (.int .i64 (Int.ofNat (m + 1))) (by kernel_rfl) (by rw [wrap_succ m (by omega)]) ?_
          refine To.slotE 8 (.bool (decide (Int.ofNat q < Int.ofNat y.length))) (.bool ((K.take (m + 1)).all (anyOf y))) (by kernel_rfl) (by
            rw [all_take _ hz, h2, ← hq, Bool.true_and]
            congr 1
            exact decide_eq_decide.2 Int.ofNat_lt) ?_
          exact back2 _ _ (m + 1) [] (by omega) ⟨by kernel_rfl, by kernel_rfl, by kernel_rfl, by kernel_rfl, by kernel_rfl, rfl⟩ (fun w7 hw7 => hmt)
        · refine To.runF 14 [] (fun _ _ => by kernel_rfl) fun f8 g8 l8 => ?_
          refine To.slotE 19 (.int .i64 (IntKind.i64.wrap (Int.ofNat m + 1))) (.int .i64 (Int.ofNat (m + 1))) (by kernel_rfl) (by rw [wrap_succ m (by omega)]) ?_
          refine To.slotE 8 (.bool false) (.bool ((K.take (m + 1)).all (anyOf y))) (by kernel_rfl) (by rw [all_take _ hz, h2, Bool.false_and]) ?_
          exact back2 _ _ (m + 1) [] (by omega) ⟨by kernel_rfl, by kernel_rfl, by kernel_rfl, by kernel_rfl, by kernel_rfl, rfl⟩ (fun w7 hw7 => hmt)
      · have hm1 : m = K.length := by omega
        subst hm1
        refine To.testF (decide (Int.ofNat K.length < Int.ofNat K.length)) (by kernel_rfl) (by simp) ?_
        refine To.runF 5 [] (fun _ _ => by kernel_rfl) fun f6 g6 l6 => ?_
        refine To.test ((K.take K.length).all (anyOf y)) (by kernel_rfl) (fun h2 => ?_) (fun h2 => ?_)
        · rw [List.take_length] at h2
          have hst : (L.take (k + 1)).filter (keptBy K) = (L.take k).filter (keptBy K) ++ [y] := by rw [hst, if_pos (show keptBy K y = true from h2)]
          refine To.runF 4 [] (fun _ _ => by kernel_rfl) fun f7 g7 l7 => ?_
          refine To.append0 (ty := 22) elA ⟨f7 0, 0, none⟩ 1 1 [.slice b0 y.length c0] (by kernel_rfl) rfl
            (fun w hw j u hj => hw.cellAt0 (j := 0) (b := f7 0) (l := [.slice b0 y.length c0]) (e := 23) (f := (0, 0)) (q := true) (by kernel_rfl) hj) (by decide) (by decide) (by decide) ?_
          intro g' c' r' hl' hc' hm' hg'
          refine To.runF 7 [] (fun _ _ => by kernel_rfl) fun f8 g8 l8 => ?_
          refine To.slotE 13 (.int .i64 (IntKind.i64.wrap (Int.ofNat k + 1))) (.int .i64 (Int.ofNat (k + 1))) (by kernel_rfl) (by rw [wrap_succ k (by omega)]) ?_
          have hst : (L.take (k + 1)).filter (keptBy K) = [y] := by rw [hst, hnil]; rfl
          refine To.slotE 5 (.slice (some ⟨g', 0, none⟩) 1 c') (.slice (some ⟨g', 0, none⟩) ((L.take (k + 1)).filter (keptBy K)).length c') (by kernel_rfl) (by rw [hst]; rfl) ?_
          have q2 : w.heap.size ≤ w2.heap.size := hx2.size
          have q6 : w2.heap.size ≤ g' := hg'
          refine back _ _ (k + 1, some (g', c', r', [.slice b0 y.length c0])) [1] (by simp only; omega) ⟨by kernel_rfl, by kernel_rfl, by kernel_rfl, by kernel_rfl, by kernel_rfl, rfl⟩ (fun w7 hw7 => ⟨hlt, ?_⟩)
          show Row1 _ _ _ _ _ _ _ _ ((L.take (k + 1)).filter (keptBy K))
          rw [hst]
          exact Row1.one y _ (hw7.blk (j := 1) (b := g') (o := .cells ⟨[.slice b0 y.length c0] ++ r'⟩ 23 (0, 0)) (q := true) (by kernel_rfl)) hl' hc' hm' (by omega) ⟨b0, c0, rfl, hc⟩
        · rw [List.take_length] at h2
          have hst : (L.take (k + 1)).filter (keptBy K) = (L.take k).filter (keptBy K) := by rw [hst, if_neg (by unfold keptBy; rw [h2]; simp), List.append_nil]
          refine To.runF 6 [] (fun _ _ => by kernel_rfl) fun f7 g7 l7 => ?_
          refine To.slotE 13 (.int .i64 (IntKind.i64.wrap (Int.ofNat k + 1))) (.int .i64 (Int.ofNat (k + 1))) (by kernel_rfl) (by rw [wrap_succ k (by omega)]) ?_
          exact back _ _ (k + 1, none) [] (by simp only; omega) ⟨by kernel_rfl, by kernel_rfl, by kernel_rfl, by kernel_rfl, by kernel_rfl, rfl⟩ (fun w7 hw7 => ⟨hlt, hst.trans hnil⟩)
    · have hk1 : k = L.length := by omega
      subst hk1
      refine To.testF (decide (Int.ofNat L.length < Int.ofNat L.length)) (by kernel_rfl) (by simp) ?_
      refine To.runF 6 [] (fun _ _ => by kernel_rfl) fun f3 g3 l3 => ?_
      exact To.ret [] (.slice none 0 0) (by kernel_rfl) (by kernel_rfl) fun w4 hw4 => by
        rw [List.take_length] at hnil
        rw [hnil]
        exact ⟨_, rfl, hw4.ext, none, 0, rfl, AddrsIn.nil⟩
  · have hk : k ≤ L.length := hk
    have hrow : Row1 (fun _ => CompV w) 23 w.heap.size w1 g c rest vs ((L.take k).filter (keptBy K)) := hinv
    have hul : ((L.take k).filter (keptBy K)).length ≤ 1000000000 := by have := List.length_filter_le (keptBy K) (L.take k); rw [List.length_take] at this; omega
    refine To.runF 5 [] (fun _ _ => by kernel_rfl) fun f2 g2 l2 => ?_
    by_cases hlt : k < L.length
    · obtain ⟨y, hp⟩ : ∃ y, L[k]? = some y := ⟨L[k], by simp [hlt]⟩
      obtain ⟨ad, b0, c0, ha, hsp, hc0, hc⟩ := hin.at_ k y hp
      have hst : (L.take (k + 1)).filter (keptBy K) = (L.take k).filter (keptBy K) ++ (if keptBy K y then [y] else []) := filter_take _ hp
      refine To.testT (decide (Int.ofNat k < Int.ofNat L.length)) (by kernel_rfl) (decide_eq_true (Int.ofNat_lt.2 hlt)) ?_
      refine To.runF 5 [] (fun _ _ => by kernel_rfl) fun f3 g3 l3 => ?_
      refine To.indexAt elA a ad L.length cap k (by kernel_rfl) ha hlt ?_
      refine To.loadOne uComps rfl (ad.add (k * 1)) (.slice b0 y.length c0) (by kernel_rfl) (fun w2 hw2 => hw2.ext.cell hc0 (by simp)) ?_
      refine To.runF 14 [] (fun _ _ => by kernel_rfl) fun f4 g4 l4 => ?_
      refine To.loop (fun m : Nat => K.length - m) (fun m => ([(1, .slice b K.length cb), (5, (.slice (some ⟨g, 0, none⟩) ((L.take k).filter (keptBy K)).length c)), (7, .slice b0 y.length c0), (8, .bool ((K.take m).all (anyOf y))), (11, .slice a L.length cap), (12, .int .i64 (Int.ofNat L.length)), (13, .int .i64 (Int.ofNat k)), (17, .slice b K.length cb), (18, .int .i64 (Int.ofNat K.length)), (19, .int .i64 (Int.ofNat m))], [some ⟨g, .cells ⟨vs ++ rest⟩ 23 (0, 0), true⟩])) (fun m _ => m ≤ K.length) 0 [0] (by kernel_rfl) (by kernel_rfl) (by kernel_rfl) rfl (fun _ _ => Nat.zero_le _) ?_
      intro m w2 hm hx2 back2
      refine To.runF 5 [] (fun _ _ => by kernel_rfl) fun f5 g5 l5 => ?_
      by_cases hmt : m < K.length
      · obtain ⟨z, hz⟩ : ∃ z, K[m]? = some z := ⟨K[m], by simp [hmt]⟩
        obtain ⟨bd, d0, e0, hbb, hbs, hd0, hd⟩ := hK.at_ m z hz
        refine To.testT (decide (Int.ofNat m < Int.ofNat K.length)) (by kernel_rfl) (decide_eq_true (Int.ofNat_lt.2 hmt)) ?_
        refine To.runF 5 [] (fun _ _ => by kernel_rfl) fun f6 g6 l6 => ?_
        refine To.indexAt elL b bd K.length cb m (by kernel_rfl) hbb hmt ?_
        refine To.loadOne uInts rfl (bd.add (m * 1)) (.slice d0 z.length e0) (by kernel_rfl) (fun w3 hw3 => hw3.ext.cell hd0 (by simp)) ?_
        refine To.runF 5 [] (fun _ _ => by kernel_rfl) fun f7 g7 l7 => ?_
        refine To.slot 24 ((K.take m).all (anyOf y)) (by kernel_rfl) (fun h2 => ?_) (fun h2 => ?_)
        · refine To.runF 2 [] (fun _ _ => by kernel_rfl) fun f8 g8 l8 => ?_
          refine To.callN 32 #[.slice b0 y.length c0, .slice d0 z.length e0] (by kernel_rfl) (fun _ => by kernel_rfl) (fun w3 hw3 => maFirst y z b0 d0 c0 e0 w3 (hc.later hw3.ext) (hd.later hw3.ext) (hs y (List.mem_of_getElem? hp)) (ht z (List.mem_of_getElem? hz))) (fun w3 v3 w4 hw3 hx3 hv3 hnew3 hwi3 => ?_)
          obtain ⟨q, rfl, hq⟩ := hv3
          refine To.runF 11 [] (fun _ _ => by kernel_rfl) fun f9 g9 l9 => ?_
          refine To.slotE 19 (.int .i64 (IntKind.i64.wrap (Int.ofNat m + 1))) (.int .i64 (Int.ofNat (m + 1))) (by kernel_rfl) (by rw [wrap_succ m (by omega)]) ?_
          refine To.slotE 8 (.bool (decide (Int.ofNat q < Int.ofNat y.length))) (.bool ((K.take (m + 1)).all (anyOf y))) (by kernel_rfl) (by
            rw [all_take _ hz, h2, ← hq, Bool.true_and]
            congr 1
            exact decide_eq_decide.2 Int.ofNat_lt) ?_
          exact back2 _ _ (m + 1) [0] (by omega) ⟨by kernel_rfl, by kernel_rfl, by kernel_rfl, by kernel_rfl, by kernel_rfl, rfl⟩ (fun w7 hw7 => hmt)
        · refine To.runF 14 [] (fun _ _ => by kernel_rfl) fun f8 g8 l8 => ?_
          refine To.slotE 19 (.int .i64 (IntKind.i64.wrap (Int.ofNat m + 1))) (.int .i64 (Int.ofNat (m + 1))) (by kernel_rfl) (by rw [wrap_succ m (by omega)]) ?_
          refine To.slotE 8 (.bool false) (.bool ((K.take (m + 1)).all (anyOf y))) (by kernel_rfl) (by rw [all_take _ hz, h2, Bool.false_and]) ?_
          exact back2 _ _ (m + 1) [0] (by omega) ⟨by kernel_rfl, by kernel_rfl, by kernel_rfl, by kernel_rfl, by kernel_rfl, rfl⟩ (fun w7 hw7 => hmt)
      · have hm1 : m = K.length := by omega
        subst hm1
        refine To.testF (decide (Int.ofNat K.length < Int.ofNat K.length)) (by kernel_rfl) (by simp) ?_
        refine To.runF 5 [] (fun _ _ => by kernel_rfl) fun f6 g6 l6 => ?_
        refine To.test ((K.take K.length).all (anyOf y)) (by kernel_rfl) (fun h2 => ?_) (fun h2 => ?_)
        · rw [List.take_length] at h2
          have hst : (L.take (k + 1)).filter (keptBy K) = (L.take k).filter (keptBy K) ++ [y] := by rw [hst, if_pos (show keptBy K y = true from h2)]
          refine To.runF 4 [] (fun _ _ => by kernel_rfl) fun f7 g7 l7 => ?_
          refine To.appendE (ty := 22) elA 0 g ((L.take k).filter (keptBy K)).length c vs rest (some ⟨f7 0, 0, none⟩) 1 1 [.slice b0 y.length c0] (((L.take k).filter (keptBy K)).length + 1) (vs ++ [.slice b0 y.length c0])
            (by kernel_rfl) (by kernel_rfl) rfl rfl (by rw [hrow.len, Nat.mul_one]) hrow.room hrow.le hrow.cap rfl
            (fun w hw j u hj => ⟨_, rfl, hw.cellAt0 (j := 1) (b := f7 0) (l := [.slice b0 y.length c0]) (e := 23) (f := (0, 0)) (q := true) (by kernel_rfl) hj⟩) (fun h => by cases h)
            (by intro u hu; simp only [List.mem_cons, List.not_mem_nil, or_false] at hu; rw [hu]; rfl) (by simp only [maxLen]; omega) (by omega) (held_nil (by kernel_rfl)) ?_
          intro w5 w6 g' c' r' hw5 hg5 ho5 hl5 hc5 hm5
          refine To.runF 7 [] (fun _ _ => by kernel_rfl) fun f8 g8 l8 => ?_
          refine To.slotE 13 (.int .i64 (IntKind.i64.wrap (Int.ofNat k + 1))) (.int .i64 (Int.ofNat (k + 1))) (by kernel_rfl) (by rw [wrap_succ k (by omega)]) ?_
          refine To.slotE 5 (.slice (some ⟨g', 0, none⟩) (((L.take k).filter (keptBy K)).length + 1) c') (.slice (some ⟨g', 0, none⟩) ((L.take (k + 1)).filter (keptBy K)).length c') (by kernel_rfl) (by rw [hst, List.length_append]; rfl) ?_
          have q0 := hrow.lo
          have q2 : w.heap.size ≤ w2.heap.size := hx2.size
          have q6 : w2.heap.size ≤ w5.heap.size := hw5.fr.size
          refine back _ _ (k + 1, some (g', c', r', vs ++ [.slice b0 y.length c0])) [2] (by simp only; omega) ⟨by kernel_rfl, by kernel_rfl, by kernel_rfl, by kernel_rfl, by kernel_rfl, rfl⟩ (fun w7 hw7 => ⟨hlt, ?_⟩)
          show Row1 _ _ _ _ _ _ _ _ ((L.take (k + 1)).filter (keptBy K))
          rw [hst]
          exact hrow.snoc y _ (hw7.blk (j := 2) (b := g') (o := .cells ⟨vs ++ [.slice b0 y.length c0] ++ r'⟩ 23 (0, 0)) (q := true) (by kernel_rfl)) hl5 hc5 hm5 (by rcases ho5 with rfl | rfl <;> omega) ⟨b0, c0, rfl, hc⟩ (fun _ _ _ h => h)
        · rw [List.take_length] at h2
          have hst : (L.take (k + 1)).filter (keptBy K) = (L.take k).filter (keptBy K) := by rw [hst, if_neg (by unfold keptBy; rw [h2]; simp), List.append_nil]
          refine To.runF 6 [] (fun _ _ => by kernel_rfl) fun f7 g7 l7 => ?_
          refine To.slotE 13 (.int .i64 (IntKind.i64.wrap (Int.ofNat k + 1))) (.int .i64 (Int.ofNat (k + 1))) (by kernel_rfl) (by rw [wrap_succ k (by omega)]) ?_
          refine To.slotE 5 (.slice (some ⟨g, 0, none⟩) ((L.take k).filter (keptBy K)).length c) (.slice (some ⟨g, 0, none⟩) ((L.take (k + 1)).filter (keptBy K)).length c) (by kernel_rfl) (by rw [hst]) ?_
          refine back _ _ (k + 1, some (g, c, rest, vs)) [0] (by simp only; omega) ⟨by kernel_rfl, by kernel_rfl, by kernel_rfl, by kernel_rfl, by kernel_rfl, rfl⟩ (fun w7 hw7 => ⟨hlt, ?_⟩)
          show Row1 _ _ _ _ _ _ _ _ ((L.take (k + 1)).filter (keptBy K))
          rw [hst]
          exact hrow.kept ((hw7.blk (j := 0) (b := g) (o := .cells ⟨vs ++ rest⟩ 23 (0, 0)) (q := true) (by kernel_rfl)).trans hrow.blk.symm) (fun _ _ _ h => h)
    · have hk1 : k = L.length := by omega
      subst hk1
      refine To.testF (decide (Int.ofNat L.length < Int.ofNat L.length)) (by kernel_rfl) (by simp) ?_
      refine To.runF 6 [] (fun _ _ => by kernel_rfl) fun f3 g3 l3 => ?_
      exact To.ret [0] (.slice (some ⟨g, 0, none⟩) ((L.take L.length).filter (keptBy K)).length c) (by kernel_rfl) (by kernel_rfl) fun w4 hw4 => by
        have h1 := hrow.kept ((hw4.blk (j := 0) (b := g) (o := .cells ⟨vs ++ rest⟩ 23 (0, 0)) (q := true) (by kernel_rfl)).trans hrow.blk.symm) (fun _ _ _ h => h)
        rw [List.take_length] at h1 ⊢
        exact ⟨_, rfl, hw4.ext, some ⟨g, 0, none⟩, c, rfl, row_addrsIn h1 hw4.ext⟩
end Go.Proofs.YtegcplghgnafjaaGreatDoor
