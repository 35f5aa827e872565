/- Which components are simple, and their bounds. Conditions: as each says. -/
import Derived.Test.YtgodhbgnhapemaaGreatDoorJMem
set_option linter.unusedVariables false
set_option linter.unusedSimpArgs false
/- Whether a component is a simple one: some answer is given, and nothing else happens; if it is yes, the component's value has the length of its protocol, or is a plain name, or a path. Conditions: the value is not too long. -/
namespace Go.Proofs.YtgodhbgnhapemaaGreatDoor
open Go Go.SX
set_option maxHeartbeats 8000000
set_option maxRecDepth 100000
/-- The table of protocols: code and size in bits. -/
def specSizes : List (Int × Int) := [(4, 32), (6, 16), (33, 16), (41, 128), (42, -1), (43, 8), (53, -1), (54, -1), (55, -1), (56, -1), (132, 16), (273, 16), (276, 0), (280, 0), (281, 0), (290, 0), (301, 0), (302, 0), (400, -1), (421, -1), (443, 0), (444, 96), (445, 296), (446, -1), (447, -1), (448, 0), (449, -1), (454, 0), (460, 0), (461, 0), (465, 0), (466, -1), (477, 0), (478, 0), (480, 0), (481, -1), (777, 64), (7367777, 0)]
/-- What a yes means. -/
structure SimpleC (c : Int) (val : List UInt8) (sz : Int) : Prop where
  mem : (c, sz) ∈ specSizes
  fixed : 0 ≤ sz → val.length = (sz / 8).toNat ∧ c ≠ 444 ∧ c ≠ 445
  free : sz < 0 → c = 400 ∨ ((c = 42 ∨ c = 53 ∨ c = 54 ∨ c = 55 ∨ c = 56 ∨ c = 449) ∧ 1 ≤ val.length ∧ val.length ≤ 60)
  name : sz < 0 → c ≠ 400 → ∀ x ∈ val, x ≠ 47
  path : c = 400 → PathL val
abbrev SimplePost (c : Int) (val : List UInt8) (w : World) (e : Ending) (w1 : World) : Prop := ∃ v, e = .returned v ∧ Ext [] w w1 ∧ ∃ b, v = .bool b ∧ (b = true → ∃ sz, SimpleC c val sz)
theorem len_of_eq {n k : Nat} (h : (Int.ofNat n == Int.ofNat k) = true) : n = k := Int.ofNat.inj (eq_of_beq h)
theorem simple4 (va : Option Addr) (cv : Nat) (val : List UInt8) (w : World) (hval : BytesIn w va val) (hlen : val.length ≤ 1152921504606846976) :
    Calls Tryz.prog 13 #[.agg #[.int .i64 4, .slice va val.length cv]] w (SimplePost 4 val w) := by
  refine calls_of0 (args := [.agg #[.int .i64 4, .slice va val.length cv]]) Tryz.func13 rfl rfl rfl ?_
  refine To.runF 83 [0, 1, 1, 1, 1, 1, 1, 1, 1, 1, 1, 2, 2, 2, 2, 2, 2, 0, 2] (fun _ _ => by kernel_rfl) fun f1 g1 l1 => ?_
  refine To.slot 25 (Int.ofNat val.length == 4) (by kernel_rfl) (fun h => ?_) (fun h => ?_)
  · refine To.runF 11 [0, 0] (fun _ _ => by kernel_rfl) fun f2 g2 l2 => ?_
    exact To.ret [] (.bool true) (by kernel_rfl) (by kernel_rfl) fun w4 hw4 => ⟨_, rfl, hw4.ext, _, rfl, fun _ => ⟨32, by decide, fun _ => ⟨len_of_eq (k := 4) h, by decide, by decide⟩, fun h => by omega, (fun h => by omega), fun h => absurd h (by decide)⟩⟩
  · refine To.runF 11 [] (fun _ _ => by kernel_rfl) fun f2 g2 l2 => ?_
    exact To.ret [] (.bool false) (by kernel_rfl) (by kernel_rfl) fun w4 hw4 => ⟨_, rfl, hw4.ext, _, rfl, fun h => by cases h⟩
theorem simple6 (va : Option Addr) (cv : Nat) (val : List UInt8) (w : World) (hval : BytesIn w va val) (hlen : val.length ≤ 1152921504606846976) :
    Calls Tryz.prog 13 #[.agg #[.int .i64 6, .slice va val.length cv]] w (SimplePost 6 val w) := by
  refine calls_of0 (args := [.agg #[.int .i64 6, .slice va val.length cv]]) Tryz.func13 rfl rfl rfl ?_
  refine To.runF 89 [0, 1, 1, 1, 1, 1, 1, 1, 1, 1, 1, 2, 2, 2, 2, 2, 2, 0, 2] (fun _ _ => by kernel_rfl) fun f1 g1 l1 => ?_
  refine To.slot 25 (Int.ofNat val.length == 2) (by kernel_rfl) (fun h => ?_) (fun h => ?_)
  · refine To.runF 11 [0, 0] (fun _ _ => by kernel_rfl) fun f2 g2 l2 => ?_
    exact To.ret [] (.bool true) (by kernel_rfl) (by kernel_rfl) fun w4 hw4 => ⟨_, rfl, hw4.ext, _, rfl, fun _ => ⟨16, by decide, fun _ => ⟨len_of_eq (k := 2) h, by decide, by decide⟩, fun h => by omega, (fun h => by omega), fun h => absurd h (by decide)⟩⟩
  · refine To.runF 11 [] (fun _ _ => by kernel_rfl) fun f2 g2 l2 => ?_
    exact To.ret [] (.bool false) (by kernel_rfl) (by kernel_rfl) fun w4 hw4 => ⟨_, rfl, hw4.ext, _, rfl, fun h => by cases h⟩
theorem simple33 (va : Option Addr) (cv : Nat) (val : List UInt8) (w : World) (hval : BytesIn w va val) (hlen : val.length ≤ 1152921504606846976) :
    Calls Tryz.prog 13 #[.agg #[.int .i64 33, .slice va val.length cv]] w (SimplePost 33 val w) := by
  refine calls_of0 (args := [.agg #[.int .i64 33, .slice va val.length cv]]) Tryz.func13 rfl rfl rfl ?_
  refine To.runF 95 [0, 1, 1, 1, 1, 1, 1, 1, 1, 1, 1, 2, 2, 2, 2, 2, 2, 0, 2] (fun _ _ => by kernel_rfl) fun f1 g1 l1 => ?_
  refine To.slot 25 (Int.ofNat val.length == 2) (by kernel_rfl) (fun h => ?_) (fun h => ?_)
  · refine To.runF 11 [0, 0] (fun _ _ => by kernel_rfl) fun f2 g2 l2 => ?_
    exact To.ret [] (.bool true) (by kernel_rfl) (by kernel_rfl) fun w4 hw4 => ⟨_, rfl, hw4.ext, _, rfl, fun _ => ⟨16, by decide, fun _ => ⟨len_of_eq (k := 2) h, by decide, by decide⟩, fun h => by omega, (fun h => by omega), fun h => absurd h (by decide)⟩⟩
  · refine To.runF 11 [] (fun _ _ => by kernel_rfl) fun f2 g2 l2 => ?_
    exact To.ret [] (.bool false) (by kernel_rfl) (by kernel_rfl) fun w4 hw4 => ⟨_, rfl, hw4.ext, _, rfl, fun h => by cases h⟩
theorem simple41 (va : Option Addr) (cv : Nat) (val : List UInt8) (w : World) (hval : BytesIn w va val) (hlen : val.length ≤ 1152921504606846976) :
    Calls Tryz.prog 13 #[.agg #[.int .i64 41, .slice va val.length cv]] w (SimplePost 41 val w) := by
  refine calls_of0 (args := [.agg #[.int .i64 41, .slice va val.length cv]]) Tryz.func13 rfl rfl rfl ?_
  refine To.runF 101 [0, 1, 1, 1, 1, 1, 1, 1, 1, 1, 1, 2, 2, 2, 2, 2, 2, 0, 2] (fun _ _ => by kernel_rfl) fun f1 g1 l1 => ?_
  refine To.slot 25 (Int.ofNat val.length == 16) (by kernel_rfl) (fun h => ?_) (fun h => ?_)
  · refine To.runF 11 [0, 0] (fun _ _ => by kernel_rfl) fun f2 g2 l2 => ?_
    exact To.ret [] (.bool true) (by kernel_rfl) (by kernel_rfl) fun w4 hw4 => ⟨_, rfl, hw4.ext, _, rfl, fun _ => ⟨128, by decide, fun _ => ⟨len_of_eq (k := 16) h, by decide, by decide⟩, fun h => by omega, (fun h => by omega), fun h => absurd h (by decide)⟩⟩
  · refine To.runF 11 [] (fun _ _ => by kernel_rfl) fun f2 g2 l2 => ?_
    exact To.ret [] (.bool false) (by kernel_rfl) (by kernel_rfl) fun w4 hw4 => ⟨_, rfl, hw4.ext, _, rfl, fun h => by cases h⟩
theorem simple42 (va : Option Addr) (cv : Nat) (val : List UInt8) (w : World) (hval : BytesIn w va val) (hlen : val.length ≤ 1152921504606846976) :
    Calls Tryz.prog 13 #[.agg #[.int .i64 42, .slice va val.length cv]] w (SimplePost 42 val w) := by
  refine calls_of0 (args := [.agg #[.int .i64 42, .slice va val.length cv]]) Tryz.func13 rfl rfl rfl ?_
  refine To.runF 120 [0, 1, 1, 1, 1, 1, 1, 1, 1, 1, 1, 2, 2, 2, 2, 2, 2, 0, 0, 0] (fun _ _ => by kernel_rfl) fun f1 g1 l1 => ?_
  refine To.textOf va val.length cv val rfl uBytes uString uU8 (by kernel_rfl) (fun w hw => (hval.later hw.ext).at_) hval.none ?_
  refine To.callN 22 #[.string ⟨⟨val⟩⟩] (by kernel_rfl) (fun _ => by kernel_rfl) (fun w hw => maPlainX ⟨⟨val⟩⟩ w (by simp only [ByteArray.size, Array.size]; omega)) (fun w3 v3 w4 hw3 hx3 hv3 hnew3 hwi3 => ?_)
  obtain ⟨b, rfl, hb⟩ := hv3
  refine To.runF 2 [] (fun _ _ => by kernel_rfl) fun f2 g2 l2 => ?_
  exact To.ret [] (.bool b) (by kernel_rfl) (by kernel_rfl) fun w4 hw4 => ⟨_, rfl, hw4.ext, _, rfl, fun h => ⟨-1, by decide, (fun h => by omega), (fun _ => .inr ⟨by decide, (hb h).1⟩), (fun _ _ => (hb h).2), fun h => absurd h (by decide)⟩⟩
theorem simple43 (va : Option Addr) (cv : Nat) (val : List UInt8) (w : World) (hval : BytesIn w va val) (hlen : val.length ≤ 1152921504606846976) :
    Calls Tryz.prog 13 #[.agg #[.int .i64 43, .slice va val.length cv]] w (SimplePost 43 val w) := by
  refine calls_of0 (args := [.agg #[.int .i64 43, .slice va val.length cv]]) Tryz.func13 rfl rfl rfl ?_
  refine To.runF 113 [0, 1, 1, 1, 1, 1, 1, 1, 1, 1, 1, 2, 2, 2, 2, 2, 2, 0, 2] (fun _ _ => by kernel_rfl) fun f1 g1 l1 => ?_
  refine To.slot 25 (Int.ofNat val.length == 1) (by kernel_rfl) (fun h => ?_) (fun h => ?_)
  · refine To.runF 11 [0, 0] (fun _ _ => by kernel_rfl) fun f2 g2 l2 => ?_
    exact To.ret [] (.bool true) (by kernel_rfl) (by kernel_rfl) fun w4 hw4 => ⟨_, rfl, hw4.ext, _, rfl, fun _ => ⟨8, by decide, fun _ => ⟨len_of_eq (k := 1) h, by decide, by decide⟩, fun h => by omega, (fun h => by omega), fun h => absurd h (by decide)⟩⟩
  · refine To.runF 11 [] (fun _ _ => by kernel_rfl) fun f2 g2 l2 => ?_
    exact To.ret [] (.bool false) (by kernel_rfl) (by kernel_rfl) fun w4 hw4 => ⟨_, rfl, hw4.ext, _, rfl, fun h => by cases h⟩
theorem simple53 (va : Option Addr) (cv : Nat) (val : List UInt8) (w : World) (hval : BytesIn w va val) (hlen : val.length ≤ 1152921504606846976) :
    Calls Tryz.prog 13 #[.agg #[.int .i64 53, .slice va val.length cv]] w (SimplePost 53 val w) := by
  refine calls_of0 (args := [.agg #[.int .i64 53, .slice va val.length cv]]) Tryz.func13 rfl rfl rfl ?_
  refine To.runF 145 [0, 1, 1, 1, 1, 1, 1, 1, 1, 1, 1, 2, 2, 2, 2, 2, 2, 0, 0, 0, 0, 0] (fun _ _ => by kernel_rfl) fun f1 g1 l1 => ?_
  refine To.textOf va val.length cv val rfl uBytes uString uU8 (by kernel_rfl) (fun w hw => (hval.later hw.ext).at_) hval.none ?_
  refine To.callN 22 #[.string ⟨⟨val⟩⟩] (by kernel_rfl) (fun _ => by kernel_rfl) (fun w hw => maPlainX ⟨⟨val⟩⟩ w (by simp only [ByteArray.size, Array.size]; omega)) (fun w3 v3 w4 hw3 hx3 hv3 hnew3 hwi3 => ?_)
  obtain ⟨b, rfl, hb⟩ := hv3
  refine To.runF 2 [] (fun _ _ => by kernel_rfl) fun f2 g2 l2 => ?_
  exact To.ret [] (.bool b) (by kernel_rfl) (by kernel_rfl) fun w4 hw4 => ⟨_, rfl, hw4.ext, _, rfl, fun h => ⟨-1, by decide, (fun h => by omega), (fun _ => .inr ⟨by decide, (hb h).1⟩), (fun _ _ => (hb h).2), fun h => absurd h (by decide)⟩⟩
theorem simple54 (va : Option Addr) (cv : Nat) (val : List UInt8) (w : World) (hval : BytesIn w va val) (hlen : val.length ≤ 1152921504606846976) :
    Calls Tryz.prog 13 #[.agg #[.int .i64 54, .slice va val.length cv]] w (SimplePost 54 val w) := by
  refine calls_of0 (args := [.agg #[.int .i64 54, .slice va val.length cv]]) Tryz.func13 rfl rfl rfl ?_
  refine To.runF 151 [0, 1, 1, 1, 1, 1, 1, 1, 1, 1, 1, 2, 2, 2, 2, 2, 2, 0, 0, 0, 0, 0] (fun _ _ => by kernel_rfl) fun f1 g1 l1 => ?_
  refine To.textOf va val.length cv val rfl uBytes uString uU8 (by kernel_rfl) (fun w hw => (hval.later hw.ext).at_) hval.none ?_
  refine To.callN 22 #[.string ⟨⟨val⟩⟩] (by kernel_rfl) (fun _ => by kernel_rfl) (fun w hw => maPlainX ⟨⟨val⟩⟩ w (by simp only [ByteArray.size, Array.size]; omega)) (fun w3 v3 w4 hw3 hx3 hv3 hnew3 hwi3 => ?_)
  obtain ⟨b, rfl, hb⟩ := hv3
  refine To.runF 2 [] (fun _ _ => by kernel_rfl) fun f2 g2 l2 => ?_
  exact To.ret [] (.bool b) (by kernel_rfl) (by kernel_rfl) fun w4 hw4 => ⟨_, rfl, hw4.ext, _, rfl, fun h => ⟨-1, by decide, (fun h => by omega), (fun _ => .inr ⟨by decide, (hb h).1⟩), (fun _ _ => (hb h).2), fun h => absurd h (by decide)⟩⟩
theorem simple55 (va : Option Addr) (cv : Nat) (val : List UInt8) (w : World) (hval : BytesIn w va val) (hlen : val.length ≤ 1152921504606846976) :
    Calls Tryz.prog 13 #[.agg #[.int .i64 55, .slice va val.length cv]] w (SimplePost 55 val w) := by
  refine calls_of0 (args := [.agg #[.int .i64 55, .slice va val.length cv]]) Tryz.func13 rfl rfl rfl ?_
  refine To.runF 157 [0, 1, 1, 1, 1, 1, 1, 1, 1, 1, 1, 2, 2, 2, 2, 2, 2, 0, 0, 0, 0, 0] (fun _ _ => by kernel_rfl) fun f1 g1 l1 => ?_
  refine To.textOf va val.length cv val rfl uBytes uString uU8 (by kernel_rfl) (fun w hw => (hval.later hw.ext).at_) hval.none ?_
  refine To.callN 22 #[.string ⟨⟨val⟩⟩] (by kernel_rfl) (fun _ => by kernel_rfl) (fun w hw => maPlainX ⟨⟨val⟩⟩ w (by simp only [ByteArray.size, Array.size]; omega)) (fun w3 v3 w4 hw3 hx3 hv3 hnew3 hwi3 => ?_)
  obtain ⟨b, rfl, hb⟩ := hv3
  refine To.runF 2 [] (fun _ _ => by kernel_rfl) fun f2 g2 l2 => ?_
  exact To.ret [] (.bool b) (by kernel_rfl) (by kernel_rfl) fun w4 hw4 => ⟨_, rfl, hw4.ext, _, rfl, fun h => ⟨-1, by decide, (fun h => by omega), (fun _ => .inr ⟨by decide, (hb h).1⟩), (fun _ _ => (hb h).2), fun h => absurd h (by decide)⟩⟩
theorem simple56 (va : Option Addr) (cv : Nat) (val : List UInt8) (w : World) (hval : BytesIn w va val) (hlen : val.length ≤ 1152921504606846976) :
    Calls Tryz.prog 13 #[.agg #[.int .i64 56, .slice va val.length cv]] w (SimplePost 56 val w) := by
  refine calls_of0 (args := [.agg #[.int .i64 56, .slice va val.length cv]]) Tryz.func13 rfl rfl rfl ?_
  refine To.runF 163 [0, 1, 1, 1, 1, 1, 1, 1, 1, 1, 1, 2, 2, 2, 2, 2, 2, 0, 0, 0, 0, 0] (fun _ _ => by kernel_rfl) fun f1 g1 l1 => ?_
  refine To.textOf va val.length cv val rfl uBytes uString uU8 (by kernel_rfl) (fun w hw => (hval.later hw.ext).at_) hval.none ?_
  refine To.callN 22 #[.string ⟨⟨val⟩⟩] (by kernel_rfl) (fun _ => by kernel_rfl) (fun w hw => maPlainX ⟨⟨val⟩⟩ w (by simp only [ByteArray.size, Array.size]; omega)) (fun w3 v3 w4 hw3 hx3 hv3 hnew3 hwi3 => ?_)
  obtain ⟨b, rfl, hb⟩ := hv3
  refine To.runF 2 [] (fun _ _ => by kernel_rfl) fun f2 g2 l2 => ?_
  exact To.ret [] (.bool b) (by kernel_rfl) (by kernel_rfl) fun w4 hw4 => ⟨_, rfl, hw4.ext, _, rfl, fun h => ⟨-1, by decide, (fun h => by omega), (fun _ => .inr ⟨by decide, (hb h).1⟩), (fun _ _ => (hb h).2), fun h => absurd h (by decide)⟩⟩
theorem simple132 (va : Option Addr) (cv : Nat) (val : List UInt8) (w : World) (hval : BytesIn w va val) (hlen : val.length ≤ 1152921504606846976) :
    Calls Tryz.prog 13 #[.agg #[.int .i64 132, .slice va val.length cv]] w (SimplePost 132 val w) := by
  refine calls_of0 (args := [.agg #[.int .i64 132, .slice va val.length cv]]) Tryz.func13 rfl rfl rfl ?_
  refine To.runF 143 [0, 1, 1, 1, 1, 1, 1, 1, 1, 1, 1, 2, 2, 2, 2, 2, 2, 0, 2] (fun _ _ => by kernel_rfl) fun f1 g1 l1 => ?_
  refine To.slot 25 (Int.ofNat val.length == 2) (by kernel_rfl) (fun h => ?_) (fun h => ?_)
  · refine To.runF 11 [0, 0] (fun _ _ => by kernel_rfl) fun f2 g2 l2 => ?_
    exact To.ret [] (.bool true) (by kernel_rfl) (by kernel_rfl) fun w4 hw4 => ⟨_, rfl, hw4.ext, _, rfl, fun _ => ⟨16, by decide, fun _ => ⟨len_of_eq (k := 2) h, by decide, by decide⟩, fun h => by omega, (fun h => by omega), fun h => absurd h (by decide)⟩⟩
  · refine To.runF 11 [] (fun _ _ => by kernel_rfl) fun f2 g2 l2 => ?_
    exact To.ret [] (.bool false) (by kernel_rfl) (by kernel_rfl) fun w4 hw4 => ⟨_, rfl, hw4.ext, _, rfl, fun h => by cases h⟩
theorem simple273 (va : Option Addr) (cv : Nat) (val : List UInt8) (w : World) (hval : BytesIn w va val) (hlen : val.length ≤ 1152921504606846976) :
    Calls Tryz.prog 13 #[.agg #[.int .i64 273, .slice va val.length cv]] w (SimplePost 273 val w) := by
  refine calls_of0 (args := [.agg #[.int .i64 273, .slice va val.length cv]]) Tryz.func13 rfl rfl rfl ?_
  refine To.runF 149 [0, 1, 1, 1, 1, 1, 1, 1, 1, 1, 1, 2, 2, 2, 2, 2, 2, 0, 2] (fun _ _ => by kernel_rfl) fun f1 g1 l1 => ?_
  refine To.slot 25 (Int.ofNat val.length == 2) (by kernel_rfl) (fun h => ?_) (fun h => ?_)
  · refine To.runF 11 [0, 0] (fun _ _ => by kernel_rfl) fun f2 g2 l2 => ?_
    exact To.ret [] (.bool true) (by kernel_rfl) (by kernel_rfl) fun w4 hw4 => ⟨_, rfl, hw4.ext, _, rfl, fun _ => ⟨16, by decide, fun _ => ⟨len_of_eq (k := 2) h, by decide, by decide⟩, fun h => by omega, (fun h => by omega), fun h => absurd h (by decide)⟩⟩
  · refine To.runF 11 [] (fun _ _ => by kernel_rfl) fun f2 g2 l2 => ?_
    exact To.ret [] (.bool false) (by kernel_rfl) (by kernel_rfl) fun w4 hw4 => ⟨_, rfl, hw4.ext, _, rfl, fun h => by cases h⟩
theorem simple276 (va : Option Addr) (cv : Nat) (val : List UInt8) (w : World) (hval : BytesIn w va val) (hlen : val.length ≤ 1152921504606846976) :
    Calls Tryz.prog 13 #[.agg #[.int .i64 276, .slice va val.length cv]] w (SimplePost 276 val w) := by
  refine calls_of0 (args := [.agg #[.int .i64 276, .slice va val.length cv]]) Tryz.func13 rfl rfl rfl ?_
  refine To.runF 154 [0, 1, 1, 1, 1, 1, 1, 1, 1, 1, 1, 2, 2, 2, 2, 2, 2, 0, 2] (fun _ _ => by kernel_rfl) fun f1 g1 l1 => ?_
  refine To.slot 25 (Int.ofNat val.length == 0) (by kernel_rfl) (fun h => ?_) (fun h => ?_)
  · refine To.runF 11 [0, 0] (fun _ _ => by kernel_rfl) fun f2 g2 l2 => ?_
    exact To.ret [] (.bool true) (by kernel_rfl) (by kernel_rfl) fun w4 hw4 => ⟨_, rfl, hw4.ext, _, rfl, fun _ => ⟨0, by decide, fun _ => ⟨len_of_eq (k := 0) h, by decide, by decide⟩, fun h => by omega, (fun h => by omega), fun h => absurd h (by decide)⟩⟩
  · refine To.runF 11 [] (fun _ _ => by kernel_rfl) fun f2 g2 l2 => ?_
    exact To.ret [] (.bool false) (by kernel_rfl) (by kernel_rfl) fun w4 hw4 => ⟨_, rfl, hw4.ext, _, rfl, fun h => by cases h⟩
theorem simple280 (va : Option Addr) (cv : Nat) (val : List UInt8) (w : World) (hval : BytesIn w va val) (hlen : val.length ≤ 1152921504606846976) :
    Calls Tryz.prog 13 #[.agg #[.int .i64 280, .slice va val.length cv]] w (SimplePost 280 val w) := by
  refine calls_of0 (args := [.agg #[.int .i64 280, .slice va val.length cv]]) Tryz.func13 rfl rfl rfl ?_
  refine To.runF 160 [0, 1, 1, 1, 1, 1, 1, 1, 1, 1, 1, 2, 2, 2, 2, 2, 2, 0, 2] (fun _ _ => by kernel_rfl) fun f1 g1 l1 => ?_
  refine To.slot 25 (Int.ofNat val.length == 0) (by kernel_rfl) (fun h => ?_) (fun h => ?_)
  · refine To.runF 11 [0, 0] (fun _ _ => by kernel_rfl) fun f2 g2 l2 => ?_
    exact To.ret [] (.bool true) (by kernel_rfl) (by kernel_rfl) fun w4 hw4 => ⟨_, rfl, hw4.ext, _, rfl, fun _ => ⟨0, by decide, fun _ => ⟨len_of_eq (k := 0) h, by decide, by decide⟩, fun h => by omega, (fun h => by omega), fun h => absurd h (by decide)⟩⟩
  · refine To.runF 11 [] (fun _ _ => by kernel_rfl) fun f2 g2 l2 => ?_
    exact To.ret [] (.bool false) (by kernel_rfl) (by kernel_rfl) fun w4 hw4 => ⟨_, rfl, hw4.ext, _, rfl, fun h => by cases h⟩
theorem simple281 (va : Option Addr) (cv : Nat) (val : List UInt8) (w : World) (hval : BytesIn w va val) (hlen : val.length ≤ 1152921504606846976) :
    Calls Tryz.prog 13 #[.agg #[.int .i64 281, .slice va val.length cv]] w (SimplePost 281 val w) := by
  refine calls_of0 (args := [.agg #[.int .i64 281, .slice va val.length cv]]) Tryz.func13 rfl rfl rfl ?_
  refine To.runF 166 [0, 1, 1, 1, 1, 1, 1, 1, 1, 1, 1, 2, 2, 2, 2, 2, 2, 0, 2] (fun _ _ => by kernel_rfl) fun f1 g1 l1 => ?_
  refine To.slot 25 (Int.ofNat val.length == 0) (by kernel_rfl) (fun h => ?_) (fun h => ?_)
  · refine To.runF 11 [0, 0] (fun _ _ => by kernel_rfl) fun f2 g2 l2 => ?_
    exact To.ret [] (.bool true) (by kernel_rfl) (by kernel_rfl) fun w4 hw4 => ⟨_, rfl, hw4.ext, _, rfl, fun _ => ⟨0, by decide, fun _ => ⟨len_of_eq (k := 0) h, by decide, by decide⟩, fun h => by omega, (fun h => by omega), fun h => absurd h (by decide)⟩⟩
  · refine To.runF 11 [] (fun _ _ => by kernel_rfl) fun f2 g2 l2 => ?_
    exact To.ret [] (.bool false) (by kernel_rfl) (by kernel_rfl) fun w4 hw4 => ⟨_, rfl, hw4.ext, _, rfl, fun h => by cases h⟩
theorem simple290 (va : Option Addr) (cv : Nat) (val : List UInt8) (w : World) (hval : BytesIn w va val) (hlen : val.length ≤ 1152921504606846976) :
    Calls Tryz.prog 13 #[.agg #[.int .i64 290, .slice va val.length cv]] w (SimplePost 290 val w) := by
  refine calls_of0 (args := [.agg #[.int .i64 290, .slice va val.length cv]]) Tryz.func13 rfl rfl rfl ?_
  refine To.runF 172 [0, 1, 1, 1, 1, 1, 1, 1, 1, 1, 1, 2, 2, 2, 2, 2, 2, 0, 2] (fun _ _ => by kernel_rfl) fun f1 g1 l1 => ?_
  refine To.slot 25 (Int.ofNat val.length == 0) (by kernel_rfl) (fun h => ?_) (fun h => ?_)
  · refine To.runF 11 [0, 0] (fun _ _ => by kernel_rfl) fun f2 g2 l2 => ?_
    exact To.ret [] (.bool true) (by kernel_rfl) (by kernel_rfl) fun w4 hw4 => ⟨_, rfl, hw4.ext, _, rfl, fun _ => ⟨0, by decide, fun _ => ⟨len_of_eq (k := 0) h, by decide, by decide⟩, fun h => by omega, (fun h => by omega), fun h => absurd h (by decide)⟩⟩
  · refine To.runF 11 [] (fun _ _ => by kernel_rfl) fun f2 g2 l2 => ?_
    exact To.ret [] (.bool false) (by kernel_rfl) (by kernel_rfl) fun w4 hw4 => ⟨_, rfl, hw4.ext, _, rfl, fun h => by cases h⟩
theorem simple301 (va : Option Addr) (cv : Nat) (val : List UInt8) (w : World) (hval : BytesIn w va val) (hlen : val.length ≤ 1152921504606846976) :
    Calls Tryz.prog 13 #[.agg #[.int .i64 301, .slice va val.length cv]] w (SimplePost 301 val w) := by
  refine calls_of0 (args := [.agg #[.int .i64 301, .slice va val.length cv]]) Tryz.func13 rfl rfl rfl ?_
  refine To.runF 178 [0, 1, 1, 1, 1, 1, 1, 1, 1, 1, 1, 2, 2, 2, 2, 2, 2, 0, 2] (fun _ _ => by kernel_rfl) fun f1 g1 l1 => ?_
  refine To.slot 25 (Int.ofNat val.length == 0) (by kernel_rfl) (fun h => ?_) (fun h => ?_)
  · refine To.runF 11 [0, 0] (fun _ _ => by kernel_rfl) fun f2 g2 l2 => ?_
    exact To.ret [] (.bool true) (by kernel_rfl) (by kernel_rfl) fun w4 hw4 => ⟨_, rfl, hw4.ext, _, rfl, fun _ => ⟨0, by decide, fun _ => ⟨len_of_eq (k := 0) h, by decide, by decide⟩, fun h => by omega, (fun h => by omega), fun h => absurd h (by decide)⟩⟩
  · refine To.runF 11 [] (fun _ _ => by kernel_rfl) fun f2 g2 l2 => ?_
    exact To.ret [] (.bool false) (by kernel_rfl) (by kernel_rfl) fun w4 hw4 => ⟨_, rfl, hw4.ext, _, rfl, fun h => by cases h⟩
theorem simple302 (va : Option Addr) (cv : Nat) (val : List UInt8) (w : World) (hval : BytesIn w va val) (hlen : val.length ≤ 1152921504606846976) :
    Calls Tryz.prog 13 #[.agg #[.int .i64 302, .slice va val.length cv]] w (SimplePost 302 val w) := by
  refine calls_of0 (args := [.agg #[.int .i64 302, .slice va val.length cv]]) Tryz.func13 rfl rfl rfl ?_
  refine To.runF 184 [0, 1, 1, 1, 1, 1, 1, 1, 1, 1, 1, 2, 2, 2, 2, 2, 2, 0, 2] (fun _ _ => by kernel_rfl) fun f1 g1 l1 => ?_
  refine To.slot 25 (Int.ofNat val.length == 0) (by kernel_rfl) (fun h => ?_) (fun h => ?_)
  · refine To.runF 11 [0, 0] (fun _ _ => by kernel_rfl) fun f2 g2 l2 => ?_
    exact To.ret [] (.bool true) (by kernel_rfl) (by kernel_rfl) fun w4 hw4 => ⟨_, rfl, hw4.ext, _, rfl, fun _ => ⟨0, by decide, fun _ => ⟨len_of_eq (k := 0) h, by decide, by decide⟩, fun h => by omega, (fun h => by omega), fun h => absurd h (by decide)⟩⟩
  · refine To.runF 11 [] (fun _ _ => by kernel_rfl) fun f2 g2 l2 => ?_
    exact To.ret [] (.bool false) (by kernel_rfl) (by kernel_rfl) fun w4 hw4 => ⟨_, rfl, hw4.ext, _, rfl, fun h => by cases h⟩
theorem simple400 (va : Option Addr) (cv : Nat) (val : List UInt8) (w : World) (hval : BytesIn w va val) (hlen : val.length ≤ 1152921504606846976) :
    Calls Tryz.prog 13 #[.agg #[.int .i64 400, .slice va val.length cv]] w (SimplePost 400 val w) := by
  refine calls_of0 (args := [.agg #[.int .i64 400, .slice va val.length cv]]) Tryz.func13 rfl rfl rfl ?_
  refine To.runF 193 [0, 1, 1, 1, 1, 1, 1, 1, 1, 1, 1, 2, 2, 2, 2, 2, 2, 0, 0] (fun _ _ => by kernel_rfl) fun f1 g1 l1 => ?_
  refine To.textOf va val.length cv val rfl uBytes uString uU8 (by kernel_rfl) (fun w hw => (hval.later hw.ext).at_) hval.none ?_
  refine To.callN 21 #[.string ⟨⟨val⟩⟩] (by kernel_rfl) (fun _ => by kernel_rfl) (fun w hw => maPath ⟨⟨val⟩⟩ w (by simp only [ByteArray.size, Array.size]; omega)) (fun w3 v3 w4 hw3 hx3 hv3 hnew3 hwi3 => ?_)
  obtain ⟨b, rfl, hb⟩ := hv3
  refine To.runF 2 [] (fun _ _ => by kernel_rfl) fun f2 g2 l2 => ?_
  exact To.ret [] (.bool b) (by kernel_rfl) (by kernel_rfl) fun w4 hw4 => ⟨_, rfl, hw4.ext, _, rfl, fun h => ⟨-1, by decide, (fun h => by omega), (fun _ => .inl rfl), (fun _ h => absurd rfl h), fun _ => hb h⟩⟩
theorem simple421 (va : Option Addr) (cv : Nat) (val : List UInt8) (w : World) (hval : BytesIn w va val) (hlen : val.length ≤ 1152921504606846976) :
    Calls Tryz.prog 13 #[.agg #[.int .i64 421, .slice va val.length cv]] w (SimplePost 421 val w) := by
  refine calls_of0 (args := [.agg #[.int .i64 421, .slice va val.length cv]]) Tryz.func13 rfl rfl rfl ?_
  refine To.runF 230 [0, 1, 1, 1, 1, 1, 1, 1, 1, 1, 1, 2, 2, 2, 2, 2, 2, 0, 0, 0, 0, 0] (fun _ _ => by kernel_rfl) fun f1 g1 l1 => ?_
  exact To.ret [] (.bool false) (by kernel_rfl) (by kernel_rfl) fun w4 hw4 => ⟨_, rfl, hw4.ext, _, rfl, fun h => by cases h⟩
theorem simple443 (va : Option Addr) (cv : Nat) (val : List UInt8) (w : World) (hval : BytesIn w va val) (hlen : val.length ≤ 1152921504606846976) :
    Calls Tryz.prog 13 #[.agg #[.int .i64 443, .slice va val.length cv]] w (SimplePost 443 val w) := by
  refine calls_of0 (args := [.agg #[.int .i64 443, .slice va val.length cv]]) Tryz.func13 rfl rfl rfl ?_
  refine To.runF 202 [0, 1, 1, 1, 1, 1, 1, 1, 1, 1, 1, 2, 2, 2, 2, 2, 2, 0, 2] (fun _ _ => by kernel_rfl) fun f1 g1 l1 => ?_
  refine To.slot 25 (Int.ofNat val.length == 0) (by kernel_rfl) (fun h => ?_) (fun h => ?_)
  · refine To.runF 11 [0, 0] (fun _ _ => by kernel_rfl) fun f2 g2 l2 => ?_
    exact To.ret [] (.bool true) (by kernel_rfl) (by kernel_rfl) fun w4 hw4 => ⟨_, rfl, hw4.ext, _, rfl, fun _ => ⟨0, by decide, fun _ => ⟨len_of_eq (k := 0) h, by decide, by decide⟩, fun h => by omega, (fun h => by omega), fun h => absurd h (by decide)⟩⟩
  · refine To.runF 11 [] (fun _ _ => by kernel_rfl) fun f2 g2 l2 => ?_
    exact To.ret [] (.bool false) (by kernel_rfl) (by kernel_rfl) fun w4 hw4 => ⟨_, rfl, hw4.ext, _, rfl, fun h => by cases h⟩
theorem simple444 (va : Option Addr) (cv : Nat) (val : List UInt8) (w : World) (hval : BytesIn w va val) (hlen : val.length ≤ 1152921504606846976) :
    Calls Tryz.prog 13 #[.agg #[.int .i64 444, .slice va val.length cv]] w (SimplePost 444 val w) := by
  refine calls_of0 (args := [.agg #[.int .i64 444, .slice va val.length cv]]) Tryz.func13 rfl rfl rfl ?_
  refine To.runF 209 [0, 1, 1, 1, 1, 1, 1, 1, 1, 1, 1, 2, 2, 2, 2, 2, 2, 0, 2] (fun _ _ => by kernel_rfl) fun f1 g1 l1 => ?_
  refine To.slot 25 (Int.ofNat val.length == 12) (by kernel_rfl) (fun h => ?_) (fun h => ?_)
  · refine To.runF 11 [0] (fun _ _ => by kernel_rfl) fun f2 g2 l2 => ?_
    exact To.ret [] (.bool false) (by kernel_rfl) (by kernel_rfl) fun w4 hw4 => ⟨_, rfl, hw4.ext, _, rfl, fun h => by cases h⟩
  · refine To.runF 11 [] (fun _ _ => by kernel_rfl) fun f2 g2 l2 => ?_
    exact To.ret [] (.bool false) (by kernel_rfl) (by kernel_rfl) fun w4 hw4 => ⟨_, rfl, hw4.ext, _, rfl, fun h => by cases h⟩
theorem simple445 (va : Option Addr) (cv : Nat) (val : List UInt8) (w : World) (hval : BytesIn w va val) (hlen : val.length ≤ 1152921504606846976) :
    Calls Tryz.prog 13 #[.agg #[.int .i64 445, .slice va val.length cv]] w (SimplePost 445 val w) := by
  refine calls_of0 (args := [.agg #[.int .i64 445, .slice va val.length cv]]) Tryz.func13 rfl rfl rfl ?_
  refine To.runF 215 [0, 1, 1, 1, 1, 1, 1, 1, 1, 1, 1, 2, 2, 2, 2, 2, 2, 0, 2] (fun _ _ => by kernel_rfl) fun f1 g1 l1 => ?_
  refine To.slot 25 (Int.ofNat val.length == 37) (by kernel_rfl) (fun h => ?_) (fun h => ?_)
  · refine To.runF 11 [0, 0] (fun _ _ => by kernel_rfl) fun f2 g2 l2 => ?_
    exact To.ret [] (.bool false) (by kernel_rfl) (by kernel_rfl) fun w4 hw4 => ⟨_, rfl, hw4.ext, _, rfl, fun h => by cases h⟩
  · refine To.runF 11 [] (fun _ _ => by kernel_rfl) fun f2 g2 l2 => ?_
    exact To.ret [] (.bool false) (by kernel_rfl) (by kernel_rfl) fun w4 hw4 => ⟨_, rfl, hw4.ext, _, rfl, fun h => by cases h⟩
theorem simple446 (va : Option Addr) (cv : Nat) (val : List UInt8) (w : World) (hval : BytesIn w va val) (hlen : val.length ≤ 1152921504606846976) :
    Calls Tryz.prog 13 #[.agg #[.int .i64 446, .slice va val.length cv]] w (SimplePost 446 val w) := by
  refine calls_of0 (args := [.agg #[.int .i64 446, .slice va val.length cv]]) Tryz.func13 rfl rfl rfl ?_
  refine To.runF 254 [0, 1, 1, 1, 1, 1, 1, 1, 1, 1, 1, 2, 2, 2, 2, 2, 2, 0, 0, 0, 0, 0] (fun _ _ => by kernel_rfl) fun f1 g1 l1 => ?_
  exact To.ret [] (.bool false) (by kernel_rfl) (by kernel_rfl) fun w4 hw4 => ⟨_, rfl, hw4.ext, _, rfl, fun h => by cases h⟩
theorem simple447 (va : Option Addr) (cv : Nat) (val : List UInt8) (w : World) (hval : BytesIn w va val) (hlen : val.length ≤ 1152921504606846976) :
    Calls Tryz.prog 13 #[.agg #[.int .i64 447, .slice va val.length cv]] w (SimplePost 447 val w) := by
  refine calls_of0 (args := [.agg #[.int .i64 447, .slice va val.length cv]]) Tryz.func13 rfl rfl rfl ?_
  refine To.runF 260 [0, 1, 1, 1, 1, 1, 1, 1, 1, 1, 1, 2, 2, 2, 2, 2, 2, 0, 0, 0, 0, 0] (fun _ _ => by kernel_rfl) fun f1 g1 l1 => ?_
  exact To.ret [] (.bool false) (by kernel_rfl) (by kernel_rfl) fun w4 hw4 => ⟨_, rfl, hw4.ext, _, rfl, fun h => by cases h⟩
theorem simple448 (va : Option Addr) (cv : Nat) (val : List UInt8) (w : World) (hval : BytesIn w va val) (hlen : val.length ≤ 1152921504606846976) :
    Calls Tryz.prog 13 #[.agg #[.int .i64 448, .slice va val.length cv]] w (SimplePost 448 val w) := by
  refine calls_of0 (args := [.agg #[.int .i64 448, .slice va val.length cv]]) Tryz.func13 rfl rfl rfl ?_
  refine To.runF 232 [0, 1, 1, 1, 1, 1, 1, 1, 1, 1, 1, 2, 2, 2, 2, 2, 2, 0, 2] (fun _ _ => by kernel_rfl) fun f1 g1 l1 => ?_
  refine To.slot 25 (Int.ofNat val.length == 0) (by kernel_rfl) (fun h => ?_) (fun h => ?_)
  · refine To.runF 11 [0, 0] (fun _ _ => by kernel_rfl) fun f2 g2 l2 => ?_
    exact To.ret [] (.bool true) (by kernel_rfl) (by kernel_rfl) fun w4 hw4 => ⟨_, rfl, hw4.ext, _, rfl, fun _ => ⟨0, by decide, fun _ => ⟨len_of_eq (k := 0) h, by decide, by decide⟩, fun h => by omega, (fun h => by omega), fun h => absurd h (by decide)⟩⟩
  · refine To.runF 11 [] (fun _ _ => by kernel_rfl) fun f2 g2 l2 => ?_
    exact To.ret [] (.bool false) (by kernel_rfl) (by kernel_rfl) fun w4 hw4 => ⟨_, rfl, hw4.ext, _, rfl, fun h => by cases h⟩
theorem simple449 (va : Option Addr) (cv : Nat) (val : List UInt8) (w : World) (hval : BytesIn w va val) (hlen : val.length ≤ 1152921504606846976) :
    Calls Tryz.prog 13 #[.agg #[.int .i64 449, .slice va val.length cv]] w (SimplePost 449 val w) := by
  refine calls_of0 (args := [.agg #[.int .i64 449, .slice va val.length cv]]) Tryz.func13 rfl rfl rfl ?_
  refine To.runF 270 [0, 1, 1, 1, 1, 1, 1, 1, 1, 1, 1, 2, 2, 2, 2, 2, 2, 0, 0, 0, 0, 0, 0] (fun _ _ => by kernel_rfl) fun f1 g1 l1 => ?_
  refine To.textOf va val.length cv val rfl uBytes uString uU8 (by kernel_rfl) (fun w hw => (hval.later hw.ext).at_) hval.none ?_
  refine To.callN 22 #[.string ⟨⟨val⟩⟩] (by kernel_rfl) (fun _ => by kernel_rfl) (fun w hw => maPlainX ⟨⟨val⟩⟩ w (by simp only [ByteArray.size, Array.size]; omega)) (fun w3 v3 w4 hw3 hx3 hv3 hnew3 hwi3 => ?_)
  obtain ⟨b, rfl, hb⟩ := hv3
  refine To.runF 2 [] (fun _ _ => by kernel_rfl) fun f2 g2 l2 => ?_
  exact To.ret [] (.bool b) (by kernel_rfl) (by kernel_rfl) fun w4 hw4 => ⟨_, rfl, hw4.ext, _, rfl, fun h => ⟨-1, by decide, (fun h => by omega), (fun _ => .inr ⟨by decide, (hb h).1⟩), (fun _ _ => (hb h).2), fun h => absurd h (by decide)⟩⟩
theorem simple454 (va : Option Addr) (cv : Nat) (val : List UInt8) (w : World) (hval : BytesIn w va val) (hlen : val.length ≤ 1152921504606846976) :
    Calls Tryz.prog 13 #[.agg #[.int .i64 454, .slice va val.length cv]] w (SimplePost 454 val w) := by
  refine calls_of0 (args := [.agg #[.int .i64 454, .slice va val.length cv]]) Tryz.func13 rfl rfl rfl ?_
  refine To.runF 244 [0, 1, 1, 1, 1, 1, 1, 1, 1, 1, 1, 2, 2, 2, 2, 2, 2, 0, 2] (fun _ _ => by kernel_rfl) fun f1 g1 l1 => ?_
  refine To.slot 25 (Int.ofNat val.length == 0) (by kernel_rfl) (fun h => ?_) (fun h => ?_)
  · refine To.runF 11 [0, 0] (fun _ _ => by kernel_rfl) fun f2 g2 l2 => ?_
    exact To.ret [] (.bool true) (by kernel_rfl) (by kernel_rfl) fun w4 hw4 => ⟨_, rfl, hw4.ext, _, rfl, fun _ => ⟨0, by decide, fun _ => ⟨len_of_eq (k := 0) h, by decide, by decide⟩, fun h => by omega, (fun h => by omega), fun h => absurd h (by decide)⟩⟩
  · refine To.runF 11 [] (fun _ _ => by kernel_rfl) fun f2 g2 l2 => ?_
    exact To.ret [] (.bool false) (by kernel_rfl) (by kernel_rfl) fun w4 hw4 => ⟨_, rfl, hw4.ext, _, rfl, fun h => by cases h⟩
theorem simple460 (va : Option Addr) (cv : Nat) (val : List UInt8) (w : World) (hval : BytesIn w va val) (hlen : val.length ≤ 1152921504606846976) :
    Calls Tryz.prog 13 #[.agg #[.int .i64 460, .slice va val.length cv]] w (SimplePost 460 val w) := by
  refine calls_of0 (args := [.agg #[.int .i64 460, .slice va val.length cv]]) Tryz.func13 rfl rfl rfl ?_
  refine To.runF 250 [0, 1, 1, 1, 1, 1, 1, 1, 1, 1, 1, 2, 2, 2, 2, 2, 2, 0, 2] (fun _ _ => by kernel_rfl) fun f1 g1 l1 => ?_
  refine To.slot 25 (Int.ofNat val.length == 0) (by kernel_rfl) (fun h => ?_) (fun h => ?_)
  · refine To.runF 11 [0, 0] (fun _ _ => by kernel_rfl) fun f2 g2 l2 => ?_
    exact To.ret [] (.bool true) (by kernel_rfl) (by kernel_rfl) fun w4 hw4 => ⟨_, rfl, hw4.ext, _, rfl, fun _ => ⟨0, by decide, fun _ => ⟨len_of_eq (k := 0) h, by decide, by decide⟩, fun h => by omega, (fun h => by omega), fun h => absurd h (by decide)⟩⟩
  · refine To.runF 11 [] (fun _ _ => by kernel_rfl) fun f2 g2 l2 => ?_
    exact To.ret [] (.bool false) (by kernel_rfl) (by kernel_rfl) fun w4 hw4 => ⟨_, rfl, hw4.ext, _, rfl, fun h => by cases h⟩
theorem simple461 (va : Option Addr) (cv : Nat) (val : List UInt8) (w : World) (hval : BytesIn w va val) (hlen : val.length ≤ 1152921504606846976) :
    Calls Tryz.prog 13 #[.agg #[.int .i64 461, .slice va val.length cv]] w (SimplePost 461 val w) := by
  refine calls_of0 (args := [.agg #[.int .i64 461, .slice va val.length cv]]) Tryz.func13 rfl rfl rfl ?_
  refine To.runF 256 [0, 1, 1, 1, 1, 1, 1, 1, 1, 1, 1, 2, 2, 2, 2, 2, 2, 0, 2] (fun _ _ => by kernel_rfl) fun f1 g1 l1 => ?_
  refine To.slot 25 (Int.ofNat val.length == 0) (by kernel_rfl) (fun h => ?_) (fun h => ?_)
  · refine To.runF 11 [0, 0] (fun _ _ => by kernel_rfl) fun f2 g2 l2 => ?_
    exact To.ret [] (.bool true) (by kernel_rfl) (by kernel_rfl) fun w4 hw4 => ⟨_, rfl, hw4.ext, _, rfl, fun _ => ⟨0, by decide, fun _ => ⟨len_of_eq (k := 0) h, by decide, by decide⟩, fun h => by omega, (fun h => by omega), fun h => absurd h (by decide)⟩⟩
  · refine To.runF 11 [] (fun _ _ => by kernel_rfl) fun f2 g2 l2 => ?_
    exact To.ret [] (.bool false) (by kernel_rfl) (by kernel_rfl) fun w4 hw4 => ⟨_, rfl, hw4.ext, _, rfl, fun h => by cases h⟩
theorem simple465 (va : Option Addr) (cv : Nat) (val : List UInt8) (w : World) (hval : BytesIn w va val) (hlen : val.length ≤ 1152921504606846976) :
    Calls Tryz.prog 13 #[.agg #[.int .i64 465, .slice va val.length cv]] w (SimplePost 465 val w) := by
  refine calls_of0 (args := [.agg #[.int .i64 465, .slice va val.length cv]]) Tryz.func13 rfl rfl rfl ?_
  refine To.runF 262 [0, 1, 1, 1, 1, 1, 1, 1, 1, 1, 1, 2, 2, 2, 2, 2, 2, 0, 2] (fun _ _ => by kernel_rfl) fun f1 g1 l1 => ?_
  refine To.slot 25 (Int.ofNat val.length == 0) (by kernel_rfl) (fun h => ?_) (fun h => ?_)
  · refine To.runF 11 [0, 0] (fun _ _ => by kernel_rfl) fun f2 g2 l2 => ?_
    exact To.ret [] (.bool true) (by kernel_rfl) (by kernel_rfl) fun w4 hw4 => ⟨_, rfl, hw4.ext, _, rfl, fun _ => ⟨0, by decide, fun _ => ⟨len_of_eq (k := 0) h, by decide, by decide⟩, fun h => by omega, (fun h => by omega), fun h => absurd h (by decide)⟩⟩
  · refine To.runF 11 [] (fun _ _ => by kernel_rfl) fun f2 g2 l2 => ?_
    exact To.ret [] (.bool false) (by kernel_rfl) (by kernel_rfl) fun w4 hw4 => ⟨_, rfl, hw4.ext, _, rfl, fun h => by cases h⟩
theorem simple466 (va : Option Addr) (cv : Nat) (val : List UInt8) (w : World) (hval : BytesIn w va val) (hlen : val.length ≤ 1152921504606846976) :
    Calls Tryz.prog 13 #[.agg #[.int .i64 466, .slice va val.length cv]] w (SimplePost 466 val w) := by
  refine calls_of0 (args := [.agg #[.int .i64 466, .slice va val.length cv]]) Tryz.func13 rfl rfl rfl ?_
  refine To.runF 302 [0, 1, 1, 1, 1, 1, 1, 1, 1, 1, 1, 2, 2, 2, 2, 2, 2, 0, 0, 0, 0, 0] (fun _ _ => by kernel_rfl) fun f1 g1 l1 => ?_
  exact To.ret [] (.bool false) (by kernel_rfl) (by kernel_rfl) fun w4 hw4 => ⟨_, rfl, hw4.ext, _, rfl, fun h => by cases h⟩
theorem simple477 (va : Option Addr) (cv : Nat) (val : List UInt8) (w : World) (hval : BytesIn w va val) (hlen : val.length ≤ 1152921504606846976) :
    Calls Tryz.prog 13 #[.agg #[.int .i64 477, .slice va val.length cv]] w (SimplePost 477 val w) := by
  refine calls_of0 (args := [.agg #[.int .i64 477, .slice va val.length cv]]) Tryz.func13 rfl rfl rfl ?_
  refine To.runF 274 [0, 1, 1, 1, 1, 1, 1, 1, 1, 1, 1, 2, 2, 2, 2, 2, 2, 0, 2] (fun _ _ => by kernel_rfl) fun f1 g1 l1 => ?_
  refine To.slot 25 (Int.ofNat val.length == 0) (by kernel_rfl) (fun h => ?_) (fun h => ?_)
  · refine To.runF 11 [0, 0] (fun _ _ => by kernel_rfl) fun f2 g2 l2 => ?_
    exact To.ret [] (.bool true) (by kernel_rfl) (by kernel_rfl) fun w4 hw4 => ⟨_, rfl, hw4.ext, _, rfl, fun _ => ⟨0, by decide, fun _ => ⟨len_of_eq (k := 0) h, by decide, by decide⟩, fun h => by omega, (fun h => by omega), fun h => absurd h (by decide)⟩⟩
  · refine To.runF 11 [] (fun _ _ => by kernel_rfl) fun f2 g2 l2 => ?_
    exact To.ret [] (.bool false) (by kernel_rfl) (by kernel_rfl) fun w4 hw4 => ⟨_, rfl, hw4.ext, _, rfl, fun h => by cases h⟩
theorem simple478 (va : Option Addr) (cv : Nat) (val : List UInt8) (w : World) (hval : BytesIn w va val) (hlen : val.length ≤ 1152921504606846976) :
    Calls Tryz.prog 13 #[.agg #[.int .i64 478, .slice va val.length cv]] w (SimplePost 478 val w) := by
  refine calls_of0 (args := [.agg #[.int .i64 478, .slice va val.length cv]]) Tryz.func13 rfl rfl rfl ?_
  refine To.runF 280 [0, 1, 1, 1, 1, 1, 1, 1, 1, 1, 1, 2, 2, 2, 2, 2, 2, 0, 2] (fun _ _ => by kernel_rfl) fun f1 g1 l1 => ?_
  refine To.slot 25 (Int.ofNat val.length == 0) (by kernel_rfl) (fun h => ?_) (fun h => ?_)
  · refine To.runF 11 [0, 0] (fun _ _ => by kernel_rfl) fun f2 g2 l2 => ?_
    exact To.ret [] (.bool true) (by kernel_rfl) (by kernel_rfl) fun w4 hw4 => ⟨_, rfl, hw4.ext, _, rfl, fun _ => ⟨0, by decide, fun _ => ⟨len_of_eq (k := 0) h, by decide, by decide⟩, fun h => by omega, (fun h => by omega), fun h => absurd h (by decide)⟩⟩
  · refine To.runF 11 [] (fun _ _ => by kernel_rfl) fun f2 g2 l2 => ?_
    exact To.ret [] (.bool false) (by kernel_rfl) (by kernel_rfl) fun w4 hw4 => ⟨_, rfl, hw4.ext, _, rfl, fun h => by cases h⟩
theorem simple480 (va : Option Addr) (cv : Nat) (val : List UInt8) (w : World) (hval : BytesIn w va val) (hlen : val.length ≤ 1152921504606846976) :
    Calls Tryz.prog 13 #[.agg #[.int .i64 480, .slice va val.length cv]] w (SimplePost 480 val w) := by
  refine calls_of0 (args := [.agg #[.int .i64 480, .slice va val.length cv]]) Tryz.func13 rfl rfl rfl ?_
  refine To.runF 286 [0, 1, 1, 1, 1, 1, 1, 1, 1, 1, 1, 2, 2, 2, 2, 2, 2, 0, 2] (fun _ _ => by kernel_rfl) fun f1 g1 l1 => ?_
  refine To.slot 25 (Int.ofNat val.length == 0) (by kernel_rfl) (fun h => ?_) (fun h => ?_)
  · refine To.runF 11 [0, 0] (fun _ _ => by kernel_rfl) fun f2 g2 l2 => ?_
    exact To.ret [] (.bool true) (by kernel_rfl) (by kernel_rfl) fun w4 hw4 => ⟨_, rfl, hw4.ext, _, rfl, fun _ => ⟨0, by decide, fun _ => ⟨len_of_eq (k := 0) h, by decide, by decide⟩, fun h => by omega, (fun h => by omega), fun h => absurd h (by decide)⟩⟩
  · refine To.runF 11 [] (fun _ _ => by kernel_rfl) fun f2 g2 l2 => ?_
    exact To.ret [] (.bool false) (by kernel_rfl) (by kernel_rfl) fun w4 hw4 => ⟨_, rfl, hw4.ext, _, rfl, fun h => by cases h⟩
theorem simple481 (va : Option Addr) (cv : Nat) (val : List UInt8) (w : World) (hval : BytesIn w va val) (hlen : val.length ≤ 1152921504606846976) :
    Calls Tryz.prog 13 #[.agg #[.int .i64 481, .slice va val.length cv]] w (SimplePost 481 val w) := by
  refine calls_of0 (args := [.agg #[.int .i64 481, .slice va val.length cv]]) Tryz.func13 rfl rfl rfl ?_
  refine To.runF 326 [0, 1, 1, 1, 1, 1, 1, 1, 1, 1, 1, 2, 2, 2, 2, 2, 2, 0, 0, 0, 0, 0] (fun _ _ => by kernel_rfl) fun f1 g1 l1 => ?_
  exact To.ret [] (.bool false) (by kernel_rfl) (by kernel_rfl) fun w4 hw4 => ⟨_, rfl, hw4.ext, _, rfl, fun h => by cases h⟩
theorem simple777 (va : Option Addr) (cv : Nat) (val : List UInt8) (w : World) (hval : BytesIn w va val) (hlen : val.length ≤ 1152921504606846976) :
    Calls Tryz.prog 13 #[.agg #[.int .i64 777, .slice va val.length cv]] w (SimplePost 777 val w) := by
  refine calls_of0 (args := [.agg #[.int .i64 777, .slice va val.length cv]]) Tryz.func13 rfl rfl rfl ?_
  refine To.runF 299 [0, 1, 1, 1, 1, 1, 1, 1, 1, 1, 1, 2, 2, 2, 2, 2, 2, 0, 2] (fun _ _ => by kernel_rfl) fun f1 g1 l1 => ?_
  refine To.slot 25 (Int.ofNat val.length == 8) (by kernel_rfl) (fun h => ?_) (fun h => ?_)
  · refine To.runF 11 [0, 0] (fun _ _ => by kernel_rfl) fun f2 g2 l2 => ?_
    exact To.ret [] (.bool true) (by kernel_rfl) (by kernel_rfl) fun w4 hw4 => ⟨_, rfl, hw4.ext, _, rfl, fun _ => ⟨64, by decide, fun _ => ⟨len_of_eq (k := 8) h, by decide, by decide⟩, fun h => by omega, (fun h => by omega), fun h => absurd h (by decide)⟩⟩
  · refine To.runF 11 [] (fun _ _ => by kernel_rfl) fun f2 g2 l2 => ?_
    exact To.ret [] (.bool false) (by kernel_rfl) (by kernel_rfl) fun w4 hw4 => ⟨_, rfl, hw4.ext, _, rfl, fun h => by cases h⟩
theorem simple7367777 (va : Option Addr) (cv : Nat) (val : List UInt8) (w : World) (hval : BytesIn w va val) (hlen : val.length ≤ 1152921504606846976) :
    Calls Tryz.prog 13 #[.agg #[.int .i64 7367777, .slice va val.length cv]] w (SimplePost 7367777 val w) := by
  refine calls_of0 (args := [.agg #[.int .i64 7367777, .slice va val.length cv]]) Tryz.func13 rfl rfl rfl ?_
  refine To.runF 304 [0, 1, 1, 1, 1, 1, 1, 1, 1, 1, 1, 2, 2, 2, 2, 2, 2, 0, 2] (fun _ _ => by kernel_rfl) fun f1 g1 l1 => ?_
  refine To.slot 25 (Int.ofNat val.length == 0) (by kernel_rfl) (fun h => ?_) (fun h => ?_)
  · refine To.runF 11 [0, 0] (fun _ _ => by kernel_rfl) fun f2 g2 l2 => ?_
    exact To.ret [] (.bool true) (by kernel_rfl) (by kernel_rfl) fun w4 hw4 => ⟨_, rfl, hw4.ext, _, rfl, fun _ => ⟨0, by decide, fun _ => ⟨len_of_eq (k := 0) h, by decide, by decide⟩, fun h => by omega, (fun h => by omega), fun h => absurd h (by decide)⟩⟩
  · refine To.runF 11 [] (fun _ _ => by kernel_rfl) fun f2 g2 l2 => ?_
    exact To.ret [] (.bool false) (by kernel_rfl) (by kernel_rfl) fun w4 hw4 => ⟨_, rfl, hw4.ext, _, rfl, fun h => by cases h⟩
theorem simpleNone (c : Int) (va : Option Addr) (cv : Nat) (val : List UInt8) (w : World) (h4 : (c == 4) = false) (h6 : (c == 6) = false) (h33 : (c == 33) = false) (h41 : (c == 41) = false) (h42 : (c == 42) = false) (h43 : (c == 43) = false) (h53 : (c == 53) = false) (h54 : (c == 54) = false) (h55 : (c == 55) = false) (h56 : (c == 56) = false) (h132 : (c == 132) = false) (h273 : (c == 273) = false) (h276 : (c == 276) = false) (h280 : (c == 280) = false) (h281 : (c == 281) = false) (h290 : (c == 290) = false) (h301 : (c == 301) = false) (h302 : (c == 302) = false) (h400 : (c == 400) = false) (h421 : (c == 421) = false) (h443 : (c == 443) = false) (h444 : (c == 444) = false) (h445 : (c == 445) = false) (h446 : (c == 446) = false) (h447 : (c == 447) = false) (h448 : (c == 448) = false) (h449 : (c == 449) = false) (h454 : (c == 454) = false) (h460 : (c == 460) = false) (h461 : (c == 461) = false) (h465 : (c == 465) = false) (h466 : (c == 466) = false) (h477 : (c == 477) = false) (h478 : (c == 478) = false) (h480 : (c == 480) = false) (h481 : (c == 481) = false) (h777 : (c == 777) = false) (h7367777 : (c == 7367777) = false) (hval : BytesIn w va val) (hlen : val.length ≤ 1152921504606846976) :
    Calls Tryz.prog 13 #[.agg #[.int .i64 c, .slice va val.length cv]] w (SimplePost c val w) := by
  refine calls_of0 (args := [.agg #[.int .i64 c, .slice va val.length cv]]) Tryz.func13 rfl rfl rfl ?_
  refine To.runF 31 [0] (fun _ _ => by kernel_rfl) fun f1 g1 l1 => ?_
  refine To.testF (c == 4) (by kernel_rfl) h4 ?_
  refine To.runF 5 [] (fun _ _ => by kernel_rfl) fun f2 g2 l2 => ?_
  refine To.testF (c == 6) (by kernel_rfl) h6 ?_
  refine To.runF 5 [] (fun _ _ => by kernel_rfl) fun f3 g3 l3 => ?_
  refine To.testF (c == 33) (by kernel_rfl) h33 ?_
  refine To.runF 5 [] (fun _ _ => by kernel_rfl) fun f4 g4 l4 => ?_
  refine To.testF (c == 41) (by kernel_rfl) h41 ?_
  refine To.runF 5 [] (fun _ _ => by kernel_rfl) fun f5 g5 l5 => ?_
  refine To.testF (c == 42) (by kernel_rfl) h42 ?_
  refine To.runF 5 [] (fun _ _ => by kernel_rfl) fun f6 g6 l6 => ?_
  refine To.testF (c == 43) (by kernel_rfl) h43 ?_
  refine To.runF 5 [] (fun _ _ => by kernel_rfl) fun f7 g7 l7 => ?_
  refine To.testF (c == 53) (by kernel_rfl) h53 ?_
  refine To.runF 5 [] (fun _ _ => by kernel_rfl) fun f8 g8 l8 => ?_
  refine To.testF (c == 54) (by kernel_rfl) h54 ?_
  refine To.runF 5 [] (fun _ _ => by kernel_rfl) fun f9 g9 l9 => ?_
  refine To.testF (c == 55) (by kernel_rfl) h55 ?_
  refine To.runF 5 [] (fun _ _ => by kernel_rfl) fun f10 g10 l10 => ?_
  refine To.testF (c == 56) (by kernel_rfl) h56 ?_
  refine To.runF 5 [] (fun _ _ => by kernel_rfl) fun f11 g11 l11 => ?_
  refine To.testF (c == 132) (by kernel_rfl) h132 ?_
  refine To.runF 5 [] (fun _ _ => by kernel_rfl) fun f12 g12 l12 => ?_
  refine To.testF (c == 273) (by kernel_rfl) h273 ?_
  refine To.runF 5 [] (fun _ _ => by kernel_rfl) fun f13 g13 l13 => ?_
  refine To.testF (c == 276) (by kernel_rfl) h276 ?_
  refine To.runF 5 [] (fun _ _ => by kernel_rfl) fun f14 g14 l14 => ?_
  refine To.testF (c == 280) (by kernel_rfl) h280 ?_
  refine To.runF 5 [] (fun _ _ => by kernel_rfl) fun f15 g15 l15 => ?_
  refine To.testF (c == 281) (by kernel_rfl) h281 ?_
  refine To.runF 5 [] (fun _ _ => by kernel_rfl) fun f16 g16 l16 => ?_
  refine To.testF (c == 290) (by kernel_rfl) h290 ?_
  refine To.runF 5 [] (fun _ _ => by kernel_rfl) fun f17 g17 l17 => ?_
  refine To.testF (c == 301) (by kernel_rfl) h301 ?_
  refine To.runF 5 [] (fun _ _ => by kernel_rfl) fun f18 g18 l18 => ?_
  refine To.testF (c == 302) (by kernel_rfl) h302 ?_
  refine To.runF 5 [] (fun _ _ => by kernel_rfl) fun f19 g19 l19 => ?_
  refine To.testF (c == 400) (by kernel_rfl) h400 ?_
  refine To.runF 5 [] (fun _ _ => by kernel_rfl) fun f20 g20 l20 => ?_
  refine To.testF (c == 421) (by kernel_rfl) h421 ?_
  refine To.runF 5 [] (fun _ _ => by kernel_rfl) fun f21 g21 l21 => ?_
  refine To.testF (c == 443) (by kernel_rfl) h443 ?_
  refine To.runF 5 [] (fun _ _ => by kernel_rfl) fun f22 g22 l22 => ?_
  refine To.testF (c == 444) (by kernel_rfl) h444 ?_
  refine To.runF 5 [] (fun _ _ => by kernel_rfl) fun f23 g23 l23 => ?_
  refine To.testF (c == 445) (by kernel_rfl) h445 ?_
  refine To.runF 5 [] (fun _ _ => by kernel_rfl) fun f24 g24 l24 => ?_
  refine To.testF (c == 446) (by kernel_rfl) h446 ?_
  refine To.runF 5 [] (fun _ _ => by kernel_rfl) fun f25 g25 l25 => ?_
  refine To.testF (c == 447) (by kernel_rfl) h447 ?_
  refine To.runF 5 [] (fun _ _ => by kernel_rfl) fun f26 g26 l26 => ?_
  refine To.testF (c == 448) (by kernel_rfl) h448 ?_
  refine To.runF 5 [] (fun _ _ => by kernel_rfl) fun f27 g27 l27 => ?_
  refine To.testF (c == 449) (by kernel_rfl) h449 ?_
  refine To.runF 5 [] (fun _ _ => by kernel_rfl) fun f28 g28 l28 => ?_
  refine To.testF (c == 454) (by kernel_rfl) h454 ?_
  refine To.runF 5 [] (fun _ _ => by kernel_rfl) fun f29 g29 l29 => ?_
  refine To.testF (c == 460) (by kernel_rfl) h460 ?_
  refine To.runF 5 [] (fun _ _ => by kernel_rfl) fun f30 g30 l30 => ?_
  refine To.testF (c == 461) (by kernel_rfl) h461 ?_
  refine To.runF 5 [] (fun _ _ => by kernel_rfl) fun f31 g31 l31 => ?_
  refine To.testF (c == 465) (by kernel_rfl) h465 ?_
  refine To.runF 5 [] (fun _ _ => by kernel_rfl) fun f32 g32 l32 => ?_
  refine To.testF (c == 466) (by kernel_rfl) h466 ?_
  refine To.runF 5 [] (fun _ _ => by kernel_rfl) fun f33 g33 l33 => ?_
  refine To.testF (c == 477) (by kernel_rfl) h477 ?_
  refine To.runF 5 [] (fun _ _ => by kernel_rfl) fun f34 g34 l34 => ?_
  refine To.testF (c == 478) (by kernel_rfl) h478 ?_
  refine To.runF 5 [] (fun _ _ => by kernel_rfl) fun f35 g35 l35 => ?_
  refine To.testF (c == 480) (by kernel_rfl) h480 ?_
  refine To.runF 5 [] (fun _ _ => by kernel_rfl) fun f36 g36 l36 => ?_
  refine To.testF (c == 481) (by kernel_rfl) h481 ?_
  refine To.runF 5 [] (fun _ _ => by kernel_rfl) fun f37 g37 l37 => ?_
  refine To.testF (c == 777) (by kernel_rfl) h777 ?_
  refine To.runF 5 [] (fun _ _ => by kernel_rfl) fun f38 g38 l38 => ?_
  refine To.testF (c == 7367777) (by kernel_rfl) h7367777 ?_
  refine To.runF 27 [1, 1, 1, 1, 1, 1, 1, 1, 1, 1, 2, 2, 2, 2, 2] (fun _ _ => by kernel_rfl) fun f39 g39 l39 => ?_
  exact To.ret [] (.bool false) (by kernel_rfl) (by kernel_rfl) fun w4 hw4 => ⟨_, rfl, hw4.ext, _, rfl, fun h => by cases h⟩
theorem simple (c : Int) (va : Option Addr) (cv : Nat) (val : List UInt8) (w : World) (hval : BytesIn w va val) (hlen : val.length ≤ 1152921504606846976) :
    Calls Tryz.prog 13 #[.agg #[.int .i64 c, .slice va val.length cv]] w (SimplePost c val w) := by
  cases h4 : (c == 4) with
  | true => have e := eq_of_beq h4; subst e; exact simple4 va cv val w hval hlen
  | false =>
  cases h6 : (c == 6) with
  | true => have e := eq_of_beq h6; subst e; exact simple6 va cv val w hval hlen
  | false =>
  cases h33 : (c == 33) with
  | true => have e := eq_of_beq h33; subst e; exact simple33 va cv val w hval hlen
  | false =>
  cases h41 : (c == 41) with
  | true => have e := eq_of_beq h41; subst e; exact simple41 va cv val w hval hlen
  | false =>
  cases h42 : (c == 42) with
  | true => have e := eq_of_beq h42; subst e; exact simple42 va cv val w hval hlen
  | false =>
  cases h43 : (c == 43) with
  | true => have e := eq_of_beq h43; subst e; exact simple43 va cv val w hval hlen
  | false =>
  cases h53 : (c == 53) with
  | true => have e := eq_of_beq h53; subst e; exact simple53 va cv val w hval hlen
  | false =>
  cases h54 : (c == 54) with
  | true => have e := eq_of_beq h54; subst e; exact simple54 va cv val w hval hlen
  | false =>
  cases h55 : (c == 55) with
  | true => have e := eq_of_beq h55; subst e; exact simple55 va cv val w hval hlen
  | false =>
  cases h56 : (c == 56) with
  | true => have e := eq_of_beq h56; subst e; exact simple56 va cv val w hval hlen
  | false =>
  cases h132 : (c == 132) with
  | true => have e := eq_of_beq h132; subst e; exact simple132 va cv val w hval hlen
  | false =>
  cases h273 : (c == 273) with
  | true => have e := eq_of_beq h273; subst e; exact simple273 va cv val w hval hlen
  | false =>
  cases h276 : (c == 276) with
  | true => have e := eq_of_beq h276; subst e; exact simple276 va cv val w hval hlen
  | false =>
  cases h280 : (c == 280) with
  | true => have e := eq_of_beq h280; subst e; exact simple280 va cv val w hval hlen
  | false =>
  cases h281 : (c == 281) with
  | true => have e := eq_of_beq h281; subst e; exact simple281 va cv val w hval hlen
  | false =>
  cases h290 : (c == 290) with
  | true => have e := eq_of_beq h290; subst e; exact simple290 va cv val w hval hlen
  | false =>
  cases h301 : (c == 301) with
  | true => have e := eq_of_beq h301; subst e; exact simple301 va cv val w hval hlen
  | false =>
  cases h302 : (c == 302) with
  | true => have e := eq_of_beq h302; subst e; exact simple302 va cv val w hval hlen
  | false =>
  cases h400 : (c == 400) with
  | true => have e := eq_of_beq h400; subst e; exact simple400 va cv val w hval hlen
  | false =>
  cases h421 : (c == 421) with
  | true => have e := eq_of_beq h421; subst e; exact simple421 va cv val w hval hlen
  | false =>
  cases h443 : (c == 443) with
  | true => have e := eq_of_beq h443; subst e; exact simple443 va cv val w hval hlen
  | false =>
  cases h444 : (c == 444) with
  | true => have e := eq_of_beq h444; subst e; exact simple444 va cv val w hval hlen
  | false =>
  cases h445 : (c == 445) with
  | true => have e := eq_of_beq h445; subst e; exact simple445 va cv val w hval hlen
  | false =>
  cases h446 : (c == 446) with
  | true => have e := eq_of_beq h446; subst e; exact simple446 va cv val w hval hlen
  | false =>
  cases h447 : (c == 447) with
  | true => have e := eq_of_beq h447; subst e; exact simple447 va cv val w hval hlen
  | false =>
  cases h448 : (c == 448) with
  | true => have e := eq_of_beq h448; subst e; exact simple448 va cv val w hval hlen
  | false =>
  cases h449 : (c == 449) with
  | true => have e := eq_of_beq h449; subst e; exact simple449 va cv val w hval hlen
  | false =>
  cases h454 : (c == 454) with
  | true => have e := eq_of_beq h454; subst e; exact simple454 va cv val w hval hlen
  | false =>
  cases h460 : (c == 460) with
  | true => have e := eq_of_beq h460; subst e; exact simple460 va cv val w hval hlen
  | false =>
  cases h461 : (c == 461) with
  | true => have e := eq_of_beq h461; subst e; exact simple461 va cv val w hval hlen
  | false =>
  cases h465 : (c == 465) with
  | true => have e := eq_of_beq h465; subst e; exact simple465 va cv val w hval hlen
  | false =>
  cases h466 : (c == 466) with
  | true => have e := eq_of_beq h466; subst e; exact simple466 va cv val w hval hlen
  | false =>
  cases h477 : (c == 477) with
  | true => have e := eq_of_beq h477; subst e; exact simple477 va cv val w hval hlen
  | false =>
  cases h478 : (c == 478) with
  | true => have e := eq_of_beq h478; subst e; exact simple478 va cv val w hval hlen
  | false =>
  cases h480 : (c == 480) with
  | true => have e := eq_of_beq h480; subst e; exact simple480 va cv val w hval hlen
  | false =>
  cases h481 : (c == 481) with
  | true => have e := eq_of_beq h481; subst e; exact simple481 va cv val w hval hlen
  | false =>
  cases h777 : (c == 777) with
  | true => have e := eq_of_beq h777; subst e; exact simple777 va cv val w hval hlen
  | false =>
  cases h7367777 : (c == 7367777) with
  | true => have e := eq_of_beq h7367777; subst e; exact simple7367777 va cv val w hval hlen
  | false =>
  exact simpleNone c va cv val w h4 h6 h33 h41 h42 h43 h53 h54 h55 h56 h132 h273 h276 h280 h281 h290 h301 h302 h400 h421 h443 h444 h445 h446 h447 h448 h449 h454 h460 h461 h465 h466 h477 h478 h480 h481 h777 h7367777 hval hlen
end Go.Proofs.YtgodhbgnhapemaaGreatDoor
/- Whether components are no longer than a bound; whether they are a simple address: some answer is given, and nothing else happens; what a yes means. Conditions: as each says. -/
namespace Go.Proofs.YtgodhbgnhapemaaGreatDoor
open Go Go.SX
set_option maxHeartbeats 8000000
set_option maxRecDepth 100000
abbrev FitsPost (l : List (Int × List UInt8)) (w : World) (e : Ending) (w1 : World) : Prop := ∃ v, e = .returned v ∧ Ext [] w w1 ∧ ∃ b, v = .bool b ∧ (b = true → l.length ≤ 2147483647 ∧ ∀ p ∈ l, p.2.length ≤ 2147483647)
theorem zzFits6 (l : List (Int × List UInt8)) (a : Option Addr) (cap : Nat) (w : World) (hin : CompsIn w a l) (hlen : l.length ≤ 1152921504606846976) :
    Calls Tryz.prog 4 #[.slice a l.length cap] w (FitsPost l w) := by
  refine calls_of0 (args := [.slice a l.length cap]) Tryz.func4 rfl rfl rfl ?_
  refine To.runF 11 [] (fun _ _ => by kernel_rfl) fun f1 g1 l1 => ?_
  refine To.test (decide (Int.ofNat l.length > 2147483647)) (by kernel_rfl) (fun _ => ?_) (fun h0 => ?_)
  · refine To.runF 4 [] (fun _ _ => by kernel_rfl) fun f2 g2 l2 => ?_
    exact To.ret [] (.bool false) (by kernel_rfl) (by kernel_rfl) fun w4 hw4 => ⟨_, rfl, hw4.ext, _, rfl, fun h => by cases h⟩
  have h1 : l.length ≤ 2147483647 := by have := of_decide_eq_false h0; simp only [Int.ofNat_eq_natCast] at this; omega
  refine To.runF 9 [] (fun _ _ => by kernel_rfl) fun f2 g2 l2 => ?_
  refine To.loop (fun k : Nat => l.length - k) (fun k => ([(8, .slice a l.length cap), (9, .int .i64 (Int.ofNat l.length)), (10, .int .i64 (Int.ofNat k))], [])) (fun k _ => k ≤ l.length ∧ ∀ j p, j < k → l[j]? = some p → p.2.length ≤ 2147483647) 0 [] (by kernel_rfl) (by kernel_rfl) (by kernel_rfl) rfl (fun _ _ => ⟨Nat.zero_le _, fun j p h => by omega⟩) ?_
  rintro k w1 ⟨hk, hall⟩ hx1 back
  refine To.runF 5 [] (fun _ _ => by kernel_rfl) fun f3 g3 l3 => ?_
  by_cases hlt : k < l.length
  · obtain ⟨p, hp⟩ : ∃ p, l[k]? = some p := ⟨l[k], by simp [hlt]⟩
    obtain ⟨ad, va, cv, ha, hsp, hc0, hc1, hb⟩ := hin.at_ k p.1 p.2 hp
    refine To.testT (decide (Int.ofNat k < Int.ofNat l.length)) (by kernel_rfl) (decide_eq_true (Int.ofNat_lt.2 hlt)) ?_
    refine To.runF 5 [] (fun _ _ => by kernel_rfl) fun f4 g4 l4 => ?_
    refine To.indexAt elC a ad l.length cap k (by kernel_rfl) ha hlt ?_
    refine To.loadAgg (t := 34) (by kernel_rfl) 2 (by kernel_rfl) (ad.add (k * 2)) [.int .i64 p.1, .slice va p.2.length cv] rfl (by kernel_rfl) (fun w2 hw2 j v hj => by
      rw [add_add hsp]
      rcases j with _ | _ | j
      · cases hj; exact hw2.ext.cell hc0 (by simp)
      · cases hj; exact hw2.ext.cell hc1 (by simp)
      · cases hj) ?_
    refine To.runF 20 [0, 0, 0, 0, 1] (fun _ _ => by kernel_rfl) fun f5 g5 l5 => ?_
    refine To.test (decide (Int.ofNat p.2.length > 2147483647)) (by kernel_rfl) (fun _ => ?_) (fun h2 => ?_)
    · refine To.runF 12 [] (fun _ _ => by kernel_rfl) fun f6 g6 l6 => ?_
      exact To.ret [] (.bool false) (by kernel_rfl) (by kernel_rfl) fun w4 hw4 => ⟨_, rfl, hw4.ext, _, rfl, fun h => by cases h⟩
    have h3 : p.2.length ≤ 2147483647 := by have := of_decide_eq_false h2; simp only [Int.ofNat_eq_natCast] at this; omega
    refine To.runF 15 [] (fun _ _ => by kernel_rfl) fun f6 g6 l6 => ?_
    refine To.slotE 10 (.int .i64 (IntKind.i64.wrap (Int.ofNat k + 1))) (.int .i64 (Int.ofNat (k + 1))) (by kernel_rfl) (by rw [wrap_succ k (by omega)]) ?_
    exact back _ _ (k + 1) [] (by omega) ⟨by kernel_rfl, by kernel_rfl, by kernel_rfl, by kernel_rfl, by kernel_rfl, rfl⟩ (fun w7 hw7 => ⟨hlt, fun j q hj hq => by
      by_cases hjk : j = k
      · subst hjk; rw [hp] at hq; cases hq; exact h3
      · exact hall j q (by omega) hq⟩)
  · have hk1 : k = l.length := by omega
    subst hk1
    refine To.testF (decide (Int.ofNat l.length < Int.ofNat l.length)) (by kernel_rfl) (by simp) ?_
    refine To.runF 5 [] (fun _ _ => by kernel_rfl) fun f4 g4 l4 => ?_
    exact To.ret [] (.bool true) (by kernel_rfl) (by kernel_rfl) fun w4 hw4 => ⟨_, rfl, hw4.ext, _, rfl, fun _ => ⟨h1, fun p hp => by
      obtain ⟨j, hj⟩ := List.mem_iff_getElem?.1 hp
      exact hall j p (List.getElem?_eq_some_iff.1 hj).1 hj⟩⟩
abbrev AddressPost (l : List (Int × List UInt8)) (w : World) (e : Ending) (w1 : World) : Prop := ∃ v, e = .returned v ∧ Ext [] w w1 ∧ ∃ b, v = .bool b ∧ (b = true → 1 ≤ l.length ∧ l.length ≤ 12 ∧ (∀ p ∈ l, ∃ sz, SimpleC p.1 p.2 sz) ∧ ∀ j p, l[j]? = some p → p.1 = 400 → j + 1 = l.length)
theorem maAddress (l : List (Int × List UInt8)) (a : Option Addr) (cap : Nat) (w : World) (hin : CompsIn w a l) (hlen : l.length ≤ 1152921504606846976) (hval : ∀ p ∈ l, p.2.length ≤ 1152921504606846976) :
    Calls Tryz.prog 5 #[.slice a l.length cap] w (AddressPost l w) := by
  refine calls_of0 (args := [.slice a l.length cap]) Tryz.func5 rfl rfl rfl ?_
  refine To.runF 12 [] (fun _ _ => by kernel_rfl) fun f1 g1 l1 => ?_
  refine To.loop (fun k : Nat => l.length - k) (fun k => ([(0, .slice a l.length cap), (5, .slice a l.length cap), (6, .int .i64 (Int.ofNat l.length)), (7, .int .i64 (Int.ofNat k))], [])) (fun k _ => k ≤ l.length ∧ ∀ j p, j < k → l[j]? = some p → (∃ sz, SimpleC p.1 p.2 sz) ∧ (p.1 = 400 → j + 1 = l.length)) 0 [] (by kernel_rfl) (by kernel_rfl) (by kernel_rfl) rfl (fun _ _ => ⟨Nat.zero_le _, fun j p h => by omega⟩) ?_
  rintro k w1 ⟨hk, hall⟩ hx1 back
  refine To.runF 5 [] (fun _ _ => by kernel_rfl) fun f2 g2 l2 => ?_
  by_cases hlt : k < l.length
  · obtain ⟨p, hp⟩ : ∃ p, l[k]? = some p := ⟨l[k], by simp [hlt]⟩
    obtain ⟨ad, va, cv, ha, hsp, hc0, hc1, hb⟩ := hin.at_ k p.1 p.2 hp
    refine To.testT (decide (Int.ofNat k < Int.ofNat l.length)) (by kernel_rfl) (decide_eq_true (Int.ofNat_lt.2 hlt)) ?_
    refine To.runF 6 [] (fun _ _ => by kernel_rfl) fun f3 g3 l3 => ?_
    refine To.indexAt elC a ad l.length cap k (by kernel_rfl) ha hlt ?_
    refine To.loadAgg (t := 34) (by kernel_rfl) 2 (by kernel_rfl) (ad.add (k * 2)) [.int .i64 p.1, .slice va p.2.length cv] rfl (by kernel_rfl) (fun w2 hw2 j v hj => by
      rw [add_add hsp]
      rcases j with _ | _ | j
      · cases hj; exact hw2.ext.cell hc0 (by simp)
      · cases hj; exact hw2.ext.cell hc1 (by simp)
      · cases hj) ?_
    refine To.runF 7 [0, 0, 0, 0] (fun _ _ => by kernel_rfl) fun f4 g4 l4 => ?_
    refine To.callN 13 #[.agg #[.int .i64 p.1, .slice va p.2.length cv]] (by kernel_rfl) (fun _ => by kernel_rfl) (fun w2 hw2 => simple p.1 va cv p.2 w2 (hb.later hw2.ext) (hval p (List.mem_of_getElem? hp))) (fun w2 v2 w3 hw2 hx2 hv2 hnew2 hwi2 => ?_)
    obtain ⟨b, rfl, hbs⟩ := hv2
    refine To.runF 2 [] (fun _ _ => by kernel_rfl) fun f5 g5 l5 => ?_
    refine To.slot 15 (!b) (by kernel_rfl) (fun _ => ?_) (fun hb0 => ?_)
    · refine To.runF 17 [] (fun _ _ => by kernel_rfl) fun f6 g6 l6 => ?_
      exact To.ret [] (.bool false) (by kernel_rfl) (by kernel_rfl) fun w4 hw4 => ⟨_, rfl, hw4.ext, _, rfl, fun h => by cases h⟩
    have hb1 : b = true := by simpa using hb0
    have hs1 := hbs hb1
    refine To.runF 4 [0] (fun _ _ => by kernel_rfl) fun f6 g6 l6 => ?_
    refine To.slot 19 (p.1 == 400) (by kernel_rfl) (fun _ => ?_) (fun h400 => ?_)
    · refine To.runF 8 [] (fun _ _ => by kernel_rfl) fun f7 g7 l7 => ?_
      refine To.test (decide (Int.ofNat k < IntKind.i64.wrap (Int.ofNat l.length - 1))) (by kernel_rfl) (fun _ => ?_) (fun hend => ?_)
      · refine To.runF 4 [] (fun _ _ => by kernel_rfl) fun f8 g8 l8 => ?_
        exact To.ret [] (.bool false) (by kernel_rfl) (by kernel_rfl) fun w4 hw4 => ⟨_, rfl, hw4.ext, _, rfl, fun h => by cases h⟩
      have hlast : k + 1 = l.length := by
        have := of_decide_eq_false hend
        rw [IntWalk.i64_in _ ⟨by simp only [Int.ofNat_eq_natCast]; omega, by simp only [Int.ofNat_eq_natCast]; omega⟩] at this
        simp only [Int.ofNat_eq_natCast] at this
        omega
      refine To.runF 6 [] (fun _ _ => by kernel_rfl) fun f8 g8 l8 => ?_
      refine To.slotE 7 (.int .i64 (IntKind.i64.wrap (Int.ofNat k + 1))) (.int .i64 (Int.ofNat (k + 1))) (by kernel_rfl) (by rw [wrap_succ k (by omega)]) ?_
      exact back _ _ (k + 1) [] (by omega) ⟨by kernel_rfl, by kernel_rfl, by kernel_rfl, by kernel_rfl, by kernel_rfl, rfl⟩ (fun w7 hw7 => ⟨hlt, fun j q hj hq => by
        by_cases hjk : j = k
        · subst hjk; rw [hp] at hq; cases hq; exact ⟨hs1, fun _ => hlast⟩
        · exact hall j q (by omega) hq⟩)
    · refine To.runF 15 [] (fun _ _ => by kernel_rfl) fun f7 g7 l7 => ?_
      refine To.slotE 7 (.int .i64 (IntKind.i64.wrap (Int.ofNat k + 1))) (.int .i64 (Int.ofNat (k + 1))) (by kernel_rfl) (by rw [wrap_succ k (by omega)]) ?_
      exact back _ _ (k + 1) [] (by omega) ⟨by kernel_rfl, by kernel_rfl, by kernel_rfl, by kernel_rfl, by kernel_rfl, rfl⟩ (fun w7 hw7 => ⟨hlt, fun j q hj hq => by
        by_cases hjk : j = k
        · subst hjk; rw [hp] at hq; cases hq; exact ⟨hs1, fun e => absurd e (by simpa using h400)⟩
        · exact hall j q (by omega) hq⟩)
  · have hk1 : k = l.length := by omega
    subst hk1
    refine To.testF (decide (Int.ofNat l.length < Int.ofNat l.length)) (by kernel_rfl) (by simp) ?_
    refine To.runF 7 [] (fun _ _ => by kernel_rfl) fun f3 g3 l3 => ?_
    refine To.slot 31 (decide (Int.ofNat l.length ≥ 1)) (by kernel_rfl) (fun h1 => ?_) (fun _ => ?_)
    · refine To.runF 6 [] (fun _ _ => by kernel_rfl) fun f4 g4 l4 => ?_
      exact To.ret [] (.bool (decide (Int.ofNat l.length ≤ 12))) (by kernel_rfl) (by kernel_rfl) fun w4 hw4 => ⟨_, rfl, hw4.ext, _, rfl, fun h => by
        have h2 := of_decide_eq_true h1
        have h3 := of_decide_eq_true h
        simp only [Int.ofNat_eq_natCast] at h2 h3
        exact ⟨by omega, by omega, fun p hp => by
          obtain ⟨j, hj⟩ := List.mem_iff_getElem?.1 hp
          exact (hall j p (List.getElem?_eq_some_iff.1 hj).1 hj).1, fun j p hj h4 => (hall j p (List.getElem?_eq_some_iff.1 hj).1 hj).2 h4⟩⟩
    · refine To.runF 6 [] (fun _ _ => by kernel_rfl) fun f4 g4 l4 => ?_
      exact To.ret [] (.bool false) (by kernel_rfl) (by kernel_rfl) fun w4 hw4 => ⟨_, rfl, hw4.ext, _, rfl, fun h => by cases h⟩
end Go.Proofs.YtgodhbgnhapemaaGreatDoor
