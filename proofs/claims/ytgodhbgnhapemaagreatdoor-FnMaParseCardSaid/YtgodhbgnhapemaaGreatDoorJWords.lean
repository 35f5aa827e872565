/- The words of this claim's texts, and the protocol of each code and of each name. Conditions: none. -/
import Derived.Test.YtgodhbgnhapemaaGreatDoorProg
import Derived.Test.YtgodhbgnhapemaaGreatDoorSxB
set_option linter.unusedVariables false
set_option linter.unusedSimpArgs false
/- The words of this claim's texts: a row of the table of protocols, and what memory must hold where a Go value stands for a list of bytes or components. Conditions: none. -/
namespace Go.Proofs.YtgodhbgnhapemaaGreatDoor
open Go Go.SX

/-- A row of the table of protocols: name, code, size in bits, whether it is a path, its transcoder, its varint. -/
structure Row where
  name : ByteArray
  code : Int
  size : Int
  path : Bool
  tr : Option (TypeId × Value)
  vc : List UInt8
/-- A transcoder, or none. -/
def trV : Option (TypeId × Value) → Value
  | none => .nilIface
  | some (t, x) => .iface t x
/-- The cells of a protocol whose varint lies in block vb. -/
def rowCells (r : Row) (vb : Nat) : List Value := [.string r.name, .int .i64 r.code, .slice (some ⟨vb, 0, none⟩) r.vc.length r.vc.length, .int .i64 r.size, .bool r.path, trV r.tr]
/-- The protocol with this code is this row. -/
def Coded (code : Int) (r : Row) : Prop := ∀ w, Calls Tryz.prog 122 #[.int .i64 code] w fun e w1 =>
  ∃ v, e = .returned v ∧ Ext [] w w1 ∧ ∃ vb, v = .agg ⟨rowCells r vb⟩ ∧ w1.heap[vb]? = some (.cells ⟨ucells r.vc⟩ 5 (0, 0)) ∧ w.heap.size ≤ vb
/-- A protocol lies in block pb, its varint in block vb. -/
structure RowAt (w : World) (pb vb : Nat) (r : Row) : Prop where
  row : w.heap[pb]? = some (.cells ⟨rowCells r vb⟩ 79 (0, 0))
  vc : w.heap[vb]? = some (.cells ⟨ucells r.vc⟩ 5 (0, 0))
theorem RowAt.lt {w : World} {pb vb : Nat} {r : Row} (h : RowAt w pb vb r) : pb < w.heap.size ∧ vb < w.heap.size := ⟨(Array.getElem?_eq_some_iff.1 h.row).1, (Array.getElem?_eq_some_iff.1 h.vc).1⟩
theorem RowAt.later {w w' : World} {pb vb : Nat} {r : Row} (h : RowAt w pb vb r) (hx : Ext [] w w') : RowAt w' pb vb r := ⟨hx.at h.row (by simp), hx.at h.vc (by simp)⟩
theorem RowAt.fr {w w' : World} {pb vb : Nat} {r : Row} {hp : List (Option Blk)} {l : List (Option Nat)} (h : RowAt w pb vb r) (hf : Fr hp w w') (hn : nums hp = l) (hq : NumsAll (fun n => n ≠ pb ∧ n ≠ vb) l) : RowAt w' pb vb r :=
  ⟨hf.at h.row (fun j x hj _ => (nums_all hn hq j x hj).1), hf.at h.vc (fun j x hj _ => (nums_all hn hq j x hj).2)⟩
theorem RowAt.grown {w w' : World} {pb vb : Nat} {r : Row} {row : Option Nat} (h : RowAt w pb vb r) (hg : w.grownBy w' row) (h1 : some pb ≠ row) (h2 : some vb ≠ row) : RowAt w' pb vb r :=
  ⟨grown_at hg h.row h1, grown_at hg h.vc h2⟩
/-- A block of another type is neither. -/
theorem RowAt.ne {w : World} {pb vb g : Nat} {r : Row} (h : RowAt w pb vb r) {c : Array Value} {t : TypeId} {z : Nat × Nat} (hg : w.heap[g]? = some (.cells c t z)) (h1 : t ≠ 79) (h2 : t ≠ 5) : g ≠ pb ∧ g ≠ vb := by
  refine ⟨fun e => ?_, fun e => ?_⟩
  · subst e; have := hg.symm.trans h.row; simp only [Option.some.injEq, Obj.cells.injEq] at this; exact h1 this.2.1
  · subst e; have := hg.symm.trans h.vc; simp only [Option.some.injEq, Obj.cells.injEq] at this; exact h2 this.2.1
end Go.Proofs.YtgodhbgnhapemaaGreatDoor
/- The protocol of each code, as the switch over the codes gives it: its name, code, size, path, transcoder and varint. Conditions: none. -/
namespace Go.Proofs.YtgodhbgnhapemaaGreatDoor
open Go Go.SX
set_option maxRecDepth 100000
def row4 : Row := ⟨⟨#[105, 112, 52]⟩, 4, 32, false, some (126, .agg #[.func (.func 126) #[] #[], .func (.func 127) #[] #[], .nilFunc]), [4]⟩
theorem coded4 : Coded 4 row4 := fun w => by
  refine calls_of0 (args := [.int .i64 4]) Tryz.func122 rfl rfl rfl ?_
  refine To.runF 227 [2, 1, 1, 1, 1, 1, 1, 1, 1, 1, 1, 1, 1, 0, 0, 0, 0, 0, 0] (fun _ _ => by kernel_rfl) fun f1 g1 l1 => ?_
  exact To.ret [0, 0, 0, 0, 0, 0] (.agg ⟨rowCells row4 (f1 2)⟩) (by kernel_rfl) (by kernel_rfl) fun w hw => ⟨_, rfl, hw.ext, f1 2, rfl, hw.blk (j := 2) (b := f1 2) (o := .cells ⟨ucells row4.vc⟩ 5 (0, 0)) (q := true) (by kernel_rfl), hw.new (j := 2) (b := f1 2) (o := .cells ⟨ucells row4.vc⟩ 5 (0, 0)) (by kernel_rfl)⟩
def row6 : Row := ⟨⟨#[116, 99, 112]⟩, 6, 16, false, some (126, .agg #[.func (.func 128) #[] #[], .func (.func 129) #[] #[], .nilFunc]), [6]⟩
theorem coded6 : Coded 6 row6 := fun w => by
  refine calls_of0 (args := [.int .i64 6]) Tryz.func122 rfl rfl rfl ?_
  refine To.runF 233 [2, 1, 1, 1, 1, 1, 1, 1, 1, 1, 1, 1, 1, 0, 0, 0, 0, 0, 0] (fun _ _ => by kernel_rfl) fun f1 g1 l1 => ?_
  exact To.ret [0, 0, 0, 0, 0, 0] (.agg ⟨rowCells row6 (f1 2)⟩) (by kernel_rfl) (by kernel_rfl) fun w hw => ⟨_, rfl, hw.ext, f1 2, rfl, hw.blk (j := 2) (b := f1 2) (o := .cells ⟨ucells row6.vc⟩ 5 (0, 0)) (q := true) (by kernel_rfl), hw.new (j := 2) (b := f1 2) (o := .cells ⟨ucells row6.vc⟩ 5 (0, 0)) (by kernel_rfl)⟩
def row33 : Row := ⟨⟨#[100, 99, 99, 112]⟩, 33, 16, false, some (126, .agg #[.func (.func 128) #[] #[], .func (.func 129) #[] #[], .nilFunc]), [33]⟩
theorem coded33 : Coded 33 row33 := fun w => by
  refine calls_of0 (args := [.int .i64 33]) Tryz.func122 rfl rfl rfl ?_
  refine To.runF 269 [2, 1, 1, 1, 1, 1, 1, 1, 1, 1, 1, 1, 1, 0, 0, 0, 0, 0, 0] (fun _ _ => by kernel_rfl) fun f1 g1 l1 => ?_
  exact To.ret [0, 0, 0, 0, 0, 0] (.agg ⟨rowCells row33 (f1 2)⟩) (by kernel_rfl) (by kernel_rfl) fun w hw => ⟨_, rfl, hw.ext, f1 2, rfl, hw.blk (j := 2) (b := f1 2) (o := .cells ⟨ucells row33.vc⟩ 5 (0, 0)) (q := true) (by kernel_rfl), hw.new (j := 2) (b := f1 2) (o := .cells ⟨ucells row33.vc⟩ 5 (0, 0)) (by kernel_rfl)⟩
def row41 : Row := ⟨⟨#[105, 112, 54]⟩, 41, 128, false, some (126, .agg #[.func (.func 133) #[] #[], .func (.func 134) #[] #[], .nilFunc]), [41]⟩
theorem coded41 : Coded 41 row41 := fun w => by
  refine calls_of0 (args := [.int .i64 41]) Tryz.func122 rfl rfl rfl ?_
  refine To.runF 275 [2, 1, 1, 1, 1, 1, 1, 1, 1, 1, 1, 1, 1, 0, 0, 0, 0, 0, 0] (fun _ _ => by kernel_rfl) fun f1 g1 l1 => ?_
  exact To.ret [0, 0, 0, 0, 0, 0] (.agg ⟨rowCells row41 (f1 2)⟩) (by kernel_rfl) (by kernel_rfl) fun w hw => ⟨_, rfl, hw.ext, f1 2, rfl, hw.blk (j := 2) (b := f1 2) (o := .cells ⟨ucells row41.vc⟩ 5 (0, 0)) (q := true) (by kernel_rfl), hw.new (j := 2) (b := f1 2) (o := .cells ⟨ucells row41.vc⟩ 5 (0, 0)) (by kernel_rfl)⟩
def row42 : Row := ⟨⟨#[105, 112, 54, 122, 111, 110, 101]⟩, 42, -1, false, some (126, .agg #[.func (.func 135) #[] #[], .func (.func 136) #[] #[], .func (.func 137) #[] #[]]), [42]⟩
theorem coded42 : Coded 42 row42 := fun w => by
  refine calls_of0 (args := [.int .i64 42]) Tryz.func122 rfl rfl rfl ?_
  refine To.runF 281 [2, 1, 1, 1, 1, 1, 1, 1, 1, 1, 1, 1, 1, 0, 0, 0, 0, 0, 0] (fun _ _ => by kernel_rfl) fun f1 g1 l1 => ?_
  exact To.ret [0, 0, 0, 0, 0, 0] (.agg ⟨rowCells row42 (f1 2)⟩) (by kernel_rfl) (by kernel_rfl) fun w hw => ⟨_, rfl, hw.ext, f1 2, rfl, hw.blk (j := 2) (b := f1 2) (o := .cells ⟨ucells row42.vc⟩ 5 (0, 0)) (q := true) (by kernel_rfl), hw.new (j := 2) (b := f1 2) (o := .cells ⟨ucells row42.vc⟩ 5 (0, 0)) (by kernel_rfl)⟩
def row43 : Row := ⟨⟨#[105, 112, 99, 105, 100, 114]⟩, 43, 8, false, some (126, .agg #[.func (.func 138) #[] #[], .func (.func 139) #[] #[], .func (.func 140) #[] #[]]), [43]⟩
theorem coded43 : Coded 43 row43 := fun w => by
  refine calls_of0 (args := [.int .i64 43]) Tryz.func122 rfl rfl rfl ?_
  refine To.runF 287 [2, 1, 1, 1, 1, 1, 1, 1, 1, 1, 1, 1, 1, 0, 0, 0, 0, 0, 0] (fun _ _ => by kernel_rfl) fun f1 g1 l1 => ?_
  exact To.ret [0, 0, 0, 0, 0, 0] (.agg ⟨rowCells row43 (f1 2)⟩) (by kernel_rfl) (by kernel_rfl) fun w hw => ⟨_, rfl, hw.ext, f1 2, rfl, hw.blk (j := 2) (b := f1 2) (o := .cells ⟨ucells row43.vc⟩ 5 (0, 0)) (q := true) (by kernel_rfl), hw.new (j := 2) (b := f1 2) (o := .cells ⟨ucells row43.vc⟩ 5 (0, 0)) (by kernel_rfl)⟩
def row53 : Row := ⟨⟨#[100, 110, 115]⟩, 53, -1, false, some (126, .agg #[.func (.func 130) #[] #[], .func (.func 131) #[] #[], .func (.func 132) #[] #[]]), [53]⟩
theorem coded53 : Coded 53 row53 := fun w => by
  refine calls_of0 (args := [.int .i64 53]) Tryz.func122 rfl rfl rfl ?_
  refine To.runF 239 [2, 1, 1, 1, 1, 1, 1, 1, 1, 1, 1, 1, 1, 0, 0, 0, 0, 0, 0] (fun _ _ => by kernel_rfl) fun f1 g1 l1 => ?_
  exact To.ret [0, 0, 0, 0, 0, 0] (.agg ⟨rowCells row53 (f1 2)⟩) (by kernel_rfl) (by kernel_rfl) fun w hw => ⟨_, rfl, hw.ext, f1 2, rfl, hw.blk (j := 2) (b := f1 2) (o := .cells ⟨ucells row53.vc⟩ 5 (0, 0)) (q := true) (by kernel_rfl), hw.new (j := 2) (b := f1 2) (o := .cells ⟨ucells row53.vc⟩ 5 (0, 0)) (by kernel_rfl)⟩
def row54 : Row := ⟨⟨#[100, 110, 115, 52]⟩, 54, -1, false, some (126, .agg #[.func (.func 130) #[] #[], .func (.func 131) #[] #[], .func (.func 132) #[] #[]]), [54]⟩
theorem coded54 : Coded 54 row54 := fun w => by
  refine calls_of0 (args := [.int .i64 54]) Tryz.func122 rfl rfl rfl ?_
  refine To.runF 245 [2, 1, 1, 1, 1, 1, 1, 1, 1, 1, 1, 1, 1, 0, 0, 0, 0, 0, 0] (fun _ _ => by kernel_rfl) fun f1 g1 l1 => ?_
  exact To.ret [0, 0, 0, 0, 0, 0] (.agg ⟨rowCells row54 (f1 2)⟩) (by kernel_rfl) (by kernel_rfl) fun w hw => ⟨_, rfl, hw.ext, f1 2, rfl, hw.blk (j := 2) (b := f1 2) (o := .cells ⟨ucells row54.vc⟩ 5 (0, 0)) (q := true) (by kernel_rfl), hw.new (j := 2) (b := f1 2) (o := .cells ⟨ucells row54.vc⟩ 5 (0, 0)) (by kernel_rfl)⟩
def row55 : Row := ⟨⟨#[100, 110, 115, 54]⟩, 55, -1, false, some (126, .agg #[.func (.func 130) #[] #[], .func (.func 131) #[] #[], .func (.func 132) #[] #[]]), [55]⟩
theorem coded55 : Coded 55 row55 := fun w => by
  refine calls_of0 (args := [.int .i64 55]) Tryz.func122 rfl rfl rfl ?_
  refine To.runF 251 [2, 1, 1, 1, 1, 1, 1, 1, 1, 1, 1, 1, 1, 0, 0, 0, 0, 0, 0] (fun _ _ => by kernel_rfl) fun f1 g1 l1 => ?_
  exact To.ret [0, 0, 0, 0, 0, 0] (.agg ⟨rowCells row55 (f1 2)⟩) (by kernel_rfl) (by kernel_rfl) fun w hw => ⟨_, rfl, hw.ext, f1 2, rfl, hw.blk (j := 2) (b := f1 2) (o := .cells ⟨ucells row55.vc⟩ 5 (0, 0)) (q := true) (by kernel_rfl), hw.new (j := 2) (b := f1 2) (o := .cells ⟨ucells row55.vc⟩ 5 (0, 0)) (by kernel_rfl)⟩
def row56 : Row := ⟨⟨#[100, 110, 115, 97, 100, 100, 114]⟩, 56, -1, false, some (126, .agg #[.func (.func 130) #[] #[], .func (.func 131) #[] #[], .func (.func 132) #[] #[]]), [56]⟩
theorem coded56 : Coded 56 row56 := fun w => by
  refine calls_of0 (args := [.int .i64 56]) Tryz.func122 rfl rfl rfl ?_
  refine To.runF 257 [2, 1, 1, 1, 1, 1, 1, 1, 1, 1, 1, 1, 1, 0, 0, 0, 0, 0, 0] (fun _ _ => by kernel_rfl) fun f1 g1 l1 => ?_
  exact To.ret [0, 0, 0, 0, 0, 0] (.agg ⟨rowCells row56 (f1 2)⟩) (by kernel_rfl) (by kernel_rfl) fun w hw => ⟨_, rfl, hw.ext, f1 2, rfl, hw.blk (j := 2) (b := f1 2) (o := .cells ⟨ucells row56.vc⟩ 5 (0, 0)) (q := true) (by kernel_rfl), hw.new (j := 2) (b := f1 2) (o := .cells ⟨ucells row56.vc⟩ 5 (0, 0)) (by kernel_rfl)⟩
def row132 : Row := ⟨⟨#[115, 99, 116, 112]⟩, 132, 16, false, some (126, .agg #[.func (.func 128) #[] #[], .func (.func 129) #[] #[], .nilFunc]), [132, 1]⟩
theorem coded132 : Coded 132 row132 := fun w => by
  refine calls_of0 (args := [.int .i64 132]) Tryz.func122 rfl rfl rfl ?_
  refine To.runF 325 [2, 2, 1, 1, 1, 1, 1, 1, 1, 1, 1, 1, 1, 1, 0, 0, 0, 0, 0, 0] (fun _ _ => by kernel_rfl) fun f1 g1 l1 => ?_
  exact To.ret [0, 0, 0, 0, 0, 0] (.agg ⟨rowCells row132 (f1 2)⟩) (by kernel_rfl) (by kernel_rfl) fun w hw => ⟨_, rfl, hw.ext, f1 2, rfl, hw.blk (j := 2) (b := f1 2) (o := .cells ⟨ucells row132.vc⟩ 5 (0, 0)) (q := true) (by kernel_rfl), hw.new (j := 2) (b := f1 2) (o := .cells ⟨ucells row132.vc⟩ 5 (0, 0)) (by kernel_rfl)⟩
def row273 : Row := ⟨⟨#[117, 100, 112]⟩, 273, 16, false, some (126, .agg #[.func (.func 128) #[] #[], .func (.func 129) #[] #[], .nilFunc]), [145, 2]⟩
theorem coded273 : Coded 273 row273 := fun w => by
  refine calls_of0 (args := [.int .i64 273]) Tryz.func122 rfl rfl rfl ?_
  refine To.runF 305 [2, 2, 1, 1, 1, 1, 1, 1, 1, 1, 1, 1, 1, 1, 0, 0, 0, 0, 0, 0] (fun _ _ => by kernel_rfl) fun f1 g1 l1 => ?_
  exact To.ret [0, 0, 0, 0, 0, 0] (.agg ⟨rowCells row273 (f1 2)⟩) (by kernel_rfl) (by kernel_rfl) fun w hw => ⟨_, rfl, hw.ext, f1 2, rfl, hw.blk (j := 2) (b := f1 2) (o := .cells ⟨ucells row273.vc⟩ 5 (0, 0)) (q := true) (by kernel_rfl), hw.new (j := 2) (b := f1 2) (o := .cells ⟨ucells row273.vc⟩ 5 (0, 0)) (by kernel_rfl)⟩
def row276 : Row := ⟨⟨#[112, 50, 112, 45, 119, 101, 98, 114, 116, 99, 45, 100, 105, 114, 101, 99, 116]⟩, 276, 0, false, none, [148, 2]⟩
theorem coded276 : Coded 276 row276 := fun w => by
  refine calls_of0 (args := [.int .i64 276]) Tryz.func122 rfl rfl rfl ?_
  refine To.runF 412 [2, 2, 1, 1, 1, 1, 1, 1, 1, 1, 1, 1, 1, 1, 0, 0, 0, 0, 0, 0] (fun _ _ => by kernel_rfl) fun f1 g1 l1 => ?_
  exact To.ret [0, 0, 0, 0, 0, 0] (.agg ⟨rowCells row276 (f1 2)⟩) (by kernel_rfl) (by kernel_rfl) fun w hw => ⟨_, rfl, hw.ext, f1 2, rfl, hw.blk (j := 2) (b := f1 2) (o := .cells ⟨ucells row276.vc⟩ 5 (0, 0)) (q := true) (by kernel_rfl), hw.new (j := 2) (b := f1 2) (o := .cells ⟨ucells row276.vc⟩ 5 (0, 0)) (by kernel_rfl)⟩
def row280 : Row := ⟨⟨#[119, 101, 98, 114, 116, 99, 45, 100, 105, 114, 101, 99, 116]⟩, 280, 0, false, none, [152, 2]⟩
theorem coded280 : Coded 280 row280 := fun w => by
  refine calls_of0 (args := [.int .i64 280]) Tryz.func122 rfl rfl rfl ?_
  refine To.runF 454 [2, 2, 1, 1, 1, 1, 1, 1, 1, 1, 1, 1, 1, 1, 0, 0, 0, 0, 0, 0] (fun _ _ => by kernel_rfl) fun f1 g1 l1 => ?_
  exact To.ret [0, 0, 0, 0, 0, 0] (.agg ⟨rowCells row280 (f1 2)⟩) (by kernel_rfl) (by kernel_rfl) fun w hw => ⟨_, rfl, hw.ext, f1 2, rfl, hw.blk (j := 2) (b := f1 2) (o := .cells ⟨ucells row280.vc⟩ 5 (0, 0)) (q := true) (by kernel_rfl), hw.new (j := 2) (b := f1 2) (o := .cells ⟨ucells row280.vc⟩ 5 (0, 0)) (by kernel_rfl)⟩
def row281 : Row := ⟨⟨#[119, 101, 98, 114, 116, 99]⟩, 281, 0, false, none, [153, 2]⟩
theorem coded281 : Coded 281 row281 := fun w => by
  refine calls_of0 (args := [.int .i64 281]) Tryz.func122 rfl rfl rfl ?_
  refine To.runF 460 [2, 2, 1, 1, 1, 1, 1, 1, 1, 1, 1, 1, 1, 1, 0, 0, 0, 0, 0, 0] (fun _ _ => by kernel_rfl) fun f1 g1 l1 => ?_
  exact To.ret [0, 0, 0, 0, 0, 0] (.agg ⟨rowCells row281 (f1 2)⟩) (by kernel_rfl) (by kernel_rfl) fun w hw => ⟨_, rfl, hw.ext, f1 2, rfl, hw.blk (j := 2) (b := f1 2) (o := .cells ⟨ucells row281.vc⟩ 5 (0, 0)) (q := true) (by kernel_rfl), hw.new (j := 2) (b := f1 2) (o := .cells ⟨ucells row281.vc⟩ 5 (0, 0)) (by kernel_rfl)⟩
def row290 : Row := ⟨⟨#[112, 50, 112, 45, 99, 105, 114, 99, 117, 105, 116]⟩, 290, 0, false, none, [162, 2]⟩
theorem coded290 : Coded 290 row290 := fun w => by
  refine calls_of0 (args := [.int .i64 290]) Tryz.func122 rfl rfl rfl ?_
  refine To.runF 316 [2, 2, 1, 1, 1, 1, 1, 1, 1, 1, 1, 1, 1, 1, 0, 0, 0, 0, 0, 0] (fun _ _ => by kernel_rfl) fun f1 g1 l1 => ?_
  exact To.ret [0, 0, 0, 0, 0, 0] (.agg ⟨rowCells row290 (f1 2)⟩) (by kernel_rfl) (by kernel_rfl) fun w hw => ⟨_, rfl, hw.ext, f1 2, rfl, hw.blk (j := 2) (b := f1 2) (o := .cells ⟨ucells row290.vc⟩ 5 (0, 0)) (q := true) (by kernel_rfl), hw.new (j := 2) (b := f1 2) (o := .cells ⟨ucells row290.vc⟩ 5 (0, 0)) (by kernel_rfl)⟩
def row301 : Row := ⟨⟨#[117, 100, 116]⟩, 301, 0, false, none, [173, 2]⟩
theorem coded301 : Coded 301 row301 := fun w => by
  refine calls_of0 (args := [.int .i64 301]) Tryz.func122 rfl rfl rfl ?_
  refine To.runF 352 [2, 2, 1, 1, 1, 1, 1, 1, 1, 1, 1, 1, 1, 1, 0, 0, 0, 0, 0, 0] (fun _ _ => by kernel_rfl) fun f1 g1 l1 => ?_
  exact To.ret [0, 0, 0, 0, 0, 0] (.agg ⟨rowCells row301 (f1 2)⟩) (by kernel_rfl) (by kernel_rfl) fun w hw => ⟨_, rfl, hw.ext, f1 2, rfl, hw.blk (j := 2) (b := f1 2) (o := .cells ⟨ucells row301.vc⟩ 5 (0, 0)) (q := true) (by kernel_rfl), hw.new (j := 2) (b := f1 2) (o := .cells ⟨ucells row301.vc⟩ 5 (0, 0)) (by kernel_rfl)⟩
def row302 : Row := ⟨⟨#[117, 116, 112]⟩, 302, 0, false, none, [174, 2]⟩
theorem coded302 : Coded 302 row302 := fun w => by
  refine calls_of0 (args := [.int .i64 302]) Tryz.func122 rfl rfl rfl ?_
  refine To.runF 346 [2, 2, 1, 1, 1, 1, 1, 1, 1, 1, 1, 1, 1, 1, 0, 0, 0, 0, 0, 0] (fun _ _ => by kernel_rfl) fun f1 g1 l1 => ?_
  exact To.ret [0, 0, 0, 0, 0, 0] (.agg ⟨rowCells row302 (f1 2)⟩) (by kernel_rfl) (by kernel_rfl) fun w hw => ⟨_, rfl, hw.ext, f1 2, rfl, hw.blk (j := 2) (b := f1 2) (o := .cells ⟨ucells row302.vc⟩ 5 (0, 0)) (q := true) (by kernel_rfl), hw.new (j := 2) (b := f1 2) (o := .cells ⟨ucells row302.vc⟩ 5 (0, 0)) (by kernel_rfl)⟩
def row400 : Row := ⟨⟨#[117, 110, 105, 120]⟩, 400, -1, true, some (126, .agg #[.func (.func 162) #[] #[], .func (.func 163) #[] #[], .func (.func 164) #[] #[]]), [144, 3]⟩
theorem coded400 : Coded 400 row400 := fun w => by
  refine calls_of0 (args := [.int .i64 400]) Tryz.func122 rfl rfl rfl ?_
  refine To.runF 431 [2, 2, 1, 1, 1, 1, 1, 1, 1, 1, 1, 1, 1, 1, 0, 0, 0, 0, 0, 0] (fun _ _ => by kernel_rfl) fun f1 g1 l1 => ?_
  exact To.ret [0, 0, 0, 0, 0, 0] (.agg ⟨rowCells row400 (f1 2)⟩) (by kernel_rfl) (by kernel_rfl) fun w hw => ⟨_, rfl, hw.ext, f1 2, rfl, hw.blk (j := 2) (b := f1 2) (o := .cells ⟨ucells row400.vc⟩ 5 (0, 0)) (q := true) (by kernel_rfl), hw.new (j := 2) (b := f1 2) (o := .cells ⟨ucells row400.vc⟩ 5 (0, 0)) (by kernel_rfl)⟩
def row421 : Row := ⟨⟨#[112, 50, 112]⟩, 421, -1, false, some (126, .agg #[.func (.func 159) #[] #[], .func (.func 160) #[] #[], .func (.func 161) #[] #[]]), [165, 3]⟩
theorem coded421 : Coded 421 row421 := fun w => by
  refine calls_of0 (args := [.int .i64 421]) Tryz.func122 rfl rfl rfl ?_
  refine To.runF 425 [2, 2, 1, 1, 1, 1, 1, 1, 1, 1, 1, 1, 1, 1, 0, 0, 0, 0, 0, 0] (fun _ _ => by kernel_rfl) fun f1 g1 l1 => ?_
  exact To.ret [0, 0, 0, 0, 0, 0] (.agg ⟨rowCells row421 (f1 2)⟩) (by kernel_rfl) (by kernel_rfl) fun w hw => ⟨_, rfl, hw.ext, f1 2, rfl, hw.blk (j := 2) (b := f1 2) (o := .cells ⟨ucells row421.vc⟩ 5 (0, 0)) (q := true) (by kernel_rfl), hw.new (j := 2) (b := f1 2) (o := .cells ⟨ucells row421.vc⟩ 5 (0, 0)) (by kernel_rfl)⟩
def row443 : Row := ⟨⟨#[104, 116, 116, 112, 115]⟩, 443, 0, false, none, [187, 3]⟩
theorem coded443 : Coded 443 row443 := fun w => by
  refine calls_of0 (args := [.int .i64 443]) Tryz.func122 rfl rfl rfl ?_
  refine To.runF 394 [2, 2, 1, 1, 1, 1, 1, 1, 1, 1, 1, 1, 1, 1, 0, 0, 0, 0, 0, 0] (fun _ _ => by kernel_rfl) fun f1 g1 l1 => ?_
  exact To.ret [0, 0, 0, 0, 0, 0] (.agg ⟨rowCells row443 (f1 2)⟩) (by kernel_rfl) (by kernel_rfl) fun w hw => ⟨_, rfl, hw.ext, f1 2, rfl, hw.blk (j := 2) (b := f1 2) (o := .cells ⟨ucells row443.vc⟩ 5 (0, 0)) (q := true) (by kernel_rfl), hw.new (j := 2) (b := f1 2) (o := .cells ⟨ucells row443.vc⟩ 5 (0, 0)) (by kernel_rfl)⟩
def row444 : Row := ⟨⟨#[111, 110, 105, 111, 110]⟩, 444, 96, false, some (126, .agg #[.func (.func 141) #[] #[], .func (.func 142) #[] #[], .func (.func 143) #[] #[]]), [188, 3]⟩
theorem coded444 : Coded 444 row444 := fun w => by
  refine calls_of0 (args := [.int .i64 444]) Tryz.func122 rfl rfl rfl ?_
  refine To.runF 347 [2, 2, 1, 1, 1, 1, 1, 1, 1, 1, 1, 1, 1, 1, 0, 0, 0, 0, 0, 0] (fun _ _ => by kernel_rfl) fun f1 g1 l1 => ?_
  exact To.ret [0, 0, 0, 0, 0, 0] (.agg ⟨rowCells row444 (f1 2)⟩) (by kernel_rfl) (by kernel_rfl) fun w hw => ⟨_, rfl, hw.ext, f1 2, rfl, hw.blk (j := 2) (b := f1 2) (o := .cells ⟨ucells row444.vc⟩ 5 (0, 0)) (q := true) (by kernel_rfl), hw.new (j := 2) (b := f1 2) (o := .cells ⟨ucells row444.vc⟩ 5 (0, 0)) (by kernel_rfl)⟩
def row445 : Row := ⟨⟨#[111, 110, 105, 111, 110, 51]⟩, 445, 296, false, some (126, .agg #[.func (.func 144) #[] #[], .func (.func 145) #[] #[], .func (.func 146) #[] #[]]), [189, 3]⟩
theorem coded445 : Coded 445 row445 := fun w => by
  refine calls_of0 (args := [.int .i64 445]) Tryz.func122 rfl rfl rfl ?_
  refine To.runF 353 [2, 2, 1, 1, 1, 1, 1, 1, 1, 1, 1, 1, 1, 1, 0, 0, 0, 0, 0, 0] (fun _ _ => by kernel_rfl) fun f1 g1 l1 => ?_
  exact To.ret [0, 0, 0, 0, 0, 0] (.agg ⟨rowCells row445 (f1 2)⟩) (by kernel_rfl) (by kernel_rfl) fun w hw => ⟨_, rfl, hw.ext, f1 2, rfl, hw.blk (j := 2) (b := f1 2) (o := .cells ⟨ucells row445.vc⟩ 5 (0, 0)) (q := true) (by kernel_rfl), hw.new (j := 2) (b := f1 2) (o := .cells ⟨ucells row445.vc⟩ 5 (0, 0)) (by kernel_rfl)⟩
def row446 : Row := ⟨⟨#[103, 97, 114, 108, 105, 99, 54, 52]⟩, 446, -1, false, some (126, .agg #[.func (.func 147) #[] #[], .func (.func 148) #[] #[], .func (.func 149) #[] #[]]), [190, 3]⟩
theorem coded446 : Coded 446 row446 := fun w => by
  refine calls_of0 (args := [.int .i64 446]) Tryz.func122 rfl rfl rfl ?_
  refine To.runF 359 [2, 2, 1, 1, 1, 1, 1, 1, 1, 1, 1, 1, 1, 1, 0, 0, 0, 0, 0, 0] (fun _ _ => by kernel_rfl) fun f1 g1 l1 => ?_
  exact To.ret [0, 0, 0, 0, 0, 0] (.agg ⟨rowCells row446 (f1 2)⟩) (by kernel_rfl) (by kernel_rfl) fun w hw => ⟨_, rfl, hw.ext, f1 2, rfl, hw.blk (j := 2) (b := f1 2) (o := .cells ⟨ucells row446.vc⟩ 5 (0, 0)) (q := true) (by kernel_rfl), hw.new (j := 2) (b := f1 2) (o := .cells ⟨ucells row446.vc⟩ 5 (0, 0)) (by kernel_rfl)⟩
def row447 : Row := ⟨⟨#[103, 97, 114, 108, 105, 99, 51, 50]⟩, 447, -1, false, some (126, .agg #[.func (.func 150) #[] #[], .func (.func 151) #[] #[], .func (.func 152) #[] #[]]), [191, 3]⟩
theorem coded447 : Coded 447 row447 := fun w => by
  refine calls_of0 (args := [.int .i64 447]) Tryz.func122 rfl rfl rfl ?_
  refine To.runF 365 [2, 2, 1, 1, 1, 1, 1, 1, 1, 1, 1, 1, 1, 1, 0, 0, 0, 0, 0, 0] (fun _ _ => by kernel_rfl) fun f1 g1 l1 => ?_
  exact To.ret [0, 0, 0, 0, 0, 0] (.agg ⟨rowCells row447 (f1 2)⟩) (by kernel_rfl) (by kernel_rfl) fun w hw => ⟨_, rfl, hw.ext, f1 2, rfl, hw.blk (j := 2) (b := f1 2) (o := .cells ⟨ucells row447.vc⟩ 5 (0, 0)) (q := true) (by kernel_rfl), hw.new (j := 2) (b := f1 2) (o := .cells ⟨ucells row447.vc⟩ 5 (0, 0)) (by kernel_rfl)⟩
def row448 : Row := ⟨⟨#[116, 108, 115]⟩, 448, 0, false, none, [192, 3]⟩
theorem coded448 : Coded 448 row448 := fun w => by
  refine calls_of0 (args := [.int .i64 448]) Tryz.func122 rfl rfl rfl ?_
  refine To.runF 418 [2, 2, 1, 1, 1, 1, 1, 1, 1, 1, 1, 1, 1, 1, 0, 0, 0, 0, 0, 0] (fun _ _ => by kernel_rfl) fun f1 g1 l1 => ?_
  exact To.ret [0, 0, 0, 0, 0, 0] (.agg ⟨rowCells row448 (f1 2)⟩) (by kernel_rfl) (by kernel_rfl) fun w hw => ⟨_, rfl, hw.ext, f1 2, rfl, hw.blk (j := 2) (b := f1 2) (o := .cells ⟨ucells row448.vc⟩ 5 (0, 0)) (q := true) (by kernel_rfl), hw.new (j := 2) (b := f1 2) (o := .cells ⟨ucells row448.vc⟩ 5 (0, 0)) (by kernel_rfl)⟩
def row449 : Row := ⟨⟨#[115, 110, 105]⟩, 449, -1, false, some (126, .agg #[.func (.func 130) #[] #[], .func (.func 131) #[] #[], .func (.func 132) #[] #[]]), [193, 3]⟩
theorem coded449 : Coded 449 row449 := fun w => by
  refine calls_of0 (args := [.int .i64 449]) Tryz.func122 rfl rfl rfl ?_
  refine To.runF 449 [2, 2, 1, 1, 1, 1, 1, 1, 1, 1, 1, 1, 1, 1, 0, 0, 0, 0, 0, 0] (fun _ _ => by kernel_rfl) fun f1 g1 l1 => ?_
  exact To.ret [0, 0, 0, 0, 0, 0] (.agg ⟨rowCells row449 (f1 2)⟩) (by kernel_rfl) (by kernel_rfl) fun w hw => ⟨_, rfl, hw.ext, f1 2, rfl, hw.blk (j := 2) (b := f1 2) (o := .cells ⟨ucells row449.vc⟩ 5 (0, 0)) (q := true) (by kernel_rfl), hw.new (j := 2) (b := f1 2) (o := .cells ⟨ucells row449.vc⟩ 5 (0, 0)) (by kernel_rfl)⟩
def row454 : Row := ⟨⟨#[110, 111, 105, 115, 101]⟩, 454, 0, false, none, [198, 3]⟩
theorem coded454 : Coded 454 row454 := fun w => by
  refine calls_of0 (args := [.int .i64 454]) Tryz.func122 rfl rfl rfl ?_
  refine To.runF 430 [2, 2, 1, 1, 1, 1, 1, 1, 1, 1, 1, 1, 1, 1, 0, 0, 0, 0, 0, 0] (fun _ _ => by kernel_rfl) fun f1 g1 l1 => ?_
  exact To.ret [0, 0, 0, 0, 0, 0] (.agg ⟨rowCells row454 (f1 2)⟩) (by kernel_rfl) (by kernel_rfl) fun w hw => ⟨_, rfl, hw.ext, f1 2, rfl, hw.blk (j := 2) (b := f1 2) (o := .cells ⟨ucells row454.vc⟩ 5 (0, 0)) (q := true) (by kernel_rfl), hw.new (j := 2) (b := f1 2) (o := .cells ⟨ucells row454.vc⟩ 5 (0, 0)) (by kernel_rfl)⟩
def row460 : Row := ⟨⟨#[113, 117, 105, 99]⟩, 460, 0, false, none, [204, 3]⟩
theorem coded460 : Coded 460 row460 := fun w => by
  refine calls_of0 (args := [.int .i64 460]) Tryz.func122 rfl rfl rfl ?_
  refine To.runF 358 [2, 2, 1, 1, 1, 1, 1, 1, 1, 1, 1, 1, 1, 1, 0, 0, 0, 0, 0, 0] (fun _ _ => by kernel_rfl) fun f1 g1 l1 => ?_
  exact To.ret [0, 0, 0, 0, 0, 0] (.agg ⟨rowCells row460 (f1 2)⟩) (by kernel_rfl) (by kernel_rfl) fun w hw => ⟨_, rfl, hw.ext, f1 2, rfl, hw.blk (j := 2) (b := f1 2) (o := .cells ⟨ucells row460.vc⟩ 5 (0, 0)) (q := true) (by kernel_rfl), hw.new (j := 2) (b := f1 2) (o := .cells ⟨ucells row460.vc⟩ 5 (0, 0)) (by kernel_rfl)⟩
def row461 : Row := ⟨⟨#[113, 117, 105, 99, 45, 118, 49]⟩, 461, 0, false, none, [205, 3]⟩
theorem coded461 : Coded 461 row461 := fun w => by
  refine calls_of0 (args := [.int .i64 461]) Tryz.func122 rfl rfl rfl ?_
  refine To.runF 364 [2, 2, 1, 1, 1, 1, 1, 1, 1, 1, 1, 1, 1, 1, 0, 0, 0, 0, 0, 0] (fun _ _ => by kernel_rfl) fun f1 g1 l1 => ?_
  exact To.ret [0, 0, 0, 0, 0, 0] (.agg ⟨rowCells row461 (f1 2)⟩) (by kernel_rfl) (by kernel_rfl) fun w hw => ⟨_, rfl, hw.ext, f1 2, rfl, hw.blk (j := 2) (b := f1 2) (o := .cells ⟨ucells row461.vc⟩ 5 (0, 0)) (q := true) (by kernel_rfl), hw.new (j := 2) (b := f1 2) (o := .cells ⟨ucells row461.vc⟩ 5 (0, 0)) (by kernel_rfl)⟩
def row465 : Row := ⟨⟨#[119, 101, 98, 116, 114, 97, 110, 115, 112, 111, 114, 116]⟩, 465, 0, false, none, [209, 3]⟩
theorem coded465 : Coded 465 row465 := fun w => by
  refine calls_of0 (args := [.int .i64 465]) Tryz.func122 rfl rfl rfl ?_
  refine To.runF 370 [2, 2, 1, 1, 1, 1, 1, 1, 1, 1, 1, 1, 1, 1, 0, 0, 0, 0, 0, 0] (fun _ _ => by kernel_rfl) fun f1 g1 l1 => ?_
  exact To.ret [0, 0, 0, 0, 0, 0] (.agg ⟨rowCells row465 (f1 2)⟩) (by kernel_rfl) (by kernel_rfl) fun w hw => ⟨_, rfl, hw.ext, f1 2, rfl, hw.blk (j := 2) (b := f1 2) (o := .cells ⟨ucells row465.vc⟩ 5 (0, 0)) (q := true) (by kernel_rfl), hw.new (j := 2) (b := f1 2) (o := .cells ⟨ucells row465.vc⟩ 5 (0, 0)) (by kernel_rfl)⟩
def row466 : Row := ⟨⟨#[99, 101, 114, 116, 104, 97, 115, 104]⟩, 466, -1, false, some (126, .agg #[.func (.func 153) #[] #[], .func (.func 154) #[] #[], .func (.func 155) #[] #[]]), [210, 3]⟩
theorem coded466 : Coded 466 row466 := fun w => by
  refine calls_of0 (args := [.int .i64 466]) Tryz.func122 rfl rfl rfl ?_
  refine To.runF 401 [2, 2, 1, 1, 1, 1, 1, 1, 1, 1, 1, 1, 1, 1, 0, 0, 0, 0, 0, 0] (fun _ _ => by kernel_rfl) fun f1 g1 l1 => ?_
  exact To.ret [0, 0, 0, 0, 0, 0] (.agg ⟨rowCells row466 (f1 2)⟩) (by kernel_rfl) (by kernel_rfl) fun w hw => ⟨_, rfl, hw.ext, f1 2, rfl, hw.blk (j := 2) (b := f1 2) (o := .cells ⟨ucells row466.vc⟩ 5 (0, 0)) (q := true) (by kernel_rfl), hw.new (j := 2) (b := f1 2) (o := .cells ⟨ucells row466.vc⟩ 5 (0, 0)) (by kernel_rfl)⟩
def row477 : Row := ⟨⟨#[119, 115]⟩, 477, 0, false, none, [221, 3]⟩
theorem coded477 : Coded 477 row477 := fun w => by
  refine calls_of0 (args := [.int .i64 477]) Tryz.func122 rfl rfl rfl ?_
  refine To.runF 436 [2, 2, 1, 1, 1, 1, 1, 1, 1, 1, 1, 1, 1, 1, 0, 0, 0, 0, 0, 0] (fun _ _ => by kernel_rfl) fun f1 g1 l1 => ?_
  exact To.ret [0, 0, 0, 0, 0, 0] (.agg ⟨rowCells row477 (f1 2)⟩) (by kernel_rfl) (by kernel_rfl) fun w hw => ⟨_, rfl, hw.ext, f1 2, rfl, hw.blk (j := 2) (b := f1 2) (o := .cells ⟨ucells row477.vc⟩ 5 (0, 0)) (q := true) (by kernel_rfl), hw.new (j := 2) (b := f1 2) (o := .cells ⟨ucells row477.vc⟩ 5 (0, 0)) (by kernel_rfl)⟩
def row478 : Row := ⟨⟨#[119, 115, 115]⟩, 478, 0, false, none, [222, 3]⟩
theorem coded478 : Coded 478 row478 := fun w => by
  refine calls_of0 (args := [.int .i64 478]) Tryz.func122 rfl rfl rfl ?_
  refine To.runF 442 [2, 2, 1, 1, 1, 1, 1, 1, 1, 1, 1, 1, 1, 1, 0, 0, 0, 0, 0, 0] (fun _ _ => by kernel_rfl) fun f1 g1 l1 => ?_
  exact To.ret [0, 0, 0, 0, 0, 0] (.agg ⟨rowCells row478 (f1 2)⟩) (by kernel_rfl) (by kernel_rfl) fun w hw => ⟨_, rfl, hw.ext, f1 2, rfl, hw.blk (j := 2) (b := f1 2) (o := .cells ⟨ucells row478.vc⟩ 5 (0, 0)) (q := true) (by kernel_rfl), hw.new (j := 2) (b := f1 2) (o := .cells ⟨ucells row478.vc⟩ 5 (0, 0)) (by kernel_rfl)⟩
def row480 : Row := ⟨⟨#[104, 116, 116, 112]⟩, 480, 0, false, none, [224, 3]⟩
theorem coded480 : Coded 480 row480 := fun w => by
  refine calls_of0 (args := [.int .i64 480]) Tryz.func122 rfl rfl rfl ?_
  refine To.runF 382 [2, 2, 1, 1, 1, 1, 1, 1, 1, 1, 1, 1, 1, 1, 0, 0, 0, 0, 0, 0] (fun _ _ => by kernel_rfl) fun f1 g1 l1 => ?_
  exact To.ret [0, 0, 0, 0, 0, 0] (.agg ⟨rowCells row480 (f1 2)⟩) (by kernel_rfl) (by kernel_rfl) fun w hw => ⟨_, rfl, hw.ext, f1 2, rfl, hw.blk (j := 2) (b := f1 2) (o := .cells ⟨ucells row480.vc⟩ 5 (0, 0)) (q := true) (by kernel_rfl), hw.new (j := 2) (b := f1 2) (o := .cells ⟨ucells row480.vc⟩ 5 (0, 0)) (by kernel_rfl)⟩
def row481 : Row := ⟨⟨#[104, 116, 116, 112, 45, 112, 97, 116, 104]⟩, 481, -1, false, some (126, .agg #[.func (.func 156) #[] #[], .func (.func 157) #[] #[], .func (.func 158) #[] #[]]), [225, 3]⟩
theorem coded481 : Coded 481 row481 := fun w => by
  refine calls_of0 (args := [.int .i64 481]) Tryz.func122 rfl rfl rfl ?_
  refine To.runF 413 [2, 2, 1, 1, 1, 1, 1, 1, 1, 1, 1, 1, 1, 1, 0, 0, 0, 0, 0, 0] (fun _ _ => by kernel_rfl) fun f1 g1 l1 => ?_
  exact To.ret [0, 0, 0, 0, 0, 0] (.agg ⟨rowCells row481 (f1 2)⟩) (by kernel_rfl) (by kernel_rfl) fun w hw => ⟨_, rfl, hw.ext, f1 2, rfl, hw.blk (j := 2) (b := f1 2) (o := .cells ⟨ucells row481.vc⟩ 5 (0, 0)) (q := true) (by kernel_rfl), hw.new (j := 2) (b := f1 2) (o := .cells ⟨ucells row481.vc⟩ 5 (0, 0)) (by kernel_rfl)⟩
def row777 : Row := ⟨⟨#[109, 101, 109, 111, 114, 121]⟩, 777, 64, false, some (126, .agg #[.func (.func 165) #[] #[], .func (.func 166) #[] #[], .func (.func 167) #[] #[]]), [137, 6]⟩
theorem coded777 : Coded 777 row777 := fun w => by
  refine calls_of0 (args := [.int .i64 777]) Tryz.func122 rfl rfl rfl ?_
  refine To.runF 491 [2, 2, 1, 1, 1, 1, 1, 1, 1, 1, 1, 1, 1, 1, 0, 0, 0, 0, 0, 0] (fun _ _ => by kernel_rfl) fun f1 g1 l1 => ?_
  exact To.ret [0, 0, 0, 0, 0, 0] (.agg ⟨rowCells row777 (f1 2)⟩) (by kernel_rfl) (by kernel_rfl) fun w hw => ⟨_, rfl, hw.ext, f1 2, rfl, hw.blk (j := 2) (b := f1 2) (o := .cells ⟨ucells row777.vc⟩ 5 (0, 0)) (q := true) (by kernel_rfl), hw.new (j := 2) (b := f1 2) (o := .cells ⟨ucells row777.vc⟩ 5 (0, 0)) (by kernel_rfl)⟩
def row7367777 : Row := ⟨⟨#[112, 108, 97, 105, 110, 116, 101, 120, 116, 118, 50]⟩, 7367777, 0, false, none, [225, 216, 193, 3]⟩
theorem coded7367777 : Coded 7367777 row7367777 := fun w => by
  refine calls_of0 (args := [.int .i64 7367777]) Tryz.func122 rfl rfl rfl ?_
  refine To.runF 512 [2, 2, 2, 2, 1, 1, 1, 1, 1, 1, 1, 1, 1, 1, 1, 1, 0, 0, 0, 0, 0, 0] (fun _ _ => by kernel_rfl) fun f1 g1 l1 => ?_
  exact To.ret [0, 0, 0, 0, 0, 0] (.agg ⟨rowCells row7367777 (f1 2)⟩) (by kernel_rfl) (by kernel_rfl) fun w hw => ⟨_, rfl, hw.ext, f1 2, rfl, hw.blk (j := 2) (b := f1 2) (o := .cells ⟨ucells row7367777.vc⟩ 5 (0, 0)) (q := true) (by kernel_rfl), hw.new (j := 2) (b := f1 2) (o := .cells ⟨ucells row7367777.vc⟩ 5 (0, 0)) (by kernel_rfl)⟩
def rows : List Row := [row4, row6, row33, row41, row42, row43, row53, row54, row55, row56, row132, row273, row276, row280, row281, row290, row301, row302, row400, row421, row443, row444, row445, row446, row447, row448, row449, row454, row460, row461, row465, row466, row477, row478, row480, row481, row777, row7367777]
theorem coded_all : ∀ r ∈ rows, Coded r.code r := by
  intro r hr
  simp only [rows, List.mem_cons, List.not_mem_nil, or_false] at hr
  rcases hr with rfl | rfl | rfl | rfl | rfl | rfl | rfl | rfl | rfl | rfl | rfl | rfl | rfl | rfl | rfl | rfl | rfl | rfl | rfl | rfl | rfl | rfl | rfl | rfl | rfl | rfl | rfl | rfl | rfl | rfl | rfl | rfl | rfl | rfl | rfl | rfl | rfl | rfl
  · exact coded4
  · exact coded6
  · exact coded33
  · exact coded41
  · exact coded42
  · exact coded43
  · exact coded53
  · exact coded54
  · exact coded55
  · exact coded56
  · exact coded132
  · exact coded273
  · exact coded276
  · exact coded280
  · exact coded281
  · exact coded290
  · exact coded301
  · exact coded302
  · exact coded400
  · exact coded421
  · exact coded443
  · exact coded444
  · exact coded445
  · exact coded446
  · exact coded447
  · exact coded448
  · exact coded449
  · exact coded454
  · exact coded460
  · exact coded461
  · exact coded465
  · exact coded466
  · exact coded477
  · exact coded478
  · exact coded480
  · exact coded481
  · exact coded777
  · exact coded7367777
end Go.Proofs.YtgodhbgnhapemaaGreatDoor
/- The protocol of each name, as the switch over the names gives it. Conditions: none. -/
namespace Go.Proofs.YtgodhbgnhapemaaGreatDoor
open Go Go.SX
set_option maxRecDepth 100000
/-- The protocol with this name is this row. -/
def Named (n : ByteArray) (r : Row) : Prop := ∀ w, Calls Tryz.prog 45 #[.string n] w fun e w1 =>
  ∃ v, e = .returned v ∧ Ext [] w w1 ∧ ∃ vb, v = .agg ⟨rowCells r vb⟩ ∧ w1.heap[vb]? = some (.cells ⟨ucells r.vc⟩ 5 (0, 0)) ∧ w.heap.size ≤ vb
theorem named4 : Named row4.name row4 := fun w => by
  refine calls_of0 (args := [.string row4.name]) Tryz.func45 rfl rfl rfl ?_
  refine To.runF 227 [2, 1, 1, 1, 1, 1, 1, 1, 1, 1, 1, 1, 1, 0, 0, 0, 0, 0, 0] (fun _ _ => by kernel_rfl) fun f1 g1 l1 => ?_
  exact To.ret [0, 0, 0, 0, 0, 0] (.agg ⟨rowCells row4 (f1 2)⟩) (by kernel_rfl) (by kernel_rfl) fun w hw => ⟨_, rfl, hw.ext, f1 2, rfl, hw.blk (j := 2) (b := f1 2) (o := .cells ⟨ucells row4.vc⟩ 5 (0, 0)) (q := true) (by kernel_rfl), hw.new (j := 2) (b := f1 2) (o := .cells ⟨ucells row4.vc⟩ 5 (0, 0)) (by kernel_rfl)⟩
theorem named6 : Named row6.name row6 := fun w => by
  refine calls_of0 (args := [.string row6.name]) Tryz.func45 rfl rfl rfl ?_
  refine To.runF 233 [2, 1, 1, 1, 1, 1, 1, 1, 1, 1, 1, 1, 1, 0, 0, 0, 0, 0, 0] (fun _ _ => by kernel_rfl) fun f1 g1 l1 => ?_
  exact To.ret [0, 0, 0, 0, 0, 0] (.agg ⟨rowCells row6 (f1 2)⟩) (by kernel_rfl) (by kernel_rfl) fun w hw => ⟨_, rfl, hw.ext, f1 2, rfl, hw.blk (j := 2) (b := f1 2) (o := .cells ⟨ucells row6.vc⟩ 5 (0, 0)) (q := true) (by kernel_rfl), hw.new (j := 2) (b := f1 2) (o := .cells ⟨ucells row6.vc⟩ 5 (0, 0)) (by kernel_rfl)⟩
theorem named33 : Named row33.name row33 := fun w => by
  refine calls_of0 (args := [.string row33.name]) Tryz.func45 rfl rfl rfl ?_
  refine To.runF 269 [2, 1, 1, 1, 1, 1, 1, 1, 1, 1, 1, 1, 1, 0, 0, 0, 0, 0, 0] (fun _ _ => by kernel_rfl) fun f1 g1 l1 => ?_
  exact To.ret [0, 0, 0, 0, 0, 0] (.agg ⟨rowCells row33 (f1 2)⟩) (by kernel_rfl) (by kernel_rfl) fun w hw => ⟨_, rfl, hw.ext, f1 2, rfl, hw.blk (j := 2) (b := f1 2) (o := .cells ⟨ucells row33.vc⟩ 5 (0, 0)) (q := true) (by kernel_rfl), hw.new (j := 2) (b := f1 2) (o := .cells ⟨ucells row33.vc⟩ 5 (0, 0)) (by kernel_rfl)⟩
theorem named41 : Named row41.name row41 := fun w => by
  refine calls_of0 (args := [.string row41.name]) Tryz.func45 rfl rfl rfl ?_
  refine To.runF 275 [2, 1, 1, 1, 1, 1, 1, 1, 1, 1, 1, 1, 1, 0, 0, 0, 0, 0, 0] (fun _ _ => by kernel_rfl) fun f1 g1 l1 => ?_
  exact To.ret [0, 0, 0, 0, 0, 0] (.agg ⟨rowCells row41 (f1 2)⟩) (by kernel_rfl) (by kernel_rfl) fun w hw => ⟨_, rfl, hw.ext, f1 2, rfl, hw.blk (j := 2) (b := f1 2) (o := .cells ⟨ucells row41.vc⟩ 5 (0, 0)) (q := true) (by kernel_rfl), hw.new (j := 2) (b := f1 2) (o := .cells ⟨ucells row41.vc⟩ 5 (0, 0)) (by kernel_rfl)⟩
theorem named42 : Named row42.name row42 := fun w => by
  refine calls_of0 (args := [.string row42.name]) Tryz.func45 rfl rfl rfl ?_
  refine To.runF 281 [2, 1, 1, 1, 1, 1, 1, 1, 1, 1, 1, 1, 1, 0, 0, 0, 0, 0, 0] (fun _ _ => by kernel_rfl) fun f1 g1 l1 => ?_
  exact To.ret [0, 0, 0, 0, 0, 0] (.agg ⟨rowCells row42 (f1 2)⟩) (by kernel_rfl) (by kernel_rfl) fun w hw => ⟨_, rfl, hw.ext, f1 2, rfl, hw.blk (j := 2) (b := f1 2) (o := .cells ⟨ucells row42.vc⟩ 5 (0, 0)) (q := true) (by kernel_rfl), hw.new (j := 2) (b := f1 2) (o := .cells ⟨ucells row42.vc⟩ 5 (0, 0)) (by kernel_rfl)⟩
theorem named43 : Named row43.name row43 := fun w => by
  refine calls_of0 (args := [.string row43.name]) Tryz.func45 rfl rfl rfl ?_
  refine To.runF 287 [2, 1, 1, 1, 1, 1, 1, 1, 1, 1, 1, 1, 1, 0, 0, 0, 0, 0, 0] (fun _ _ => by kernel_rfl) fun f1 g1 l1 => ?_
  exact To.ret [0, 0, 0, 0, 0, 0] (.agg ⟨rowCells row43 (f1 2)⟩) (by kernel_rfl) (by kernel_rfl) fun w hw => ⟨_, rfl, hw.ext, f1 2, rfl, hw.blk (j := 2) (b := f1 2) (o := .cells ⟨ucells row43.vc⟩ 5 (0, 0)) (q := true) (by kernel_rfl), hw.new (j := 2) (b := f1 2) (o := .cells ⟨ucells row43.vc⟩ 5 (0, 0)) (by kernel_rfl)⟩
theorem named53 : Named row53.name row53 := fun w => by
  refine calls_of0 (args := [.string row53.name]) Tryz.func45 rfl rfl rfl ?_
  refine To.runF 239 [2, 1, 1, 1, 1, 1, 1, 1, 1, 1, 1, 1, 1, 0, 0, 0, 0, 0, 0] (fun _ _ => by kernel_rfl) fun f1 g1 l1 => ?_
  exact To.ret [0, 0, 0, 0, 0, 0] (.agg ⟨rowCells row53 (f1 2)⟩) (by kernel_rfl) (by kernel_rfl) fun w hw => ⟨_, rfl, hw.ext, f1 2, rfl, hw.blk (j := 2) (b := f1 2) (o := .cells ⟨ucells row53.vc⟩ 5 (0, 0)) (q := true) (by kernel_rfl), hw.new (j := 2) (b := f1 2) (o := .cells ⟨ucells row53.vc⟩ 5 (0, 0)) (by kernel_rfl)⟩
theorem named54 : Named row54.name row54 := fun w => by
  refine calls_of0 (args := [.string row54.name]) Tryz.func45 rfl rfl rfl ?_
  refine To.runF 245 [2, 1, 1, 1, 1, 1, 1, 1, 1, 1, 1, 1, 1, 0, 0, 0, 0, 0, 0] (fun _ _ => by kernel_rfl) fun f1 g1 l1 => ?_
  exact To.ret [0, 0, 0, 0, 0, 0] (.agg ⟨rowCells row54 (f1 2)⟩) (by kernel_rfl) (by kernel_rfl) fun w hw => ⟨_, rfl, hw.ext, f1 2, rfl, hw.blk (j := 2) (b := f1 2) (o := .cells ⟨ucells row54.vc⟩ 5 (0, 0)) (q := true) (by kernel_rfl), hw.new (j := 2) (b := f1 2) (o := .cells ⟨ucells row54.vc⟩ 5 (0, 0)) (by kernel_rfl)⟩
theorem named55 : Named row55.name row55 := fun w => by
  refine calls_of0 (args := [.string row55.name]) Tryz.func45 rfl rfl rfl ?_
  refine To.runF 251 [2, 1, 1, 1, 1, 1, 1, 1, 1, 1, 1, 1, 1, 0, 0, 0, 0, 0, 0] (fun _ _ => by kernel_rfl) fun f1 g1 l1 => ?_
  exact To.ret [0, 0, 0, 0, 0, 0] (.agg ⟨rowCells row55 (f1 2)⟩) (by kernel_rfl) (by kernel_rfl) fun w hw => ⟨_, rfl, hw.ext, f1 2, rfl, hw.blk (j := 2) (b := f1 2) (o := .cells ⟨ucells row55.vc⟩ 5 (0, 0)) (q := true) (by kernel_rfl), hw.new (j := 2) (b := f1 2) (o := .cells ⟨ucells row55.vc⟩ 5 (0, 0)) (by kernel_rfl)⟩
theorem named56 : Named row56.name row56 := fun w => by
  refine calls_of0 (args := [.string row56.name]) Tryz.func45 rfl rfl rfl ?_
  refine To.runF 257 [2, 1, 1, 1, 1, 1, 1, 1, 1, 1, 1, 1, 1, 0, 0, 0, 0, 0, 0] (fun _ _ => by kernel_rfl) fun f1 g1 l1 => ?_
  exact To.ret [0, 0, 0, 0, 0, 0] (.agg ⟨rowCells row56 (f1 2)⟩) (by kernel_rfl) (by kernel_rfl) fun w hw => ⟨_, rfl, hw.ext, f1 2, rfl, hw.blk (j := 2) (b := f1 2) (o := .cells ⟨ucells row56.vc⟩ 5 (0, 0)) (q := true) (by kernel_rfl), hw.new (j := 2) (b := f1 2) (o := .cells ⟨ucells row56.vc⟩ 5 (0, 0)) (by kernel_rfl)⟩
theorem named132 : Named row132.name row132 := fun w => by
  refine calls_of0 (args := [.string row132.name]) Tryz.func45 rfl rfl rfl ?_
  refine To.runF 325 [2, 2, 1, 1, 1, 1, 1, 1, 1, 1, 1, 1, 1, 1, 0, 0, 0, 0, 0, 0] (fun _ _ => by kernel_rfl) fun f1 g1 l1 => ?_
  exact To.ret [0, 0, 0, 0, 0, 0] (.agg ⟨rowCells row132 (f1 2)⟩) (by kernel_rfl) (by kernel_rfl) fun w hw => ⟨_, rfl, hw.ext, f1 2, rfl, hw.blk (j := 2) (b := f1 2) (o := .cells ⟨ucells row132.vc⟩ 5 (0, 0)) (q := true) (by kernel_rfl), hw.new (j := 2) (b := f1 2) (o := .cells ⟨ucells row132.vc⟩ 5 (0, 0)) (by kernel_rfl)⟩
theorem named273 : Named row273.name row273 := fun w => by
  refine calls_of0 (args := [.string row273.name]) Tryz.func45 rfl rfl rfl ?_
  refine To.runF 305 [2, 2, 1, 1, 1, 1, 1, 1, 1, 1, 1, 1, 1, 1, 0, 0, 0, 0, 0, 0] (fun _ _ => by kernel_rfl) fun f1 g1 l1 => ?_
  exact To.ret [0, 0, 0, 0, 0, 0] (.agg ⟨rowCells row273 (f1 2)⟩) (by kernel_rfl) (by kernel_rfl) fun w hw => ⟨_, rfl, hw.ext, f1 2, rfl, hw.blk (j := 2) (b := f1 2) (o := .cells ⟨ucells row273.vc⟩ 5 (0, 0)) (q := true) (by kernel_rfl), hw.new (j := 2) (b := f1 2) (o := .cells ⟨ucells row273.vc⟩ 5 (0, 0)) (by kernel_rfl)⟩
theorem named276 : Named row276.name row276 := fun w => by
  refine calls_of0 (args := [.string row276.name]) Tryz.func45 rfl rfl rfl ?_
  refine To.runF 412 [2, 2, 1, 1, 1, 1, 1, 1, 1, 1, 1, 1, 1, 1, 0, 0, 0, 0, 0, 0] (fun _ _ => by kernel_rfl) fun f1 g1 l1 => ?_
  exact To.ret [0, 0, 0, 0, 0, 0] (.agg ⟨rowCells row276 (f1 2)⟩) (by kernel_rfl) (by kernel_rfl) fun w hw => ⟨_, rfl, hw.ext, f1 2, rfl, hw.blk (j := 2) (b := f1 2) (o := .cells ⟨ucells row276.vc⟩ 5 (0, 0)) (q := true) (by kernel_rfl), hw.new (j := 2) (b := f1 2) (o := .cells ⟨ucells row276.vc⟩ 5 (0, 0)) (by kernel_rfl)⟩
theorem named280 : Named row280.name row280 := fun w => by
  refine calls_of0 (args := [.string row280.name]) Tryz.func45 rfl rfl rfl ?_
  refine To.runF 454 [2, 2, 1, 1, 1, 1, 1, 1, 1, 1, 1, 1, 1, 1, 0, 0, 0, 0, 0, 0] (fun _ _ => by kernel_rfl) fun f1 g1 l1 => ?_
  exact To.ret [0, 0, 0, 0, 0, 0] (.agg ⟨rowCells row280 (f1 2)⟩) (by kernel_rfl) (by kernel_rfl) fun w hw => ⟨_, rfl, hw.ext, f1 2, rfl, hw.blk (j := 2) (b := f1 2) (o := .cells ⟨ucells row280.vc⟩ 5 (0, 0)) (q := true) (by kernel_rfl), hw.new (j := 2) (b := f1 2) (o := .cells ⟨ucells row280.vc⟩ 5 (0, 0)) (by kernel_rfl)⟩
theorem named281 : Named row281.name row281 := fun w => by
  refine calls_of0 (args := [.string row281.name]) Tryz.func45 rfl rfl rfl ?_
  refine To.runF 460 [2, 2, 1, 1, 1, 1, 1, 1, 1, 1, 1, 1, 1, 1, 0, 0, 0, 0, 0, 0] (fun _ _ => by kernel_rfl) fun f1 g1 l1 => ?_
  exact To.ret [0, 0, 0, 0, 0, 0] (.agg ⟨rowCells row281 (f1 2)⟩) (by kernel_rfl) (by kernel_rfl) fun w hw => ⟨_, rfl, hw.ext, f1 2, rfl, hw.blk (j := 2) (b := f1 2) (o := .cells ⟨ucells row281.vc⟩ 5 (0, 0)) (q := true) (by kernel_rfl), hw.new (j := 2) (b := f1 2) (o := .cells ⟨ucells row281.vc⟩ 5 (0, 0)) (by kernel_rfl)⟩
theorem named290 : Named row290.name row290 := fun w => by
  refine calls_of0 (args := [.string row290.name]) Tryz.func45 rfl rfl rfl ?_
  refine To.runF 316 [2, 2, 1, 1, 1, 1, 1, 1, 1, 1, 1, 1, 1, 1, 0, 0, 0, 0, 0, 0] (fun _ _ => by kernel_rfl) fun f1 g1 l1 => ?_
  exact To.ret [0, 0, 0, 0, 0, 0] (.agg ⟨rowCells row290 (f1 2)⟩) (by kernel_rfl) (by kernel_rfl) fun w hw => ⟨_, rfl, hw.ext, f1 2, rfl, hw.blk (j := 2) (b := f1 2) (o := .cells ⟨ucells row290.vc⟩ 5 (0, 0)) (q := true) (by kernel_rfl), hw.new (j := 2) (b := f1 2) (o := .cells ⟨ucells row290.vc⟩ 5 (0, 0)) (by kernel_rfl)⟩
theorem named301 : Named row301.name row301 := fun w => by
  refine calls_of0 (args := [.string row301.name]) Tryz.func45 rfl rfl rfl ?_
  refine To.runF 352 [2, 2, 1, 1, 1, 1, 1, 1, 1, 1, 1, 1, 1, 1, 0, 0, 0, 0, 0, 0] (fun _ _ => by kernel_rfl) fun f1 g1 l1 => ?_
  exact To.ret [0, 0, 0, 0, 0, 0] (.agg ⟨rowCells row301 (f1 2)⟩) (by kernel_rfl) (by kernel_rfl) fun w hw => ⟨_, rfl, hw.ext, f1 2, rfl, hw.blk (j := 2) (b := f1 2) (o := .cells ⟨ucells row301.vc⟩ 5 (0, 0)) (q := true) (by kernel_rfl), hw.new (j := 2) (b := f1 2) (o := .cells ⟨ucells row301.vc⟩ 5 (0, 0)) (by kernel_rfl)⟩
theorem named302 : Named row302.name row302 := fun w => by
  refine calls_of0 (args := [.string row302.name]) Tryz.func45 rfl rfl rfl ?_
  refine To.runF 346 [2, 2, 1, 1, 1, 1, 1, 1, 1, 1, 1, 1, 1, 1, 0, 0, 0, 0, 0, 0] (fun _ _ => by kernel_rfl) fun f1 g1 l1 => ?_
  exact To.ret [0, 0, 0, 0, 0, 0] (.agg ⟨rowCells row302 (f1 2)⟩) (by kernel_rfl) (by kernel_rfl) fun w hw => ⟨_, rfl, hw.ext, f1 2, rfl, hw.blk (j := 2) (b := f1 2) (o := .cells ⟨ucells row302.vc⟩ 5 (0, 0)) (q := true) (by kernel_rfl), hw.new (j := 2) (b := f1 2) (o := .cells ⟨ucells row302.vc⟩ 5 (0, 0)) (by kernel_rfl)⟩
theorem named400 : Named row400.name row400 := fun w => by
  refine calls_of0 (args := [.string row400.name]) Tryz.func45 rfl rfl rfl ?_
  refine To.runF 431 [2, 2, 1, 1, 1, 1, 1, 1, 1, 1, 1, 1, 1, 1, 0, 0, 0, 0, 0, 0] (fun _ _ => by kernel_rfl) fun f1 g1 l1 => ?_
  exact To.ret [0, 0, 0, 0, 0, 0] (.agg ⟨rowCells row400 (f1 2)⟩) (by kernel_rfl) (by kernel_rfl) fun w hw => ⟨_, rfl, hw.ext, f1 2, rfl, hw.blk (j := 2) (b := f1 2) (o := .cells ⟨ucells row400.vc⟩ 5 (0, 0)) (q := true) (by kernel_rfl), hw.new (j := 2) (b := f1 2) (o := .cells ⟨ucells row400.vc⟩ 5 (0, 0)) (by kernel_rfl)⟩
theorem named443 : Named row443.name row443 := fun w => by
  refine calls_of0 (args := [.string row443.name]) Tryz.func45 rfl rfl rfl ?_
  refine To.runF 394 [2, 2, 1, 1, 1, 1, 1, 1, 1, 1, 1, 1, 1, 1, 0, 0, 0, 0, 0, 0] (fun _ _ => by kernel_rfl) fun f1 g1 l1 => ?_
  exact To.ret [0, 0, 0, 0, 0, 0] (.agg ⟨rowCells row443 (f1 2)⟩) (by kernel_rfl) (by kernel_rfl) fun w hw => ⟨_, rfl, hw.ext, f1 2, rfl, hw.blk (j := 2) (b := f1 2) (o := .cells ⟨ucells row443.vc⟩ 5 (0, 0)) (q := true) (by kernel_rfl), hw.new (j := 2) (b := f1 2) (o := .cells ⟨ucells row443.vc⟩ 5 (0, 0)) (by kernel_rfl)⟩
theorem named448 : Named row448.name row448 := fun w => by
  refine calls_of0 (args := [.string row448.name]) Tryz.func45 rfl rfl rfl ?_
  refine To.runF 418 [2, 2, 1, 1, 1, 1, 1, 1, 1, 1, 1, 1, 1, 1, 0, 0, 0, 0, 0, 0] (fun _ _ => by kernel_rfl) fun f1 g1 l1 => ?_
  exact To.ret [0, 0, 0, 0, 0, 0] (.agg ⟨rowCells row448 (f1 2)⟩) (by kernel_rfl) (by kernel_rfl) fun w hw => ⟨_, rfl, hw.ext, f1 2, rfl, hw.blk (j := 2) (b := f1 2) (o := .cells ⟨ucells row448.vc⟩ 5 (0, 0)) (q := true) (by kernel_rfl), hw.new (j := 2) (b := f1 2) (o := .cells ⟨ucells row448.vc⟩ 5 (0, 0)) (by kernel_rfl)⟩
theorem named449 : Named row449.name row449 := fun w => by
  refine calls_of0 (args := [.string row449.name]) Tryz.func45 rfl rfl rfl ?_
  refine To.runF 449 [2, 2, 1, 1, 1, 1, 1, 1, 1, 1, 1, 1, 1, 1, 0, 0, 0, 0, 0, 0] (fun _ _ => by kernel_rfl) fun f1 g1 l1 => ?_
  exact To.ret [0, 0, 0, 0, 0, 0] (.agg ⟨rowCells row449 (f1 2)⟩) (by kernel_rfl) (by kernel_rfl) fun w hw => ⟨_, rfl, hw.ext, f1 2, rfl, hw.blk (j := 2) (b := f1 2) (o := .cells ⟨ucells row449.vc⟩ 5 (0, 0)) (q := true) (by kernel_rfl), hw.new (j := 2) (b := f1 2) (o := .cells ⟨ucells row449.vc⟩ 5 (0, 0)) (by kernel_rfl)⟩
theorem named454 : Named row454.name row454 := fun w => by
  refine calls_of0 (args := [.string row454.name]) Tryz.func45 rfl rfl rfl ?_
  refine To.runF 430 [2, 2, 1, 1, 1, 1, 1, 1, 1, 1, 1, 1, 1, 1, 0, 0, 0, 0, 0, 0] (fun _ _ => by kernel_rfl) fun f1 g1 l1 => ?_
  exact To.ret [0, 0, 0, 0, 0, 0] (.agg ⟨rowCells row454 (f1 2)⟩) (by kernel_rfl) (by kernel_rfl) fun w hw => ⟨_, rfl, hw.ext, f1 2, rfl, hw.blk (j := 2) (b := f1 2) (o := .cells ⟨ucells row454.vc⟩ 5 (0, 0)) (q := true) (by kernel_rfl), hw.new (j := 2) (b := f1 2) (o := .cells ⟨ucells row454.vc⟩ 5 (0, 0)) (by kernel_rfl)⟩
theorem named460 : Named row460.name row460 := fun w => by
  refine calls_of0 (args := [.string row460.name]) Tryz.func45 rfl rfl rfl ?_
  refine To.runF 358 [2, 2, 1, 1, 1, 1, 1, 1, 1, 1, 1, 1, 1, 1, 0, 0, 0, 0, 0, 0] (fun _ _ => by kernel_rfl) fun f1 g1 l1 => ?_
  exact To.ret [0, 0, 0, 0, 0, 0] (.agg ⟨rowCells row460 (f1 2)⟩) (by kernel_rfl) (by kernel_rfl) fun w hw => ⟨_, rfl, hw.ext, f1 2, rfl, hw.blk (j := 2) (b := f1 2) (o := .cells ⟨ucells row460.vc⟩ 5 (0, 0)) (q := true) (by kernel_rfl), hw.new (j := 2) (b := f1 2) (o := .cells ⟨ucells row460.vc⟩ 5 (0, 0)) (by kernel_rfl)⟩
theorem named461 : Named row461.name row461 := fun w => by
  refine calls_of0 (args := [.string row461.name]) Tryz.func45 rfl rfl rfl ?_
  refine To.runF 364 [2, 2, 1, 1, 1, 1, 1, 1, 1, 1, 1, 1, 1, 1, 0, 0, 0, 0, 0, 0] (fun _ _ => by kernel_rfl) fun f1 g1 l1 => ?_
  exact To.ret [0, 0, 0, 0, 0, 0] (.agg ⟨rowCells row461 (f1 2)⟩) (by kernel_rfl) (by kernel_rfl) fun w hw => ⟨_, rfl, hw.ext, f1 2, rfl, hw.blk (j := 2) (b := f1 2) (o := .cells ⟨ucells row461.vc⟩ 5 (0, 0)) (q := true) (by kernel_rfl), hw.new (j := 2) (b := f1 2) (o := .cells ⟨ucells row461.vc⟩ 5 (0, 0)) (by kernel_rfl)⟩
theorem named465 : Named row465.name row465 := fun w => by
  refine calls_of0 (args := [.string row465.name]) Tryz.func45 rfl rfl rfl ?_
  refine To.runF 370 [2, 2, 1, 1, 1, 1, 1, 1, 1, 1, 1, 1, 1, 1, 0, 0, 0, 0, 0, 0] (fun _ _ => by kernel_rfl) fun f1 g1 l1 => ?_
  exact To.ret [0, 0, 0, 0, 0, 0] (.agg ⟨rowCells row465 (f1 2)⟩) (by kernel_rfl) (by kernel_rfl) fun w hw => ⟨_, rfl, hw.ext, f1 2, rfl, hw.blk (j := 2) (b := f1 2) (o := .cells ⟨ucells row465.vc⟩ 5 (0, 0)) (q := true) (by kernel_rfl), hw.new (j := 2) (b := f1 2) (o := .cells ⟨ucells row465.vc⟩ 5 (0, 0)) (by kernel_rfl)⟩
theorem named477 : Named row477.name row477 := fun w => by
  refine calls_of0 (args := [.string row477.name]) Tryz.func45 rfl rfl rfl ?_
  refine To.runF 436 [2, 2, 1, 1, 1, 1, 1, 1, 1, 1, 1, 1, 1, 1, 0, 0, 0, 0, 0, 0] (fun _ _ => by kernel_rfl) fun f1 g1 l1 => ?_
  exact To.ret [0, 0, 0, 0, 0, 0] (.agg ⟨rowCells row477 (f1 2)⟩) (by kernel_rfl) (by kernel_rfl) fun w hw => ⟨_, rfl, hw.ext, f1 2, rfl, hw.blk (j := 2) (b := f1 2) (o := .cells ⟨ucells row477.vc⟩ 5 (0, 0)) (q := true) (by kernel_rfl), hw.new (j := 2) (b := f1 2) (o := .cells ⟨ucells row477.vc⟩ 5 (0, 0)) (by kernel_rfl)⟩
theorem named478 : Named row478.name row478 := fun w => by
  refine calls_of0 (args := [.string row478.name]) Tryz.func45 rfl rfl rfl ?_
  refine To.runF 442 [2, 2, 1, 1, 1, 1, 1, 1, 1, 1, 1, 1, 1, 1, 0, 0, 0, 0, 0, 0] (fun _ _ => by kernel_rfl) fun f1 g1 l1 => ?_
  exact To.ret [0, 0, 0, 0, 0, 0] (.agg ⟨rowCells row478 (f1 2)⟩) (by kernel_rfl) (by kernel_rfl) fun w hw => ⟨_, rfl, hw.ext, f1 2, rfl, hw.blk (j := 2) (b := f1 2) (o := .cells ⟨ucells row478.vc⟩ 5 (0, 0)) (q := true) (by kernel_rfl), hw.new (j := 2) (b := f1 2) (o := .cells ⟨ucells row478.vc⟩ 5 (0, 0)) (by kernel_rfl)⟩
theorem named480 : Named row480.name row480 := fun w => by
  refine calls_of0 (args := [.string row480.name]) Tryz.func45 rfl rfl rfl ?_
  refine To.runF 382 [2, 2, 1, 1, 1, 1, 1, 1, 1, 1, 1, 1, 1, 1, 0, 0, 0, 0, 0, 0] (fun _ _ => by kernel_rfl) fun f1 g1 l1 => ?_
  exact To.ret [0, 0, 0, 0, 0, 0] (.agg ⟨rowCells row480 (f1 2)⟩) (by kernel_rfl) (by kernel_rfl) fun w hw => ⟨_, rfl, hw.ext, f1 2, rfl, hw.blk (j := 2) (b := f1 2) (o := .cells ⟨ucells row480.vc⟩ 5 (0, 0)) (q := true) (by kernel_rfl), hw.new (j := 2) (b := f1 2) (o := .cells ⟨ucells row480.vc⟩ 5 (0, 0)) (by kernel_rfl)⟩
theorem named777 : Named row777.name row777 := fun w => by
  refine calls_of0 (args := [.string row777.name]) Tryz.func45 rfl rfl rfl ?_
  refine To.runF 491 [2, 2, 1, 1, 1, 1, 1, 1, 1, 1, 1, 1, 1, 1, 0, 0, 0, 0, 0, 0] (fun _ _ => by kernel_rfl) fun f1 g1 l1 => ?_
  exact To.ret [0, 0, 0, 0, 0, 0] (.agg ⟨rowCells row777 (f1 2)⟩) (by kernel_rfl) (by kernel_rfl) fun w hw => ⟨_, rfl, hw.ext, f1 2, rfl, hw.blk (j := 2) (b := f1 2) (o := .cells ⟨ucells row777.vc⟩ 5 (0, 0)) (q := true) (by kernel_rfl), hw.new (j := 2) (b := f1 2) (o := .cells ⟨ucells row777.vc⟩ 5 (0, 0)) (by kernel_rfl)⟩
theorem named7367777 : Named row7367777.name row7367777 := fun w => by
  refine calls_of0 (args := [.string row7367777.name]) Tryz.func45 rfl rfl rfl ?_
  refine To.runF 512 [2, 2, 2, 2, 1, 1, 1, 1, 1, 1, 1, 1, 1, 1, 1, 1, 0, 0, 0, 0, 0, 0] (fun _ _ => by kernel_rfl) fun f1 g1 l1 => ?_
  exact To.ret [0, 0, 0, 0, 0, 0] (.agg ⟨rowCells row7367777 (f1 2)⟩) (by kernel_rfl) (by kernel_rfl) fun w hw => ⟨_, rfl, hw.ext, f1 2, rfl, hw.blk (j := 2) (b := f1 2) (o := .cells ⟨ucells row7367777.vc⟩ 5 (0, 0)) (q := true) (by kernel_rfl), hw.new (j := 2) (b := f1 2) (o := .cells ⟨ucells row7367777.vc⟩ 5 (0, 0)) (by kernel_rfl)⟩
end Go.Proofs.YtgodhbgnhapemaaGreatDoor
