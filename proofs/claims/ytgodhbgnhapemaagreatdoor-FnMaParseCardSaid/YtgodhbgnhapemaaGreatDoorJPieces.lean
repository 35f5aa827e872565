/- The reference's table of protocols, and the pieces of a text between slashes. Conditions: as each says. -/
import Derived.Test.YtgodhbgnhapemaaGreatDoorJSimple
import Derived.Lib.Join
import Derived.Test.YtgodhbgnhapemaaGreatDoorJSix
import Derived.Lib.ParseIntBMem
import Derived.Lib.Endian
set_option linter.unusedVariables false
set_option linter.unusedSimpArgs false
/- The reference's row of a protocol: its name, code, size. Conditions: the code is in the table. -/
namespace Go.Proofs.YtgodhbgnhapemaaGreatDoor
open Go Go.SX
set_option maxHeartbeats 8000000
set_option maxRecDepth 100000
/-- The names of the table. -/
def specNames : List (Int × List UInt8) := [(4, [105, 112, 52]), (6, [116, 99, 112]), (33, [100, 99, 99, 112]), (41, [105, 112, 54]), (42, [105, 112, 54, 122, 111, 110, 101]), (43, [105, 112, 99, 105, 100, 114]), (53, [100, 110, 115]), (54, [100, 110, 115, 52]), (55, [100, 110, 115, 54]), (56, [100, 110, 115, 97, 100, 100, 114]), (132, [115, 99, 116, 112]), (273, [117, 100, 112]), (276, [112, 50, 112, 45, 119, 101, 98, 114, 116, 99, 45, 100, 105, 114, 101, 99, 116]), (280, [119, 101, 98, 114, 116, 99, 45, 100, 105, 114, 101, 99, 116]), (281, [119, 101, 98, 114, 116, 99]), (290, [112, 50, 112, 45, 99, 105, 114, 99, 117, 105, 116]), (301, [117, 100, 116]), (302, [117, 116, 112]), (400, [117, 110, 105, 120]), (421, [112, 50, 112]), (443, [104, 116, 116, 112, 115]), (444, [111, 110, 105, 111, 110]), (445, [111, 110, 105, 111, 110, 51]), (446, [103, 97, 114, 108, 105, 99, 54, 52]), (447, [103, 97, 114, 108, 105, 99, 51, 50]), (448, [116, 108, 115]), (449, [115, 110, 105]), (454, [110, 111, 105, 115, 101]), (460, [113, 117, 105, 99]), (461, [113, 117, 105, 99, 45, 118, 49]), (465, [119, 101, 98, 116, 114, 97, 110, 115, 112, 111, 114, 116]), (466, [99, 101, 114, 116, 104, 97, 115, 104]), (477, [119, 115]), (478, [119, 115, 115]), (480, [104, 116, 116, 112]), (481, [104, 116, 116, 112, 45, 112, 97, 116, 104]), (777, [109, 101, 109, 111, 114, 121]), (7367777, [112, 108, 97, 105, 110, 116, 101, 120, 116, 118, 50])]
def nameOf (c : Int) : List UInt8 := ((specNames.find? (fun p => p.1 == c)).map (·.2)).getD []
def protoV (c sz : Int) : Value := .agg #[.string ⟨⟨nameOf c⟩⟩, .int .i64 c, .int .i64 sz, .bool (c == 400), .slice none 0 0]
abbrev MpPost (c sz : Int) (w : World) (e : Ending) (w1 : World) : Prop := ∃ v, e = .returned v ∧ Ext [] w w1 ∧ v = .tuple #[protoV c sz, .bool true]
theorem mp4 (w : World) : Calls Tryz.prog 16 #[.int .i64 4] w (MpPost 4 32 w) := by
  refine calls_of0 (args := [.int .i64 4]) Tryz.func16 rfl rfl rfl ?_
  refine To.runF 38 [0, 0, 0, 0, 0] (fun _ _ => by kernel_rfl) fun f1 g1 l1 => ?_
  exact To.ret [0, 0, 0, 0, 0] (.tuple #[.agg #[.string ⟨⟨[105, 112, 52]⟩⟩, .int .i64 4, .int .i64 32, .bool false, .slice none 0 0], .bool true]) (by kernel_rfl) (by kernel_rfl) fun w4 hw4 => ⟨_, rfl, hw4.ext, rfl⟩
theorem mp6 (w : World) : Calls Tryz.prog 16 #[.int .i64 6] w (MpPost 6 16 w) := by
  refine calls_of0 (args := [.int .i64 6]) Tryz.func16 rfl rfl rfl ?_
  refine To.runF 44 [0, 0, 0, 0, 0] (fun _ _ => by kernel_rfl) fun f1 g1 l1 => ?_
  exact To.ret [0, 0, 0, 0, 0] (.tuple #[.agg #[.string ⟨⟨[116, 99, 112]⟩⟩, .int .i64 6, .int .i64 16, .bool false, .slice none 0 0], .bool true]) (by kernel_rfl) (by kernel_rfl) fun w4 hw4 => ⟨_, rfl, hw4.ext, rfl⟩
theorem mp33 (w : World) : Calls Tryz.prog 16 #[.int .i64 33] w (MpPost 33 16 w) := by
  refine calls_of0 (args := [.int .i64 33]) Tryz.func16 rfl rfl rfl ?_
  refine To.runF 50 [0, 0, 0, 0, 0] (fun _ _ => by kernel_rfl) fun f1 g1 l1 => ?_
  exact To.ret [0, 0, 0, 0, 0] (.tuple #[.agg #[.string ⟨⟨[100, 99, 99, 112]⟩⟩, .int .i64 33, .int .i64 16, .bool false, .slice none 0 0], .bool true]) (by kernel_rfl) (by kernel_rfl) fun w4 hw4 => ⟨_, rfl, hw4.ext, rfl⟩
theorem mp41 (w : World) : Calls Tryz.prog 16 #[.int .i64 41] w (MpPost 41 128 w) := by
  refine calls_of0 (args := [.int .i64 41]) Tryz.func16 rfl rfl rfl ?_
  refine To.runF 56 [0, 0, 0, 0, 0] (fun _ _ => by kernel_rfl) fun f1 g1 l1 => ?_
  exact To.ret [0, 0, 0, 0, 0] (.tuple #[.agg #[.string ⟨⟨[105, 112, 54]⟩⟩, .int .i64 41, .int .i64 128, .bool false, .slice none 0 0], .bool true]) (by kernel_rfl) (by kernel_rfl) fun w4 hw4 => ⟨_, rfl, hw4.ext, rfl⟩
theorem mp42 (w : World) : Calls Tryz.prog 16 #[.int .i64 42] w (MpPost 42 (-1) w) := by
  refine calls_of0 (args := [.int .i64 42]) Tryz.func16 rfl rfl rfl ?_
  refine To.runF 62 [0, 0, 0, 0, 0] (fun _ _ => by kernel_rfl) fun f1 g1 l1 => ?_
  exact To.ret [0, 0, 0, 0, 0] (.tuple #[.agg #[.string ⟨⟨[105, 112, 54, 122, 111, 110, 101]⟩⟩, .int .i64 42, .int .i64 (-1), .bool false, .slice none 0 0], .bool true]) (by kernel_rfl) (by kernel_rfl) fun w4 hw4 => ⟨_, rfl, hw4.ext, rfl⟩
theorem mp43 (w : World) : Calls Tryz.prog 16 #[.int .i64 43] w (MpPost 43 8 w) := by
  refine calls_of0 (args := [.int .i64 43]) Tryz.func16 rfl rfl rfl ?_
  refine To.runF 68 [0, 0, 0, 0, 0] (fun _ _ => by kernel_rfl) fun f1 g1 l1 => ?_
  exact To.ret [0, 0, 0, 0, 0] (.tuple #[.agg #[.string ⟨⟨[105, 112, 99, 105, 100, 114]⟩⟩, .int .i64 43, .int .i64 8, .bool false, .slice none 0 0], .bool true]) (by kernel_rfl) (by kernel_rfl) fun w4 hw4 => ⟨_, rfl, hw4.ext, rfl⟩
theorem mp53 (w : World) : Calls Tryz.prog 16 #[.int .i64 53] w (MpPost 53 (-1) w) := by
  refine calls_of0 (args := [.int .i64 53]) Tryz.func16 rfl rfl rfl ?_
  refine To.runF 74 [0, 0, 0, 0, 0] (fun _ _ => by kernel_rfl) fun f1 g1 l1 => ?_
  exact To.ret [0, 0, 0, 0, 0] (.tuple #[.agg #[.string ⟨⟨[100, 110, 115]⟩⟩, .int .i64 53, .int .i64 (-1), .bool false, .slice none 0 0], .bool true]) (by kernel_rfl) (by kernel_rfl) fun w4 hw4 => ⟨_, rfl, hw4.ext, rfl⟩
theorem mp54 (w : World) : Calls Tryz.prog 16 #[.int .i64 54] w (MpPost 54 (-1) w) := by
  refine calls_of0 (args := [.int .i64 54]) Tryz.func16 rfl rfl rfl ?_
  refine To.runF 80 [0, 0, 0, 0, 0] (fun _ _ => by kernel_rfl) fun f1 g1 l1 => ?_
  exact To.ret [0, 0, 0, 0, 0] (.tuple #[.agg #[.string ⟨⟨[100, 110, 115, 52]⟩⟩, .int .i64 54, .int .i64 (-1), .bool false, .slice none 0 0], .bool true]) (by kernel_rfl) (by kernel_rfl) fun w4 hw4 => ⟨_, rfl, hw4.ext, rfl⟩
theorem mp55 (w : World) : Calls Tryz.prog 16 #[.int .i64 55] w (MpPost 55 (-1) w) := by
  refine calls_of0 (args := [.int .i64 55]) Tryz.func16 rfl rfl rfl ?_
  refine To.runF 86 [0, 0, 0, 0, 0] (fun _ _ => by kernel_rfl) fun f1 g1 l1 => ?_
  exact To.ret [0, 0, 0, 0, 0] (.tuple #[.agg #[.string ⟨⟨[100, 110, 115, 54]⟩⟩, .int .i64 55, .int .i64 (-1), .bool false, .slice none 0 0], .bool true]) (by kernel_rfl) (by kernel_rfl) fun w4 hw4 => ⟨_, rfl, hw4.ext, rfl⟩
theorem mp56 (w : World) : Calls Tryz.prog 16 #[.int .i64 56] w (MpPost 56 (-1) w) := by
  refine calls_of0 (args := [.int .i64 56]) Tryz.func16 rfl rfl rfl ?_
  refine To.runF 92 [0, 0, 0, 0, 0] (fun _ _ => by kernel_rfl) fun f1 g1 l1 => ?_
  exact To.ret [0, 0, 0, 0, 0] (.tuple #[.agg #[.string ⟨⟨[100, 110, 115, 97, 100, 100, 114]⟩⟩, .int .i64 56, .int .i64 (-1), .bool false, .slice none 0 0], .bool true]) (by kernel_rfl) (by kernel_rfl) fun w4 hw4 => ⟨_, rfl, hw4.ext, rfl⟩
theorem mp132 (w : World) : Calls Tryz.prog 16 #[.int .i64 132] w (MpPost 132 16 w) := by
  refine calls_of0 (args := [.int .i64 132]) Tryz.func16 rfl rfl rfl ?_
  refine To.runF 98 [0, 0, 0, 0, 0] (fun _ _ => by kernel_rfl) fun f1 g1 l1 => ?_
  exact To.ret [0, 0, 0, 0, 0] (.tuple #[.agg #[.string ⟨⟨[115, 99, 116, 112]⟩⟩, .int .i64 132, .int .i64 16, .bool false, .slice none 0 0], .bool true]) (by kernel_rfl) (by kernel_rfl) fun w4 hw4 => ⟨_, rfl, hw4.ext, rfl⟩
theorem mp273 (w : World) : Calls Tryz.prog 16 #[.int .i64 273] w (MpPost 273 16 w) := by
  refine calls_of0 (args := [.int .i64 273]) Tryz.func16 rfl rfl rfl ?_
  refine To.runF 104 [0, 0, 0, 0, 0] (fun _ _ => by kernel_rfl) fun f1 g1 l1 => ?_
  exact To.ret [0, 0, 0, 0, 0] (.tuple #[.agg #[.string ⟨⟨[117, 100, 112]⟩⟩, .int .i64 273, .int .i64 16, .bool false, .slice none 0 0], .bool true]) (by kernel_rfl) (by kernel_rfl) fun w4 hw4 => ⟨_, rfl, hw4.ext, rfl⟩
theorem mp276 (w : World) : Calls Tryz.prog 16 #[.int .i64 276] w (MpPost 276 0 w) := by
  refine calls_of0 (args := [.int .i64 276]) Tryz.func16 rfl rfl rfl ?_
  refine To.runF 109 [0, 0, 0, 0, 0] (fun _ _ => by kernel_rfl) fun f1 g1 l1 => ?_
  exact To.ret [0, 0, 0, 0, 0] (.tuple #[.agg #[.string ⟨⟨[112, 50, 112, 45, 119, 101, 98, 114, 116, 99, 45, 100, 105, 114, 101, 99, 116]⟩⟩, .int .i64 276, .int .i64 0, .bool false, .slice none 0 0], .bool true]) (by kernel_rfl) (by kernel_rfl) fun w4 hw4 => ⟨_, rfl, hw4.ext, rfl⟩
theorem mp280 (w : World) : Calls Tryz.prog 16 #[.int .i64 280] w (MpPost 280 0 w) := by
  refine calls_of0 (args := [.int .i64 280]) Tryz.func16 rfl rfl rfl ?_
  refine To.runF 115 [0, 0, 0, 0, 0] (fun _ _ => by kernel_rfl) fun f1 g1 l1 => ?_
  exact To.ret [0, 0, 0, 0, 0] (.tuple #[.agg #[.string ⟨⟨[119, 101, 98, 114, 116, 99, 45, 100, 105, 114, 101, 99, 116]⟩⟩, .int .i64 280, .int .i64 0, .bool false, .slice none 0 0], .bool true]) (by kernel_rfl) (by kernel_rfl) fun w4 hw4 => ⟨_, rfl, hw4.ext, rfl⟩
theorem mp281 (w : World) : Calls Tryz.prog 16 #[.int .i64 281] w (MpPost 281 0 w) := by
  refine calls_of0 (args := [.int .i64 281]) Tryz.func16 rfl rfl rfl ?_
  refine To.runF 121 [0, 0, 0, 0, 0] (fun _ _ => by kernel_rfl) fun f1 g1 l1 => ?_
  exact To.ret [0, 0, 0, 0, 0] (.tuple #[.agg #[.string ⟨⟨[119, 101, 98, 114, 116, 99]⟩⟩, .int .i64 281, .int .i64 0, .bool false, .slice none 0 0], .bool true]) (by kernel_rfl) (by kernel_rfl) fun w4 hw4 => ⟨_, rfl, hw4.ext, rfl⟩
theorem mp290 (w : World) : Calls Tryz.prog 16 #[.int .i64 290] w (MpPost 290 0 w) := by
  refine calls_of0 (args := [.int .i64 290]) Tryz.func16 rfl rfl rfl ?_
  refine To.runF 127 [0, 0, 0, 0, 0] (fun _ _ => by kernel_rfl) fun f1 g1 l1 => ?_
  exact To.ret [0, 0, 0, 0, 0] (.tuple #[.agg #[.string ⟨⟨[112, 50, 112, 45, 99, 105, 114, 99, 117, 105, 116]⟩⟩, .int .i64 290, .int .i64 0, .bool false, .slice none 0 0], .bool true]) (by kernel_rfl) (by kernel_rfl) fun w4 hw4 => ⟨_, rfl, hw4.ext, rfl⟩
theorem mp301 (w : World) : Calls Tryz.prog 16 #[.int .i64 301] w (MpPost 301 0 w) := by
  refine calls_of0 (args := [.int .i64 301]) Tryz.func16 rfl rfl rfl ?_
  refine To.runF 133 [0, 0, 0, 0, 0] (fun _ _ => by kernel_rfl) fun f1 g1 l1 => ?_
  exact To.ret [0, 0, 0, 0, 0] (.tuple #[.agg #[.string ⟨⟨[117, 100, 116]⟩⟩, .int .i64 301, .int .i64 0, .bool false, .slice none 0 0], .bool true]) (by kernel_rfl) (by kernel_rfl) fun w4 hw4 => ⟨_, rfl, hw4.ext, rfl⟩
theorem mp302 (w : World) : Calls Tryz.prog 16 #[.int .i64 302] w (MpPost 302 0 w) := by
  refine calls_of0 (args := [.int .i64 302]) Tryz.func16 rfl rfl rfl ?_
  refine To.runF 139 [0, 0, 0, 0, 0] (fun _ _ => by kernel_rfl) fun f1 g1 l1 => ?_
  exact To.ret [0, 0, 0, 0, 0] (.tuple #[.agg #[.string ⟨⟨[117, 116, 112]⟩⟩, .int .i64 302, .int .i64 0, .bool false, .slice none 0 0], .bool true]) (by kernel_rfl) (by kernel_rfl) fun w4 hw4 => ⟨_, rfl, hw4.ext, rfl⟩
theorem mp400 (w : World) : Calls Tryz.prog 16 #[.int .i64 400] w (MpPost 400 (-1) w) := by
  refine calls_of0 (args := [.int .i64 400]) Tryz.func16 rfl rfl rfl ?_
  refine To.runF 146 [0, 0, 0, 0, 0] (fun _ _ => by kernel_rfl) fun f1 g1 l1 => ?_
  exact To.ret [0, 0, 0, 0, 0] (.tuple #[.agg #[.string ⟨⟨[117, 110, 105, 120]⟩⟩, .int .i64 400, .int .i64 (-1), .bool true, .slice none 0 0], .bool true]) (by kernel_rfl) (by kernel_rfl) fun w4 hw4 => ⟨_, rfl, hw4.ext, rfl⟩
theorem mp421 (w : World) : Calls Tryz.prog 16 #[.int .i64 421] w (MpPost 421 (-1) w) := by
  refine calls_of0 (args := [.int .i64 421]) Tryz.func16 rfl rfl rfl ?_
  refine To.runF 152 [0, 0, 0, 0, 0] (fun _ _ => by kernel_rfl) fun f1 g1 l1 => ?_
  exact To.ret [0, 0, 0, 0, 0] (.tuple #[.agg #[.string ⟨⟨[112, 50, 112]⟩⟩, .int .i64 421, .int .i64 (-1), .bool false, .slice none 0 0], .bool true]) (by kernel_rfl) (by kernel_rfl) fun w4 hw4 => ⟨_, rfl, hw4.ext, rfl⟩
theorem mp443 (w : World) : Calls Tryz.prog 16 #[.int .i64 443] w (MpPost 443 0 w) := by
  refine calls_of0 (args := [.int .i64 443]) Tryz.func16 rfl rfl rfl ?_
  refine To.runF 157 [0, 0, 0, 0, 0] (fun _ _ => by kernel_rfl) fun f1 g1 l1 => ?_
  exact To.ret [0, 0, 0, 0, 0] (.tuple #[.agg #[.string ⟨⟨[104, 116, 116, 112, 115]⟩⟩, .int .i64 443, .int .i64 0, .bool false, .slice none 0 0], .bool true]) (by kernel_rfl) (by kernel_rfl) fun w4 hw4 => ⟨_, rfl, hw4.ext, rfl⟩
theorem mp444 (w : World) : Calls Tryz.prog 16 #[.int .i64 444] w (MpPost 444 96 w) := by
  refine calls_of0 (args := [.int .i64 444]) Tryz.func16 rfl rfl rfl ?_
  refine To.runF 164 [0, 0, 0, 0, 0] (fun _ _ => by kernel_rfl) fun f1 g1 l1 => ?_
  exact To.ret [0, 0, 0, 0, 0] (.tuple #[.agg #[.string ⟨⟨[111, 110, 105, 111, 110]⟩⟩, .int .i64 444, .int .i64 96, .bool false, .slice none 0 0], .bool true]) (by kernel_rfl) (by kernel_rfl) fun w4 hw4 => ⟨_, rfl, hw4.ext, rfl⟩
theorem mp445 (w : World) : Calls Tryz.prog 16 #[.int .i64 445] w (MpPost 445 296 w) := by
  refine calls_of0 (args := [.int .i64 445]) Tryz.func16 rfl rfl rfl ?_
  refine To.runF 170 [0, 0, 0, 0, 0] (fun _ _ => by kernel_rfl) fun f1 g1 l1 => ?_
  exact To.ret [0, 0, 0, 0, 0] (.tuple #[.agg #[.string ⟨⟨[111, 110, 105, 111, 110, 51]⟩⟩, .int .i64 445, .int .i64 296, .bool false, .slice none 0 0], .bool true]) (by kernel_rfl) (by kernel_rfl) fun w4 hw4 => ⟨_, rfl, hw4.ext, rfl⟩
theorem mp446 (w : World) : Calls Tryz.prog 16 #[.int .i64 446] w (MpPost 446 (-1) w) := by
  refine calls_of0 (args := [.int .i64 446]) Tryz.func16 rfl rfl rfl ?_
  refine To.runF 176 [0, 0, 0, 0, 0] (fun _ _ => by kernel_rfl) fun f1 g1 l1 => ?_
  exact To.ret [0, 0, 0, 0, 0] (.tuple #[.agg #[.string ⟨⟨[103, 97, 114, 108, 105, 99, 54, 52]⟩⟩, .int .i64 446, .int .i64 (-1), .bool false, .slice none 0 0], .bool true]) (by kernel_rfl) (by kernel_rfl) fun w4 hw4 => ⟨_, rfl, hw4.ext, rfl⟩
theorem mp447 (w : World) : Calls Tryz.prog 16 #[.int .i64 447] w (MpPost 447 (-1) w) := by
  refine calls_of0 (args := [.int .i64 447]) Tryz.func16 rfl rfl rfl ?_
  refine To.runF 182 [0, 0, 0, 0, 0] (fun _ _ => by kernel_rfl) fun f1 g1 l1 => ?_
  exact To.ret [0, 0, 0, 0, 0] (.tuple #[.agg #[.string ⟨⟨[103, 97, 114, 108, 105, 99, 51, 50]⟩⟩, .int .i64 447, .int .i64 (-1), .bool false, .slice none 0 0], .bool true]) (by kernel_rfl) (by kernel_rfl) fun w4 hw4 => ⟨_, rfl, hw4.ext, rfl⟩
theorem mp448 (w : World) : Calls Tryz.prog 16 #[.int .i64 448] w (MpPost 448 0 w) := by
  refine calls_of0 (args := [.int .i64 448]) Tryz.func16 rfl rfl rfl ?_
  refine To.runF 187 [0, 0, 0, 0, 0] (fun _ _ => by kernel_rfl) fun f1 g1 l1 => ?_
  exact To.ret [0, 0, 0, 0, 0] (.tuple #[.agg #[.string ⟨⟨[116, 108, 115]⟩⟩, .int .i64 448, .int .i64 0, .bool false, .slice none 0 0], .bool true]) (by kernel_rfl) (by kernel_rfl) fun w4 hw4 => ⟨_, rfl, hw4.ext, rfl⟩
theorem mp449 (w : World) : Calls Tryz.prog 16 #[.int .i64 449] w (MpPost 449 (-1) w) := by
  refine calls_of0 (args := [.int .i64 449]) Tryz.func16 rfl rfl rfl ?_
  refine To.runF 194 [0, 0, 0, 0, 0] (fun _ _ => by kernel_rfl) fun f1 g1 l1 => ?_
  exact To.ret [0, 0, 0, 0, 0] (.tuple #[.agg #[.string ⟨⟨[115, 110, 105]⟩⟩, .int .i64 449, .int .i64 (-1), .bool false, .slice none 0 0], .bool true]) (by kernel_rfl) (by kernel_rfl) fun w4 hw4 => ⟨_, rfl, hw4.ext, rfl⟩
theorem mp454 (w : World) : Calls Tryz.prog 16 #[.int .i64 454] w (MpPost 454 0 w) := by
  refine calls_of0 (args := [.int .i64 454]) Tryz.func16 rfl rfl rfl ?_
  refine To.runF 199 [0, 0, 0, 0, 0] (fun _ _ => by kernel_rfl) fun f1 g1 l1 => ?_
  exact To.ret [0, 0, 0, 0, 0] (.tuple #[.agg #[.string ⟨⟨[110, 111, 105, 115, 101]⟩⟩, .int .i64 454, .int .i64 0, .bool false, .slice none 0 0], .bool true]) (by kernel_rfl) (by kernel_rfl) fun w4 hw4 => ⟨_, rfl, hw4.ext, rfl⟩
theorem mp460 (w : World) : Calls Tryz.prog 16 #[.int .i64 460] w (MpPost 460 0 w) := by
  refine calls_of0 (args := [.int .i64 460]) Tryz.func16 rfl rfl rfl ?_
  refine To.runF 205 [0, 0, 0, 0, 0] (fun _ _ => by kernel_rfl) fun f1 g1 l1 => ?_
  exact To.ret [0, 0, 0, 0, 0] (.tuple #[.agg #[.string ⟨⟨[113, 117, 105, 99]⟩⟩, .int .i64 460, .int .i64 0, .bool false, .slice none 0 0], .bool true]) (by kernel_rfl) (by kernel_rfl) fun w4 hw4 => ⟨_, rfl, hw4.ext, rfl⟩
theorem mp461 (w : World) : Calls Tryz.prog 16 #[.int .i64 461] w (MpPost 461 0 w) := by
  refine calls_of0 (args := [.int .i64 461]) Tryz.func16 rfl rfl rfl ?_
  refine To.runF 211 [0, 0, 0, 0, 0] (fun _ _ => by kernel_rfl) fun f1 g1 l1 => ?_
  exact To.ret [0, 0, 0, 0, 0] (.tuple #[.agg #[.string ⟨⟨[113, 117, 105, 99, 45, 118, 49]⟩⟩, .int .i64 461, .int .i64 0, .bool false, .slice none 0 0], .bool true]) (by kernel_rfl) (by kernel_rfl) fun w4 hw4 => ⟨_, rfl, hw4.ext, rfl⟩
theorem mp465 (w : World) : Calls Tryz.prog 16 #[.int .i64 465] w (MpPost 465 0 w) := by
  refine calls_of0 (args := [.int .i64 465]) Tryz.func16 rfl rfl rfl ?_
  refine To.runF 217 [0, 0, 0, 0, 0] (fun _ _ => by kernel_rfl) fun f1 g1 l1 => ?_
  exact To.ret [0, 0, 0, 0, 0] (.tuple #[.agg #[.string ⟨⟨[119, 101, 98, 116, 114, 97, 110, 115, 112, 111, 114, 116]⟩⟩, .int .i64 465, .int .i64 0, .bool false, .slice none 0 0], .bool true]) (by kernel_rfl) (by kernel_rfl) fun w4 hw4 => ⟨_, rfl, hw4.ext, rfl⟩
theorem mp466 (w : World) : Calls Tryz.prog 16 #[.int .i64 466] w (MpPost 466 (-1) w) := by
  refine calls_of0 (args := [.int .i64 466]) Tryz.func16 rfl rfl rfl ?_
  refine To.runF 224 [0, 0, 0, 0, 0] (fun _ _ => by kernel_rfl) fun f1 g1 l1 => ?_
  exact To.ret [0, 0, 0, 0, 0] (.tuple #[.agg #[.string ⟨⟨[99, 101, 114, 116, 104, 97, 115, 104]⟩⟩, .int .i64 466, .int .i64 (-1), .bool false, .slice none 0 0], .bool true]) (by kernel_rfl) (by kernel_rfl) fun w4 hw4 => ⟨_, rfl, hw4.ext, rfl⟩
theorem mp477 (w : World) : Calls Tryz.prog 16 #[.int .i64 477] w (MpPost 477 0 w) := by
  refine calls_of0 (args := [.int .i64 477]) Tryz.func16 rfl rfl rfl ?_
  refine To.runF 229 [0, 0, 0, 0, 0] (fun _ _ => by kernel_rfl) fun f1 g1 l1 => ?_
  exact To.ret [0, 0, 0, 0, 0] (.tuple #[.agg #[.string ⟨⟨[119, 115]⟩⟩, .int .i64 477, .int .i64 0, .bool false, .slice none 0 0], .bool true]) (by kernel_rfl) (by kernel_rfl) fun w4 hw4 => ⟨_, rfl, hw4.ext, rfl⟩
theorem mp478 (w : World) : Calls Tryz.prog 16 #[.int .i64 478] w (MpPost 478 0 w) := by
  refine calls_of0 (args := [.int .i64 478]) Tryz.func16 rfl rfl rfl ?_
  refine To.runF 235 [0, 0, 0, 0, 0] (fun _ _ => by kernel_rfl) fun f1 g1 l1 => ?_
  exact To.ret [0, 0, 0, 0, 0] (.tuple #[.agg #[.string ⟨⟨[119, 115, 115]⟩⟩, .int .i64 478, .int .i64 0, .bool false, .slice none 0 0], .bool true]) (by kernel_rfl) (by kernel_rfl) fun w4 hw4 => ⟨_, rfl, hw4.ext, rfl⟩
theorem mp480 (w : World) : Calls Tryz.prog 16 #[.int .i64 480] w (MpPost 480 0 w) := by
  refine calls_of0 (args := [.int .i64 480]) Tryz.func16 rfl rfl rfl ?_
  refine To.runF 241 [0, 0, 0, 0, 0] (fun _ _ => by kernel_rfl) fun f1 g1 l1 => ?_
  exact To.ret [0, 0, 0, 0, 0] (.tuple #[.agg #[.string ⟨⟨[104, 116, 116, 112]⟩⟩, .int .i64 480, .int .i64 0, .bool false, .slice none 0 0], .bool true]) (by kernel_rfl) (by kernel_rfl) fun w4 hw4 => ⟨_, rfl, hw4.ext, rfl⟩
theorem mp481 (w : World) : Calls Tryz.prog 16 #[.int .i64 481] w (MpPost 481 (-1) w) := by
  refine calls_of0 (args := [.int .i64 481]) Tryz.func16 rfl rfl rfl ?_
  refine To.runF 248 [0, 0, 0, 0, 0] (fun _ _ => by kernel_rfl) fun f1 g1 l1 => ?_
  exact To.ret [0, 0, 0, 0, 0] (.tuple #[.agg #[.string ⟨⟨[104, 116, 116, 112, 45, 112, 97, 116, 104]⟩⟩, .int .i64 481, .int .i64 (-1), .bool false, .slice none 0 0], .bool true]) (by kernel_rfl) (by kernel_rfl) fun w4 hw4 => ⟨_, rfl, hw4.ext, rfl⟩
theorem mp777 (w : World) : Calls Tryz.prog 16 #[.int .i64 777] w (MpPost 777 64 w) := by
  refine calls_of0 (args := [.int .i64 777]) Tryz.func16 rfl rfl rfl ?_
  refine To.runF 254 [0, 0, 0, 0, 0] (fun _ _ => by kernel_rfl) fun f1 g1 l1 => ?_
  exact To.ret [0, 0, 0, 0, 0] (.tuple #[.agg #[.string ⟨⟨[109, 101, 109, 111, 114, 121]⟩⟩, .int .i64 777, .int .i64 64, .bool false, .slice none 0 0], .bool true]) (by kernel_rfl) (by kernel_rfl) fun w4 hw4 => ⟨_, rfl, hw4.ext, rfl⟩
theorem mp7367777 (w : World) : Calls Tryz.prog 16 #[.int .i64 7367777] w (MpPost 7367777 0 w) := by
  refine calls_of0 (args := [.int .i64 7367777]) Tryz.func16 rfl rfl rfl ?_
  refine To.runF 259 [0, 0, 0, 0, 0] (fun _ _ => by kernel_rfl) fun f1 g1 l1 => ?_
  exact To.ret [0, 0, 0, 0, 0] (.tuple #[.agg #[.string ⟨⟨[112, 108, 97, 105, 110, 116, 101, 120, 116, 118, 50]⟩⟩, .int .i64 7367777, .int .i64 0, .bool false, .slice none 0 0], .bool true]) (by kernel_rfl) (by kernel_rfl) fun w4 hw4 => ⟨_, rfl, hw4.ext, rfl⟩
theorem maProtocol (c sz : Int) (h : (c, sz) ∈ specSizes) (w : World) : Calls Tryz.prog 16 #[.int .i64 c] w (MpPost c sz w) := by
  simp only [specSizes, List.mem_cons, Prod.mk.injEq, List.not_mem_nil, or_false] at h
  rcases h with ⟨rfl, rfl⟩ | ⟨rfl, rfl⟩ | ⟨rfl, rfl⟩ | ⟨rfl, rfl⟩ | ⟨rfl, rfl⟩ | ⟨rfl, rfl⟩ | ⟨rfl, rfl⟩ | ⟨rfl, rfl⟩ | ⟨rfl, rfl⟩ | ⟨rfl, rfl⟩ | ⟨rfl, rfl⟩ | ⟨rfl, rfl⟩ | ⟨rfl, rfl⟩ | ⟨rfl, rfl⟩ | ⟨rfl, rfl⟩ | ⟨rfl, rfl⟩ | ⟨rfl, rfl⟩ | ⟨rfl, rfl⟩ | ⟨rfl, rfl⟩ | ⟨rfl, rfl⟩ | ⟨rfl, rfl⟩ | ⟨rfl, rfl⟩ | ⟨rfl, rfl⟩ | ⟨rfl, rfl⟩ | ⟨rfl, rfl⟩ | ⟨rfl, rfl⟩ | ⟨rfl, rfl⟩ | ⟨rfl, rfl⟩ | ⟨rfl, rfl⟩ | ⟨rfl, rfl⟩ | ⟨rfl, rfl⟩ | ⟨rfl, rfl⟩ | ⟨rfl, rfl⟩ | ⟨rfl, rfl⟩ | ⟨rfl, rfl⟩ | ⟨rfl, rfl⟩ | ⟨rfl, rfl⟩ | ⟨rfl, rfl⟩
  · exact mp4 w
  · exact mp6 w
  · exact mp33 w
  · exact mp41 w
  · exact mp42 w
  · exact mp43 w
  · exact mp53 w
  · exact mp54 w
  · exact mp55 w
  · exact mp56 w
  · exact mp132 w
  · exact mp273 w
  · exact mp276 w
  · exact mp280 w
  · exact mp281 w
  · exact mp290 w
  · exact mp301 w
  · exact mp302 w
  · exact mp400 w
  · exact mp421 w
  · exact mp443 w
  · exact mp444 w
  · exact mp445 w
  · exact mp446 w
  · exact mp447 w
  · exact mp448 w
  · exact mp449 w
  · exact mp454 w
  · exact mp460 w
  · exact mp461 w
  · exact mp465 w
  · exact mp466 w
  · exact mp477 w
  · exact mp478 w
  · exact mp480 w
  · exact mp481 w
  · exact mp777 w
  · exact mp7367777 w
end Go.Proofs.YtgodhbgnhapemaaGreatDoor
/- Plain: the pieces of a text between slashes, and the text again. Conditions: none. -/
namespace Go.Proofs.YtgodhbgnhapemaaGreatDoor
open Go

/-- The pieces between slashes. -/
def cutS : List UInt8 → List (List UInt8)
  | [] => [[]]
  | c :: r => if c = 47 then [] :: cutS r else match cutS r with
    | [] => [[c]]
    | p :: ps => (c :: p) :: ps
theorem cutS_ne (l : List UInt8) : cutS l ≠ [] := by
  cases l with
  | nil => simp [cutS]
  | cons c r =>
    rw [cutS]
    split
    · simp
    · split <;> simp
theorem cutS_slash (r : List UInt8) : cutS (47 :: r) = [] :: cutS r := by rw [cutS, if_pos rfl]
theorem cutS_last {a : List UInt8} (h : ∀ c ∈ a, c ≠ 47) : cutS a = [a] := by
  induction a with
  | nil => rfl
  | cons c r ih => rw [cutS, if_neg (h c (List.mem_cons_self ..)), ih fun x hx => h x (List.mem_cons_of_mem _ hx)]
theorem cutS_next {a : List UInt8} (h : ∀ c ∈ a, c ≠ 47) (r : List UInt8) : cutS (a ++ 47 :: r) = a :: cutS r := by
  induction a with
  | nil => exact cutS_slash r
  | cons c a ih => rw [List.cons_append, cutS, if_neg (h c (List.mem_cons_self ..)), ih fun x hx => h x (List.mem_cons_of_mem _ hx)]
/-- Nothing behind it, or a slash. -/
def Ends (r : List UInt8) : Prop := r = [] ∨ ∃ t, r = 47 :: t
theorem cutS_ends {a : List UInt8} (h : ∀ c ∈ a, c ≠ 47) {r : List UInt8} (hr : Ends r) : cutS (a ++ r) = a :: (cutS r).tail := by
  rcases hr with rfl | ⟨t, rfl⟩
  · rw [List.append_nil, cutS_last h]; rfl
  · rw [cutS_next h, cutS_slash]; rfl
theorem cutS_no (s : List UInt8) : ∀ p ∈ cutS s, ∀ c ∈ p, c ≠ 47 := by
  induction s with
  | nil => intro p hp; simp only [cutS, List.mem_singleton] at hp; rw [hp]; intro c hc; cases hc
  | cons x r ih =>
    rw [cutS]
    by_cases h : x = 47
    · rw [if_pos h]
      intro p hp
      rcases List.mem_cons.1 hp with rfl | hp
      · intro c hc; cases hc
      · exact ih p hp
    · rw [if_neg h]
      cases hc : cutS r with
      | nil => exact absurd hc (cutS_ne r)
      | cons p ps =>
        rw [hc] at ih
        intro q hq
        rcases List.mem_cons.1 hq with rfl | hq
        · intro c hcm
          rcases List.mem_cons.1 hcm with rfl | hcm
          · exact h
          · exact ih p (List.mem_cons_self ..) c hcm
        · exact ih q (List.mem_cons_of_mem _ hq)
theorem join_cut (s : List UInt8) : Lib.join (cutS s) [47] = s := by
  induction s with
  | nil => rfl
  | cons x r ih =>
    rw [cutS]
    cases hc : cutS r with
    | nil => exact absurd hc (cutS_ne r)
    | cons p ps =>
      rw [hc, Lib.join_cons] at ih
      by_cases h : x = 47
      · rw [if_pos h, Lib.join_cons, h]
        simp only [Lib.joinTail, List.map_cons, List.flatten_cons, List.nil_append] at ih ⊢
        rw [← ih]; simp
      · rw [if_neg h, Lib.join_cons]
        simp only [Lib.joinTail] at ih ⊢
        rw [← ih]; simp
/-- Cut at a place, step by step, as a loop does it. -/
theorem cutS_at {s : List UInt8} {i : Nat} (hi : s[i]? = some 47) (hb : ∀ j, j < i → s[j]? ≠ some 47) : cutS s = s.take i :: cutS (s.drop (i + 1)) := by
  have hlt : i < s.length := (List.getElem?_eq_some_iff.1 hi).1
  have he : s = s.take i ++ 47 :: s.drop (i + 1) := by
    have : s[i] = 47 := (List.getElem?_eq_some_iff.1 hi).2
    rw [← this, ← List.drop_eq_getElem_cons hlt, List.take_append_drop]
  conv => lhs; rw [he]
  refine cutS_next (fun c hc => ?_) _
  obtain ⟨j, hj⟩ := List.mem_iff_getElem?.1 hc
  rw [List.getElem?_take] at hj
  split at hj
  · rename_i hji
    intro e; exact hb j hji (by rw [hj, e])
  · cases hj
theorem cutS_none {s : List UInt8} (hb : ∀ j, j < s.length → s[j]? ≠ some 47) : cutS s = [s] := by
  refine cutS_last fun c hc e => ?_
  obtain ⟨j, hj⟩ := List.mem_iff_getElem?.1 hc
  exact hb j (List.getElem?_eq_some_iff.1 hj).1 (by rw [hj, e])
end Go.Proofs.YtgodhbgnhapemaaGreatDoor
/- Plain: the text of a simple address, and its pieces. Conditions: as each says. -/
namespace Go.Proofs.YtgodhbgnhapemaaGreatDoor
open Go Go.SX Go.IpText
set_option maxHeartbeats 8000000
set_option maxRecDepth 100000
def szOf (c : Int) : Int := ((specSizes.find? (fun p => p.1 == c)).map (·.2)).getD 0
theorem szOf_is {c sz : Int} (h : (c, sz) ∈ specSizes) : szOf c = sz := by
  simp only [specSizes, List.mem_cons, Prod.mk.injEq, List.not_mem_nil, or_false] at h
  rcases h with ⟨rfl, rfl⟩ | ⟨rfl, rfl⟩ | ⟨rfl, rfl⟩ | ⟨rfl, rfl⟩ | ⟨rfl, rfl⟩ | ⟨rfl, rfl⟩ | ⟨rfl, rfl⟩ | ⟨rfl, rfl⟩ | ⟨rfl, rfl⟩ | ⟨rfl, rfl⟩ | ⟨rfl, rfl⟩ | ⟨rfl, rfl⟩ | ⟨rfl, rfl⟩ | ⟨rfl, rfl⟩ | ⟨rfl, rfl⟩ | ⟨rfl, rfl⟩ | ⟨rfl, rfl⟩ | ⟨rfl, rfl⟩ | ⟨rfl, rfl⟩ | ⟨rfl, rfl⟩ | ⟨rfl, rfl⟩ | ⟨rfl, rfl⟩ | ⟨rfl, rfl⟩ | ⟨rfl, rfl⟩ | ⟨rfl, rfl⟩ | ⟨rfl, rfl⟩ | ⟨rfl, rfl⟩ | ⟨rfl, rfl⟩ | ⟨rfl, rfl⟩ | ⟨rfl, rfl⟩ | ⟨rfl, rfl⟩ | ⟨rfl, rfl⟩ | ⟨rfl, rfl⟩ | ⟨rfl, rfl⟩ | ⟨rfl, rfl⟩ | ⟨rfl, rfl⟩ | ⟨rfl, rfl⟩ | ⟨rfl, rfl⟩ <;> decide
/-- A simple component, and what its value is made of. -/
structure SimpleP (c : Int) (val : List UInt8) : Prop where
  simple : SimpleC c val (szOf c)
  name : szOf c < 0 → c ≠ 400 → ∀ x ∈ val, x ≠ 47
  path : c = 400 → ∃ t, val = 47 :: t ∧ t ≠ [] ∧ t.getLast? ≠ some 47
/-- A simple address: a path only at its end. -/
structure SimpleA (l : Comps) : Prop where
  all : ∀ p ∈ l, SimpleP p.1 p.2
  last : ∀ j p, l[j]? = some p → p.1 = 400 → j + 1 = l.length
theorem SimpleA.tail {p : Int × List UInt8} {l : Comps} (h : SimpleA (p :: l)) : SimpleA l :=
  ⟨fun q hq => h.all q (List.mem_cons_of_mem _ hq), fun j q hq h4 => by
    have := h.last (j + 1) q (by simpa using hq) h4
    simpa using this⟩
/-- The text of a value. -/
def valText (c : Int) (val : List UInt8) : List UInt8 := if szOf c = 0 then [] else if c = 4 then fourText val else if c = 41 then sixOf val else if 0 < szOf c then Lib.decDigits (numOf val) else val
def compText (p : Int × List UInt8) : List UInt8 := 47 :: (nameOf p.1 ++ ((if szOf p.1 ≠ 0 ∧ p.1 ≠ 400 then [47] else []) ++ valText p.1 p.2))
def textOf (l : Comps) : List UInt8 := (l.map compText).flatten
def piecesOf (p : Int × List UInt8) : List (List UInt8) := if szOf p.1 = 0 then [nameOf p.1] else if p.1 = 400 then nameOf p.1 :: cutS (p.2.drop 1) else [nameOf p.1, valText p.1 p.2]
def allPieces (l : Comps) : List (List UInt8) := (l.map piecesOf).flatten
theorem decDigits_no (n : Nat) : ∀ c ∈ Lib.decDigits n, c ≠ 47 := by
  induction n using Nat.strongRecOn with
  | ind n ih =>
    have dig : ∀ d, d < 10 → UInt8.ofNat (48 + d) ≠ 47 := by decide
    by_cases h : n < 10
    · rw [Lib.decDigits_one h]; intro c hc; rw [List.mem_singleton.1 hc]; exact dig n h
    · rw [decDigits_last]
      unfold decTail
      rw [if_neg (by omega)]
      intro c hc
      rcases List.mem_append.1 hc with hc | hc
      · exact ih (n / 10) (by omega) c hc
      · rw [List.mem_singleton.1 hc]; exact dig (n % 10) (by omega)
theorem fourText_no (b : List UInt8) : ∀ c ∈ fourText b, c ≠ 47 := by
  have it : ∀ x : UInt8, ∀ c ∈ Lib.itoa (x.toNat : Int), c ≠ 47 := fun x => by rw [Lib.itoa_nonneg]; exact decDigits_no _
  unfold fourText
  intro c hc
  simp only [List.mem_append, List.mem_singleton] at hc
  rcases hc with (((((hc | hc) | hc) | hc) | hc) | hc) | hc
  · exact it _ c hc
  · rw [hc]; decide
  · exact it _ c hc
  · rw [hc]; decide
  · exact it _ c hc
  · rw [hc]; decide
  · exact it _ c hc
theorem hexOf_no47 (n : Nat) : ∀ c ∈ hexOf n, c ≠ 47 := by
  induction n using Nat.strongRecOn with
  | ind n ih =>
    have dig : ∀ d, d < 16 → Go.IpText.hexDigit d ≠ 47 := by decide
    rw [hexOf_eq]
    by_cases h : n < 16
    · rw [if_pos h]; intro c hc; rw [List.mem_singleton.1 hc]; exact dig n h
    · rw [if_neg h]
      intro c hc
      rcases List.mem_append.1 hc with hc | hc
      · exact ih (n / 16) (by omega) c hc
      · rw [List.mem_singleton.1 hc]; exact dig (n % 16) (by omega)
theorem sixGo_no (g : Nat → Nat) (fr tu : Nat) : ∀ n i s, (∀ c ∈ s, c ≠ (47 : UInt8)) → ∀ c ∈ sixGo g fr tu n i s, c ≠ 47
  | 0, i, s, h => h
  | n + 1, i, s, h => by
    rw [sixGo]
    have h58 : ∀ t : List UInt8, (∀ c ∈ t, c ≠ 47) → ∀ u : List UInt8, (∀ c ∈ u, c ≠ 47) → ∀ c ∈ t ++ u, c ≠ 47 := fun t ht u hu c hc => by
      rcases List.mem_append.1 hc with hc | hc
      · exact ht c hc
      · exact hu c hc
    have h2 : ∀ c ∈ ([58, 58] : List UInt8), c ≠ 47 := by decide
    have h1 : ∀ c ∈ ([58] : List UInt8), c ≠ 47 := by decide
    split
    · split
      · split
        · exact h58 _ h _ h2
        · exact sixGo_no g fr tu n _ _ (h58 _ (h58 _ h _ h2) _ (hexOf_no47 _))
      · refine sixGo_no g fr tu n _ _ (h58 _ ?_ _ (hexOf_no47 _))
        split
        · exact h58 _ h _ h1
        · exact h
    · exact h
theorem sixOf_no (b : List UInt8) (h : b.length = 16) : ∀ c ∈ sixOf b, c ≠ 47 := by
  unfold sixOf
  split
  · intro c hc
    rcases List.mem_append.1 hc with hc | hc
    · exact (by decide : ∀ c ∈ ([58, 58, 102, 102, 102, 102, 58] : List UInt8), c ≠ 47) c hc
    · exact fourText_no _ c hc
  · unfold ipText
    rw [if_neg (by omega)]
    exact sixGo_no _ _ _ _ _ _ (fun c hc => by cases hc)
theorem nameOf_no {c : Int} (h : (c, szOf c) ∈ specSizes) : ∀ x ∈ nameOf c, x ≠ 47 := by
  have : ∀ p ∈ specSizes, ∀ x ∈ nameOf p.1, x ≠ 47 := by decide
  exact this _ h
theorem valText_no {c : Int} {val : List UInt8} (h : SimpleP c val) (h4 : c ≠ 400) : ∀ x ∈ valText c val, x ≠ 47 := by
  unfold valText
  split
  · intro x hx; cases hx
  · split
    · exact fourText_no _
    · split
      · rename_i e41
        have hm := h.simple
        subst e41
        have hl := (hm.fixed (by decide)).1
        exact sixOf_no _ (by rw [hl]; decide)
      · split
        · exact decDigits_no _
        · exact h.name (by omega) h4
theorem textOf_ends (l : Comps) : Ends (textOf l) := by
  cases l with
  | nil => exact .inl rfl
  | cons p l => exact .inr ⟨_, rfl⟩
/-- The pieces of a simple address's text. -/
theorem cut_text : ∀ {l : Comps}, SimpleA l → (cutS (textOf l)).tail = allPieces l
  | [], _ => rfl
  | p :: l, h => by
    have hp := h.all p (List.mem_cons_self ..)
    have hm : (p.1, szOf p.1) ∈ specSizes := hp.simple.mem
    have hn := nameOf_no hm
    have ih := cut_text h.tail
    have hx : textOf (p :: l) = 47 :: (nameOf p.1 ++ ((if szOf p.1 ≠ 0 ∧ p.1 ≠ 400 then [47] else []) ++ (valText p.1 p.2 ++ textOf l))) := by
      simp [textOf, compText]
    have hy : allPieces (p :: l) = piecesOf p ++ allPieces l := by simp [allPieces]
    rw [hx, cutS_slash, List.tail_cons, hy]
    unfold piecesOf
    by_cases h0 : szOf p.1 = 0
    · rw [if_pos h0, if_neg (fun h => h.1 h0)]
      have hv : valText p.1 p.2 = [] := by unfold valText; rw [if_pos h0]
      rw [hv, List.nil_append, List.nil_append, cutS_ends hn (textOf_ends l), ih]; rfl
    · rw [if_neg h0]
      by_cases h4 : p.1 = 400
      · rw [if_pos h4, if_neg (fun h => h.2 h4)]
        obtain ⟨t, ht, _, _⟩ := hp.path h4
        have hl : l = [] := by
          have := h.last 0 p rfl h4
          simp only [List.length_cons] at this
          exact List.eq_nil_of_length_eq_zero (by omega)
        have hs : szOf p.1 < 0 := by rw [h4]; decide
        have hv : valText p.1 p.2 = p.2 := by
          unfold valText
          rw [if_neg h0, if_neg (by rw [h4]; decide), if_neg (by rw [h4]; decide), if_neg (by omega)]
        rw [hv, ht, hl, List.nil_append]
        show cutS (nameOf p.1 ++ (47 :: t ++ [])) = _
        rw [List.append_nil, cutS_next hn]
        simp [allPieces]
      · rw [if_neg h4, if_pos ⟨h0, h4⟩]
        show cutS (nameOf p.1 ++ 47 :: ([] ++ (valText p.1 p.2 ++ textOf l))) = _
        rw [List.nil_append, cutS_next hn, cutS_ends (valText_no hp h4) (textOf_ends l), ih]; rfl
end Go.Proofs.YtgodhbgnhapemaaGreatDoor
/- Plain: numbers as texts and bytes, there and back. Conditions: as each says. -/
namespace Go.Proofs.YtgodhbgnhapemaaGreatDoor
open Go
set_option maxHeartbeats 8000000
set_option maxRecDepth 100000
theorem parse_dec (M : Nat) (hM : M ≤ 18446744073709551615) : ∀ (n : Nat) (r : List UInt8), n ≤ M → Lib.parseUintM M 0 (Lib.decDigits n ++ r) = Lib.parseUintM M n r := by
  have dig : ∀ d, d < 10 → (UInt8.ofNat (48 + d)).toNat = 48 + d := by decide
  intro n
  induction n using Nat.strongRecOn with
  | ind n ih =>
    intro r hn
    by_cases h : n < 10
    · rw [Lib.decDigits_one h]
      show Lib.parseUintM M 0 (UInt8.ofNat (48 + n) :: r) = _
      rw [Lib.parseUintM, dig n h, if_pos (by omega), if_neg (by omega), if_neg (by omega), show 0 * 10 + (48 + n - 48) = n by omega]
    · rw [decDigits_last]
      unfold decTail
      rw [if_neg (by omega), List.append_assoc, ih (n / 10) (by omega) _ (by omega)]
      show Lib.parseUintM M (n / 10) (UInt8.ofNat (48 + n % 10) :: r) = _
      rw [Lib.parseUintM, dig (n % 10) (by omega), if_pos (by omega), if_neg (by omega), if_neg (by omega), show n / 10 * 10 + (48 + n % 10 - 48) = n by omega]
theorem decDigits_ne (n : Nat) : Lib.decDigits n ≠ [] := by rw [decDigits_last]; simp
/-- A number's digits are read as the number. -/
theorem parse_digits (B n : Nat) (hB : 2 ^ B - 1 ≤ 18446744073709551615) (hn : n ≤ 2 ^ B - 1) : Lib.parseUintB B (Lib.decDigits n) = .ok n := by
  unfold Lib.parseUintB
  rw [if_neg (decDigits_ne n)]
  have h := parse_dec (2 ^ B - 1) hB n [] hn
  rw [List.append_nil] at h
  rw [h]; rfl
theorem u8_mod (x : UInt8) (n : Nat) : ((n * 256 + x.toNat) % 256).toUInt8 = x := by
  have hx := x.toNat_lt
  rw [show (n * 256 + x.toNat) % 256 = x.toNat by omega]
  exact UInt8.ofNat_toNat
theorem le_back : ∀ (l : List UInt8), Lib.leBytes l.length (l.foldr (fun x n => n * 256 + x.toNat) 0) = l
  | [] => rfl
  | x :: l => by
    have hx := x.toNat_lt
    rw [List.foldr_cons, List.length_cons, Lib.leBytes, u8_mod, show (l.foldr (fun x n => n * 256 + x.toNat) 0 * 256 + x.toNat) / 256 = l.foldr (fun x n => n * 256 + x.toNat) 0 by omega, le_back l]
/-- The bytes of the number that bytes mean. -/
theorem be_back (l : List UInt8) : Lib.beBytes l.length (numOf l) = l := by
  have h := le_back l.reverse
  rw [List.length_reverse, List.foldr_reverse] at h
  unfold Lib.beBytes numOf
  rw [h, List.reverse_reverse]
theorem beFrom_is : ∀ (l : List UInt8) (a : Nat), Lib.beFrom a l = l.foldl (fun n x => n * 256 + x.toNat) a
  | [], _ => rfl
  | x :: l, a => by rw [Lib.beFrom, beFrom_is l]; rfl
theorem be_num (l : List UInt8) : Lib.beNat l = numOf l := beFrom_is l 0
end Go.Proofs.YtgodhbgnhapemaaGreatDoor
