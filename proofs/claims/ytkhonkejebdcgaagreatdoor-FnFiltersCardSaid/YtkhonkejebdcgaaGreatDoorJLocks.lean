/- The locks of a mutex that nobody else holds. Conditions: as each says. -/
import Derived.Test.YtkhonkejebdcgaaGreatDoorProg
import Derived.Conc.RwLoneW
import Derived.KernelRfl
import Derived.Test.YtkhonkejebdcgaaGreatDoorJCont
import Derived.Test.YtkhonkejebdcgaaGreatDoorSxC
/- The numbers under which this dump holds the library's locks, and that it holds them. Conditions: none. -/
namespace Go.Proofs
abbrev Tryz.muLink : Go.Conc.Locks.MuLink := { lock := 46, unlock := 55, ilock := 64, iunlock := 66, lockSlow := 76, unlockSlow := 77, disable := 45, enable := 49, acquire := 50, relMerge := 52, cas32 := 75, add32 := 65, tMutex := 65, tIMutex := 63, tPMutex := 109, tPIMutex := 134, tPI32 := 127, tUP := 108, tNoCopy := 60, tU32 := 61 }
theorem Tryz.muLib : Go.Conc.Locks.MuLib Tryz.prog Tryz.muLink :=
  ⟨Tryz.func46, Tryz.func55, Tryz.func64, Tryz.func66, Tryz.func45, Tryz.func49, Tryz.func50, Tryz.func52, Tryz.func75, Tryz.func65, Tryz.underlying63, Tryz.runUnderlying63, Tryz.sizeOf63, Tryz.isAgg63, Tryz.zeroValue63, Tryz.underlying65, Tryz.runUnderlying65, Tryz.sizeOf65, Tryz.isAgg65, Tryz.zeroValue65, Tryz.underlying109, Tryz.runUnderlying109, Tryz.sizeOf109, Tryz.isAgg109, Tryz.zeroValue109, Tryz.underlying134, Tryz.runUnderlying134, Tryz.sizeOf134, Tryz.isAgg134, Tryz.zeroValue134, Tryz.underlying127, Tryz.runUnderlying127, Tryz.sizeOf127, Tryz.isAgg127, Tryz.zeroValue127, Tryz.underlying108, Tryz.runUnderlying108, Tryz.sizeOf108, Tryz.isAgg108, Tryz.zeroValue108, Tryz.underlying60, Tryz.runUnderlying60, Tryz.sizeOf60, Tryz.isAgg60, Tryz.zeroValue60, Tryz.underlying21, Tryz.runUnderlying21, Tryz.sizeOf21, Tryz.isAgg21, Tryz.zeroValue21, (by kernel_rfl)⟩
abbrev Tryz.rwLink : Go.Conc.Locks.RwLink := { lock := 46, unlock := 55, ilock := 64, iunlock := 66, lockSlow := 76, unlockSlow := 77, disable := 45, enable := 49, acquire := 50, relMerge := 52, cas32 := 75, add32 := 65, tMutex := 65, tIMutex := 63, tPMutex := 109, tPIMutex := 134, tPI32 := 127, tUP := 108, tNoCopy := 60, tU32 := 61, rlock := 35, runlock := 36, wlock := 28, wunlock := 29, i32add := 47, raceRead := 44, release := 51, rUnlockSlow := 58, semacqR := 57, semacqW := 48, semrel := 54, sfatal := 53, tRW := 70, tPRW := 106, tAI32 := 68, tPAI32 := 125, tPU32 := 112, tANoCopy := 66 }
theorem Tryz.rwCore : Go.Conc.Locks.RwCore Tryz.prog Tryz.rwLink :=
  ⟨Tryz.func47, Tryz.func44, Tryz.func45, Tryz.func49, Tryz.func50, Tryz.func52, Tryz.func65, Tryz.underlying70, Tryz.runUnderlying70, Tryz.sizeOf70, Tryz.isAgg70, Tryz.zeroValue70, Tryz.underlying68, Tryz.runUnderlying68, Tryz.sizeOf68, Tryz.isAgg68, Tryz.zeroValue68, Tryz.underlying106, Tryz.runUnderlying106, Tryz.sizeOf106, Tryz.isAgg106, Tryz.zeroValue106, Tryz.underlying125, Tryz.runUnderlying125, Tryz.sizeOf125, Tryz.isAgg125, Tryz.zeroValue125, Tryz.underlying112, Tryz.runUnderlying112, Tryz.sizeOf112, Tryz.isAgg112, Tryz.zeroValue112, Tryz.underlying66, Tryz.runUnderlying66, Tryz.sizeOf66, Tryz.isAgg66, Tryz.zeroValue66, Tryz.underlying61, Tryz.runUnderlying61, Tryz.sizeOf61, Tryz.isAgg61, Tryz.zeroValue61, Tryz.underlying65, Tryz.runUnderlying65, Tryz.sizeOf65, Tryz.isAgg65, Tryz.zeroValue65, Tryz.underlying109, Tryz.runUnderlying109, Tryz.sizeOf109, Tryz.isAgg109, Tryz.zeroValue109, Tryz.underlying127, Tryz.runUnderlying127, Tryz.sizeOf127, Tryz.isAgg127, Tryz.zeroValue127, Tryz.underlying108, Tryz.runUnderlying108, Tryz.sizeOf108, Tryz.isAgg108, Tryz.zeroValue108, Tryz.underlying21, Tryz.runUnderlying21, Tryz.sizeOf21, Tryz.isAgg21, Tryz.zeroValue21, (by kernel_rfl), (by kernel_rfl)⟩
theorem Tryz.rwRLib : Go.Conc.Locks.RwRLib Tryz.prog Tryz.rwLink := ⟨Tryz.rwCore, Tryz.func35, Tryz.func36⟩
theorem Tryz.rwWLib : Go.Conc.Locks.RwWLib Tryz.prog Tryz.rwLink := ⟨Tryz.rwCore, Tryz.muLib, Tryz.func28, Tryz.func29, Tryz.func51, Tryz.underlying3, Tryz.runUnderlying3, Tryz.sizeOf3, Tryz.isAgg3, Tryz.zeroValue3⟩
end Go.Proofs
/- The lock of a list of filters is taken and given back. Conditions: nobody holds it, or its holder gives it back. -/
namespace Go.Proofs.YtkhonkejebdcgaaGreatDoor
open Go Go.SX Go.IpText
set_option maxHeartbeats 8000000
set_option maxRecDepth 100000
/-- This block is not the table's. -/
def TabOff (b : Nat) : Prop := ∀ g, Tryz.prog.globalNamed "internal/strconv.uint64pow10" = some g → g ≠ b
theorem Tab.off {w : World} (h : Tab w) {b : Nat} (hb : w.heap.size ≤ b) : TabOff b := fun g hg e => by
  subst e
  unfold Tab Lib.TabIs World.var? at h
  rw [hg] at h
  simp only [Option.bind_some] at h
  rw [Array.getElem?_eq_none hb] at h
  cases h
theorem Tab.laterS {S : List Nat} {w w' : World} (h : Tab w) (hx : Ext S w w') (hS : ∀ b ∈ S, TabOff b) : Tab w' := by
  unfold Tab Lib.TabIs World.var? at h ⊢
  cases hg : Tryz.prog.globalNamed "internal/strconv.uint64pow10" with
  | none => rw [hg] at h; cases h
  | some g =>
    rw [hg] at h
    simp only [Option.bind_some] at h ⊢
    have hlt : g < w.heap.size := by
      cases hh : w.heap[g]? with
      | none => rw [hh] at h; cases h
      | some o => exact (Array.getElem?_eq_some_iff.1 hh).1
    rw [hx.block g hlt (fun hm => hS g hm g hg rfl)]
    exact h
/-- The cells of a list of filters: readers counted, the writers' own lock. -/
def lkCells (d rc m : Int) (v : Value) : List Value := [.int .i32 d, .int .i32 m, .int .u32 0, .int .u32 0, .int .u32 0, .int .i32 rc, .int .i32 0, v]
theorem setCell_row {w : World} {g : Nat} {l : List Value} {t : TypeId} {z : Nat × Nat} (h : w.heap[g]? = some (.cells ⟨l⟩ t z)) (o : Nat) (v : Value) :
    (w.setCell ⟨g, o, none⟩ v).heap[g]? = some (.cells ⟨l.set o v⟩ t z) ∧ Ext [g] w (w.setCell ⟨g, o, none⟩ v) := by
  refine ⟨?_, rfl, rfl, rfl, by simp [World.setCell], fun k hk hn => ?_⟩
  · simp only [World.setCell, Array.getElem?_modify, if_true, h, Option.map_some]
    simp
  · simp only [World.setCell, Array.getElem?_modify]
    rw [if_neg (fun e => hn (by simp [e]))]
theorem frozenRow {w : World} {g : Nat} {c : Array Value} {t : TypeId} (h : w.heap[g]? = some (.cells c t (0, 0))) (o : Nat) : w.frozen? ⟨g, o, none⟩ = false := by
  simp [World.frozen?, h]
theorem rowCell {w : World} {g : Nat} {l : List Value} {t : TypeId} {z : Nat × Nat} (h : w.heap[g]? = some (.cells ⟨l⟩ t z)) (j : Nat) : w.cell? ⟨g, j, none⟩ = l[j]? := by
  rw [cell_of_row w g j _ _ z h]; simp
theorem up1 : Go.RowKit.wrap32 (0 + 1) = 1 := by kernel_rfl
theorem down1 : Go.RowKit.wrap32 (1 + -1) = 0 := by kernel_rfl
theorem wlock (fb : Nat) (d : Int) (v : Value) (w : World) (h : w.heap[fb]? = some (.cells ⟨fsCells d v⟩ 73 (0, 0))) :
    Calls Tryz.prog 28 #[.pointer (some ⟨fb, 1, none⟩)] w (fun e w1 => ∃ x, e = .returned x ∧ Ext [fb] w w1 ∧ w1.heap[fb]? = some (.cells ⟨lkCells d (-1073741824) 1 v⟩ 73 (0, 0))) := by
  refine (RwLone.wlock_free Tryz.rwWLib fb 1 (.int .u32 0) (.int .u32 0) w (rowCell h 1) (rowCell h 3) (rowCell h 4) (rowCell h 5) (frozenRow h 1) (frozenRow h 5)).mono ?_
  rintro e w1 ⟨rfl, rfl⟩
  obtain ⟨h1, x1⟩ := setCell_row h 1 (.int .i32 1)
  obtain ⟨h2, x2⟩ := setCell_row h1 5 (.int .i32 (-1073741824))
  exact ⟨_, rfl, x1.trans x2, h2⟩
theorem wunlock (fb : Nat) (d : Int) (v : Value) (w : World) (h : w.heap[fb]? = some (.cells ⟨lkCells d (-1073741824) 1 v⟩ 73 (0, 0))) :
    CallsD Tryz.prog 29 #[.pointer (some ⟨fb, 1, none⟩)] .returning w (fun e u' w1 => (∃ u, e = .returned u) ∧ u' = .returning ∧ Ext [fb] w w1 ∧ w1.heap[fb]? = some (.cells ⟨fsCells d v⟩ 73 (0, 0))) := by
  refine (RwLone.wunlock_deferred Tryz.rwWLib fb 1 (.int .u32 0) (.int .u32 0) .returning w (rowCell h 1) (rowCell h 3) (rowCell h 4) (rowCell h 5) (frozenRow h 1) (frozenRow h 5)).mono ?_
  rintro e u w1 ⟨rfl, rfl, rfl⟩
  obtain ⟨h1, x1⟩ := setCell_row h 5 (.int .i32 0)
  obtain ⟨h2, x2⟩ := setCell_row h1 1 (.int .i32 0)
  exact ⟨⟨_, rfl⟩, rfl, x1.trans x2, h2⟩
theorem rlock (fb : Nat) (d : Int) (v : Value) (w : World) (h : w.heap[fb]? = some (.cells ⟨fsCells d v⟩ 73 (0, 0))) :
    Calls Tryz.prog 35 #[.pointer (some ⟨fb, 1, none⟩)] w (fun e w1 => ∃ x, e = .returned x ∧ Ext [fb] w w1 ∧ w1.heap[fb]? = some (.cells ⟨lkCells d 1 0 v⟩ 73 (0, 0))) := by
  refine (RwLone.rlock_open Tryz.rwRLib fb 1 0 (.int .i32 0) (.int .u32 0) w (rowCell h 1) (rowCell h 4) (rowCell h 5) (frozenRow h 5) (by rw [up1]; decide)).mono ?_
  rintro e w1 ⟨rfl, rfl⟩
  rw [up1]
  obtain ⟨h1, x1⟩ := setCell_row h 5 (.int .i32 1)
  exact ⟨_, rfl, x1, h1⟩
theorem runlock (fb : Nat) (d : Int) (v : Value) (w : World) (h : w.heap[fb]? = some (.cells ⟨lkCells d 1 0 v⟩ 73 (0, 0))) :
    CallsD Tryz.prog 36 #[.pointer (some ⟨fb, 1, none⟩)] .returning w (fun e u' w1 => (∃ u, e = .returned u) ∧ u' = .returning ∧ Ext [fb] w w1 ∧ w1.heap[fb]? = some (.cells ⟨fsCells d v⟩ 73 (0, 0))) := by
  refine (RwLone.runlock_deferred Tryz.rwRLib fb 1 1 (.int .i32 0) (.int .u32 0) .returning w (rowCell h 1) (rowCell h 3) (rowCell h 5) (frozenRow h 5) (by rw [down1]; decide)).mono ?_
  rintro e u w1 ⟨rfl, rfl, rfl⟩
  rw [down1]
  obtain ⟨h1, x1⟩ := setCell_row h 5 (.int .i32 0)
  exact ⟨⟨_, rfl⟩, rfl, x1, h1⟩
end Go.Proofs.YtkhonkejebdcgaaGreatDoor
