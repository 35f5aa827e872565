/- Each simple protocol's row, and what its transcoder does. Conditions: a simple component. -/
import Derived.Test.YtgodhbgnhapemaaGreatDoorJSixp
import Derived.Test.YtgodhbgnhapemaaGreatDoorJWords
set_option linter.unusedVariables false
set_option linter.unusedSimpArgs false
/- Each simple protocol's row, and what its transcoder does. Conditions: a simple component. -/
namespace Go.Proofs.YtgodhbgnhapemaaGreatDoor
open Go Go.SX Go.IpText
set_option maxHeartbeats 8000000
set_option maxRecDepth 100000
structure RowFor (c : Int) (val : List UInt8) (r : Row) : Prop where
  code : r.code = c
  size : r.size = szOf c
  name : r.name = ⟨⟨nameOf c⟩⟩
  path : r.path = decide (c = 400)
  vc : r.vc = Lib.uvarint c.toNat
  coded : Coded c r
  named : Named r.name r
  tr0 : szOf c = 0 → r.tr = none
  tr1 : szOf c ≠ 0 → ∃ x, r.tr = some (126, x) ∧ Tr1 x val (valText c val)
  small : 0 < c ∧ c < 2147483648
theorem cidrOf (val : List UInt8) (hl : val.length = 1) : Tr1 xCidr val (Lib.decDigits (numOf val)) := by
  match val, hl with
  | [x], _ => rw [show numOf [x] = x.toNat by simp [numOf]]; exact trCidr x
theorem rowFor4 (val : List UInt8) (h : SimpleP 4 val) (hl : val.length ≤ 2147483647) : RowFor 4 val row4 := by
  have hv : valText 4 val = fourText val := by unfold valText; rw [if_neg (by decide), if_pos rfl]
  have hlen : val.length = 4 := (h.simple.fixed (by decide)).1
  exact ⟨rfl, rfl, rfl, rfl, by decide +kernel, coded4, named4, fun h => absurd h (by decide), fun _ => ⟨xIp4, rfl, by rw [hv]; exact trIp4 val hlen⟩, by decide⟩
theorem rowFor6 (val : List UInt8) (h : SimpleP 6 val) (hl : val.length ≤ 2147483647) : RowFor 6 val row6 := by
  have hv : valText 6 val = Lib.decDigits (numOf val) := by unfold valText; rw [if_neg (by decide), if_neg (by decide), if_neg (by decide), if_pos (by decide)]
  have hlen : val.length = 2 := (h.simple.fixed (by decide)).1
  exact ⟨rfl, rfl, rfl, rfl, by decide +kernel, coded6, named6, fun h => absurd h (by decide), fun _ => ⟨xPort, rfl, by rw [hv]; exact trPort val hlen⟩, by decide⟩
theorem rowFor33 (val : List UInt8) (h : SimpleP 33 val) (hl : val.length ≤ 2147483647) : RowFor 33 val row33 := by
  have hv : valText 33 val = Lib.decDigits (numOf val) := by unfold valText; rw [if_neg (by decide), if_neg (by decide), if_neg (by decide), if_pos (by decide)]
  have hlen : val.length = 2 := (h.simple.fixed (by decide)).1
  exact ⟨rfl, rfl, rfl, rfl, by decide +kernel, coded33, named33, fun h => absurd h (by decide), fun _ => ⟨xPort, rfl, by rw [hv]; exact trPort val hlen⟩, by decide⟩
theorem rowFor41 (val : List UInt8) (h : SimpleP 41 val) (hl : val.length ≤ 2147483647) : RowFor 41 val row41 := by
  have hv : valText 41 val = sixOf val := by unfold valText; rw [if_neg (by decide), if_neg (by decide), if_pos rfl]
  have hlen : val.length = 16 := (h.simple.fixed (by decide)).1
  exact ⟨rfl, rfl, rfl, rfl, by decide +kernel, coded41, named41, fun h => absurd h (by decide), fun _ => ⟨xIp6, rfl, by rw [hv]; exact trIp6 val hlen⟩, by decide⟩
theorem rowFor42 (val : List UInt8) (h : SimpleP 42 val) (hl : val.length ≤ 2147483647) : RowFor 42 val row42 := by
  have hv : valText 42 val = val := by unfold valText; rw [if_neg (by decide), if_neg (by decide), if_neg (by decide), if_neg (by decide)]
  have h0 : 1 ≤ val.length := by have := h.simple.free (by decide); omega
  exact ⟨rfl, rfl, rfl, rfl, by decide +kernel, coded42, named42, fun h => absurd h (by decide), fun _ => ⟨xZone, rfl, by rw [hv]; exact trZone val h0 (h.simple.name (by decide) (by decide)) hl⟩, by decide⟩
theorem rowFor43 (val : List UInt8) (h : SimpleP 43 val) (hl : val.length ≤ 2147483647) : RowFor 43 val row43 := by
  have hv : valText 43 val = Lib.decDigits (numOf val) := by unfold valText; rw [if_neg (by decide), if_neg (by decide), if_neg (by decide), if_pos (by decide)]
  have hlen : val.length = 1 := (h.simple.fixed (by decide)).1
  exact ⟨rfl, rfl, rfl, rfl, by decide +kernel, coded43, named43, fun h => absurd h (by decide), fun _ => ⟨xCidr, rfl, by rw [hv]; exact cidrOf val hlen⟩, by decide⟩
theorem rowFor53 (val : List UInt8) (h : SimpleP 53 val) (hl : val.length ≤ 2147483647) : RowFor 53 val row53 := by
  have hv : valText 53 val = val := by unfold valText; rw [if_neg (by decide), if_neg (by decide), if_neg (by decide), if_neg (by decide)]
  have h0 : 1 ≤ val.length := by have := h.simple.free (by decide); omega
  exact ⟨rfl, rfl, rfl, rfl, by decide +kernel, coded53, named53, fun h => absurd h (by decide), fun _ => ⟨xDns, rfl, by rw [hv]; exact trDns val h0 (h.simple.name (by decide) (by decide)) hl⟩, by decide⟩
theorem rowFor54 (val : List UInt8) (h : SimpleP 54 val) (hl : val.length ≤ 2147483647) : RowFor 54 val row54 := by
  have hv : valText 54 val = val := by unfold valText; rw [if_neg (by decide), if_neg (by decide), if_neg (by decide), if_neg (by decide)]
  have h0 : 1 ≤ val.length := by have := h.simple.free (by decide); omega
  exact ⟨rfl, rfl, rfl, rfl, by decide +kernel, coded54, named54, fun h => absurd h (by decide), fun _ => ⟨xDns, rfl, by rw [hv]; exact trDns val h0 (h.simple.name (by decide) (by decide)) hl⟩, by decide⟩
theorem rowFor55 (val : List UInt8) (h : SimpleP 55 val) (hl : val.length ≤ 2147483647) : RowFor 55 val row55 := by
  have hv : valText 55 val = val := by unfold valText; rw [if_neg (by decide), if_neg (by decide), if_neg (by decide), if_neg (by decide)]
  have h0 : 1 ≤ val.length := by have := h.simple.free (by decide); omega
  exact ⟨rfl, rfl, rfl, rfl, by decide +kernel, coded55, named55, fun h => absurd h (by decide), fun _ => ⟨xDns, rfl, by rw [hv]; exact trDns val h0 (h.simple.name (by decide) (by decide)) hl⟩, by decide⟩
theorem rowFor56 (val : List UInt8) (h : SimpleP 56 val) (hl : val.length ≤ 2147483647) : RowFor 56 val row56 := by
  have hv : valText 56 val = val := by unfold valText; rw [if_neg (by decide), if_neg (by decide), if_neg (by decide), if_neg (by decide)]
  have h0 : 1 ≤ val.length := by have := h.simple.free (by decide); omega
  exact ⟨rfl, rfl, rfl, rfl, by decide +kernel, coded56, named56, fun h => absurd h (by decide), fun _ => ⟨xDns, rfl, by rw [hv]; exact trDns val h0 (h.simple.name (by decide) (by decide)) hl⟩, by decide⟩
theorem rowFor132 (val : List UInt8) (h : SimpleP 132 val) (hl : val.length ≤ 2147483647) : RowFor 132 val row132 := by
  have hv : valText 132 val = Lib.decDigits (numOf val) := by unfold valText; rw [if_neg (by decide), if_neg (by decide), if_neg (by decide), if_pos (by decide)]
  have hlen : val.length = 2 := (h.simple.fixed (by decide)).1
  exact ⟨rfl, rfl, rfl, rfl, by decide +kernel, coded132, named132, fun h => absurd h (by decide), fun _ => ⟨xPort, rfl, by rw [hv]; exact trPort val hlen⟩, by decide⟩
theorem rowFor273 (val : List UInt8) (h : SimpleP 273 val) (hl : val.length ≤ 2147483647) : RowFor 273 val row273 := by
  have hv : valText 273 val = Lib.decDigits (numOf val) := by unfold valText; rw [if_neg (by decide), if_neg (by decide), if_neg (by decide), if_pos (by decide)]
  have hlen : val.length = 2 := (h.simple.fixed (by decide)).1
  exact ⟨rfl, rfl, rfl, rfl, by decide +kernel, coded273, named273, fun h => absurd h (by decide), fun _ => ⟨xPort, rfl, by rw [hv]; exact trPort val hlen⟩, by decide⟩
theorem rowFor276 (val : List UInt8) (h : SimpleP 276 val) (hl : val.length ≤ 2147483647) : RowFor 276 val row276 := by
  exact ⟨rfl, rfl, rfl, rfl, by decide +kernel, coded276, named276, fun _ => rfl, fun h => absurd (by decide) h, by decide⟩
theorem rowFor280 (val : List UInt8) (h : SimpleP 280 val) (hl : val.length ≤ 2147483647) : RowFor 280 val row280 := by
  exact ⟨rfl, rfl, rfl, rfl, by decide +kernel, coded280, named280, fun _ => rfl, fun h => absurd (by decide) h, by decide⟩
theorem rowFor281 (val : List UInt8) (h : SimpleP 281 val) (hl : val.length ≤ 2147483647) : RowFor 281 val row281 := by
  exact ⟨rfl, rfl, rfl, rfl, by decide +kernel, coded281, named281, fun _ => rfl, fun h => absurd (by decide) h, by decide⟩
theorem rowFor290 (val : List UInt8) (h : SimpleP 290 val) (hl : val.length ≤ 2147483647) : RowFor 290 val row290 := by
  exact ⟨rfl, rfl, rfl, rfl, by decide +kernel, coded290, named290, fun _ => rfl, fun h => absurd (by decide) h, by decide⟩
theorem rowFor301 (val : List UInt8) (h : SimpleP 301 val) (hl : val.length ≤ 2147483647) : RowFor 301 val row301 := by
  exact ⟨rfl, rfl, rfl, rfl, by decide +kernel, coded301, named301, fun _ => rfl, fun h => absurd (by decide) h, by decide⟩
theorem rowFor302 (val : List UInt8) (h : SimpleP 302 val) (hl : val.length ≤ 2147483647) : RowFor 302 val row302 := by
  exact ⟨rfl, rfl, rfl, rfl, by decide +kernel, coded302, named302, fun _ => rfl, fun h => absurd (by decide) h, by decide⟩
theorem rowFor400 (val : List UInt8) (h : SimpleP 400 val) (hl : val.length ≤ 2147483647) : RowFor 400 val row400 := by
  have hv : valText 400 val = val := by unfold valText; rw [if_neg (by decide), if_neg (by decide), if_neg (by decide), if_neg (by decide)]
  exact ⟨rfl, rfl, rfl, rfl, by decide +kernel, coded400, named400, fun h => absurd h (by decide), fun _ => ⟨xUnix, rfl, by rw [hv]; exact trUnix val (h.simple.path rfl) hl⟩, by decide⟩
theorem rowFor443 (val : List UInt8) (h : SimpleP 443 val) (hl : val.length ≤ 2147483647) : RowFor 443 val row443 := by
  exact ⟨rfl, rfl, rfl, rfl, by decide +kernel, coded443, named443, fun _ => rfl, fun h => absurd (by decide) h, by decide⟩
theorem rowFor448 (val : List UInt8) (h : SimpleP 448 val) (hl : val.length ≤ 2147483647) : RowFor 448 val row448 := by
  exact ⟨rfl, rfl, rfl, rfl, by decide +kernel, coded448, named448, fun _ => rfl, fun h => absurd (by decide) h, by decide⟩
theorem rowFor449 (val : List UInt8) (h : SimpleP 449 val) (hl : val.length ≤ 2147483647) : RowFor 449 val row449 := by
  have hv : valText 449 val = val := by unfold valText; rw [if_neg (by decide), if_neg (by decide), if_neg (by decide), if_neg (by decide)]
  have h0 : 1 ≤ val.length := by have := h.simple.free (by decide); omega
  exact ⟨rfl, rfl, rfl, rfl, by decide +kernel, coded449, named449, fun h => absurd h (by decide), fun _ => ⟨xDns, rfl, by rw [hv]; exact trDns val h0 (h.simple.name (by decide) (by decide)) hl⟩, by decide⟩
theorem rowFor454 (val : List UInt8) (h : SimpleP 454 val) (hl : val.length ≤ 2147483647) : RowFor 454 val row454 := by
  exact ⟨rfl, rfl, rfl, rfl, by decide +kernel, coded454, named454, fun _ => rfl, fun h => absurd (by decide) h, by decide⟩
theorem rowFor460 (val : List UInt8) (h : SimpleP 460 val) (hl : val.length ≤ 2147483647) : RowFor 460 val row460 := by
  exact ⟨rfl, rfl, rfl, rfl, by decide +kernel, coded460, named460, fun _ => rfl, fun h => absurd (by decide) h, by decide⟩
theorem rowFor461 (val : List UInt8) (h : SimpleP 461 val) (hl : val.length ≤ 2147483647) : RowFor 461 val row461 := by
  exact ⟨rfl, rfl, rfl, rfl, by decide +kernel, coded461, named461, fun _ => rfl, fun h => absurd (by decide) h, by decide⟩
theorem rowFor465 (val : List UInt8) (h : SimpleP 465 val) (hl : val.length ≤ 2147483647) : RowFor 465 val row465 := by
  exact ⟨rfl, rfl, rfl, rfl, by decide +kernel, coded465, named465, fun _ => rfl, fun h => absurd (by decide) h, by decide⟩
theorem rowFor477 (val : List UInt8) (h : SimpleP 477 val) (hl : val.length ≤ 2147483647) : RowFor 477 val row477 := by
  exact ⟨rfl, rfl, rfl, rfl, by decide +kernel, coded477, named477, fun _ => rfl, fun h => absurd (by decide) h, by decide⟩
theorem rowFor478 (val : List UInt8) (h : SimpleP 478 val) (hl : val.length ≤ 2147483647) : RowFor 478 val row478 := by
  exact ⟨rfl, rfl, rfl, rfl, by decide +kernel, coded478, named478, fun _ => rfl, fun h => absurd (by decide) h, by decide⟩
theorem rowFor480 (val : List UInt8) (h : SimpleP 480 val) (hl : val.length ≤ 2147483647) : RowFor 480 val row480 := by
  exact ⟨rfl, rfl, rfl, rfl, by decide +kernel, coded480, named480, fun _ => rfl, fun h => absurd (by decide) h, by decide⟩
theorem rowFor777 (val : List UInt8) (h : SimpleP 777 val) (hl : val.length ≤ 2147483647) : RowFor 777 val row777 := by
  have hv : valText 777 val = Lib.decDigits (numOf val) := by unfold valText; rw [if_neg (by decide), if_neg (by decide), if_neg (by decide), if_pos (by decide)]
  have hlen : val.length = 8 := (h.simple.fixed (by decide)).1
  exact ⟨rfl, rfl, rfl, rfl, by decide +kernel, coded777, named777, fun h => absurd h (by decide), fun _ => ⟨xMem, rfl, by rw [hv]; exact trMem val hlen⟩, by decide⟩
theorem rowFor7367777 (val : List UInt8) (h : SimpleP 7367777 val) (hl : val.length ≤ 2147483647) : RowFor 7367777 val row7367777 := by
  exact ⟨rfl, rfl, rfl, rfl, by decide +kernel, coded7367777, named7367777, fun _ => rfl, fun h => absurd (by decide) h, by decide⟩
theorem rowFor {c : Int} {val : List UInt8} (h : SimpleP c val) (hl : val.length ≤ 2147483647) : ∃ r, RowFor c val r := by
  have hm := h.simple.mem
  simp only [specSizes, List.mem_cons, Prod.mk.injEq, List.not_mem_nil, or_false] at hm
  rcases hm with ⟨rfl, _⟩ | ⟨rfl, _⟩ | ⟨rfl, _⟩ | ⟨rfl, _⟩ | ⟨rfl, _⟩ | ⟨rfl, _⟩ | ⟨rfl, _⟩ | ⟨rfl, _⟩ | ⟨rfl, _⟩ | ⟨rfl, _⟩ | ⟨rfl, _⟩ | ⟨rfl, _⟩ | ⟨rfl, _⟩ | ⟨rfl, _⟩ | ⟨rfl, _⟩ | ⟨rfl, _⟩ | ⟨rfl, _⟩ | ⟨rfl, _⟩ | ⟨rfl, _⟩ | ⟨rfl, _⟩ | ⟨rfl, _⟩ | ⟨rfl, _⟩ | ⟨rfl, _⟩ | ⟨rfl, _⟩ | ⟨rfl, _⟩ | ⟨rfl, _⟩ | ⟨rfl, _⟩ | ⟨rfl, _⟩ | ⟨rfl, _⟩ | ⟨rfl, _⟩ | ⟨rfl, _⟩ | ⟨rfl, _⟩ | ⟨rfl, _⟩ | ⟨rfl, _⟩ | ⟨rfl, _⟩ | ⟨rfl, _⟩ | ⟨rfl, _⟩ | ⟨rfl, _⟩
  · exact ⟨_, rowFor4 val h hl⟩
  · exact ⟨_, rowFor6 val h hl⟩
  · exact ⟨_, rowFor33 val h hl⟩
  · exact ⟨_, rowFor41 val h hl⟩
  · exact ⟨_, rowFor42 val h hl⟩
  · exact ⟨_, rowFor43 val h hl⟩
  · exact ⟨_, rowFor53 val h hl⟩
  · exact ⟨_, rowFor54 val h hl⟩
  · exact ⟨_, rowFor55 val h hl⟩
  · exact ⟨_, rowFor56 val h hl⟩
  · exact ⟨_, rowFor132 val h hl⟩
  · exact ⟨_, rowFor273 val h hl⟩
  · exact ⟨_, rowFor276 val h hl⟩
  · exact ⟨_, rowFor280 val h hl⟩
  · exact ⟨_, rowFor281 val h hl⟩
  · exact ⟨_, rowFor290 val h hl⟩
  · exact ⟨_, rowFor301 val h hl⟩
  · exact ⟨_, rowFor302 val h hl⟩
  · exact ⟨_, rowFor400 val h hl⟩
  · have := h.simple.free (by decide); omega
  · exact ⟨_, rowFor443 val h hl⟩
  · exact absurd rfl (h.simple.fixed (by decide)).2.1
  · exact absurd rfl (h.simple.fixed (by decide)).2.2
  · have := h.simple.free (by decide); omega
  · have := h.simple.free (by decide); omega
  · exact ⟨_, rowFor448 val h hl⟩
  · exact ⟨_, rowFor449 val h hl⟩
  · exact ⟨_, rowFor454 val h hl⟩
  · exact ⟨_, rowFor460 val h hl⟩
  · exact ⟨_, rowFor461 val h hl⟩
  · exact ⟨_, rowFor465 val h hl⟩
  · have := h.simple.free (by decide); omega
  · exact ⟨_, rowFor477 val h hl⟩
  · exact ⟨_, rowFor478 val h hl⟩
  · exact ⟨_, rowFor480 val h hl⟩
  · have := h.simple.free (by decide); omega
  · exact ⟨_, rowFor777 val h hl⟩
  · exact ⟨_, rowFor7367777 val h hl⟩
end Go.Proofs.YtgodhbgnhapemaaGreatDoor
