/- The tables that the reading of numbers reads, as cells. -/
import Derived.Test.YtodihpaabkplhaaGreatDoorPmv
import Derived.Test.YtodihpaabkplhaaGreatDoorPfl
namespace Go.Proofs.YtodihpaabkplhaaGreatDoor
open Go.RowKit

/-- Where the rows of leftcheats, powtab and float64pow10 lie. -/
structure Spots where
  cb : Nat
  co : Nat
  pb : Nat
  po : Nat
  fb : Nat
  fo : Nat
structure Tab2 (s : Spots) (w : World) : Prop where
  tabs : Tabs s.cb s.co w
  pow : w.cell? ⟨7, 0, none⟩ = some (.slice (some ⟨s.pb, s.po, none⟩) 9 9)
  powc : ∀ i, i < 9 → w.cell? ⟨s.pb, s.po + i, none⟩ = some (.int .i64 ((powT i : Nat) : Int))
  ten : w.cell? ⟨8, 0, none⟩ = some (.slice (some ⟨s.fb, s.fo, none⟩) 23 23)
  tenc : ∀ i, i < 23 → w.cell? ⟨s.fb, s.fo + i, none⟩ = some (.float .f64 (tenF i))
  inf0 : w.cell? ⟨5, 0, none⟩ = some (.int .u64 52)
  inf1 : w.cell? ⟨5, 1, none⟩ = some (.int .u64 11)
  inf2 : w.cell? ⟨5, 2, none⟩ = some (.int .i64 (-1023))
  syn : ∃ te pe, w.cell? ⟨1, 0, none⟩ = some (.iface te pe)
  rng : ∃ te pe, w.cell? ⟨2, 0, none⟩ = some (.iface te pe)
theorem Tab2.below {s : Spots} {W w : World} (h : Tab2 s W) (hb : Below W.heap.size W w) : Tab2 s w where
  tabs := h.tabs.below hb
  pow := cell_kept hb h.pow
  powc := fun i hi => cell_kept hb (h.powc i hi)
  ten := cell_kept hb h.ten
  tenc := fun i hi => cell_kept hb (h.tenc i hi)
  inf0 := cell_kept hb h.inf0
  inf1 := cell_kept hb h.inf1
  inf2 := cell_kept hb h.inf2
  syn := by obtain ⟨te, pe, e⟩ := h.syn; exact ⟨te, pe, cell_kept hb e⟩
  rng := by obtain ⟨te, pe, e⟩ := h.rng; exact ⟨te, pe, cell_kept hb e⟩
end Go.Proofs.YtodihpaabkplhaaGreatDoor
