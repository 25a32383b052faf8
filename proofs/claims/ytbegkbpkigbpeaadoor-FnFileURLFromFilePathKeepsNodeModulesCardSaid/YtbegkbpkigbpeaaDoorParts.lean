/-
  The contract of the shim that hands out the fields of the URL made from a file path; conditions: the size that it names.
-/
import Derived.Test.YtbegkbpkigbpeaaDoorUrl
namespace Go.Proofs.YtbegkbpkigbpeaaDoor
open Go.RowKit

def parts (p : ByteArray) : Value := .tuple #[.string ⟨#[102, 105, 108, 101]⟩, .string ⟨#[]⟩, .string ⟨#[]⟩, .string p, .string ⟨#[]⟩, .string ⟨#[]⟩, .string ⟨#[]⟩, .string ⟨#[]⟩, .bool false, .bool false, .bool false]

set_option maxHeartbeats 1000000 in
theorem parts_any (s : ByteArray) (w : World) (hs : s.size ≤ 134217728) :
    Calls Tryd.prog 5 #[.string s] w fun e w' => e = .returned (parts (S (upath s.data.toList))) ∧ Below w.heap.size w w' := by
  go_enter Tryd.func5, Tryd.ntmps5
  go_wp2_with fail
  refine (fileURL_any s _ hs).mono ?_
  rintro e w1 ⟨b, rfl, hb, hbel⟩
  have hc : ∀ j, w1.cell? ⟨b, j, none⟩ = (urlCells (S (upath s.data.toList)))[j]? := fun j => cell_of_row w1 b j _ _ _ hb
  have c0 : w1.cell? ⟨b, 0, none⟩ = some (.string ⟨#[102, 105, 108, 101]⟩) := hc 0
  have c1 : w1.cell? ⟨b, 1, none⟩ = some (.string ⟨#[]⟩) := hc 1
  have c2 : w1.cell? ⟨b, 2, none⟩ = some (.pointer none) := hc 2
  have c3 : w1.cell? ⟨b, 3, none⟩ = some (.string ⟨#[]⟩) := hc 3
  have c4 : w1.cell? ⟨b, 4, none⟩ = some (.string (S (upath s.data.toList))) := hc 4
  have c5 : w1.cell? ⟨b, 5, none⟩ = some (.string ⟨#[]⟩) := hc 5
  have c6 : w1.cell? ⟨b, 6, none⟩ = some (.string ⟨#[]⟩) := hc 6
  have c7 : w1.cell? ⟨b, 7, none⟩ = some (.string ⟨#[]⟩) := hc 7
  have c8 : w1.cell? ⟨b, 8, none⟩ = some (.string ⟨#[]⟩) := hc 8
  have c9 : w1.cell? ⟨b, 9, none⟩ = some (.bool false) := hc 9
  have c10 : w1.cell? ⟨b, 10, none⟩ = some (.bool false) := hc 10
  clear hb hc
  go_wp2_with fail
  go_quiet (fail)
  go_wp2_with fail
  exact bodyPost_ret (v := parts (S (upath s.data.toList))) (by simp [parts, results, Tryd.results5, go_sem]) rfl ⟨rfl, hbel.trans ⟨rfl, rfl, rfl, Nat.le_refl _, fun _ _ => rfl⟩⟩

end Go.Proofs.YtbegkbpkigbpeaaDoor
