/-
  A path's last segment without its extension: cutting at the last dot; no program in sight (no conditions).
-/
import Derived.Test.YtejdbjfniepomaaDoorLast
namespace Go.Proofs.YtejdbjfniepomaaDoor

/-- What stands ahead of the last dot; the whole where there is none. -/
def cutDot (l : List UInt8) : List UInt8 := match (l.reverse.dropWhile (· != 46)) with
  | [] => l
  | _ :: r => r.reverse
theorem cutDot_none (l : List UInt8) (h : (46 : UInt8) ∉ l) : cutDot l = l := by
  unfold cutDot
  have : l.reverse.dropWhile (· != 46) = [] := by
    have hp : ∀ b ∈ l.reverse, (b != 46) = true := by
      intro b hb
      rw [bne_iff_ne]
      exact fun e => h (by rw [← e]; exact List.mem_reverse.1 hb)
    have := List.dropWhile_append_of_pos (l₂ := []) hp
    rw [List.append_nil] at this
    exact this
  rw [this]
theorem cutDot_some (a b : List UInt8) (h : (46 : UInt8) ∉ b) : cutDot (a ++ 46 :: b) = a := by
  unfold cutDot
  have : (a ++ 46 :: b).reverse.dropWhile (· != 46) = 46 :: a.reverse := by
    rw [List.reverse_append, List.reverse_cons, List.append_assoc, List.dropWhile_append_of_pos]
    · rfl
    · intro c hc
      rw [bne_iff_ne]
      exact fun e => h (by rw [← e]; exact List.mem_reverse.1 hc)
  rw [this]
  exact List.reverse_reverse a

end Go.Proofs.YtejdbjfniepomaaDoor
