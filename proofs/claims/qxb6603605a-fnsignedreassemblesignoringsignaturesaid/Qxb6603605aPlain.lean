/-
  THE PLAIN LAW of the two 'signed' statements: no Go in sight.
-/
import Derived.Laws.Strings
namespace Go.Proofs.Qxb6603605a

theorem toList_beq (a b : ByteArray) : (a.toList == b.toList) = true ↔ a = b := by
  simp only [ByteArray.toList_eq, beq_iff_eq]
  constructor
  · intro h
    exact ByteArray.ext (Array.toList_inj.1 h)
  · intro h; rw [h]

theorem toList_bne (a b : ByteArray) : (a.toList == b.toList) = false ↔ ¬ a = b := by
  rw [← toList_beq, Bool.not_eq_true]

/-- The header, a dot, the payload, a dot, the signature. -/
def joined (h p s : ByteArray) : ByteArray := h ++ ⟨#[46]⟩ ++ p ++ ⟨#[46]⟩ ++ s

theorem dot_size : (⟨#[46]⟩ : ByteArray).size = 1 := rfl

theorem joined_size (h p s : ByteArray) : (joined h p s).size = h.size + 1 + p.size + 1 + s.size := by
  simp [joined, ByteArray.size_append, dot_size]

theorem joined_cut (h p s : ByteArray) : (joined h p s).extract 0 (h.size + 1 + p.size) = h ++ ⟨#[46]⟩ ++ p := by
  have e : joined h p s = (h ++ ⟨#[46]⟩ ++ p) ++ (⟨#[46]⟩ ++ s) := by simp [joined, ByteArray.append_assoc]
  rw [e]
  exact ByteArray.extract_append_eq_left (by simp [ByteArray.size_append, dot_size])

end Go.Proofs.Qxb6603605a
