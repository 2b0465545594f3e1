/- The text of a request is short, and no error line. -/
import Derived.Test.YtbgimkjodpjnfaaDoorProtoS
namespace Go.Proofs.YtbgimkjodpjnfaaDoor.Proto
open Go.RowKit Go.Proofs.YtbgimkjodpjnfaaDoorW.PrintWords Go.Proofs.YtbgimkjodpjnfaaDoorW.PrintLast Go.Proofs.YtbgimkjodpjnfaaDoorW.PrintMore Go.Proofs.YtbgimkjodpjnfaaDoor.PFnProtoFirstRead

theorem joinZ_len (z : UInt8) : ∀ (ps : List (List UInt8)), (∀ a ∈ ps, a.length ≤ 65) → (joinZ z ps).length ≤ 66 * ps.length
  | [], _ => by simp [joinZ]
  | [a], h => by have := h a (by simp); simp [joinZ]; omega
  | a :: b :: r, h => by
    have := h a (by simp)
    have ih := joinZ_len z (b :: r) (fun x hx => h x (List.mem_cons_of_mem _ hx))
    rw [joinZ_cons _ _ _ (by simp)]
    simp only [List.length_append, List.length_cons] at ih ⊢
    omega
theorem parts_short (p h : ByteArray) (e : List ByteArray) (hp : IsW p) (hh : h.toList = [] ∨ IsW h) (he : ∀ x ∈ e, IsW x) : ∀ a ∈ L p :: part1 h :: parts2 h e, a.length ≤ 65 := by
  have hw : ∀ x, IsW x → (L x).length ≤ 60 := fun x hx => (isW_len hx).2
  have hlast : ∀ a ∈ e.map L ++ [[]], a.length ≤ 65 := fun a ha => by
    rcases List.mem_append.1 ha with ha | ha
    · obtain ⟨x, hx, rfl⟩ := List.mem_map.1 ha
      have := hw x (he x hx)
      omega
    · rw [List.mem_singleton.1 ha]; simp
  intro a ha
  rcases List.mem_cons.1 ha with rfl | ha
  · have := hw p hp; omega
  rcases List.mem_cons.1 ha with rfl | ha
  · unfold part1
    split
    · simp
    · rename_i c
      have := hw h (hh.resolve_left c)
      unfold hostEq
      simp only [List.length_append, List.length_cons, List.length_nil]
      omega
  · unfold parts2 at ha
    split at ha
    · split at ha
      · simp at ha
      · exact hlast a ha
    · split at ha
      · rw [List.mem_singleton.1 ha]; simp
      · rcases List.mem_cons.1 ha with rfl | ha
        · simp
        · exact hlast a ha
theorem protoT_len (c p h : ByteArray) (e : List ByteArray) (hc : IsW c) (hp : IsW p) (hh : h.toList = [] ∨ IsW h) (he : ∀ x ∈ e, IsW x) (h9 : e.length ≤ 9) : 0 < (L (protoT c p h e)).length ∧ (L (protoT c p h e)).length ≤ 919 := by
  have h1 := isW_len hc
  have h2 := joinZ_len 0 _ (parts_short p h e hp hh he)
  have h3 := parts2_len h e
  rw [protoT_list]
  simp only [List.length_append, List.length_cons] at h2 ⊢
  omega
theorem protoT_noErr (c p h : ByteArray) (e : List ByteArray) (hc : IsW c) (hne : c.toList ≠ [69, 82, 82]) : (L (protoT c p h e)).take 4 ≠ errBytes := by
  rw [protoT_list]
  have hm : ∀ b ∈ L c, b ≠ 32 := fun b hb => (isW_mem hc hb).2
  rw [ByteArray.toList_eq] at hne
  change L c ≠ _ at hne
  have hl := (isW_len hc).1
  intro h4
  generalize L c = l at hm hne hl h4
  unfold errBytes at h4
  match l, hm, hne, hl, h4 with
  | [], _, _, hl, _ => simp at hl
  | [a], _, _, _, h4 => simp at h4
  | [a, b], _, _, _, h4 => simp at h4
  | [a, b, d], _, hne, _, h4 => simp at h4; obtain ⟨rfl, rfl, rfl⟩ := h4; exact hne rfl
  | a :: b :: d :: f :: r, hm, _, _, h4 => simp at h4; exact hm f (by simp) h4.2.2.2
end Go.Proofs.YtbgimkjodpjnfaaDoor.Proto
