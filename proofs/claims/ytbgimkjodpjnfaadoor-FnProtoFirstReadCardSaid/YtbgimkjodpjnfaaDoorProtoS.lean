/- What the text of a request says: for words. -/
import Derived.Test.YtbgimkjodpjnfaaDoorProtoR
namespace Go.Proofs.YtbgimkjodpjnfaaDoor.Proto
open Go.RowKit Go.Proofs.YtbgimkjodpjnfaaDoorW.PrintWords Go.Proofs.YtbgimkjodpjnfaaDoorW.PrintLast Go.Proofs.YtbgimkjodpjnfaaDoorW.PrintMore Go.Proofs.YtbgimkjodpjnfaaDoor.PFnProtoFirstRead

theorem L_size (a : ByteArray) : (L a).length = a.size := by
  show a.data.toList.length = a.data.size
  simp
theorem last_zero (l pre : List UInt8) (h : l = pre ++ [0]) (hi : l.length - 1 < (⟨l.toArray⟩ : ByteArray).size) : ((⟨l.toArray⟩ : ByteArray)[l.length - 1]'hi).toNat = 0 := by
  subst h
  show ((pre ++ [0]).toArray[(pre ++ [0]).length - 1]'hi).toNat = 0
  simp
theorem isW_mem {a : ByteArray} (h : IsW a) {b : UInt8} (hb : b ∈ L a) : b ≠ 0 ∧ b ≠ 32 := by
  obtain ⟨i, hi, rfl⟩ := List.getElem_of_mem hb
  have hi2 : i < a.size := by rw [← L_size]; exact hi
  have hg := h.2.2 i hi2
  have e : bt a (i : Int) = (((L a)[i]).toNat : Int) := by
    exact (bt_at a (i : Int) hi2).symm.trans rfl
  rw [e] at hg
  unfold goodB at hg
  refine ⟨fun h0 => ?_, fun h0 => ?_⟩ <;> rw [h0] at hg <;> simp at hg
theorem isW_len {a : ByteArray} (h : IsW a) : 1 ≤ (L a).length ∧ (L a).length ≤ 60 := by
  rw [L_size]
  exact ⟨h.1, h.2.1⟩
theorem full_extra (e : List ByteArray) (he : ∀ x ∈ e, IsW x) : full e = e := by
  unfold full
  rw [List.filter_eq_self]
  intro x hx
  have := isW_len (he x hx)
  rw [ByteArray.toList_eq]
  cases h : x.data.toList with
  | nil => rw [show L x = [] from h] at this; simp at this
  | cons => rfl
theorem full_parts2 (h : ByteArray) (e : List ByteArray) (he : ∀ x ∈ e, IsW x) : full ((parts2 h e).map mkB) = e := by
  have m : (e.map L).map mkB = e := by
    rw [List.map_map]
    exact (List.map_congr_left fun x _ => mkB_nil x).trans (List.map_id e)
  have z : full [mkB []] = [] := by unfold full; simp [mkB_toList]
  have ap : ∀ a b, full (a ++ b) = full a ++ full b := fun a b => by unfold full; simp
  unfold parts2
  by_cases hh : h.toList = []
  · by_cases h0 : e = []
    · rw [if_pos hh, if_pos h0, h0]; rfl
    · rw [if_pos hh, if_neg h0, List.map_append, m, ap, full_extra e he]
      show e ++ full [mkB []] = e
      rw [z, List.append_nil]
  · by_cases h0 : e = []
    · rw [if_neg hh, if_pos h0, h0]; exact z
    · rw [if_neg hh, if_neg h0, List.map_cons, List.map_append, m, ← List.singleton_append, ap, ap, full_extra e he, z]
      show [] ++ (e ++ full [mkB []]) = e
      rw [z]; simp
theorem parts2_len (h : ByteArray) (e : List ByteArray) : (parts2 h e).length ≤ e.length + 2 := by
  unfold parts2
  repeat' split
  all_goals simp
theorem parts_no (p h : ByteArray) (e : List ByteArray) (hp : IsW p) (hh : h.toList = [] ∨ IsW h) (he : ∀ x ∈ e, IsW x) : ∀ a ∈ L p :: part1 h :: parts2 h e, (0 : UInt8) ∉ a := by
  have hw : ∀ x, IsW x → (0 : UInt8) ∉ L x := fun x hx hm => (isW_mem hx hm).1 rfl
  have he2 : ∀ a ∈ e.map L, (0 : UInt8) ∉ a := fun a ha => by
    obtain ⟨x, hx, rfl⟩ := List.mem_map.1 ha
    exact hw x (he x hx)
  have hn : (0 : UInt8) ∉ ([] : List UInt8) := by simp
  intro a ha
  rcases List.mem_cons.1 ha with rfl | ha
  · exact hw p hp
  rcases List.mem_cons.1 ha with rfl | ha
  · unfold part1
    split
    · exact hn
    · rename_i c
      unfold hostEq
      intro hm
      rcases List.mem_append.1 hm with hm | hm
      · simp at hm
      · exact hw h (hh.resolve_left c) hm
  · unfold parts2 at ha
    have hlast : ∀ a ∈ e.map L ++ [[]], (0 : UInt8) ∉ a := fun a ha => by
      rcases List.mem_append.1 ha with ha | ha
      · exact he2 a ha
      · rw [List.mem_singleton.1 ha]; exact hn
    split at ha
    · split at ha
      · simp at ha
      · exact hlast a ha
    · split at ha
      · rw [List.mem_singleton.1 ha]; exact hn
      · rcases List.mem_cons.1 ha with rfl | ha
        · exact hn
        · exact hlast a ha
theorem says (c p h : ByteArray) (e : List ByteArray) (hc : IsW c) (hp : IsW p) (hh : h.toList = [] ∨ IsW h) (he : ∀ x ∈ e, IsW x) (h9 : e.length ≤ 9) (hs : (L (protoT c p h e)).length ≤ 1000) :
    Says (L (protoT c p h e)) c p (mkB (part1 h)) h ((parts2 h e).map mkB) := by
  have hl := protoT_list c p h e
  have hlen : (joinZ 0 (L p :: part1 h :: parts2 h e)).length ≤ 1000 := by rw [hl] at hs; simp at hs; omega
  refine ⟨?_, ?_, ?_⟩
  · intro hi
    obtain ⟨ps, hps, e1⟩ := parts_last (L p) h e
    obtain ⟨pre, e2⟩ := joinZ_last ps hps
    exact last_zero _ (L c ++ 32 :: pre) (by rw [hl, e1, e2]; simp) hi
  · have h1 := splitN_ev (L c) (joinZ 0 (L p :: part1 h :: parts2 h e)) 32 (fun hm => (isW_mem hc hm).2 rfl) (by rw [← hl]; omega)
    have h2 := split_ev 0 (L p :: part1 h :: parts2 h e) [] (by simp) (parts_no p h e hp hh he) (by omega) (by have := parts2_len h e; simp only [List.length_cons, List.length_nil]; omega)
    rw [← hl] at h1
    obtain ⟨k1, g1⟩ := h1.rounds
    obtain ⟨k2, g2⟩ := h2.rounds
    refine ⟨k1, mkB (joinZ 0 (L p :: part1 h :: parts2 h e)), ?_, k2, ?_⟩
    · rw [mkB_nil c] at g1; exact g1
    · rw [List.nil_append, List.map_cons, List.map_cons, mkB_nil p] at g2; exact g2
  · unfold part1
    by_cases c0 : h.toList = []
    · rw [if_pos c0]
      have : h = mkB [] := by
        rw [ByteArray.toList_eq] at c0
        rw [← mkB_nil h, c0]
      rw [this]
      exact trim_none
    · rw [if_neg c0]
      have := trim_ev (L h)
      rwa [mkB_nil h] at this
end Go.Proofs.YtbgimkjodpjnfaaDoor.Proto
