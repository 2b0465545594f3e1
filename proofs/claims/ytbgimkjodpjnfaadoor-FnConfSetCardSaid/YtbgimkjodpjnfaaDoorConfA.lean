/- A configuration of the package in memory, as data with disjoint footprints; each opening is an equivalence with its cells. No condition. -/
import Derived.Test.YtbgimkjodpjnfaaDoorSep
import Derived.Test.YtbgimkjodpjnfaaDoorShelf
namespace Go.Proofs.YtbgimkjodpjnfaaDoor.Conf
open Go.RowKit Go.Proofs.YtbgimkjodpjnfaaDoorW.PrintWords Go.Proofs.YtbgimkjodpjnfaaDoor.Sep Go.Proofs.YtbgimkjodpjnfaaDoor.PFnConfSet

def sOpt : Sd S45 := Sd.iso (Sd.pair Sd.str Sd.str) (fun o => (o.f0, o.f1))
def pOpt : Sd S45 := Sd.ptr 109 sOpt
def sOpts : Sd (List S45) := Sd.row 108 pOpt
def sSub : Sd S47 := Sd.iso (Sd.pair Sd.str sOpts) (fun o => (o.f0, o.f1))
def pSub : Sd S47 := Sd.ptr 88 sSub
def sSubs : Sd (List S47) := Sd.row 71 pSub
def sSec : Sd S41 := Sd.iso (Sd.pair Sd.str (Sd.pair sOpts sSubs)) (fun o => (o.f0, o.f1, o.f2))
def pSec : Sd S41 := Sd.ptr 85 sSec
def sSecs : Sd (List S41) := Sd.row 67 pSec
def sCfg : Sd (List S41) := Sd.iso (Sd.pair (Sd.con (.pointer none) rfl) (Sd.pair sSecs (Sd.con (.slice none 0 0) rfl))) (fun l => ((), l, ()))
def pCfg : Sd (List S41) := Sd.ptr 79 sCfg

theorem pOpt_open {w : World} {F : Nat → Prop} {o : S45} {p : Value} (h : pOpt.M w F o [p]) : ∃ b, p = .pointer (some ⟨b, 0, none⟩) ∧ F b ∧ w.heap[b]? = some (.cells #[.string o.f0, .string o.f1] 109 (0, 0)) := by
  obtain ⟨b, cells, hp, hb, hc, hd⟩ := h
  obtain rfl : p = _ := by simpa using hp
  obtain ⟨F1, F2, c0, c1, e, _, _, _, h0, h1⟩ := hd
  refine ⟨b, rfl, hb, ?_⟩
  rw [hc]
  obtain ⟨cs⟩ := cells
  simp only at e
  rw [e, h0, h1]
  rfl
theorem pOpt_mk {w : World} {F : Nat → Prop} (o : S45) {b : Nat} (hb : F b) (hc : w.heap[b]? = some (.cells #[.string o.f0, .string o.f1] 109 (0, 0))) : pOpt.M w F o [.pointer (some ⟨b, 0, none⟩)] :=
  ⟨b, _, rfl, hb, hc, fun _ => False, fun _ => False, [.string o.f0], [.string o.f1], rfl, fun _ h => h.elim, fun _ h => h.elim, fun _ h => h.elim, rfl, rfl⟩

theorem pSub_open {w : World} {F : Nat → Prop} {o : S47} {p : Value} (h : pSub.M w F o [p]) : ∃ b v, ∃ G : Nat → Prop, p = .pointer (some ⟨b, 0, none⟩) ∧ F b ∧ w.heap[b]? = some (.cells #[.string o.f0, v] 88 (0, 0)) ∧ sOpts.M w G o.f1 [v] ∧ ∀ k, G k → F k ∧ k ≠ b := by
  obtain ⟨b, cells, hp, hb, hc, hd⟩ := h
  obtain rfl : p = _ := by simpa using hp
  obtain ⟨F1, F2, c0, c1, e, _, hF2, _, h0, h1⟩ := hd
  obtain ⟨v, hv⟩ : ∃ v, c1 = [v] := List.length_eq_one_iff.1 (sOpts.len h1)
  subst hv
  refine ⟨b, v, F2, rfl, hb, ?_, h1, hF2⟩
  rw [hc]
  obtain ⟨cs⟩ := cells
  simp only at e
  rw [e, h0]
  rfl
theorem pSub_mk {w : World} {F G : Nat → Prop} (o : S47) {b : Nat} {v : Value} (hb : F b) (hc : w.heap[b]? = some (.cells #[.string o.f0, v] 88 (0, 0))) (h : sOpts.M w G o.f1 [v]) (hG : ∀ k, G k → F k ∧ k ≠ b) : pSub.M w F o [.pointer (some ⟨b, 0, none⟩)] :=
  ⟨b, _, rfl, hb, hc, fun _ => False, G, [.string o.f0], [v], rfl, fun _ h => h.elim, hG, fun _ h => h.elim, rfl, h⟩

theorem pSec_open {w : World} {F : Nat → Prop} {o : S41} {p : Value} (h : pSec.M w F o [p]) : ∃ b v u, ∃ G H : Nat → Prop, p = .pointer (some ⟨b, 0, none⟩) ∧ F b ∧ w.heap[b]? = some (.cells #[.string o.f0, v, u] 85 (0, 0)) ∧ sOpts.M w G o.f1 [v] ∧ sSubs.M w H o.f2 [u] ∧ (∀ k, G k → F k ∧ k ≠ b) ∧ (∀ k, H k → F k ∧ k ≠ b) ∧ (∀ k, G k → H k → False) := by
  obtain ⟨b, cells, hp, hb, hc, hd⟩ := h
  obtain rfl : p = _ := by simpa using hp
  obtain ⟨F1, F2, c0, c1, e, _, hF2, _, h0, h1⟩ := hd
  obtain ⟨G, H, c2, c3, e2, hG, hH, hGH, h2, h3⟩ := h1
  obtain ⟨v, hv⟩ : ∃ v, c2 = [v] := List.length_eq_one_iff.1 (sOpts.len h2)
  obtain ⟨u, hu⟩ : ∃ v, c3 = [v] := List.length_eq_one_iff.1 (sSubs.len h3)
  subst hv hu
  refine ⟨b, v, u, G, H, rfl, hb, ?_, h2, h3, fun k hk => hF2 k (hG k hk), fun k hk => hF2 k (hH k hk), hGH⟩
  rw [hc]
  obtain ⟨cs⟩ := cells
  simp only at e
  rw [e, h0, e2]
  rfl
theorem pSec_mk {w : World} {F G H : Nat → Prop} (o : S41) {b : Nat} {v u : Value} (hb : F b) (hc : w.heap[b]? = some (.cells #[.string o.f0, v, u] 85 (0, 0))) (h1 : sOpts.M w G o.f1 [v]) (h2 : sSubs.M w H o.f2 [u]) (hG : ∀ k, G k → F k ∧ k ≠ b) (hH : ∀ k, H k → F k ∧ k ≠ b) (hGH : ∀ k, G k → H k → False) : pSec.M w F o [.pointer (some ⟨b, 0, none⟩)] :=
  ⟨b, _, rfl, hb, hc, fun _ => False, fun k => F k ∧ k ≠ b, [.string o.f0], [v, u], rfl, fun _ h => h.elim, fun _ h => h, fun _ h => h.elim, rfl, G, H, [v], [u], rfl, hG, hH, hGH, h1, h2⟩

theorem pCfg_open {w : World} {F : Nat → Prop} {l : List S41} {p : Value} (h : pCfg.M w F l [p]) : ∃ b v, ∃ G : Nat → Prop, p = .pointer (some ⟨b, 0, none⟩) ∧ F b ∧ w.heap[b]? = some (.cells #[.pointer none, v, .slice none 0 0] 79 (0, 0)) ∧ sSecs.M w G l [v] ∧ ∀ k, G k → F k ∧ k ≠ b := by
  obtain ⟨b, cells, hp, hb, hc, hd⟩ := h
  obtain rfl : p = _ := by simpa using hp
  obtain ⟨F1, F2, c0, c1, e, _, hF2, _, h0, h1⟩ := hd
  obtain ⟨G, H, c2, c3, e2, hG, hH, hGH, h2, h3⟩ := h1
  obtain ⟨v, hv⟩ : ∃ v, c2 = [v] := List.length_eq_one_iff.1 (sSecs.len h2)
  subst hv
  refine ⟨b, v, G, rfl, hb, ?_, h2, fun k hk => hF2 k (hG k hk)⟩
  rw [hc]
  obtain ⟨cs⟩ := cells
  simp only at e
  rw [e, h0, e2, h3]
  rfl
theorem pCfg_mk {w : World} {F G : Nat → Prop} (l : List S41) {b : Nat} {v : Value} (hb : F b) (hc : w.heap[b]? = some (.cells #[.pointer none, v, .slice none 0 0] 79 (0, 0))) (h : sSecs.M w G l [v]) (hG : ∀ k, G k → F k ∧ k ≠ b) : pCfg.M w F l [.pointer (some ⟨b, 0, none⟩)] :=
  ⟨b, _, rfl, hb, hc, fun _ => False, fun k => F k ∧ k ≠ b, [.pointer none], [v, .slice none 0 0], rfl, fun _ h => h.elim, fun _ h => h, fun _ h => h.elim, rfl, G, fun _ => False, [v], [.slice none 0 0], rfl, hG, fun _ h => h.elim, fun _ _ h => h, h, rfl⟩

/-- A word: small letters alone. -/
def Word (s : ByteArray) : Prop := s.size ≤ 1000 ∧ ∀ (j : Nat) (b : UInt8), s.data.toList[j]? = some b → 97 ≤ b.toNat ∧ b.toNat ≤ 122
theorem fold_words : ∀ (a b : List UInt8), (∀ (j : Nat) x, a[j]? = some x → 97 ≤ x.toNat ∧ x.toNat ≤ 122) → (∀ (j : Nat) x, b[j]? = some x → 97 ≤ x.toNat ∧ x.toNat ≤ 122) → Lib.equalFold a b = (a == b)
  | [], [], _, _ => rfl
  | [], _ :: _, _, _ => rfl
  | _ :: _, [], _, _ => rfl
  | x :: a, y :: b, ha, hb => by
    have hx := ha 0 x rfl
    have hy := hb 0 y rfl
    have ih := fold_words a b (fun j z hz => ha (j + 1) z (by simpa using hz)) (fun j z hz => hb (j + 1) z (by simpa using hz))
    unfold Lib.equalFold
    rw [ih]
    have hf : Lib.foldEq x y = (x == y) := by
      unfold Lib.foldEq
      rw [Bool.eq_iff_iff, decide_eq_true_iff, beq_iff_eq]
      constructor
      · intro h
        exact UInt8.toNat_inj.1 (by omega)
      · rintro rfl
        exact .inl rfl
    rw [hf]
    simp
/-- Two texts are the same bytes. -/
def eqs (a b : ByteArray) : Bool := a.toList == b.toList
theorem eqs_iff {a b : ByteArray} : eqs a b = true ↔ a = b := by
  unfold eqs
  rw [beq_iff_eq, ByteArray.toList_eq, ByteArray.toList_eq]
  constructor
  · intro h
    obtain ⟨⟨a⟩⟩ := a
    obtain ⟨⟨b⟩⟩ := b
    simp_all
  · rintro rfl
    rfl
theorem fold_word {a b : ByteArray} (ha : Word a) (hb : Word b) (w : World) : Calls Tryd.prog 70 #[.string a, .string b] w fun e w' => e = .returned (.bool (eqs a b)) ∧ w = w' := by
  refine (Tryd.strings_EqualFold a b w (by have := ha.1; omega) (fun j x hx => by have := ha.2 j x hx; omega) (fun j x hx => by have := hb.2 j x hx; omega)).mono ?_
  rintro e w' ⟨rfl, rfl⟩
  exact ⟨by rw [fold_words _ _ ha.2 hb.2]; unfold eqs; rw [ByteArray.toList_eq, ByteArray.toList_eq], rfl⟩
end Go.Proofs.YtbgimkjodpjnfaaDoor.Conf
