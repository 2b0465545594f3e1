/- SetOption of a configuration. -/
import Derived.Test.YtbgimkjodpjnfaaDoorConfI
namespace Go.Proofs.YtbgimkjodpjnfaaDoor.Conf
open Go.RowKit Go.Proofs.YtbgimkjodpjnfaaDoorW.PrintWords Go.Proofs.YtbgimkjodpjnfaaDoorW.PrintMore Go.Proofs.YtbgimkjodpjnfaaDoor.Sep Go.Proofs.YtbgimkjodpjnfaaDoor.PFnConfSet

def GoodOpts (os : List S45) : Prop := os.length ≤ 4294967296 ∧ ∀ o ∈ os, Word o.f0
def GoodSub (x : S47) : Prop := GoodOpts x.f1
def GoodSec (s : S41) : Prop := Word s.f0 ∧ GoodOpts s.f1 ∧ s.f2.length ≤ 4294967296 ∧ ∀ x ∈ s.f2, GoodSub x
def Good (l : List S41) : Prop := l.length ≤ 4294967296 ∧ ∀ s ∈ l, GoodSec s
theorem good_nil : GoodOpts [] := ⟨by simp, fun _ h => by cases h⟩
theorem PickP.get {α : Type} {nm : α → ByteArray} {new : α} {l : List α} {name : ByteArray} {l' : List α} {i : Nat} {x : α} (h : PickP nm new l name l' i x) : l'[i]? = some x := by
  rcases h with ⟨rfl, h, _⟩ | ⟨_, rfl, rfl, rfl⟩
  · exact h
  · simp
theorem PickP.all {α : Type} {nm : α → ByteArray} {new : α} {l : List α} {name : ByteArray} {l' : List α} {i : Nat} {x : α} (h : PickP nm new l name l' i x) {Q : α → Prop} (hQ : ∀ y ∈ l, Q y) (hn : Q new) : Q x := by
  rcases h with ⟨rfl, h, _⟩ | ⟨_, rfl, rfl, rfl⟩
  · exact hQ _ (List.mem_of_getElem? h)
  · exact hn
def SetP (l : List S41) (section_ sub key value : ByteArray) (l2 : List S41) : Prop :=
  ∃ l' i x, PickP S41.f0 ⟨section_, [], []⟩ l section_ l' i x ∧ (sub.toList = [] → l2 = l'.set i ⟨x.f0, setOpts x.f1 key value, x.f2⟩) ∧
    (sub.toList ≠ [] → ∃ m' j y, PickP S47.f0 ⟨sub, []⟩ x.f2 sub m' j y ∧ l2 = l'.set i ⟨x.f0, x.f1, m'.set j ⟨y.f0, setOpts y.f1 key value⟩⟩)
def CfgOut (w0 : World) (F : Nat → Prop) (l : List S41) (p : Value) (section_ sub key value : ByteArray) (e : Ending) (w : World) : Prop :=
  e = .returned p ∧ ∃ l2, pCfg.M w (fun k => F k ∨ w0.heap.size ≤ k) l2 [p] ∧ SetP l section_ sub key value l2 ∧ Keep w0 w F

set_option maxHeartbeats 1000000 in
set_option maxRecDepth 100000 in
theorem cfgSet_calls {w : World} {F : Nat → Prop} {l : List S41} {p : Value} (h : pCfg.M w F l [p]) (hg : Good l) (section_ sub key value : ByteArray) (hs : Word section_) (hk : Word key) :
    Calls Tryd.prog 26 #[p, .string section_, .string sub, .string key, .string value] w (CfgOut w F l p section_ sub key value) := by
  have HC := Aside0.mk (section_calls h (by have := hg.1; omega) section_ (fun s hs => (hg.2 s hs).1) hs)
  have HG := Aside0.mk hg
  have HS := Aside0.mk hs
  have HK := Aside0.mk hk
  have HN : Aside0 (GoodSec ⟨section_, [], []⟩) := ⟨hs, good_nil, by simp, fun _ h => by cases h⟩
  clear h hg hs hk
  by_cases hsub : sub.toList = []
  · have h1 : sub.toList.isEmpty = true := by rw [hsub]; rfl
    have h2 : (sub.toList == []) = true := by rw [hsub]; rfl
    have HX := Aside0.mk hsub
    clear hsub
    go_enter Tryd.func26, Tryd.ntmps26
    go_wp2_with (first
      | (go_at_call 36; refine HC.out.mono ?_; rintro e w1 ⟨l', i, x, r, Fi, rfl, hp, hsp, hke⟩; have hgx := hp.all HG.out.2 HN.out; have HG2 := Aside0.mk hgx; clear hgx)
      | (go_at_call 45; refine (secSet_calls hsp.1 (by have := HG2.out.2.1.1; omega) key value HG2.out.2.1.2 HK.out).mono ?_; rintro e w2 ⟨rfl, hm2, hk2⟩; have HM2 := Aside0.mk hm2; clear hm2))
    go_ret
    exact ⟨rfl, _, hsp.2.2 w2 _ _ hk2 HM2.out (fun k hk => hk), ⟨l', i, x, hp, fun _ => rfl, fun h => absurd HX.out h⟩, hke.trans hk2 (fun k hlt hk => by rcases (hsp.2.1 k hk).1 with h | h; exact h; omega)⟩
  · have h1 : sub.toList.isEmpty = false := by cases h : sub.toList <;> simp_all
    have h2 : (sub.toList == []) = false := by cases h : sub.toList <;> simp_all
    have HX := Aside0.mk hsub
    clear hsub
    go_enter Tryd.func26, Tryd.ntmps26
    go_wp2_with (first
      | (go_at_call 36; refine HC.out.mono ?_; rintro e w1 ⟨l', i, x, r, Fi, rfl, hp, hsp, hke⟩; have hgx := hp.all HG.out.2 HN.out; have HG2 := Aside0.mk hgx; clear hgx)
      | (go_at_call 39; refine (subsection_calls hsp.1 (by have := HG2.out.2.2.1; omega) sub).mono ?_; rintro e w2 ⟨m', j, y, r2, Fj, rfl, hp2, hsp2, hke2⟩; have HG3 := Aside0.mk (hp2.all HG2.out.2.2.2 (Q := GoodSub) good_nil))
      | (go_at_call 46; refine (subSet_calls (Sd.below _ hsp2.1 (below_alloc (Below.refl _ _) _)) (by have := HG3.out.1; omega) key value HG3.out.2 HK.out _ 1 (one_value w2 value) (Nat.le_refl _)).mono ?_; rintro e w3 ⟨rfl, hm3, hk3⟩; have HM3 := Aside0.mk hm3; clear hm3))
    go_ret
    have hk3' : Keep w2 w3 Fj := (Keep.of_below (below_alloc (Below.refl _ _) _) Fj).trans hk3 (fun k _ hk => hk)
    have hm := hsp2.2.2 w3 _ _ hk3' HM3.out (fun k hk => by rcases hk with h | h; exact .inl h; simp only [size_alloc] at h; exact .inr (by omega))
    have hk13 : Keep w1 w3 Fi := hke2.trans hk3' (fun k hlt hk => by rcases (hsp2.2.1 k hk).1 with h | h; exact h; omega)
    exact ⟨rfl, _, hsp.2.2 w3 _ _ hk13 hm (fun k hk => hk), ⟨l', i, x, hp, fun h => absurd h HX.out, fun _ => ⟨m', j, y, hp2, rfl⟩⟩, hke.trans hk13 (fun k hlt hk => by rcases (hsp.2.1 k hk).1 with h | h; exact h; omega)⟩
end Go.Proofs.YtbgimkjodpjnfaaDoor.Conf
