/- SetOption and GetOption of the thin package. -/
import Derived.Test.YtbgimkjodpjnfaaDoorConfM
namespace Go.Proofs.YtbgimkjodpjnfaaDoor.Conf
open Go.RowKit Go.Proofs.YtbgimkjodpjnfaaDoorW.PrintWords Go.Proofs.YtbgimkjodpjnfaaDoorW.PrintLast Go.Proofs.YtbgimkjodpjnfaaDoorW.PrintMore Go.Proofs.YtbgimkjodpjnfaaDoor.Sep Go.Proofs.YtbgimkjodpjnfaaDoor.PFnConfSet

/-- As Good, but for one option or section more. -/
def TightOpts (os : List S45) : Prop := os.length ≤ 2147483648 ∧ ∀ o ∈ os, Word o.f0
def TightSec (s : S41) : Prop := Word s.f0 ∧ TightOpts s.f1 ∧ s.f2.length ≤ 2147483648 ∧ ∀ x ∈ s.f2, TightOpts x.f1
def Tight (l : List S41) : Prop := l.length ≤ 2147483648 ∧ ∀ s ∈ l, TightSec s
theorem TightOpts.good {os : List S45} (h : TightOpts os) : GoodOpts os := ⟨by have := h.1; omega, h.2⟩
theorem TightSec.good {s : S41} (h : TightSec s) : GoodSec s := ⟨h.1, h.2.1.good, by have := h.2.2.1; omega, fun x hx => (h.2.2.2 x hx).good⟩
theorem Tight.good {l : List S41} (h : Tight l) : Good l := ⟨by have := h.1; omega, fun s hs => (h.2 s hs).good⟩
theorem Tight.sizes {l : List S41} (h : Tight l) : Sizes l :=
  ⟨by have := h.1; omega, fun s hs => ⟨by have := (h.2 s hs).2.1.1; omega, by have := (h.2 s hs).2.2.1; omega, fun x hx => by have := ((h.2 s hs).2.2.2 x hx).1; omega⟩⟩
theorem setOpts_good {os : List S45} {key value : ByteArray} (h : TightOpts os) (hk : Word key) : GoodOpts (setOpts os key value) := by
  have hl : (kept os key value).length ≤ os.length := List.length_filter_le _ _
  have hm : ∀ o ∈ kept os key value, Word o.f0 := fun o ho => h.2 o (List.mem_filter.1 ho).1
  have h1 := h.1
  unfold setOpts
  split
  · exact ⟨by omega, hm⟩
  · refine ⟨by rw [List.length_append, List.length_singleton]; omega, fun o ho => ?_⟩
    rcases List.mem_append.1 ho with ho | ho
    · exact hm o ho
    · rw [List.mem_singleton.1 ho]; exact hk
theorem pick_len {α : Type} {nm : α → ByteArray} {new : α} {l : List α} {name : ByteArray} {l' : List α} {i : Nat} {x : α} (h : PickP nm new l name l' i x) : l'.length ≤ l.length + 1 := by
  rcases h with ⟨rfl, _, _⟩ | ⟨_, rfl, _, _⟩
  · omega
  · simp
theorem pick_mem {α : Type} {nm : α → ByteArray} {new : α} {l : List α} {name : ByteArray} {l' : List α} {i : Nat} {x : α} (h : PickP nm new l name l' i x) : ∀ y ∈ l', y ∈ l ∨ y = new := by
  rcases h with ⟨rfl, _, _⟩ | ⟨_, rfl, _, _⟩
  · exact fun y hy => .inl hy
  · intro y hy
    rcases List.mem_append.1 hy with h | h
    · exact .inl h
    · exact .inr (List.mem_singleton.1 h)
theorem tight_nil : TightOpts [] := ⟨by simp, fun _ h => by cases h⟩
theorem setP_good {l l2 : List S41} {section_ sub key value : ByteArray} (h : SetP l section_ sub key value l2) (ht : Tight l) (hs : Word section_) (hk : Word key) : Good l2 := by
  obtain ⟨l', i, x, hp, h1, h2⟩ := h
  have hnew : TightSec ⟨section_, [], []⟩ := ⟨hs, tight_nil, by simp, fun _ h => by cases h⟩
  have hx : TightSec x := hp.all ht.2 hnew
  have hlen := pick_len hp
  have htl := ht.1
  have hall : ∀ y ∈ l', GoodSec y := fun y hy => by
    rcases pick_mem hp y hy with h | rfl
    · exact (ht.2 y h).good
    · exact hnew.good
  have fin : ∀ y : S41, GoodSec y → Good (l'.set i y) := fun y hy => ⟨by rw [List.length_set]; omega, fun z hz => by
    rcases List.mem_or_eq_of_mem_set hz with h | rfl
    · exact hall z h
    · exact hy⟩
  by_cases hsub : sub.toList = []
  · rw [h1 hsub]
    exact fin _ ⟨hx.1, setOpts_good hx.2.1 hk, by have := hx.2.2.1; show x.f2.length ≤ _; omega, fun z hz => (hx.2.2.2 z hz).good⟩
  · obtain ⟨m', j, y, hq, rfl⟩ := h2 hsub
    have hy : TightOpts y.f1 := hq.all (Q := fun z => TightOpts z.f1) hx.2.2.2 tight_nil
    have hml := pick_len hq
    refine fin _ ⟨hx.1, hx.2.1.good, by have := hx.2.2.1; show (m'.set j _).length ≤ _; rw [List.length_set]; omega, fun z hz => ?_⟩
    rcases List.mem_or_eq_of_mem_set hz with h | rfl
    · rcases pick_mem hq z h with h | rfl
      · exact (hx.2.2.2 z h).good
      · exact good_nil
    · exact setOpts_good hy hk

set_option maxHeartbeats 1000000 in
set_option maxRecDepth 100000 in
theorem setOption_calls (A : Option Addr) (c : Nat) (l : List S41) (section_ sub key value : ByteArray) (w : World) (hr : Kd.C k41 w A l.length l) (ht : Tight l) (hs : Word section_) (hk : Word key) :
    Calls Tryd.prog 11 #[.slice A l.length c, .string section_, .string sub, .string key, .string value] w fun e w' => ∃ v' l2, e = .returned v' ∧ SetP l section_ sub key value l2 ∧ Kd.R k41 41 w' w.heap.size (fun _ => True) v' l2 ∧ Below w.heap.size w w' := by
  have HC := Aside0.mk (configOf_calls A c l w hr ht.sizes)
  have HT := Aside0.mk ht
  have HS := Aside0.mk hs
  have HK := Aside0.mk hk
  clear hr ht hs hk
  go_enter Tryd.func11, Tryd.ntmps11
  go_wp2_with (first
    | (go_at_call 25; refine HC.out.mono ?_; rintro e w1 ⟨p, rfl, hm1, hb1⟩; have HM1 := Aside0.mk hm1; have HB1 := Aside0.mk hb1; clear hm1 hb1)
    | (go_at_call 26; refine (cfgSet_calls HM1.out HT.out.good section_ sub key value HS.out HK.out).mono ?_; rintro e w2 ⟨rfl, l2, hm2, hp2, hk2⟩; have HM2 := Aside0.mk hm2; have HP2 := Aside0.mk hp2; have HK2 := Aside0.mk hk2; clear hm2 hp2 hk2)
    | (go_at_call 24; refine (sectionsOf_calls HM2.out (setP_good HP2.out HT.out HS.out HK.out)).mono ?_; rintro e w3 ⟨v', rfl, hr3, hb3⟩; have HR3 := Aside0.mk hr3; have HB3 := Aside0.mk hb3; clear hr3 hb3))
  go_ret
  have hs1 := HB1.out.size
  have hb2 : Below w.heap.size w w2 := Keep.below HB1.out hs1 HK2.out (fun k hk => hk)
  have hs2 := hb2.size
  exact ⟨_, l2, rfl, HP2.out, Kd.R_lower HR3.out hs2, hb2.trans (HB3.out.mono hs2)⟩

/-- What GetOption tells. -/
def GetP (l : List S41) (section_ sub key : ByteArray) (one : ByteArray) (all : List ByteArray) : Prop :=
  ∃ l' i x, PickP S41.f0 ⟨section_, [], []⟩ l section_ l' i x ∧ (sub.toList = [] → one = lastVal x.f1 key ∧ all = allVals x.f1 key) ∧
    (sub.toList ≠ [] → ∃ m' j y, PickP S47.f0 ⟨sub, []⟩ x.f2 sub m' j y ∧ one = lastVal y.f1 key ∧ all = allVals y.f1 key)
theorem allVals_le (os : List S45) (key : ByteArray) : (allVals os key).length ≤ os.length := by
  unfold allVals
  rw [List.length_map]
  exact List.length_filter_le _ _
set_option maxHeartbeats 2000000 in
set_option maxRecDepth 100000 in
theorem getOption_calls (A : Option Addr) (c : Nat) (l : List S41) (section_ sub key : ByteArray) (w : World) (hr : Kd.C k41 w A l.length l) (hg : Good l) (hz : Sizes l) (hs : Word section_) (hk : Word key) :
    Calls Tryd.prog 22 #[.slice A l.length c, .string section_, .string sub, .string key] w fun e w' => ∃ one all v', e = .returned (.tuple #[.string one, v']) ∧ GetP l section_ sub key one all ∧ Kd.R Kd.string 9 w' w.heap.size (fun _ => True) v' all ∧ Below w.heap.size w w' := by
  have HC := Aside0.mk (configOf_calls A c l w hr hz)
  have HG := Aside0.mk hg
  have HS := Aside0.mk hs
  have HK := Aside0.mk hk
  have HN : Aside0 (GoodSec ⟨section_, [], []⟩) := ⟨hs, good_nil, by simp, fun _ h => by cases h⟩
  clear hr hg hz hs hk
  by_cases hsub : sub.toList = []
  · have h1 : sub.toList.isEmpty = true := by rw [hsub]; rfl
    have h2 : (sub.toList == []) = true := by rw [hsub]; rfl
    have HX := Aside0.mk hsub
    clear hsub
    go_enter Tryd.func22, Tryd.ntmps22
    go_wp2_with (first
      | (go_at_call 25; refine HC.out.mono ?_; rintro e w1 ⟨p, rfl, hm1, hb1⟩; have HM1 := Aside0.mk hm1; have HB1 := Aside0.mk hb1; clear hm1 hb1)
      | (go_at_call 36; refine (section_calls HM1.out (by have := HG.out.1; omega) section_ (fun s hs => (HG.out.2 s hs).1) HS.out).mono ?_; rintro e w2 ⟨l', i, x, r, Fi, rfl, hp, hsp, hke⟩; have HGX := Aside0.mk (hp.all HG.out.2 HN.out))
      | (go_at_call 37; refine (secOption_calls hsp.1 (goodSec_f1 HGX.out) key (HGX.out.2.1.2) HK.out).mono ?_; rintro e w' ⟨rfl, rfl⟩)
      | (go_at_call 38; refine (secAll_calls (Sd.below _ hsp.1 (below_alloc (Below.refl _ _) _)) (goodSec_f1 HGX.out) key (HGX.out.2.1.2) HK.out).mono ?_; rintro e w4 ⟨v4, rfl, hr4, hb4⟩; obtain ⟨A4, c4, rfl, hle4, hC4⟩ := Kd.R_reads hr4; have HC4 := Aside0.mk hC4; have HB4 := Aside0.mk hb4; clear hr4 hb4 hle4 hC4)
      | (at_builtin; refine Kd.R_append_row Value.string (⟨#[]⟩ : ByteArray) (w0 := w2) w2.heap.size rfl (.tmp 21) (.tmp 24) 26 9 (.string ⟨#[]⟩) 16 rfl Tryd.underlying26 info9 rfl (by decide) (.slice (some ⟨w2.heap.size, 0, none⟩) 0 0) [] (allVals x.f1 key) A4 (allVals x.f1 key).length c4 (fun _ => True) rfl (by first | rfl | (go_simp; done) | (go_simp; rfl)) (fun _ _ => trivial) ?aO HC4.out ?aB ?aS ?aL ?_; (case aO => exact Kd.R_below (R_empty w2 9) HB4.out); (case aB => exact below_step (below_alloc (Below.refl _ _) _) HB4.out); (case aS => have := HB4.out.size; simp only [size_alloc] at this; omega); (case aL => have := allVals_le x.f1 key; have := goodSec_f1 HGX.out; simp only [List.length_nil]; omega); rintro v5 w5 hr5 hb5 - -; have HR5 := Aside0.mk hr5; have HB5 := Aside0.mk hb5; clear hr5 hb5))
    go_ret2
    have hs1 := HB1.out.size
    have hb2 : Below w.heap.size w w2 := Keep.below HB1.out hs1 hke (fun k hk => hk)
    have hs2 := hb2.size
    exact ⟨_, _, _, rfl, ⟨l', i, x, hp, fun _ => ⟨rfl, rfl⟩, fun h => absurd HX.out h⟩, Kd.R_lower (by have := HR5.out; rwa [List.nil_append] at this) hs2, hb2.trans (HB5.out.mono hs2)⟩
  · have h1 : sub.toList.isEmpty = false := by cases h : sub.toList <;> simp_all
    have h2 : (sub.toList == []) = false := by cases h : sub.toList <;> simp_all
    have HX := Aside0.mk hsub
    clear hsub
    go_enter Tryd.func22, Tryd.ntmps22
    go_wp2_with (first
      | (go_at_call 25; refine HC.out.mono ?_; rintro e w1 ⟨p, rfl, hm1, hb1⟩; have HM1 := Aside0.mk hm1; have HB1 := Aside0.mk hb1; clear hm1 hb1)
      | (go_at_call 36; refine (section_calls HM1.out (by have := HG.out.1; omega) section_ (fun s hs => (HG.out.2 s hs).1) HS.out).mono ?_; rintro e w2 ⟨l', i, x, r, Fi, rfl, hp, hsp, hke⟩; have HGX := Aside0.mk (hp.all HG.out.2 HN.out))
      | (go_at_call 39; refine (subsection_calls hsp.1 (by have := HGX.out.2.2.1; omega) sub).mono ?_; rintro e w3 ⟨m', j, y, r2, Fj, rfl, hp2, hsp2, hke2⟩; have HGY := Aside0.mk (hp2.all HGX.out.2.2.2 (Q := GoodSub) good_nil))
      | (go_at_call 40; refine (subOption_calls hsp2.1 (by have := HGY.out.1; omega) key HGY.out.2 HK.out).mono ?_; rintro e w' ⟨rfl, rfl⟩)
      | (go_at_call 41; refine (subAll_calls (Sd.below _ hsp2.1 (below_alloc (Below.refl _ _) _)) (by have := HGY.out.1; omega) key HGY.out.2 HK.out).mono ?_; rintro e w4 ⟨v4, rfl, hr4, hb4⟩; obtain ⟨A4, c4, rfl, hle4, hC4⟩ := Kd.R_reads hr4; have HC4 := Aside0.mk hC4; have HB4 := Aside0.mk hb4; clear hr4 hb4 hle4 hC4)
      | (at_builtin; refine Kd.R_append_row Value.string (⟨#[]⟩ : ByteArray) (w0 := w3) w3.heap.size rfl (.tmp 32) (.tmp 35) 26 9 (.string ⟨#[]⟩) 16 rfl Tryd.underlying26 info9 rfl (by decide) (.slice (some ⟨w3.heap.size, 0, none⟩) 0 0) [] (allVals y.f1 key) A4 (allVals y.f1 key).length c4 (fun _ => True) rfl (by first | rfl | (go_simp; done) | (go_simp; rfl)) (fun _ _ => trivial) ?aO HC4.out ?aB ?aS ?aL ?_; (case aO => exact Kd.R_below (R_empty w3 9) HB4.out); (case aB => exact below_step (below_alloc (Below.refl _ _) _) HB4.out); (case aS => have := HB4.out.size; simp only [size_alloc] at this; omega); (case aL => have := allVals_le y.f1 key; have := HGY.out.1; simp only [List.length_nil]; omega); rintro v5 w5 hr5 hb5 - -; have HR5 := Aside0.mk hr5; have HB5 := Aside0.mk hb5; clear hr5 hb5))
    go_ret2
    have hs1 := HB1.out.size
    have hb2 : Below w.heap.size w w2 := Keep.below HB1.out hs1 hke (fun k hk => hk)
    have hs2 := hb2.size
    have hb3 : Below w.heap.size w w3 := Keep.below hb2 hs2 hke2 (fun k hk => by rcases (hsp.2.1 k hk).1 with h | h; exact h; omega)
    have hs3 := hb3.size
    exact ⟨_, _, _, rfl, ⟨l', i, x, hp, fun h => absurd h HX.out, fun _ => ⟨m', j, y, hp2, rfl, rfl⟩⟩, Kd.R_lower (by have := HR5.out; rwa [List.nil_append] at this) hs3, hb3.trans (HB5.out.mono hs3)⟩
end Go.Proofs.YtbgimkjodpjnfaaDoor.Conf
