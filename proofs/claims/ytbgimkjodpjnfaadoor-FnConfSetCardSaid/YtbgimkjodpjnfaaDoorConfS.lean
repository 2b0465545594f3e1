/- cfGets at one value that is wanted. -/
import Derived.Test.YtbgimkjodpjnfaaDoorConfR
namespace Go.Proofs.YtbgimkjodpjnfaaDoor.Conf
open Go.RowKit Go.Proofs.YtbgimkjodpjnfaaDoorW.PrintWords Go.Proofs.YtbgimkjodpjnfaaDoorW.PrintLast Go.Proofs.YtbgimkjodpjnfaaDoorW.PrintMore Go.Proofs.YtbgimkjodpjnfaaDoor.Sep Go.Proofs.YtbgimkjodpjnfaaDoor.PFnConfSet

def bX : ByteArray := ⟨#[120]⟩
def bA : ByteArray := ⟨#[97]⟩
def bB : ByteArray := ⟨#[98]⟩
def lit0 : List S41 := [⟨bX, [⟨bA, bB⟩], []⟩]
theorem word1 (b : UInt8) (h1 : 97 ≤ b.toNat) (h2 : b.toNat ≤ 122) : Word ⟨#[b]⟩ := by
  refine ⟨by show 1 ≤ 1000; omega, fun j x hx => ?_⟩
  have hj : j = 0 := by
    have := (List.getElem?_eq_some_iff.1 hx).1
    simpa using this
  subst hj
  have : b = x := by simpa using hx
  subst this
  exact ⟨h1, h2⟩
theorem wordX : Word bX := word1 120 (by decide) (by decide)
theorem wordA : Word bA := word1 97 (by decide) (by decide)
theorem good_lit0 : Good lit0 := ⟨by decide, fun s hs => by
  rw [List.mem_singleton.1 hs]
  exact ⟨wordX, ⟨by decide, fun o ho => by rw [List.mem_singleton.1 ho]; exact wordA⟩, by decide, fun _ h => by cases h⟩⟩
theorem sizes_lit0 : Sizes lit0 := ⟨by decide, fun s hs => by
  rw [List.mem_singleton.1 hs]
  exact ⟨by decide, by decide, fun _ h => by cases h⟩⟩
theorem lit0_reads (w : World) : Kd.C k41 ((w.alloc (.cells #[.string bA, .string bB] 45)).alloc (.cells #[.string bX, .slice (some ⟨w.heap.size, 0, none⟩) 1 1, .slice none 0 0] 41)) (some ⟨w.heap.size + 1, 0, none⟩) lit0.length lit0 := by
  refine ⟨rfl, by decide, fun _ => ⟨_, rfl, fun j p hj => ?_⟩⟩
  have hj0 : j = 0 := by
    have := (List.getElem?_eq_some_iff.1 hj).1
    simpa [lit0] using this
  subst hj0
  have : (⟨bX, [⟨bA, bB⟩], []⟩ : S41) = p := by simpa [lit0] using hj
  subst this
  have h0 : Kd.C k45 ((w.alloc (.cells #[.string bA, .string bB] 45)).alloc (.cells #[.string bX, .slice (some ⟨w.heap.size, 0, none⟩) 1 1, .slice none 0 0] 41)) (some ⟨w.heap.size, 0, none⟩) 1 [⟨bA, bB⟩] := by
    refine ⟨rfl, by decide, fun _ => ⟨_, rfl, fun j p hj => ?_⟩⟩
    have hj0 : j = 0 := by
      have := (List.getElem?_eq_some_iff.1 hj).1
      simpa using this
    subst hj0
    have : (⟨bA, bB⟩ : S45) = p := by simpa using hj
    subst this
    refine ⟨[.string bA, .string bB], rfl, k45_mk _ _, fun i u hu => ?_⟩
    rw [Nat.zero_mul, Nat.zero_add, add_plain]
    exact cell_of (heap_old _ _ (heap_alloc_new w (.cells #[.string bA, .string bB] 45))) i (by simpa using hu)
  refine ⟨[.string bX, .slice (some ⟨w.heap.size, 0, none⟩) 1 1, .slice none 0 0], rfl, k41_mk _ _ (l1 := Nat.le_refl 1) h0 (l2 := Nat.le_refl 0) ⟨rfl, by decide, fun h => by cases h⟩, fun i u hu => ?_⟩
  rw [Nat.zero_mul, Nat.zero_add, add_plain]
  exact cell_of (blk_new2 w _ _) i (by simpa using hu)
theorem get_lit0 {one : ByteArray} {all : List ByteArray} (h : GetP lit0 bX ⟨#[]⟩ bA one all) : one = bB := by
  obtain ⟨l', i, x, hp, h1, _⟩ := h
  have h0 : (⟨#[]⟩ : ByteArray).toList = [] := by rw [ByteArray.toList_eq]
  obtain ⟨rfl, rfl⟩ := h1 h0
  rcases hp with ⟨rfl, hx, _⟩ | ⟨hall, _⟩
  · have : x = ⟨bX, [⟨bA, bB⟩], []⟩ := by
      have := List.mem_of_getElem? hx
      exact List.mem_singleton.1 this
    subst this
    have he : eqs bA bA = true := eqs_iff.2 rfl
    simp [lastVal, allVals, he]
  · have := hall ⟨bX, [⟨bA, bB⟩], []⟩ (List.mem_singleton.2 rfl)
    have he : eqs bX bX = true := eqs_iff.2 rfl
    rw [he] at this
    cases this
theorem same_one (v : ByteArray) : spec_SameValues.f 2 [v] [v] = some true := by
  have h0 : rdOf ByteArray.empty [v] 0 = v := rfl
  have hw : wrap64 (0 + 1) = 1 := by unfold wrap64; omega
  unfold spec_SameValues.f
  rw [if_pos rfl, spec_SameValues.l0, if_pos (by simp), if_pos (by omega), if_pos (by simp), if_pos (by simp), if_pos rfl, hw, spec_SameValues.l0, if_neg (by simp)]

set_option maxHeartbeats 800000 in
set_option maxRecDepth 100000 in
theorem cfGets_calls (A : Option Addr) (c : Nat) (l : List S41) (section_ sub key value : ByteArray) (w : World) (hr : Kd.C k41 w A l.length l) (hg : Good l) (hz : Sizes l) (hs : Word section_) (hk : Word key) (B : Option Addr) (d : Nat) (hv : Kd.C Kd.string w B 1 [value]) (hd : 1 ≤ d)
    (hget : ∀ one all, GetP l section_ sub key one all → one = value ∧ all = [value]) :
    Calls Tryd.prog 10 #[.slice A l.length c, .string section_, .string sub, .string key, .slice B 1 d] w fun e w' => e = .returned (.bool true) ∧ Below w.heap.size w w' := by
  have HC := Aside0.mk (getOption_calls A c l section_ sub key w hr hg hz hs hk)
  have HV := Aside0.mk hv
  have HD := Aside0.mk hd
  have HG := Aside0.mk hget
  obtain ⟨bv, hbv, hcv⟩ := Kd.at_string HV.out 0 (by omega) (by omega)
  cases hbv
  have e0 : rdOf ByteArray.empty [value] 0 = value := rfl
  rw [e0] at hcv
  replace hcv : w.cell? bv = some (.string value) := by simpa [Addr.add] using hcv
  have HCV := Aside0.mk hcv
  clear hr hg hz hs hk hv hd hget e0 hcv
  go_enter Tryd.func10, Tryd.ntmps10
  go_wp2_with fail
  refine HC.out.mono ?_
  rintro e w1 ⟨one, all, v', rfl, hp, hr, hb⟩
  obtain ⟨rfl, rfl⟩ := HG.out one all hp
  obtain ⟨A1, c1, rfl, hle1, hC1⟩ := Kd.R_reads hr
  have HC1 := Aside0.mk hC1
  have HL1 := Aside0.mk hle1
  have HB1 := Aside0.mk hb
  have hcv1 := (hb.cell (World.block_lt_of_cell? w _ HCV.out)).trans HCV.out
  clear hr hb hp hC1 hle1
  go_wp2_with fail
  refine (getOption_calls _ 1 lit0 bX ⟨#[]⟩ bA _ (lit0_reads w1) good_lit0 sizes_lit0 wordX wordA).mono ?_
  rintro e w2 ⟨one2, all2, v2, rfl, hp2, -, hb2⟩
  obtain rfl := get_lit0 hp2
  have HB2 := Aside0.mk hb2
  clear hb2 hp2
  have HBA := Aside0.mk (below_alloc (below_alloc (Below.refl w1.heap.size w1) (.cells #[.string bA, .string bB] 45)) (.cells #[.string bX, .slice (some ⟨w1.heap.size, 0, none⟩) 1 1, .slice none 0 0] 41))
  have HB12 : Aside0 (Below w1.heap.size w1 w2) := ⟨HBA.out.trans (HB2.out.mono (by simp only [size_alloc]; omega))⟩
  have HQ : Aside0 (Calls Tryd.prog 23 #[.slice A1 1 c1, .slice (some bv) 1 d] w2 fun e w' => e = .returned (.bool true) ∧ Drawn0 w2 w') := ⟨spec_SameValues.calls 2 A1 c1 [one] (some bv) d [one] true w2 (Kd.C_below (Kd.C_below HC1.out HB12.out) (Below.refl _ _)) HL1.out (Kd.C_below (Kd.C_below HV.out HB1.out) HB12.out) HD.out (same_one _)⟩
  have hbB : bB.toList = [98] := by rw [ByteArray.toList_eq]; rfl
  clear HBA HC HG hcv1
  go_wp2_with fail
  refine HQ.out.mono ?_
  rintro e w3 ⟨rfl, hd3⟩
  have HB3 := Aside0.mk (Drawn0.below hd3)
  clear hd3
  go_wp2_with fail
  go_ret
  exact ⟨rfl, (HB1.out.trans (HB12.out.mono HB1.out.size)).trans (HB3.out.mono (by have := HB1.out.size; have := HB12.out.size; omega))⟩
end Go.Proofs.YtbgimkjodpjnfaaDoor.Conf
