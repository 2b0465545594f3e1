/- The options of a section as the reference finds them. -/
import Derived.Test.YtbgimkjodpjnfaaDoorConfQ
namespace Go.Proofs.YtbgimkjodpjnfaaDoor.Conf
open Go.RowKit Go.Proofs.YtbgimkjodpjnfaaDoorW.PrintWords Go.Proofs.YtbgimkjodpjnfaaDoorW.PrintLast Go.Proofs.YtbgimkjodpjnfaaDoorW.PrintMore Go.Proofs.YtbgimkjodpjnfaaDoor.Sep Go.Proofs.YtbgimkjodpjnfaaDoor.PFnConfSet

/-- What the reference's OptionsOf tells of l. -/
def OptP (l : List S41) (section_ sub : ByteArray) (os : List S45) : Prop :=
  (sub.toList = [] → (∃ s ∈ l, eqs s.f0 section_ = true ∧ os = s.f1) ∨ ∀ s ∈ l, eqs s.f0 section_ = false) ∧
  (sub.toList ≠ [] → (∃ s ∈ l, eqs s.f0 section_ = true ∧ ∃ y ∈ s.f2, eqs y.f0 sub = true ∧ os = y.f1) ∨ ∀ s ∈ l, eqs s.f0 section_ = true → ∀ y ∈ s.f2, eqs y.f0 sub = false) ∧
  (os = [] ∨ (∃ s ∈ l, os = s.f1) ∨ ∃ s ∈ l, ∃ y ∈ s.f2, os = y.f1)
/-- None of these is what is looked for. -/
def NotYet (l : List S41) (section_ sub : ByteArray) : Prop :=
  (sub.toList = [] → ∀ s ∈ l, eqs s.f0 section_ = false) ∧ (sub.toList ≠ [] → ∀ s ∈ l, eqs s.f0 section_ = true → ∀ y ∈ s.f2, eqs y.f0 sub = false)
theorem NotYet.snoc {l : List S41} {section_ sub : ByteArray} {s : S41} (h : NotYet l section_ sub) (h1 : sub.toList = [] → eqs s.f0 section_ = false) (h2 : sub.toList ≠ [] → eqs s.f0 section_ = true → ∀ y ∈ s.f2, eqs y.f0 sub = false) : NotYet (l ++ [s]) section_ sub := by
  refine ⟨fun hs z hz => ?_, fun hs z hz => ?_⟩
  · rcases List.mem_append.1 hz with hz | hz
    · exact h.1 hs z hz
    · rw [List.mem_singleton.1 hz]; exact h1 hs
  · rcases List.mem_append.1 hz with hz | hz
    · exact h.2 hs z hz
    · rw [List.mem_singleton.1 hz]; exact h2 hs

set_option maxHeartbeats 4000000 in
set_option maxRecDepth 100000 in
theorem optionsOfSpec_calls (A : Option Addr) (c : Nat) (l : List S41) (section_ sub : ByteArray) (w : World) (hr : Kd.C k41 w A l.length l) (hn : l.length ≤ 2147483647) (hz : ∀ s ∈ l, s.f2.length ≤ 2147483647) :
    Calls Tryd.prog 9 #[.slice A l.length c, .string section_, .string sub] w fun e w' => ∃ A' c' os, e = .returned (.slice A' os.length c') ∧ OptP l section_ sub os ∧ Kd.C k45 w A' os.length os ∧ os.length ≤ c' ∧ Below w.heap.size w w' := by
  have HR := Aside0.mk hr
  have HN := Aside0.mk hn
  have HZ := Aside0.mk hz
  clear hr hn hz
  go_enter Tryd.func9, Tryd.ntmps9
  go_wp2
  go_loopg [13] l.length (fun g s13 wr => ∃ i : Nat, s13 = .int .i64 i ∧ Aside0 (i + g = l.length) ∧ Aside0 (NotYet (l.take i) section_ sub) ∧ Aside0 (Below w.heap.size w wr))
  case atStart => exact ⟨0, rfl, ⟨by omega⟩, ⟨⟨fun _ s hs => by simp at hs, fun _ s hs => by simp at hs⟩⟩, ⟨Below.refl _ _⟩⟩
  case round =>
    obtain ⟨i, rfl, HI, HQ, HB⟩ := hrel
    cases gk with
    | zero =>
      obtain rfl : i = l.length := by have := HI.out; omega
      have hlt : decide (l.length < l.length) = false := by simp
      go_wp2
      go_ret
      have hq := HQ.out
      rw [List.take_length] at hq
      exact ⟨none, 0, [], rfl, ⟨fun h => .inr (hq.1 h), fun h => .inr (hq.2 h), .inl rfl⟩, ⟨rfl, by simp, fun h => by simp at h⟩, Nat.le_refl _, HB.out⟩
    | succ g =>
      have hi2 : i < l.length := by have := HI.out; omega
      have hlt : decide (i < l.length) = true := by simp; omega
      have hl2 : l.length ≤ 2147483647 := HN.out
      obtain ⟨ad, A1, c1, A2, c2, e, hx0, hx1, hx2, hle1, hC1, hle2, hC2⟩ := at_T41 HR.out i (by omega) (by omega)
      cases e
      replace hx0 := (HB.out.cell (World.block_lt_of_cell? w _ hx0)).trans hx0
      replace hx1 := (HB.out.cell (World.block_lt_of_cell? w _ hx1)).trans hx1
      replace hx2 := (HB.out.cell (World.block_lt_of_cell? w _ hx2)).trans hx2
      simp only [Int.toNat_natCast] at hx0 hx1 hx2
      rw [rd41 hi2] at hx0 hx1 hx2 hle1 hC1 hle2 hC2
      obtain ⟨s, hs⟩ : ∃ s, s = l[i] := ⟨_, rfl⟩
      rw [← hs] at hx0 hx1 hx2 hle1 hC1 hle2 hC2
      have HM : Aside0 (s ∈ l) := ⟨by rw [hs]; exact List.getElem_mem hi2⟩
      have HF2 : Aside0 (s.f2.length ≤ 2147483647) := ⟨HZ.out s HM.out⟩
      have HL : Aside0 (l.take (i + 1) = l.take i ++ [s]) := ⟨by rw [take_snoc _ _ hi2, hs]⟩
      have HC1 := Aside0.mk (And.intro hC1 hle1)
      have HC2 := Aside0.mk (And.intro hC2 hle2)
      clear hs hC1 hC2 hle1 hle2
      cases hk : eqs s.f0 section_ with
      | false =>
        have e1 : (s.f0.toList == section_.toList) = false := hk
        have e2 : (s.f0.toList != section_.toList) = true := by simp [bne, e1]
        go_wp2
        go_roundg g
        case measure => omega
        case rel => exact ⟨i + 1, by go_num, ⟨by have := HI.out; omega⟩, ⟨by rw [HL.out]; exact HQ.out.snoc (fun _ => hk) (fun _ h => by rw [hk] at h; cases h)⟩, ⟨below_alloc HB.out _⟩⟩
      | true =>
        have e1 : (s.f0.toList == section_.toList) = true := hk
        have e2 : (s.f0.toList != section_.toList) = false := by simp [bne, e1]
        by_cases hsub : sub.toList = []
        · have h1 : sub.toList.isEmpty = true := by rw [hsub]; rfl
          have h2 : (sub.toList == []) = true := by rw [hsub]; rfl
          have HX := Aside0.mk hsub
          clear hsub
          go_wp2
          go_ret
          exact ⟨A1, c1, s.f1, rfl, ⟨fun _ => .inl ⟨s, HM.out, hk, rfl⟩, fun h => absurd HX.out h, .inr (.inl ⟨s, HM.out, rfl⟩)⟩, HC1.out.1, HC1.out.2, below_alloc HB.out _⟩
        · have h1 : sub.toList.isEmpty = false := by cases h : sub.toList <;> simp_all
          have h2 : (sub.toList == []) = false := by cases h : sub.toList <;> simp_all
          have HX := Aside0.mk hsub
          obtain ⟨wo, rfl⟩ : ∃ wo : World, wo = wr := ⟨_, rfl⟩
          clear hsub
          go_wp2
          go_loopg [28] s.f2.length (fun g' s28 wq => ∃ j : Nat, s28 = .int .i64 j ∧ Aside0 (j + g' = s.f2.length) ∧ Aside0 (∀ y ∈ s.f2.take j, eqs y.f0 sub = false) ∧ Aside0 (Below w.heap.size w wq))
          case atStart => exact ⟨0, rfl, ⟨by omega⟩, ⟨fun y hy => by simp at hy⟩, ⟨below_alloc HB.out _⟩⟩
          case round =>
            obtain ⟨j, rfl, HJ, HY, HBq⟩ := hrel
            cases gk with
            | zero =>
              obtain rfl : j = s.f2.length := by have := HJ.out; omega
              have hlt : decide (s.f2.length < s.f2.length) = false := by simp
              go_wp2
              go_roundg g
              case measure => omega
              case rel =>
                refine ⟨i + 1, by go_num, ⟨by have := HI.out; omega⟩, ⟨?_⟩, HBq⟩
                have hy := HY.out
                rw [List.take_length] at hy
                rw [HL.out]
                exact HQ.out.snoc (fun h => absurd h HX.out) (fun _ _ => hy)
            | succ g' =>
              have hj2 : j < s.f2.length := by have := HJ.out; omega
              have hlt : decide (j < s.f2.length) = true := by simp; omega
              have hl2' : s.f2.length ≤ 2147483647 := HF2.out
              obtain ⟨ad2, B1, d1, e, hy0, hy1, hle3, hD1⟩ := at_T47 HC2.out.1 j (by omega) (by omega)
              cases e
              replace hy0 := (HBq.out.cell (World.block_lt_of_cell? w _ hy0)).trans hy0
              replace hy1 := (HBq.out.cell (World.block_lt_of_cell? w _ hy1)).trans hy1
              simp only [Int.toNat_natCast] at hy0 hy1
              rw [rd47 hj2] at hy0 hy1 hle3 hD1
              obtain ⟨x, hx⟩ : ∃ x, x = s.f2[j] := ⟨_, rfl⟩
              rw [← hx] at hy0 hy1 hle3 hD1
              have HMX : Aside0 (x ∈ s.f2) := ⟨by rw [hx]; exact List.getElem_mem hj2⟩
              have HLX : Aside0 (s.f2.take (j + 1) = s.f2.take j ++ [x]) := ⟨by rw [take_snoc _ _ hj2, hx]⟩
              have HD := Aside0.mk (And.intro hD1 hle3)
              clear hx hD1 hle3 hx0 hx1 hx2
              cases hkx : eqs x.f0 sub with
              | true =>
                have e3 : (x.f0.toList == sub.toList) = true := hkx
                go_wp2
                go_ret
                exact ⟨B1, d1, x.f1, rfl, ⟨fun h => absurd h HX.out, fun _ => .inl ⟨s, HM.out, hk, x, HMX.out, hkx, rfl⟩, .inr (.inr ⟨s, HM.out, x, HMX.out, rfl⟩)⟩, HD.out.1, HD.out.2, below_alloc HBq.out _⟩
              | false =>
                have e3 : (x.f0.toList == sub.toList) = false := hkx
                go_wp2
                go_roundg g'
                case measure => omega
                case rel =>
                  refine ⟨j + 1, by go_num, ⟨by have := HJ.out; omega⟩, ⟨fun y hy => ?_⟩, ⟨below_alloc HBq.out _⟩⟩
                  rw [HLX.out] at hy
                  rcases List.mem_append.1 hy with hy | hy
                  · exact HY.out y hy
                  · rw [List.mem_singleton.1 hy]; exact hkx
end Go.Proofs.YtbgimkjodpjnfaaDoor.Conf
