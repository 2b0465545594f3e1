/- What is to be inserted is written in pieces of at most 127 bytes. -/
import Derived.Test.YtkknoionjppegaaDoorDE
import Derived.Outline
import Derived.Tactics2
namespace Go.Proofs.YtkknoionjppegaaDoor.Delta
open Go.RowKit Go.Proofs.YtkknoionjppegaaDoorW.PrintWords Go.Proofs.YtkknoionjppegaaDoorW.PrintLast Go.Proofs.YtkknoionjppegaaDoorW.PrintMore

def insB : Nat → List Int → List Int
  | 0, l => (l.length : Int) :: l
  | k + 1, l => 127 :: (l.take 127 ++ insB k (l.drop 127))
/-- The instructions that insert bytes. -/
def insBytes (l : List Int) : List Int := if l = [] then [] else insB ((l.length - 1) / 127) l

/-- Two buffers that share nothing. -/
structure Two (w : World) (b1 r1 b2 r2 : Nat) (x y : List Int) : Prop where
  B1 : Bf w b1 r1 x
  B2 : Bf w b2 r2 y
  n1 : b1 ≠ b2
  n2 : r1 ≠ b2
  n3 : r2 ≠ b1
  n4 : r1 ≠ r2
theorem Two.write1 {w w' : World} {b1 r1 b2 r2 r' : Nat} {x y x' : List Int} (h : Two w b1 r1 b2 r2 x y) (hr : r' = r1 ∨ w.heap.size ≤ r') (hB : Bf w' b1 r' x') (k : Keep w w' (fun k => k = b1 ∨ k = r1)) : Two w' b1 r' b2 r2 x' y := by
  have h1 := h.B2.lt
  have h2 := h.B2.row_lt
  refine ⟨hB, h.B2.keep k (fun e => e.elim (fun e => h.n1 e.symm) (fun e => h.n2 e.symm)) (fun e => e.elim h.n3 (fun e => h.n4 e.symm)), h.n1, ?_, h.n3, ?_⟩
  · rcases hr with rfl | hr
    · exact h.n2
    · omega
  · rcases hr with rfl | hr
    · exact h.n4
    · omega
theorem Two.swap {w : World} {b1 r1 b2 r2 : Nat} {x y : List Int} (h : Two w b1 r1 b2 r2 x y) : Two w b2 r2 b1 r1 y x := ⟨h.B2, h.B1, h.n1.symm, h.n3, h.n2, h.n4.symm⟩
theorem Two.drewN {w : World} {b1 r1 b2 r2 : Nat} {x y : List Int} (h : Two w b1 r1 b2 r2 x y) (n : Nat) : Two (w.drewN n) b1 r1 b2 r2 x y := ⟨h.B1, h.B2, h.n1, h.n2, h.n3, h.n4⟩
theorem addr_add0 (r o : Nat) : (⟨r, 0, none⟩ : Addr).add o = ⟨r, o, none⟩ := by unfold Addr.add; split <;> simp_all
theorem nums_cut (k : IntKind) (xs : List Int) (o m : Nat) : nums k ((xs.drop o).take m) = ((nums k xs).drop o).take m := by simp [nums, List.map_take, List.map_drop]
theorem Rd.cut {w : World} {r n : Nat} {xs : List Int} (h : Rd w (some ⟨r, 0, none⟩) n xs) (o m : Nat) (ho : o + m ≤ n) : Rd w (some ⟨r, o, none⟩) m ((xs.drop o).take m) := by
  have hl := h.1
  rcases Nat.eq_zero_or_pos m with rfl | hm
  · simpa using Rd.nil w (some ⟨r, o, none⟩)
  · obtain ⟨a, ha, hc⟩ := h.cells (by omega)
    cases ha
    refine Rd.mk (by rw [List.length_take, List.length_drop]; omega) (by have := h.2.1; omega) (fun j v hj => ?_)
    rw [nums_cut, List.getElem?_take] at hj
    split at hj
    · rw [List.getElem?_drop] at hj
      have := hc (o + j) v hj
      rw [addr_add0] at this
      have e : (⟨r, o, none⟩ : Addr).add j = ⟨r, o + j, none⟩ := by
        unfold Addr.add
        split
        · rename_i h0
          subst h0
          rfl
        · rfl
      rw [e]
      exact this
    · cases hj

/-- The state of the loop over the pieces. -/
def InsAt (w w' : World) (b1 r1 b2 r2 : Nat) (goal l2 : List Int) (gq o s : Nat) : Prop :=
  o + s = l2.length ∧ 0 < s ∧ gq = (s - 1) / 127 ∧ ∃ X r', (X ++ insB gq (l2.drop o) = goal) ∧ (r' = r1 ∨ w.heap.size ≤ r') ∧ Two w' b1 r' b2 r2 X l2 ∧ Keep w w' (fun k => k = b1 ∨ k = r1)
theorem keep_step {w w1 w2 : World} {b1 r1 r' : Nat} (k : Keep w w1 (fun k => k = b1 ∨ k = r1)) (hr : r' = r1 ∨ w.heap.size ≤ r') (k2 : Keep w1 w2 (fun k => k = b1 ∨ k = r')) : Keep w w2 (fun k => k = b1 ∨ k = r1) :=
  k.trans k2 (fun j hj h => h.elim Or.inl (fun e => by
    rcases hr with rfl | hr
    · exact .inr e
    · omega))
theorem row_step {w w1 : World} {F : Nat → Prop} {r1 r' r2 : Nat} (k : Keep w w1 F) (hr : r' = r1 ∨ w.heap.size ≤ r') (hr2 : r2 = r' ∨ w1.heap.size ≤ r2) : r2 = r1 ∨ w.heap.size ≤ r2 := by
  have := k.size
  rcases hr2 with rfl | h
  · exact hr
  · exact .inr (by omega)
theorem insB_len (k : Nat) : ∀ l : List Int, (insB k l).length ≤ l.length + k + 1 := by
  induction k with
  | zero => intro l; simp [insB]
  | succ k ih =>
    intro l
    have := ih (l.drop 127)
    rw [List.length_drop] at this
    simp only [insB, List.length_cons, List.length_append, List.length_take]
    omega

set_option maxHeartbeats 8000000 in
set_option maxRecDepth 100000 in
theorem encodeInsert_calls (b1 r1 b2 r2 : Nat) (l1 l2 : List Int) (w : World) (h : Two w b1 r1 b2 r2 l1 l2) (h1 : l1.length ≤ 10000000) (h2 : l2.length ≤ 10000000) :
    Calls Tryd.prog 25 #[.pointer (some ⟨b2, 0, none⟩), .pointer (some ⟨b1, 0, none⟩)] w fun e w' => e = .returned (.tuple #[]) ∧ ∃ r', (r' = r1 ∨ w.heap.size ≤ r') ∧ Two w' b1 r' b2 r2 (l1 ++ insBytes l2) [] ∧ Keep w w' (fun k => k = b1 ∨ k = r1 ∨ k = b2) := by
  have HT := Lib.hid h
  have HLen := Lib.hid (len_calls b2 r2 l2 w h.B2)
  by_cases hl : l2 = []
  · subst hl
    have e0 : (([] : List Int).length : Int) = 0 := rfl
    clear h
    go_enter Tryd.func25, Tryd.ntmps25
    go_wp2_with (go_at_call 42; refine HLen.out.mono ?_; rintro e w1 ⟨rfl, n1, hw1⟩; have HW1 := Lib.hid hw1; clear hw1)
    (try simp only [Exit.inBlock, Exit.then])
    refine bodyPost_ret (results_none rfl _ _ _) rfl ?_
    rw [HW1.out]
    exact ⟨rfl, r1, .inl rfl, by rw [show l1 ++ insBytes [] = l1 from by simp [insBytes]]; exact HT.out.drewN n1, (Keep.refl w _).drewN n1⟩
  · have hpos : 0 < l2.length := List.length_pos_iff.2 hl
    have HB : Hid (∀ n, Calls Tryd.prog 17 #[.pointer (some ⟨b2, 0, none⟩)] (w.drewN n) _) := Lib.hid fun n => bytes_calls b2 r2 l2 (w.drewN n) (h.B2)
    have HLn : Hid (∀ n, Calls Tryd.prog 42 #[.pointer (some ⟨b2, 0, none⟩)] (w.drewN n) _) := Lib.hid fun n => len_calls b2 r2 l2 (w.drewN n) (h.B2)
    have HI : Hid (insBytes l2 = insB ((l2.length - 1) / 127) l2) := Lib.hid (by unfold insBytes; rw [if_neg hl])
    have HG : Hid ((l1 ++ insBytes l2).length ≤ 30000000) := Lib.hid (by
      have := insB_len ((l2.length - 1) / 127) l2
      rw [HI.out, List.length_append]
      omega)
    obtain ⟨G, hG⟩ : ∃ G, G = l1 ++ insBytes l2 := ⟨_, rfl⟩
    rw [← hG] at HG
    have HGe := Lib.hid hG
    rw [← hG]
    obtain ⟨L, hL⟩ : ∃ L, L = l2.length := ⟨_, rfl⟩
    have HL := Lib.hid hL
    rw [← hL] at hpos h2 HLen HB HLn
    have hz : ((L : Int) == 0) = false := by rw [beq_eq_false_iff_ne]; omega
    have hz2 : decide (L = 0) = false := by simp; omega
    clear h hl hG hL h1
    go_enter Tryd.func25, Tryd.ntmps25
    go_wp2_with (go_at_call 42; refine HLen.out.mono ?_; rintro e w1 ⟨rfl, n1, hw1⟩; subst hw1; refine Hid.out ?_)
    refine Lib.hid ?_
    go_wp2_with (go_at_call 17; refine (HB.out n1).mono ?_; rintro e w2 ⟨⟨A, cap, rfl, hlc, hR, hA⟩, n2, hw2⟩; have HR := Lib.hid hR; have HA := Lib.hid hA; obtain ⟨a, ha⟩ := (show ∃ a, A = some a from by obtain ⟨a, e, _⟩ := Rd.cells hR hpos; exact ⟨a, e⟩); subst ha; subst hw2; clear hR hA; refine Hid.out ?_)
    obtain ⟨rfl, hrb2⟩ := HA.out a rfl
    clear HA
    refine Lib.hid ?_
    go_wp2_with (go_at_call 42; refine (HLn.out (n1 + n2)).mono ?_; rintro e w3 ⟨rfl, n3, hw3⟩; have HK3 : Hid (Keep w w3 (fun k => k = b1 ∨ k = r1)) := Lib.hid (by rw [hw3]; exact ((Keep.refl w _).drewN (n1 + n2)).drewN n3); have HT3 : Hid (Two w3 b1 r1 b2 r2 l1 l2) := Lib.hid (by rw [hw3]; exact (HT.out.drewN (n1 + n2)).drewN n3); clear hw3)
    have hcL : L ≤ cap := hlc
    clear hlc HLen HB HLn hz hz2
    go_loopg [5, 6] ((L - 1) / 127) (fun gq v5 v6 w' => ∃ (o s : Nat), v5 = .int .i64 s ∧ v6 = .int .i64 o ∧ Aside0 (InsAt w w' b1 r1 b2 r2 G l2 gq o s))
    case atStart => exact ⟨0, L, rfl, rfl, ⟨by have := HL.out; omega, hpos, by rw [HL.out], l1, r1, by rw [HGe.out, HI.out, HL.out]; rfl, .inl rfl, HT3.out, HK3.out⟩⟩
    case round =>
      obtain ⟨o, s, rfl, rfl, HA⟩ := hrel
      obtain ⟨ho, hs, hg, X, r', hX, hr', hT, hK⟩ := HA.out
      have hXl : X.length + o ≤ 40000000 := by
        have h1 := HG.out
        have h2 := HL.out
        rw [← hX, List.length_append] at h1
        omega
      rw [← HL.out] at ho
      have HX := Lib.hid hX
      have HTt := Lib.hid hT
      have HKk := Lib.hid hK
      have HR' := Lib.hid hr'
      have hne : ¬ cap = o := by omega
      have HRd : Hid (∀ m, o + m ≤ L → Rd wr (some ⟨r2, o, none⟩) m ((l2.drop o).take m)) := Lib.hid fun m hm => Rd.cut (Rd.keep (w := w) HR.out HKk.out (fun a ha => by cases ha; exact fun e => Or.elim e HT.out.n3 (fun e => HT.out.n4 e.symm))) o m hm
      have HS := Lib.hid (⟨ho, hs, hg⟩ : o + s = L ∧ 0 < s ∧ gk = (s - 1) / 127)
      clear hX hT hK hr' HA hg
      cases gk with
      | zero =>
        have hs127 : s ≤ 127 := by have := HS.out.2.2; omega
        have HW := Lib.hid (writeByte_calls b1 r' X (s : Int) wr HTt.out.B1 (by omega))
        have HW2 : Hid (∀ (r4 : Nat) (w4 : World), Two w4 b1 r4 b2 r2 (X ++ [(s : Int)]) l2 → Rd w4 (some ⟨r2, o, none⟩) s ((l2.drop o).take s) → Calls Tryd.prog 20 #[.pointer (some ⟨b1, 0, none⟩), .slice (some ⟨r2, o, none⟩) s (cap - o)] w4 _) := Lib.hid fun r4 w4 hT hR => write_calls b1 r4 (X ++ [(s : Int)]) ((l2.drop o).take s) (some ⟨r2, o, none⟩) s (cap - o) w4 hT.B1 hR (fun a ha => by cases ha; exact hT.n3) (by rw [List.length_append, List.length_singleton]; omega)
        have HRm := Lib.hid (HRd.out s (by omega))
        have hoL : o + s ≤ L := by omega
        clear ho hXl
        go_wp2_with (first
          | (go_at_call 24; refine HW.out.mono ?_; rintro e w4 ⟨rfl, r4, hr4, hB4, hk4⟩; have HT4 := Lib.hid (HTt.out.write1 hr4 hB4 hk4); have HK4 := Lib.hid (keep_step HKk.out HR'.out hk4); have HR4 := Lib.hid (row_step HKk.out HR'.out hr4); have HRd4 := Lib.hid (HRm.out.keep hk4 (fun a ha => by cases ha; exact fun e => Or.elim e HTt.out.n3 (fun e => HTt.out.n4 e.symm))); clear hr4 hB4 hk4)
          | (go_at_call 20; refine (HW2.out r4 w4 HT4.out HRd4.out).mono ?_; rintro e w5 ⟨rfl, r5, hr5, hB5, hk5⟩; have HT5 := Lib.hid (HT4.out.write1 hr5 hB5 hk5); have HK5 := Lib.hid (keep_step HK4.out HR4.out hk5); have HR5 := Lib.hid (row_step HK4.out HR4.out hr5); clear hr5 hB5 hk5)
          | (go_at_call 43; refine (reset_calls b2 r2 l2 w5 HT5.out.B2).mono ?_; rintro e w6 ⟨rfl, hB6, hk6⟩; have HB6 := Lib.hid hB6; have HK6 := Lib.hid hk6; clear hB6 hk6))
        go_end0
        have hT6 := (HT5.out.swap.write1 (.inl rfl) HB6.out (HK6.out.mono (fun _ h => .inl h))).swap
        have hE : X ++ [(s : Int)] ++ (l2.drop o).take s = G := by
          have h1 := HX.out
          have h3 := HS.out
          have h4 := HL.out
          have e1 : ((l2.drop o).length : Int) = s := by rw [List.length_drop]; omega
          have e2 : (l2.drop o).take s = l2.drop o := List.take_of_length_le (by omega)
          rw [e2, ← h1]
          simp only [insB]
          rw [e1]
          simp
        rw [hE] at hT6
        exact ⟨rfl, r5, HR5.out, hT6, (HK5.out.mono (fun k h => h.elim Or.inl (fun h => Or.inr (Or.inl h)))).trans HK6.out (fun _ _ h => Or.inr (Or.inr h))⟩
      | succ gg =>
        have hs127 : ¬ s ≤ 127 := by have := HS.out.2.2; omega
        have HW := Lib.hid (writeByte_calls b1 r' X 127 wr HTt.out.B1 (by omega))
        have HW2 : Hid (∀ (r4 : Nat) (w4 : World), Two w4 b1 r4 b2 r2 (X ++ [127]) l2 → Rd w4 (some ⟨r2, o, none⟩) 127 ((l2.drop o).take 127) → Calls Tryd.prog 20 #[.pointer (some ⟨b1, 0, none⟩), .slice (some ⟨r2, o, none⟩) 127 (cap - o)] w4 _) := Lib.hid fun r4 w4 hT hR => write_calls b1 r4 (X ++ [127]) ((l2.drop o).take 127) (some ⟨r2, o, none⟩) 127 (cap - o) w4 hT.B1 hR (fun a ha => by cases ha; exact hT.n3) (by rw [List.length_append, List.length_singleton]; omega)
        have HRm := Lib.hid (HRd.out 127 (by omega))
        have hoL : o + 127 ≤ L := by omega
        have hsb : s ≤ 10000000 := by omega
        clear ho hXl
        go_wp2_with (first
          | (go_at_call 24; refine HW.out.mono ?_; rintro e w4 ⟨rfl, r4, hr4, hB4, hk4⟩; have HT4 := Lib.hid (HTt.out.write1 hr4 hB4 hk4); have HK4 := Lib.hid (keep_step HKk.out HR'.out hk4); have HR4 := Lib.hid (row_step HKk.out HR'.out hr4); have HRd4 := Lib.hid (HRm.out.keep hk4 (fun a ha => by cases ha; exact fun e => Or.elim e HTt.out.n3 (fun e => HTt.out.n4 e.symm))); clear hr4 hB4 hk4)
          | (go_at_call 20; refine (HW2.out r4 w4 HT4.out HRd4.out).mono ?_; rintro e w5 ⟨rfl, r5, hr5, hB5, hk5⟩; have HT5 := Lib.hid (HT4.out.write1 hr5 hB5 hk5); have HK5 := Lib.hid (keep_step HK4.out HR4.out hk5); have HR5 := Lib.hid (row_step HK4.out HR4.out hr5); clear hr5 hB5 hk5))
        go_roundg gg
        case measure => omega
        case rel =>
          refine ⟨o + 127, s - 127, by (congr 1; omega), by go_num, ⟨by have := HS.out; have := HL.out; omega, by omega, by have := HS.out; omega, _, r5, ?_, HR5.out, HT5.out, HK5.out⟩⟩
          rw [← HX.out]
          simp [insB, List.drop_drop]
end Go.Proofs.YtkknoionjppegaaDoor.Delta
