/- The end of an index: its checksum. -/
import Derived.Test.YtllikhbafaohgaaGreatDoorIP
namespace Go.Proofs.YtllikhbafaohgaaGreatDoor.Idx
open Go.RowKit Go.Proofs.YtllikhbafaohgaaGreatDoorW.PrintWords Go.Proofs.YtllikhbafaohgaaGreatDoorW.PrintLast Go.Proofs.YtllikhbafaohgaaGreatDoorW.PrintMore
set_option linter.unusedVariables false
set_option linter.unusedSimpArgs false

theorem be4_ok (x : Int) : ∀ y ∈ be4 x, 0 ≤ y ∧ y < 256 := by
  intro y hy
  unfold be4 at hy
  simp only [List.mem_cons, List.not_mem_nil, or_false] at hy
  rcases hy with rfl | rfl | rfl | rfl <;> omega
theorem sha1Of_ok (D : List Int) : (sha1Of D).length = 20 ∧ ∀ y ∈ sha1Of D, 0 ≤ y ∧ y < 256 := by
  unfold sha1Of digestOf
  refine ⟨rfl, fun y hy => ?_⟩
  simp only [List.mem_append] at hy
  rcases hy with (((h | h) | h) | h) | h <;> exact be4_ok _ y h
theorem sum_calls {w : World} {d : DC} {i : Nat} {v : Value} (hd : d.Ok) (H : St w d i v) :
    Calls Tryz.prog 150 #[.pointer (some ⟨d.h, 0, none⟩), .slice none 0 0] w fun e w' => ∃ A c, e = .returned (.slice A 20 c) ∧ 20 ≤ c ∧ QRow w' w.heap.size 5 1 (.slice A 20 c) 20 (nums .u8 (sha1Of (d.c.D.take i))) ∧ Below w.heap.size w w' := by
  have hh := H.hash
  obtain ⟨A, c, hv, -⟩ := q_slice hh.row
  obtain ⟨n, hn⟩ : ∃ n, n = (restOf (d.c.D.take i)).length := ⟨_, rfl⟩
  rw [← hn] at hv
  subst hv
  refine (hashSum_calls hh (by rw [List.length_take]; have := hd.c.small; have := hd.c.len; omega)).mono fun e w' ⟨v', h1, h2, h3⟩ => ?_
  obtain ⟨A', c', hv', hc'⟩ := q_slice h2
  subst hv'
  rw [sum_is] at h2
  exact ⟨A', c', h1, hc', h2, h3⟩
def z20 : List Value := List.replicate 20 (.int .u8 0)
set_option maxHeartbeats 8000000 in
set_option maxRecDepth 100000 in
theorem checksum_good {w : World} {d : DC} {i k p2 cp M : Nat} {le v : Value} {A : Option Addr} {S : List Int} (hd : d.Ok) (H : St w d i v) (hi : i + 20 ≤ d.c.n) (hk : Dcd w d k le p2) (hkF : Free d v k) (hQ : QRow w M 5 1 (.slice A 20 cp) 20 (nums .u8 S)) (hMv : ∀ j, v.ownBlock = some j → j < M) (hMN : d.N ≤ M) (hl : S.length = 20) (hb : ∀ y ∈ S, 0 ≤ y ∧ y < 256) (hcp : 20 ≤ cp) (hS : (d.c.D.drop i).take 20 = S) :
    Calls Tryz.prog 47 #[.pointer (some ⟨k, 0, none⟩), .slice A 20 cp] w fun e w' => e = .returned .nilIface ∧ Keep w w' (Fr0 d v) := by
  obtain ⟨B, hB⟩ : ∃ B, B = w.heap.size := ⟨_, rfl⟩
  obtain ⟨W1, hW1⟩ : ∃ W1, W1 = w.alloc (.cells #[.int .u8 0, .int .u8 0, .int .u8 0, .int .u8 0, .int .u8 0, .int .u8 0, .int .u8 0, .int .u8 0, .int .u8 0, .int .u8 0, .int .u8 0, .int .u8 0, .int .u8 0, .int .u8 0, .int .u8 0, .int .u8 0, .int .u8 0, .int .u8 0, .int .u8 0, .int .u8 0] 114) := ⟨_, rfl⟩
  have hb1 : Below w.heap.size w W1 := by rw [hW1]; exact below_alloc (Below.refl _ _) _
  have hnew : W1.heap[B]? = some (.cells z20.toArray 114 (0, 0)) := by rw [hW1, hB]; exact heap_alloc_new w _
  have hf : Free d v B := Free.fresh hd H (by omega)
  have hs1 := H.below hd hb1
  have HC : Aside0 (∀ q, Calls Tryz.prog 40 #[.iface 97 (.pointer (some ⟨d.t, 0, none⟩)), .slice (some ⟨B, 0, none⟩) 20 20] (W1.drewN q) fun e w' => e = .returned (.tuple #[.int .i64 20, .nilIface]) ∧ Kd.C (Kd.int .u8) w' (some ⟨B, 0, none⟩) 20 ((d.c.D.drop i).take 20) ∧ Keep W1 w' (Fr d v B)) := ⟨fun q => by
    have hq : Keep W1 (W1.drewN q) (fun _ => False) := (Keep.refl W1 _).drewN q
    refine (readFull_tee (m := 20) (cp := 20) hd (hs1.keep hd hq (fun _ h => h.elim)) hi (by omega) (by omega) (by omega) (by omega) hnew hf (by show 0 + 20 ≤ 20; omega)).mono fun e w' ⟨h1, v', h2, h3, h4, h5⟩ => ⟨h1, C_of h4 (by rw [List.length_take, List.length_drop, hd.c.len]; omega) (by omega) ?_, ⟨h5.os, h5.tape, h5.output, h5.size, h5.block⟩⟩
    intro j u hj
    rw [splice_at _ _ _ _ (List.getElem?_eq_some_iff.1 hj).1 (Nat.zero_le _)]
    exact hj⟩
  have hsl := slice114 B 0
  have c1 : W1.cell? ⟨k, 1, none⟩ = some (.iface 97 (.pointer (some ⟨d.t, 0, none⟩))) := (Keep.of_below hb1 (fun _ => False)).cell hk.c1 id
  have hxl : ((d.c.D.drop i).take 20).length = 20 := by rw [List.length_take, List.length_drop, hd.c.len]; omega
  have hEQ : PFnIdxSum.bytes_Equal.f ((d.c.D.drop i).take 20) S = some true := by
    unfold PFnIdxSum.bytes_Equal.f
    rw [strs_eq _ _ (fun x hx => hd.c.byte x (List.mem_of_mem_drop (List.mem_of_mem_take hx))) hb]
    rw [decide_eq_true hS]
  have HEQ : Aside0 (∀ W, Kd.C (Kd.int .u8) W (some ⟨B, 0, none⟩) 20 ((d.c.D.drop i).take 20) → Kd.C (Kd.int .u8) W A 20 S → Calls Tryz.prog 41 #[.slice (some ⟨B, 0, none⟩) 20 20, .slice A 20 cp] W fun e w' => e = .returned (.bool true) ∧ Drawn0 W w') := ⟨fun W h1 h2 => by
    have h := PFnIdxSum.bytes_Equal.calls (some ⟨B, 0, none⟩) 20 ((d.c.D.drop i).take 20) A cp S true W (by rw [hxl]; exact h1) (by rw [hxl]; exact Nat.le_refl _) (by rw [hl]; exact h2) (by rw [hl]; exact hcp) hEQ
    rw [hxl, hl] at h
    exact h⟩
  have HKC : Aside0 (∀ w', Keep W1 w' (Fr d v B) → Kd.C (Kd.int .u8) w' A 20 S ∧ Keep w w' (Fr0 d v)) := ⟨fun w' h => ⟨q_C (q_move (q_move hQ (fun j hj => hb1.block j (q_lt hQ j hj))) (fun j hj => h.block j (by have := q_lt hQ j hj; have := hb1.size; omega) (fun hF => by
    have hM := (q_typed hQ j hj).1
    have hlt := q_lt hQ j hj
    rcases hF with (e | e | e | e) | (e | e)
    · have := hd.pN; omega
    · have := hd.bN; omega
    · have := hd.gN; omega
    · omega
    · have := hd.hN; omega
    · have := hMv j e.symm; omega))) hl (by omega), Fr0.of hb1 h (by omega)⟩⟩
  have HKF : Aside0 (¬ Fr d v B k) := ⟨hkF.fr (by have := lt_of_block hk; omega)⟩
  have HW1 := Aside0.mk hW1
  have HBs := Aside0.mk hB
  
  clear hB hW1 hb1 hnew hf hs1 hxl hEQ hd H hi hk hkF hQ hMv hMN hl hb hcp hS 
  go_enter Tryz.func47, Tryz.ntmps47
  go_upto_region 2 with (fail)
  rw [← HW1.out, ← HBs.out]
  go_region_held3 (fun w' => w'.cell? ⟨k, 1, none⟩ = some (.iface 97 (.pointer (some ⟨d.t, 0, none⟩)))) (first | (exact c1) | (exact k2)) ((go_at_call 40; refine (HC.out _).mono ?_; rintro e w2 ⟨rfl, hc2, hk2⟩; have HC2 := Aside0.mk hc2; have HK2 := Aside0.mk hk2; have k2 : w2.cell? ⟨k, 1, none⟩ = some (.iface 97 (.pointer (some ⟨d.t, 0, none⟩))) := hk2.cell c1 HKF.out; clear hc2 hk2))
  have hkc := HKC.out w2 HK2.out
  have HQ2 := Aside0.mk (HEQ.out w2 HC2.out hkc.1)
  have HKw := Aside0.mk hkc.2
  have hnop : True := trivial
  clear hkc k2 c1
  go_wp2_with (go_at_call 41; refine HQ2.out.mono ?_; rintro e w3 ⟨rfl, hd3⟩; have HD3 := Aside0.mk hd3;  clear hd3)
  go_ret
  exact ⟨rfl, HKw.out.trans (keep_of_draw HD3.out (fun _ => False)) (fun _ _ h => h.elim)⟩
set_option maxHeartbeats 8000000 in
set_option maxRecDepth 100000 in
theorem checksum_bad {w : World} {d : DC} {i k p2 cp M : Nat} {le v u : Value} {A : Option Addr} {S : List Int} (hd : d.Ok) (H : St w d i v) (hi : i + 20 ≤ d.c.n) (hk : Dcd w d k le p2) (hkF : Free d v k) (hQ : QRow w M 5 1 (.slice A 20 cp) 20 (nums .u8 S)) (hMv : ∀ j, v.ownBlock = some j → j < M) (hMN : d.N ≤ M) (hl : S.length = 20) (hb : ∀ y ∈ S, 0 ≤ y ∧ y < 256) (hcp : 20 ≤ cp) (hS : (d.c.D.drop i).take 20 ≠ S) (hu : w.cell? ⟨2, 0, none⟩ = some u) :
    Calls Tryz.prog 47 #[.pointer (some ⟨k, 0, none⟩), .slice A 20 cp] w fun e w' => e = .returned u ∧ Keep w w' (Fr0 d v) := by
  obtain ⟨B, hB⟩ : ∃ B, B = w.heap.size := ⟨_, rfl⟩
  obtain ⟨W1, hW1⟩ : ∃ W1, W1 = w.alloc (.cells #[.int .u8 0, .int .u8 0, .int .u8 0, .int .u8 0, .int .u8 0, .int .u8 0, .int .u8 0, .int .u8 0, .int .u8 0, .int .u8 0, .int .u8 0, .int .u8 0, .int .u8 0, .int .u8 0, .int .u8 0, .int .u8 0, .int .u8 0, .int .u8 0, .int .u8 0, .int .u8 0] 114) := ⟨_, rfl⟩
  have hb1 : Below w.heap.size w W1 := by rw [hW1]; exact below_alloc (Below.refl _ _) _
  have hnew : W1.heap[B]? = some (.cells z20.toArray 114 (0, 0)) := by rw [hW1, hB]; exact heap_alloc_new w _
  have hf : Free d v B := Free.fresh hd H (by omega)
  have hs1 := H.below hd hb1
  have HC : Aside0 (∀ q, Calls Tryz.prog 40 #[.iface 97 (.pointer (some ⟨d.t, 0, none⟩)), .slice (some ⟨B, 0, none⟩) 20 20] (W1.drewN q) fun e w' => e = .returned (.tuple #[.int .i64 20, .nilIface]) ∧ Kd.C (Kd.int .u8) w' (some ⟨B, 0, none⟩) 20 ((d.c.D.drop i).take 20) ∧ Keep W1 w' (Fr d v B)) := ⟨fun q => by
    have hq : Keep W1 (W1.drewN q) (fun _ => False) := (Keep.refl W1 _).drewN q
    refine (readFull_tee (m := 20) (cp := 20) hd (hs1.keep hd hq (fun _ h => h.elim)) hi (by omega) (by omega) (by omega) (by omega) hnew hf (by show 0 + 20 ≤ 20; omega)).mono fun e w' ⟨h1, v', h2, h3, h4, h5⟩ => ⟨h1, C_of h4 (by rw [List.length_take, List.length_drop, hd.c.len]; omega) (by omega) ?_, ⟨h5.os, h5.tape, h5.output, h5.size, h5.block⟩⟩
    intro j u hj
    rw [splice_at _ _ _ _ (List.getElem?_eq_some_iff.1 hj).1 (Nat.zero_le _)]
    exact hj⟩
  have hsl := slice114 B 0
  have c1 : W1.cell? ⟨k, 1, none⟩ = some (.iface 97 (.pointer (some ⟨d.t, 0, none⟩))) := (Keep.of_below hb1 (fun _ => False)).cell hk.c1 id
  have hxl : ((d.c.D.drop i).take 20).length = 20 := by rw [List.length_take, List.length_drop, hd.c.len]; omega
  have hEQ : PFnIdxSum.bytes_Equal.f ((d.c.D.drop i).take 20) S = some false := by
    unfold PFnIdxSum.bytes_Equal.f
    rw [strs_eq _ _ (fun x hx => hd.c.byte x (List.mem_of_mem_drop (List.mem_of_mem_take hx))) hb]
    rw [decide_eq_false hS]
  have HEQ : Aside0 (∀ W, Kd.C (Kd.int .u8) W (some ⟨B, 0, none⟩) 20 ((d.c.D.drop i).take 20) → Kd.C (Kd.int .u8) W A 20 S → Calls Tryz.prog 41 #[.slice (some ⟨B, 0, none⟩) 20 20, .slice A 20 cp] W fun e w' => e = .returned (.bool false) ∧ Drawn0 W w') := ⟨fun W h1 h2 => by
    have h := PFnIdxSum.bytes_Equal.calls (some ⟨B, 0, none⟩) 20 ((d.c.D.drop i).take 20) A cp S false W (by rw [hxl]; exact h1) (by rw [hxl]; exact Nat.le_refl _) (by rw [hl]; exact h2) (by rw [hl]; exact hcp) hEQ
    rw [hxl, hl] at h
    exact h⟩
  have HKC : Aside0 (∀ w', Keep W1 w' (Fr d v B) → Kd.C (Kd.int .u8) w' A 20 S ∧ Keep w w' (Fr0 d v)) := ⟨fun w' h => ⟨q_C (q_move (q_move hQ (fun j hj => hb1.block j (q_lt hQ j hj))) (fun j hj => h.block j (by have := q_lt hQ j hj; have := hb1.size; omega) (fun hF => by
    have hM := (q_typed hQ j hj).1
    have hlt := q_lt hQ j hj
    rcases hF with (e | e | e | e) | (e | e)
    · have := hd.pN; omega
    · have := hd.bN; omega
    · have := hd.gN; omega
    · omega
    · have := hd.hN; omega
    · have := hMv j e.symm; omega))) hl (by omega), Fr0.of hb1 h (by omega)⟩⟩
  have HKF : Aside0 (¬ Fr d v B k) := ⟨hkF.fr (by have := lt_of_block hk; omega)⟩
  have HW1 := Aside0.mk hW1
  have HBs := Aside0.mk hB
  have HU := Aside0.mk (⟨(Keep.of_below hb1 (fun _ => False)).cell hu id, Fr.glob (b := B) hd H (k := 2) (by omega) (by have := hd.Lp; have := hd.pN; have := H.hash.le; omega)⟩ : W1.cell? ⟨2, 0, none⟩ = some u ∧ ¬ Fr d v B 2)
  clear hB hW1 hb1 hnew hf hs1 hxl hEQ hd H hi hk hkF hQ hMv hMN hl hb hcp hS hu
  go_enter Tryz.func47, Tryz.ntmps47
  go_upto_region 2 with (fail)
  rw [← HW1.out, ← HBs.out]
  go_region_held3 (fun w' => w'.cell? ⟨k, 1, none⟩ = some (.iface 97 (.pointer (some ⟨d.t, 0, none⟩)))) (first | (exact c1) | (exact k2)) ((go_at_call 40; refine (HC.out _).mono ?_; rintro e w2 ⟨rfl, hc2, hk2⟩; have HC2 := Aside0.mk hc2; have HK2 := Aside0.mk hk2; have k2 : w2.cell? ⟨k, 1, none⟩ = some (.iface 97 (.pointer (some ⟨d.t, 0, none⟩))) := hk2.cell c1 HKF.out; clear hc2 hk2))
  have hkc := HKC.out w2 HK2.out
  have HQ2 := Aside0.mk (HEQ.out w2 HC2.out hkc.1)
  have HKw := Aside0.mk hkc.2
  have HU2 := Aside0.mk (HK2.out.cell HU.out.1 HU.out.2)
  clear hkc k2 c1
  go_wp2_with (go_at_call 41; refine HQ2.out.mono ?_; rintro e w3 ⟨rfl, hd3⟩; have HD3 := Aside0.mk hd3; have hu3 : w3.cell? ⟨2, 0, none⟩ = some u := (keep_of_draw hd3 (fun _ => False)).cell HU2.out id; clear hd3)
  go_ret
  exact ⟨rfl, HKw.out.trans (keep_of_draw HD3.out (fun _ => False)) (fun _ _ h => h.elim)⟩
end Go.Proofs.YtllikhbafaohgaaGreatDoor.Idx
