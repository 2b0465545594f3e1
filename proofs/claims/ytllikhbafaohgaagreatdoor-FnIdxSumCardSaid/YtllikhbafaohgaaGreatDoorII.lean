/- The head of an index: a number, the signature. -/
import Derived.Test.YtllikhbafaohgaaGreatDoorIH
import Derived.Lib.Bytes
namespace Go.Proofs.YtllikhbafaohgaaGreatDoor.Idx
open Go.RowKit Go.Proofs.YtllikhbafaohgaaGreatDoorW.PrintWords Go.Proofs.YtllikhbafaohgaaGreatDoorW.PrintLast Go.Proofs.YtllikhbafaohgaaGreatDoorW.PrintMore
set_option linter.unusedVariables false
set_option linter.unusedSimpArgs false

theorem Fr0.fresh {w w1 w' : World} {d : DC} {v : Value} {b : Nat} (h : Below w.heap.size w w1) (k : Keep w1 w' (fun j => Fr0 d v j ∨ j = b)) (hb : w.heap.size ≤ b) : Keep w w' (Fr0 d v) :=
  (Keep.of_below h _).trans k (fun j hj hF => hF.elim id (fun e => by omega))
set_option maxHeartbeats 8000000 in
set_option maxRecDepth 100000 in
theorem readUint32_calls {w : World} {d : DC} {i : Nat} {v : Value} (hd : d.Ok) (H : St w d i v) (hi : i + 4 ≤ d.c.n) :
    Calls Tryz.prog 29 #[.iface 97 (.pointer (some ⟨d.t, 0, none⟩))] w fun e w' => e = .returned (.tuple #[.int .u32 (bigOf ((d.c.D.drop i).take 4) % 4294967296), .nilIface]) ∧ ∃ v', St w' d (i + 4) v' ∧ Owns w v v' ∧ Keep w w' (Fr0 d v) := by
  obtain ⟨W1, hW1⟩ : ∃ W1, W1 = w.alloc (.cells #[.int .u32 0] 27) := ⟨_, rfl⟩
  have hbel : Below w.heap.size w W1 := by rw [hW1]; exact below_alloc (Below.refl _ _) _
  have hnew : W1.heap[w.heap.size]? = some (.cells #[.int .u32 0] 27 (0, 0)) := by rw [hW1]; exact heap_alloc_new w _
  have hfree : Free d v w.heap.size := Free.fresh hd H (Nat.le_refl _)
  have HC : Aside0 (Calls Tryz.prog 43 #[.iface 97 (.pointer (some ⟨d.t, 0, none⟩)), .iface 105 (.pointer (some ⟨w.heap.size, 0, none⟩))] W1 fun e w' => e = .returned .nilIface ∧ w'.cell? ⟨w.heap.size, 0, none⟩ = some (.int .u32 (bigOf ((d.c.D.drop i).take 4) % 4294967296)) ∧ ∃ v', St w' d (i + 4) v' ∧ Owns w v v' ∧ Keep w w' (Fr0 d v)) := ⟨by
    refine (zzRead_u32 (x0 := 0) hd (H.below hd hbel) hi hfree H.hash.le hnew rfl).mono fun e w' ⟨h1, h2, v', h3, h4, h5⟩ => ⟨h1, cell_of h2 0 rfl, v', h3, fun j hj => (h4 j hj).imp id (fun h => Nat.le_trans hbel.size h), Fr0.fresh hbel h5 (Nat.le_refl _)⟩⟩
  have HW1 := Aside0.mk hW1
  clear hW1 hbel hnew hfree hd H hi
  go_enter Tryz.func29, Tryz.ntmps29
  go_wp2_with (go_at_call 43; rw [← HW1.out]; refine HC.out.mono ?_; rintro e w2 ⟨rfl, hcc, hg2⟩; have HG2 := Aside0.mk hg2; clear hg2)
  go_ret2
  exact ⟨rfl, HG2.out⟩
theorem make4 : ∀ W : World, (Instr.makeSlice 24 (.int .i64 4) (.int .i64 4)).run Tryz.prog W = .ok (.slice (some ⟨W.heap.size, 0, none⟩) 4 4) (W.alloc (.cells #[.int .u8 0, .int .u8 0, .int .u8 0, .int .u8 0] 5)) := fun _ => by kernel_rfl
theorem C_of {w : World} {b o n : Nat} {cs : List Value} {t : TypeId} {xs : List Int} (h : w.heap[b]? = some (.cells cs.toArray t (0, 0))) (hn : xs.length = n) (hl : n ≤ 1000000000) (hx : ∀ j v, (nums .u8 xs)[j]? = some v → cs[o + j]? = some v) : Kd.C (Kd.int .u8) w (some ⟨b, o, none⟩) n xs := by
  refine ⟨hn, by omega, fun hp => ?_⟩
  refine ⟨⟨b, o, none⟩, rfl, fun j x hj => ⟨[.int .u8 x], rfl, rfl, fun i u hu => ?_⟩⟩
  have hi : i = 0 := by
    have := (List.getElem?_eq_some_iff.1 hu).1
    simpa using this
  subst hi
  obtain rfl : u = .int .u8 x := by simpa using hu.symm
  have e : j * (Kd.int .u8).sz + 0 = j := by show j * 1 + 0 = j; omega
  rw [e, add_off]
  exact cell_of h (o + j) (by rw [List.getElem?_toArray]; exact hx j _ (by unfold nums; rw [List.getElem?_map, hj]; rfl))
theorem keep_of_draw {w w1 : World} (h : Drawn0 w w1) (F : Nat → Prop) : Keep w w1 F := by
  obtain ⟨m, rfl⟩ := h.out
  exact (Keep.refl w F).drewN m
theorem sig_parts {w w1 : World} {v : Value} {xs : List Int} (h : Kd.R (Kd.int .u8) 5 w1 w.heap.size (fun _ => True) v xs) : ∃ A c, xs.length ≤ c ∧ v = .slice A xs.length c ∧ Kd.C (Kd.int .u8) w1 A xs.length xs := by
  obtain ⟨A, c, h1, h2, h3⟩ := Kd.R_reads h
  exact ⟨A, c, h2, h1, h3⟩
theorem strs_eq (xs ys : List Int) (hx : ∀ x ∈ xs, 0 ≤ x ∧ x < 256) (hy : ∀ x ∈ ys, 0 ≤ x ∧ x < 256) : ((strOfNums xs).toList == (strOfNums ys).toList) = decide (xs = ys) := by
  have key : ∀ (xs ys : List Int), (∀ x ∈ xs, 0 ≤ x ∧ x < 256) → (∀ x ∈ ys, 0 ≤ x ∧ x < 256) → xs.map (fun n : Int => UInt8.ofNat n.toNat) = ys.map (fun n : Int => UInt8.ofNat n.toNat) → xs = ys := by
    intro xs
    induction xs with
    | nil => intro ys _ _ h; cases ys with
      | nil => rfl
      | cons y ys => simp at h
    | cons x xs ih => intro ys hx hy h; cases ys with
      | nil => simp at h
      | cons y ys =>
        simp only [List.map_cons, List.cons.injEq] at h
        have h1 := congrArg UInt8.toNat h.1
        have bx := hx x (by simp)
        have by_ := hy y (by simp)
        rw [UInt8.toNat_ofNat_of_lt' (by show x.toNat < 256; omega), UInt8.toNat_ofNat_of_lt' (by show y.toNat < 256; omega)] at h1
        rw [ih ys (fun z hz => hx z (by simp [hz])) (fun z hz => hy z (by simp [hz])) h.2, show x = y by omega]
  have e : ∀ xs : List Int, (strOfNums xs).toList = xs.map (fun n : Int => UInt8.ofNat n.toNat) := fun xs => Go.Lib.strOfNums_toList xs
  rw [e, e]
  by_cases h : xs = ys
  · subst h; simp
  · rw [decide_eq_false h, beq_eq_false_iff_ne]
    exact fun h' => h (key xs ys hx hy h')
theorem St.glob {w : World} {d : DC} {i : Nat} {v : Value} (hd : d.Ok) (h : St w d i v) {k : Nat} (hk : k < 22) : ¬ Fr0 d v k := fun hF => by
  have := hd.Lp; have := hd.Lb; have := hd.Lg; have := hd.Lh; have := hd.hN
  rcases hF with (e | e | e) | (e | e)
  · omega
  · omega
  · omega
  · omega
  · have := (h.own k e.symm).1; omega

set_option maxHeartbeats 8000000 in
set_option maxRecDepth 100000 in
theorem header_good {w : World} {d : DC} {v : Value} (hd : d.Ok) (H : St w d 0 v) (hi : 8 ≤ d.c.n) (hD : d.c.D.take 4 = [68, 73, 82, 67]) (hv : bigOf ((d.c.D.drop 4).take 4) % 4294967296 = 2) :
    Calls Tryz.prog 28 #[.iface 97 (.pointer (some ⟨d.t, 0, none⟩))] w fun e w' => e = .returned (.tuple #[.int .u32 2, .nilIface]) ∧ ∃ v', St w' d 8 v' ∧ Owns w v v' ∧ Keep w w' (Fr0 d v) := by
  have hmk := make4
  obtain ⟨W1, hW1⟩ : ∃ W1, W1 = w.alloc (.cells #[.int .u8 0, .int .u8 0, .int .u8 0, .int .u8 0] 5) := ⟨_, rfl⟩
  have hbel : Below w.heap.size w W1 := by rw [hW1]; exact below_alloc (Below.refl _ _) _
  have hnew : W1.heap[w.heap.size]? = some (.cells ([.int .u8 0, .int .u8 0, .int .u8 0, .int .u8 0] : List Value).toArray 5 (0, 0)) := by rw [hW1]; exact heap_alloc_new w _
  have hfree : Free d v w.heap.size := Free.fresh hd H (Nat.le_refl _)
  have HC : Aside0 (Calls Tryz.prog 40 #[.iface 97 (.pointer (some ⟨d.t, 0, none⟩)), .slice (some ⟨w.heap.size, 0, none⟩) 4 4] W1 fun e w' => e = .returned (.tuple #[.int .i64 4, .nilIface]) ∧ Kd.C (Kd.int .u8) w' (some ⟨w.heap.size, 0, none⟩) 4 [68, 73, 82, 67] ∧ ∃ v', St w' d 4 v' ∧ Owns w v v' ∧ Keep w w' (Fr0 d v)) := ⟨by
    refine (readFull_tee (m := 4) (cp := 4) hd (H.below hd hbel) (by omega) (by omega) (by omega) (by omega) (by omega) hnew hfree (by simp)).mono fun e w' ⟨h1, v', h2, h3, h4, h5⟩ => ⟨h1, C_of h4 rfl (by omega) ?_, v', by rw [Nat.zero_add] at h2; exact h2, fun j hj => (h3 j hj).imp id (fun h => Nat.le_trans hbel.size h), Fr0.of hbel h5 (Nat.le_refl _)⟩
    intro j v hj
    rw [List.drop_zero, hD, splice_at _ _ _ _ (List.getElem?_eq_some_iff.1 hj).1 (Nat.zero_le _)]
    exact hj⟩
  have HD := Aside0.mk hd
  have HV := Aside0.mk hv
  have HW1 := Aside0.mk hW1
  clear hW1 hbel hnew hfree hd H hD hv
  go_enter Tryz.func28, Tryz.ntmps28
  go_wp2_with (go_at_call 40; rw [← HW1.out]; refine HC.out.mono ?_; rintro e w2 ⟨rfl, hC2, v2, hs2, ho2, hk2⟩; have HC2 := Aside0.mk hC2; have HS2 := Aside0.mk hs2; have HO2 := Aside0.mk ho2; have HK2 := Aside0.mk hk2; clear hC2 hs2 ho2 hk2)
  refine (PFnIdxSum.index_indexSignature.calls [68, 73, 82, 67] w2 rfl).mono ?_
  rintro e w3 ⟨vs, rfl, hR3, hb3⟩
  obtain ⟨A3, c3, hc3, rfl, hC3⟩ := sig_parts hR3
  have HC3 := Aside0.mk hC3
  have HB3 := Aside0.mk hb3
  have HCc := Aside0.mk hc3
  have HCK : Aside0 (Kd.C (Kd.int .u8) w3 (some ⟨w.heap.size, 0, none⟩) 4 [68, 73, 82, 67]) := ⟨Kd.C_below HC2.out HB3.out⟩
  clear hR3 hb3 hC3 hc3
  have HCq : Aside0 (Calls Tryz.prog 41 #[.slice (some ⟨w.heap.size, 0, none⟩) 4 4, .slice A3 4 c3] w3 fun e w' => e = .returned (.bool true) ∧ Drawn0 w3 w') := ⟨PFnIdxSum.bytes_Equal.calls (some ⟨w.heap.size, 0, none⟩) 4 [68, 73, 82, 67] A3 c3 [68, 73, 82, 67] true w3 HCK.out (by simp) HC3.out (by simp; exact HCc.out) (by unfold PFnIdxSum.bytes_Equal.f; simp)⟩
  go_wp2_with (first | (go_at_call 41; refine HCq.out.mono ?_; rintro e w4 ⟨rfl, hd4⟩; have HD4 := Aside0.mk hd4; have HS4 : Aside0 (St w4 d 4 v2) := ⟨(HS2.out.below HD.out HB3.out).keep HD.out (keep_of_draw hd4 (fun _ => False)) (fun _ h => h.elim)⟩; clear hd4; have HC4 := Aside0.mk (readUint32_calls HD.out HS4.out (by omega)); rw [HV.out] at HC4) | (go_at_call 29; refine HC4.out.mono ?_; rintro e w5 ⟨rfl, v5, hs5, ho5, hk5⟩; have HS5 := Aside0.mk hs5; have HO5 := Aside0.mk ho5; have HK5 := Aside0.mk hk5; clear hs5 ho5 hk5))
  go_ret2
  have hK : Keep w2 w4 (Fr0 d v2) := (Keep.of_below HB3.out _).trans (keep_of_draw HD4.out (fun _ => False)) (fun _ _ h => h.elim)
  exact ⟨rfl, v5, HS5.out, HO2.out.trans (fun j hj => (HO5.out j hj).imp id (fun h => Nat.le_trans hK.size h)) HK2.out.size, Fr0.trans HK2.out HO2.out ((hK.trans HK5.out (fun _ _ h => h)))⟩
set_option maxHeartbeats 8000000 in
set_option maxRecDepth 100000 in
theorem header_bad {w : World} {d : DC} {v : Value} (hd : d.Ok) (H : St w d 0 v) {u : Value} (hi : 8 ≤ d.c.n) (hD : d.c.D.take 4 ≠ [68, 73, 82, 67]) (hu : w.cell? ⟨0, 0, none⟩ = some u) :
    Calls Tryz.prog 28 #[.iface 97 (.pointer (some ⟨d.t, 0, none⟩))] w fun e w' => e = .returned (.tuple #[.int .u32 0, u]) ∧ Keep w w' (Fr0 d v) := by
  have hmk := make4
  have hl4 : (d.c.D.take 4).length = 4 := by rw [List.length_take, hd.c.len]; omega
  have HEQ : Aside0 (PFnIdxSum.bytes_Equal.f (d.c.D.take 4) [68, 73, 82, 67] = some false) := ⟨by
    unfold PFnIdxSum.bytes_Equal.f
    rw [strs_eq _ _ (fun x hx => hd.c.byte x (List.mem_of_mem_take hx)) (by decide), decide_eq_false hD]⟩
  have hn0 : ∀ v', St w d 0 v' → ¬ Fr0 d v' 0 := fun v' h' => St.glob hd h' (by omega)
  have HU := Aside0.mk hu
  have HL4 := Aside0.mk hl4
  have HN0 := Aside0.mk (hn0 v H)
  obtain ⟨W1, hW1⟩ : ∃ W1, W1 = w.alloc (.cells #[.int .u8 0, .int .u8 0, .int .u8 0, .int .u8 0] 5) := ⟨_, rfl⟩
  have hbel : Below w.heap.size w W1 := by rw [hW1]; exact below_alloc (Below.refl _ _) _
  have hnew : W1.heap[w.heap.size]? = some (.cells ([.int .u8 0, .int .u8 0, .int .u8 0, .int .u8 0] : List Value).toArray 5 (0, 0)) := by rw [hW1]; exact heap_alloc_new w _
  have hfree : Free d v w.heap.size := Free.fresh hd H (Nat.le_refl _)
  have HC : Aside0 (Calls Tryz.prog 40 #[.iface 97 (.pointer (some ⟨d.t, 0, none⟩)), .slice (some ⟨w.heap.size, 0, none⟩) 4 4] W1 fun e w' => e = .returned (.tuple #[.int .i64 4, .nilIface]) ∧ Kd.C (Kd.int .u8) w' (some ⟨w.heap.size, 0, none⟩) 4 (d.c.D.take 4) ∧ ∃ v', St w' d 4 v' ∧ Owns w v v' ∧ Keep w w' (Fr0 d v)) := ⟨by
    refine (readFull_tee (m := 4) (cp := 4) hd (H.below hd hbel) (by omega) (by omega) (by omega) (by omega) (by omega) hnew hfree (by simp)).mono fun e w' ⟨h1, v', h2, h3, h4, h5⟩ => ⟨h1, C_of h4 hl4 (by omega) ?_, v', by rw [Nat.zero_add] at h2; exact h2, fun j hj => (h3 j hj).imp id (fun h => Nat.le_trans hbel.size h), Fr0.of hbel h5 (Nat.le_refl _)⟩
    intro j v hj
    rw [List.drop_zero, splice_at _ _ _ _ (List.getElem?_eq_some_iff.1 hj).1 (Nat.zero_le _)]
    exact hj⟩
  have HD := Aside0.mk hd
  have HW1 := Aside0.mk hW1
  clear hW1 hbel hnew hfree hd H hD hu hn0 hl4
  go_enter Tryz.func28, Tryz.ntmps28
  go_wp2_with (go_at_call 40; rw [← HW1.out]; refine HC.out.mono ?_; rintro e w2 ⟨rfl, hC2, v2, hs2, ho2, hk2⟩; have HC2 := Aside0.mk hC2; have HS2 := Aside0.mk hs2; have HO2 := Aside0.mk ho2; have HK2 := Aside0.mk hk2; clear hC2 hs2 ho2 hk2)
  refine (PFnIdxSum.index_indexSignature.calls [68, 73, 82, 67] w2 rfl).mono ?_
  rintro e w3 ⟨vs, rfl, hR3, hb3⟩
  obtain ⟨A3, c3, hc3, rfl, hC3⟩ := sig_parts hR3
  have HC3 := Aside0.mk hC3
  have HB3 := Aside0.mk hb3
  have HCc := Aside0.mk hc3
  have HCq : Aside0 (Calls Tryz.prog 41 #[.slice (some ⟨w.heap.size, 0, none⟩) 4 4, .slice A3 4 c3] w3 fun e w' => e = .returned (.bool false) ∧ Drawn0 w3 w') := ⟨by
    have h := PFnIdxSum.bytes_Equal.calls (some ⟨w.heap.size, 0, none⟩) 4 (d.c.D.take 4) A3 c3 [68, 73, 82, 67] false w3 (by rw [HL4.out]; exact Kd.C_below HC2.out HB3.out) (by rw [HL4.out]; exact Nat.le_refl _) HC3.out (by simp; exact HCc.out) HEQ.out
    rw [HL4.out] at h
    exact h⟩
  clear hR3 hb3 hC3 hc3
  go_wp2_with (go_at_call 41; refine HCq.out.mono ?_; rintro e w4 ⟨rfl, hd4⟩; have hu4 : w4.cell? ⟨0, 0, none⟩ = some u := (keep_of_draw hd4 (fun _ => False)).cell ((Keep.of_below HB3.out (fun _ => False)).cell (HK2.out.cell HU.out HN0.out) id) id; have HK4 : Aside0 (Keep w w4 (Fr0 d v)) := ⟨(HK2.out.trans (Keep.of_below HB3.out (fun _ => False)) (fun _ _ h => h.elim)).trans (keep_of_draw hd4 (fun _ => False)) (fun _ _ h => h.elim)⟩; clear hd4)
  go_quiet (fail)
  go_wp2_with fail
  go_ret2
  exact ⟨rfl, HK4.out.drewN _⟩
end Go.Proofs.YtllikhbafaohgaaGreatDoor.Idx
