/- A request is decoded: the walk. -/
import Derived.Test.YtbgimkjodpjnfaaDoorProtoM
namespace Go.Proofs.YtbgimkjodpjnfaaDoor.Proto
open Go.RowKit Go.Proofs.YtbgimkjodpjnfaaDoorW.PrintWords Go.Proofs.YtbgimkjodpjnfaaDoorW.PrintLast Go.Proofs.YtbgimkjodpjnfaaDoorW.PrintMore Go.Proofs.YtbgimkjodpjnfaaDoor.PFnProtoFirstRead

/-- What the text says, part by part. -/
structure Says (ys : List UInt8) (command path h1 host : ByteArray) (more : List ByteArray) : Prop where
  last : ∀ h : ys.length - 1 < (⟨ys.toArray⟩ : ByteArray).size, ((⟨ys.toArray⟩ : ByteArray)[ys.length - 1]'h).toNat = 0
  splitN : ∃ k rest, packp_zzSplitN.f k ⟨ys.toArray⟩ ⟨#[32]⟩ 2 = some [command, rest] ∧ ∃ k, packp_zzSplit.f k rest ⟨#[0]⟩ = some (path :: h1 :: more)
  trim : strings_TrimPrefix.f h1 ⟨#[104, 111, 115, 116, 61]⟩ = some host
theorem conv_bytes {w : World} {pb t : Nat} {fr : Nat × Nat} {ys : List UInt8} (h : w.heap[pb]? = some (.cells (vals ys).toArray t fr)) (hf : ys.length ≤ 1000) : (convert 36 9 (.slice (some ⟨pb, 0, none⟩) ys.length ys.length)).run Tryd.prog w = .ok (.string ⟨ys.toArray⟩) w := by
  have hC := bytes_C h ys.length (Nat.le_refl _) (by omega)
  rw [List.take_length, nums_length] at hC
  have := Kd.C_string (P := Tryd.prog) (A := some ⟨pb, 0, none⟩) (c := ys.length) Tryd.underlying36 Tryd.underlying5 Tryd.underlying9 hC
  rwa [str_nums] at this
theorem conv_zero {w : World} {pb : Nat} {fr : Nat × Nat} (h : w.heap[pb]? = some (.cells #[.int .u8 0] 5 fr)) : (convert 36 9 (.slice (some ⟨pb, 0, none⟩) 1 1)).run Tryd.prog w = .ok (.string ⟨#[0]⟩) w := by
  have hC := bytes_C (l := [0]) h 1 (by simp) (by simp)
  exact Kd.C_string (P := Tryd.prog) (A := some ⟨pb, 0, none⟩) (c := 1) Tryd.underlying36 Tryd.underlying5 Tryd.underlying9 hC
/-- The texts of a fresh row. -/
theorem strs_parts {w : World} {base : Nat} {ok : Nat → Prop} {v : Value} {l : List ByteArray} (h : Kd.string.R 9 w base ok v l) (hl : 0 < l.length) : ∃ ad c, v = .slice (some ad) l.length c ∧ l.length ≤ c ∧ base ≤ ad.block ∧ ad.block < w.heap.size ∧ ∀ j x, l[j]? = some x → w.cell? (ad.add j) = some (.string x) := by
  obtain ⟨A, c, rfl, hlc, hC⟩ := Kd.R_reads h
  obtain ⟨ad, cs, rfl, -, -, -⟩ := Kd.C_get hC ⟨#[]⟩ 0 (by omega) (by omega)
  have hcell : ∀ j x, l[j]? = some x → w.cell? (ad.add j) = some (.string x) := fun j x hj => by
    obtain ⟨hj1, hj2⟩ := List.getElem?_eq_some_iff.1 hj
    obtain ⟨ad', cs', e, -, hK, hcc⟩ := Kd.C_get hC ⟨#[]⟩ j (by omega) (by omega)
    cases e
    have := hcc 0 _ (by rw [hK]; rfl)
    rw [show Kd.string.sz = 1 from rfl, Nat.mul_one, Nat.add_zero, Int.toNat_natCast, List.getD_eq_getElem?_getD, hj] at this
    exact this
  refine ⟨ad, c, rfl, hlc, ?_, ?_, hcell⟩
  · have := (Kd.R_bound h).1 ad.block
    rcases h.2 with ⟨inner, ho, _⟩
    rcases ho.2 with ⟨hv, h0⟩ | ⟨g, cap, cur, hv, hg, _⟩
    · cases hv
    · cases hv
      exact hg
  · obtain ⟨x, hx⟩ : ∃ x, l[0]? = some x := ⟨l[0], List.getElem?_eq_getElem hl⟩
    have := World.block_lt_of_cell? w _ (hcell 0 x hx)
    rwa [add_block] at this
theorem add_none (a : Addr) : a.add 0 = a := by unfold Addr.add; simp
theorem add_one' (a : Addr) : a.add 1 = ⟨a.block, a.off + 1, none⟩ := by unfold Addr.add; simp
theorem info9' : (Tryd.prog.info? 9).map (fun i => (i.zero, i.size, i.bytes)) = some (some (.string ⟨#[]⟩), 1, 16) := by kernel_rfl
theorem append_keep {w wr w10 : World} {d b g : Nat} {v3 : Value} {s0 s1 s2 : ByteArray} {ks : List ByteArray} {off : Nat} {u : Value} (hg : wr.grownBy w10 v3.ownBlock) (hr : Kd.string.R 9 wr w.heap.size (fun k => k ≠ d ∧ k ≠ b) v3 ks) (hd : Req wr d s0 s1 s2 v3) (hk : Keep w wr (fun k => k = g ∨ k = d)) (hc : wr.cell? ⟨b, off, none⟩ = some u) :
    Req w10 d s0 s1 s2 v3 ∧ w10.heap[b]? = wr.heap[b]? ∧ Keep w w10 (fun k => k = g ∨ k = d) := by
  have hb := (Kd.R_bound hr).1
  refine ⟨grown_old hg hd (fun e => (hb d e.symm).1.1 rfl), hg.block b (World.block_lt_of_cell? wr _ hc) (fun e => (hb b e.symm).1.2 rfl), ?_⟩
  exact ⟨hg.os.trans hk.os, hg.tape.trans hk.tape, hg.output.trans hk.output, Nat.le_trans hk.size hg.size, fun k hkl hn => (hg.block k (Nat.lt_of_lt_of_le hkl hk.size) (fun e => by have := (hb k e.symm).2.1; omega)).trans (hk.block k hkl hn)⟩
def full (more : List ByteArray) : List ByteArray := more.filter fun e => !e.toList.isEmpty

/-- What is known behind the second cut of a request. -/
def MidR (w w6 : World) (d g : Nat) (command path h1 : ByteArray) (more : List ByteArray) (v9 : Value) : Prop :=
  ∃ n6, w.heap.size ≤ n6 ∧ Kd.string.R 9 w6 n6 (fun _ => True) v9 (path :: h1 :: more) ∧ Req w6 d command ⟨#[]⟩ ⟨#[]⟩ (.slice none 0 0) ∧ Keep w w6 (fun k => k = g ∨ k = d)

set_option maxHeartbeats 8000000 in
set_option maxRecDepth 100000 in
theorem decode_calls {w : World} {g d : Nat} {A : Addr} {n cap : Nat} {ys : List UInt8} {a1 : Addr} {command path h1 host : ByteArray} {more : List ByteArray} (hl : LineAt w g A n cap ys) (hs : Says ys command path h1 host more) (hd : Req w d ⟨#[]⟩ ⟨#[]⟩ ⟨#[]⟩ (.slice none 0 0)) (hdg : d ≠ g)
    (he : w.cell? ⟨1, 0, none⟩ = some (.iface 170 (.pointer (some a1)))) (hg1 : 1 ≠ g) (hm : more.length ≤ 1000) :
    Calls Tryd.prog 29 #[.pointer (some ⟨d, 0, none⟩), .iface 62 (.pointer (some ⟨g, 0, none⟩))] w fun e w' => e = .returned .nilIface ∧ ∃ v3, Req w' d command path host v3 ∧ Kd.R Kd.string 9 w' w.heap.size (fun k => k ≠ d) v3 (full more) ∧ Keep w w' (fun k => k = g ∨ k = d) := by
  have HL := Aside0.mk hl
  have HD := Aside0.mk hd
  have HSC := Aside0.mk (scan_line hl he hg1)
  obtain ⟨k1, rest, hs1, k2, hs2⟩ := hs.splitN
  have H1 := Aside0.mk (packp_zzSplitN.calls k1 ⟨ys.toArray⟩ ⟨#[32]⟩ 2 [command, rest])
  have H2 := Aside0.mk (packp_zzSplit.calls k2 rest ⟨#[0]⟩ (path :: h1 :: more))
  have HS1 := Aside0.mk hs1
  have HS2 := Aside0.mk hs2
  have HT := Aside0.mk hs.trim
  have hlast := hs.last
  have HDL : Aside0 (d < w.heap.size ∧ d ≠ g) := ⟨lt_of_block hd, hdg⟩
  have HM := Aside0.mk hm
  have z1 : (ys.length == 0) = false := by rw [beq_eq_false_iff_ne]; have := hl.pos; omega
  have z2 : decide (ys.length = 0) = false := by have := hl.pos; simp; intro h; rw [h] at this; simp at this
  have hyl : 0 < ys.length := hl.pos
  have hyf : ys.length ≤ 1000 := hl.few
  have hsz : (⟨ys.toArray⟩ : ByteArray).size = ys.length := by simp [ByteArray.size]
  have HCV : Aside0 (∀ (w : World) (pb : Nat), w.heap[pb]? = some (.cells (vals ys).toArray 5 (0, 0)) → (convert 36 9 (.slice (some ⟨pb, 0, none⟩) ys.length ys.length)).run Tryd.prog w = .ok (.string ⟨ys.toArray⟩) w) := ⟨fun w pb hb => conv_bytes hb hyf⟩
  obtain ⟨T, hT⟩ : ∃ T : ByteArray, T = ⟨ys.toArray⟩ := ⟨_, rfl⟩
  rw [← hT] at hlast hsz HCV H1 HS1
  clear hl hs hd hdg he hg1 hm hs1 hs2 hT
  go_enter Tryd.func29, Tryd.ntmps29
  go_wp2_with (first
    | (go_at_call 47; refine (newScanner_calls _ _).mono ?_; rintro e w1 ⟨rfl, rfl⟩)
    | (go_at_call 48; refine HSC.out.mono ?_; rintro e w2 ⟨rfl, pb, hpb, ⟨y0, y1, y2, y3, hsc⟩, hb2, hk2⟩; have HSC2 := Aside0.mk hsc; have HB2 := Aside0.mk hb2; have HK2 := Aside0.mk hk2; have HPB := Aside0.mk hpb; have hcv := HCV.out _ _ hb2; clear hsc hb2 hk2 hpb)
    | (go_at_call 49; refine (scannerBytes_calls HSC2.out).mono ?_; rintro e w3 ⟨rfl, rfl⟩))
  refine (H1.out _ HS1.out).mono ?_
  rintro e w3 ⟨v8, rfl, hr8, hb8⟩
  obtain ⟨ad8, c8, rfl, hlc8, hf8, hl8, hcell8⟩ := strs_parts hr8 (by simp)
  have p0 : w3.cell? ad8 = some (.string command) := by have := hcell8 0 _ rfl; rwa [add_none] at this
  have HP1 : Aside0 (w3.cell? ⟨ad8.block, ad8.off + 1, none⟩ = some (.string rest)) := ⟨by have := hcell8 1 _ rfl; rwa [add_one'] at this⟩
  have HK3 : Aside0 (Keep w w3 (fun k => k = g)) := ⟨HK2.out.trans (Keep.of_below hb8 _) (fun _ _ h => h)⟩
  have HD3 : Aside0 (Req w3 d ⟨#[]⟩ ⟨#[]⟩ ⟨#[]⟩ (.slice none 0 0)) := ⟨(HK3.out.block d HDL.out.1 HDL.out.2).trans HD.out⟩
  have HA8 : Aside0 (ad8.block ≠ d) := ⟨by have := HK2.out.size; have := HDL.out.1; omega⟩
  have f0 := frozen_of HD3.out 0
  have c0 : w3.cell? ⟨d, 0, none⟩ = some (.string ⟨#[]⟩) := cell_of HD3.out 0 rfl
  clear hr8 hb8 hf8 hl8 hcell8 H1 HS1 hcv HB2 HSC2 HSC HCV
  go_wp2_with fail
  obtain ⟨W4, hW4⟩ : ∃ W4, W4 = w3.setCell ⟨d, 0, none⟩ (.string command) := ⟨_, rfl⟩
  rw [← hW4]
  have HD4 : Aside0 (Req W4 d command ⟨#[]⟩ ⟨#[]⟩ (.slice none 0 0)) := ⟨by rw [hW4]; exact HD3.out.set0 _⟩
  have HP4 : Aside0 (W4.cell? ⟨ad8.block, ad8.off + 1, none⟩ = some (.string rest)) := ⟨by rw [hW4, World.cell?_setCell_other _ _ _ _ (fun e => HA8.out (congrArg Addr.block e).symm)]; exact HP1.out⟩
  have HK4 : Aside0 (Keep w W4 (fun k => k = g ∨ k = d)) := ⟨by rw [hW4]; exact Keep.setCell (F := fun k => k = g ∨ k = d) (a := ⟨d, 0, none⟩) (HK3.out.mono (fun _ h => Or.inl h)) (.inl (Or.inr rfl)) _⟩
  clear hW4 p0 c0 f0 HD3 HP1 HK3
  have HN5 : Aside0 (∀ k, Calls Tryd.prog 53 #[] (W4.drewN k) fun e w' => ∃ eb, e = .returned (.slice (some ⟨eb, 0, none⟩) 1 1) ∧ w'.heap[eb]? = some (.cells #[.int .u8 0] 5 (1, 2)) ∧ Req w' d command ⟨#[]⟩ ⟨#[]⟩ (.slice none 0 0) ∧ w'.cell? ⟨ad8.block, ad8.off + 1, none⟩ = some (.string rest) ∧ Keep w w' (fun k => k = g ∨ k = d)) := ⟨fun k => by
    refine (null_calls _).mono fun e w' ⟨he, hw⟩ => ⟨_, he, ?_, ?_, ?_, ?_⟩
    · rw [hw]; exact heap_alloc_new (W4.drewN k) _
    · rw [hw]; exact alloc_old (w := W4.drewN k) HD4.out _
    · rw [hw]; exact ((below_alloc (Below.refl (W4.drewN k).heap.size (W4.drewN k)) _).cell (World.block_lt_of_cell? W4 _ HP4.out)).trans HP4.out
    · rw [hw]; exact (HK4.out.drewN k).alloc _⟩
  have p1 := HP4.out
  clear HD4 HK4
  go_cut [9] (fun v9 w6 => MidR w w6 d g command path h1 more v9)
  case first =>
    go_region_with (first
      | (go_at_call 53; refine (HN5.out _).mono ?_; rintro e w5 ⟨eb, rfl, hz5, hd5, hp5, hk5⟩; have HD5 := Aside0.mk hd5; have HK5 := Aside0.mk hk5; have hcv5 := conv_zero hz5; have hcv6 := fun m => conv_zero (w := w5.drewN m) hz5; clear hz5 hd5 hk5)
      | (go_at_call 52; refine (H2.out _ HS2.out).mono ?_; rintro e w6 ⟨v9, rfl, hr9, hb9⟩; have HB9 : Aside0 (Below w5.heap.size w5 w6) := ⟨⟨hb9.os, hb9.tape, hb9.output, hb9.size, hb9.block⟩⟩; have HR9 : Aside0 (Kd.string.R 9 w6 w5.heap.size (fun _ => True) v9 (path :: h1 :: more)) := ⟨hr9⟩; clear hr9 hb9))
    all_goals (go_wp2_with fail; go_meet; exact ⟨_, HK5.out.size, HR9.out, (HB9.out.block d (lt_of_block HD5.out)).trans HD5.out, HK5.out.trans (Keep.of_below HB9.out _) (fun _ _ h => h)⟩)
  obtain ⟨w6, rfl⟩ : ∃ w6 : World, w6 = wc := ⟨_, rfl⟩
  obtain ⟨n6, hn6, hr9, hd6, hk6⟩ := hcut
  have HD6 := Aside0.mk hd6
  have HK6 := Aside0.mk hk6
  obtain ⟨ad9, c9, rfl, hlc9, hf9, hl9, hcell9⟩ := strs_parts hr9 (by simp)
  have q0 : w6.cell? ad9 = some (.string path) := by have := hcell9 0 _ rfl; rwa [add_none] at this
  have q1 : w6.cell? ⟨ad9.block, ad9.off + 1, none⟩ = some (.string h1) := by have := hcell9 1 _ rfl; rwa [add_one'] at this
  have HC9 := Aside0.mk hcell9
  have HF9 : Aside0 (w.heap.size ≤ ad9.block ∧ ad9.block ≠ d ∧ ad9.block < w6.heap.size) := ⟨by have := HDL.out.1; omega, by have := HDL.out.1; omega, hl9⟩
  have c1 : w6.cell? ⟨d, 1, none⟩ = some (.string ⟨#[]⟩) := cell_of HD6.out 1 rfl
  have f1 := frozen_of HD6.out 1
  have q2 : (w6.setCell ⟨d, 1, none⟩ (.string path)).cell? ⟨ad9.block, ad9.off + 1, none⟩ = some (.string h1) := by rw [World.cell?_setCell_other _ _ _ _ (fun e => HF9.out.2.1 (congrArg Addr.block e).symm)]; exact q1
  clear hcell9 hf9 hl9 hr9 hd6 hk6 p1 HN5 HP4 H2 HS2
  by_cases hmo : more.length = 0
  · obtain rfl : more = [] := List.eq_nil_of_length_eq_zero hmo
    clear hmo
    go_wp2_with (first
      | (go_at_call 54; refine (strings_TrimPrefix.calls _ _ _ _ HT.out).mono ?_; rintro e w7 ⟨rfl, hd7⟩; have HD7 : Aside0 (Req w7 d command path ⟨#[]⟩ (.slice none 0 0)) := ⟨by obtain ⟨m, rfl⟩ := hd7.out; exact HD6.out.set1 _⟩; have HK7 : Aside0 (Keep w w7 (fun k => k = g ∨ k = d)) := ⟨by obtain ⟨m, rfl⟩ := hd7.out; exact (Keep.setCell (F := fun k => k = g ∨ k = d) (a := ⟨d, 1, none⟩) HK6.out (.inl (Or.inr rfl)) _).drewN m⟩; have HB7 : Aside0 (w7.heap[ad9.block]? = w6.heap[ad9.block]?) := ⟨by obtain ⟨m, rfl⟩ := hd7.out; exact set_other (w := w6) (q := d) 1 _ HF9.out.2.1 rfl⟩; have c2 : w7.cell? ⟨d, 2, none⟩ = some (.string ⟨#[]⟩) := cell_of HD7.out 2 rfl; have f2 := frozen_of HD7.out 2; clear hd7))
    go_ret
    exact ⟨rfl, _, HD7.out.set2 host, Kd.R_nil _ _ _ _ _, Keep.setCell (F := fun k => k = g ∨ k = d) (a := ⟨d, 2, none⟩) HK7.out (.inl (Or.inr rfl)) _⟩
  · have d0 : 0 < more.length := by omega
    have hc92 : ¬ c9 = 2 := by simp at hlc9; omega
    clear hmo
    go_wp2_with (first
      | (go_at_call 54; refine (strings_TrimPrefix.calls _ _ _ _ HT.out).mono ?_; rintro e w7 ⟨rfl, hd7⟩; have HD7 : Aside0 (Req w7 d command path ⟨#[]⟩ (.slice none 0 0)) := ⟨by obtain ⟨m, rfl⟩ := hd7.out; exact HD6.out.set1 _⟩; have HK7 : Aside0 (Keep w w7 (fun k => k = g ∨ k = d)) := ⟨by obtain ⟨m, rfl⟩ := hd7.out; exact (Keep.setCell (F := fun k => k = g ∨ k = d) (a := ⟨d, 1, none⟩) HK6.out (.inl (Or.inr rfl)) _).drewN m⟩; have HB7 : Aside0 (w7.heap[ad9.block]? = w6.heap[ad9.block]?) := ⟨by obtain ⟨m, rfl⟩ := hd7.out; exact set_other (w := w6) (q := d) 1 _ HF9.out.2.1 rfl⟩; have c2 : w7.cell? ⟨d, 2, none⟩ = some (.string ⟨#[]⟩) := cell_of HD7.out 2 rfl; have f2 := frozen_of HD7.out 2; clear hd7))
    obtain ⟨W8, hW8⟩ : ∃ W8, W8 = w7.setCell ⟨d, 2, none⟩ (.string host) := ⟨_, rfl⟩
    rw [← hW8]
    have HD8 : Aside0 (Req W8 d command path host (.slice none 0 0)) := ⟨by rw [hW8]; exact HD7.out.set2 _⟩
    have HB8 : Aside0 (W8.heap[ad9.block]? = w6.heap[ad9.block]?) := ⟨by rw [hW8]; exact set_other 2 _ HF9.out.2.1 HB7.out⟩
    have HK8 : Aside0 (Keep w W8 (fun k => k = g ∨ k = d)) := ⟨by rw [hW8]; exact Keep.setCell (F := fun k => k = g ∨ k = d) (a := ⟨d, 2, none⟩) HK7.out (.inl (Or.inr rfl)) _⟩
    clear hW8 HD7 HK7 HB7 c2 f2 q0 q1 q2 c1 f1 HD6 HK6
    have g1 : decide ((more.length : Int) + 1 + 1 < 1) = false := decide_eq_false (by omega)
    have g2 : decide (2 < (more.length : Int) + 1 + 1) = true := decide_eq_true (by omega)
    simp only [g1, g2]
    clear g1 g2
    go_loopg [11, 81] more.length (fun gq v11 v81 w' => ∃ (i : Nat) (v3 : Value), v81 = .int .i64 i ∧ Aside0 (i + gq = more.length) ∧ Aside0 (Req w' d command path host v3) ∧ Aside0 (Kd.string.R 9 w' w.heap.size (fun k => k ≠ d ∧ k ≠ ad9.block) v3 (full (more.take i))) ∧ Aside0 (w'.heap[ad9.block]? = w6.heap[ad9.block]?) ∧ Aside0 (Keep w w' (fun k => k = g ∨ k = d)))
    case atStart => exact ⟨0, _, rfl, ⟨by omega⟩, HD8, ⟨Kd.R_nil _ _ _ _ _⟩, HB8, HK8⟩
    case round =>
      obtain ⟨i, v3, rfl, HI, HDr, HRr, HBr, HKr⟩ := hrel
      cases gk with
      | zero =>
        obtain rfl : i = more.length := by have := HI.out; omega
        have hlt : decide (more.length < more.length) = false := by simp
        go_wp2_with fail
        go_ret
        have hr := HRr.out
        rw [List.take_length] at hr
        exact ⟨rfl, _, HDr.out, Kd.R_mono hr (fun k hk => hk.1), HKr.out⟩
      | succ gg =>
        have hi2 : i < more.length := by have := HI.out; omega
        have hlt : decide (i < more.length) = true := by simpa using hi2
        have hmf := HM.out
        obtain ⟨p, hp⟩ : ∃ p, p = more[i] := ⟨_, rfl⟩
        have HTk : Aside0 (more.take (i + 1) = more.take i ++ [p]) := ⟨by rw [hp, List.take_succ_eq_append_getElem hi2]⟩
        have hcell : wr.cell? ⟨ad9.block, ad9.off + 2 + i, none⟩ = some (.string p) := by
          rw [show ad9.off + 2 + i = ad9.off + (i + 2) by omega]
          have h1 := HC9.out (i + 2) p (by rw [hp]; simp [hi2])
          have e : ad9.add (i + 2) = ⟨ad9.block, ad9.off + (i + 2), none⟩ := by unfold Addr.add; simp
          rw [e] at h1
          exact (World.cell?_of_block (w := w6) (w' := wr) (a := ⟨ad9.block, ad9.off + (i + 2), none⟩) HBr.out).trans h1
        obtain ⟨ks, hks⟩ : ∃ ks, ks = full (more.take i) := ⟨_, rfl⟩
        rw [← hks] at HRr
        have HKs : Aside0 (full (more.take (i + 1)) = ks ++ full [p]) := ⟨by rw [HTk.out, hks]; simp [full]⟩
        have HLk : Aside0 (ks.length ≤ more.length) := ⟨by rw [hks]; exact Nat.le_trans (List.length_filter_le _ _) (by rw [List.length_take]; omega)⟩
        clear hp hks
        obtain ⟨A3, c3, he3⟩ := Kd.R_slice HRr.out
        obtain rfl : v3 = .slice A3 ks.length c3 := he3
        have k3 := HDr.out.c3
        by_cases hpe : p.toList = []
        · have q1 : p.toList.isEmpty = true := by rw [hpe]; rfl
          have q2 : (p.toList == []) = true := by rw [hpe]; rfl
          have q3 : (p.toList != []) = false := by simp [bne, q2]
          have HF0 : Aside0 (full [p] = []) := ⟨by simp [full, q1]⟩
          clear hpe
          go_wp2_with fail
          go_roundg gg
          case measure => omega
          case rel => exact ⟨i + 1, _, by go_num, ⟨by have := HI.out; omega⟩, HDr, ⟨by rw [HKs.out, HF0.out, List.append_nil]; exact HRr.out⟩, HBr, HKr⟩
        · have q1 : p.toList.isEmpty = false := by cases h : p.toList <;> simp_all
          have q2 : (p.toList == []) = false := by cases h : p.toList <;> simp_all
          have q3 : (p.toList != []) = true := by simp [bne, q2]
          have HF0 : Aside0 (full [p] = [p]) := ⟨by simp [full, q1]⟩
          have HFr : Aside0 (∀ k, wr.heap.size ≤ k → k ≠ d ∧ k ≠ ad9.block) := ⟨fun k hk => ⟨by have := lt_of_block HDr.out; omega, by have h0 := World.block_lt_of_cell? wr _ hcell; have h1 : ad9.block < wr.heap.size := h0; omega⟩⟩
          have HSz : Aside0 (w.heap.size ≤ wr.heap.size) := ⟨HKr.out.size⟩
          have HLl : Aside0 ((ks.length + 1) * 16 ≤ 140737488355328) := ⟨by have := HLk.out; omega⟩
          clear hpe
          go_wp2_with (at_builtin; refine Kd.R_append Kd.string (w0 := wr) w.heap.size rfl (.tmp 91) (.tmp 93) 26 9 (.string ⟨#[]⟩) 16 rfl Tryd.underlying26 info9' rfl (by decide) (by omega) (.slice A3 ks.length c3) ks p [.string p] (fun k => k ≠ d ∧ k ≠ ad9.block) (fun _ => False) rfl (by first | (go_simp; done) | (go_simp; rfl)) rfl (fun _ h => h.elim) HFr.out HRr.out (Below.refl _ _) HSz.out HLl.out ?_; rintro v10 w10 hr10 - hg10 -; obtain ⟨hd10, hb10, hk10⟩ := append_keep hg10 HRr.out HDr.out HKr.out hcell; obtain ⟨A10, c10, he10⟩ := Kd.R_slice hr10; obtain rfl : v10 = .slice A10 (ks ++ [p]).length c10 := he10; have HD10 := Aside0.mk hd10; have HR10 := Aside0.mk hr10; have HB10 := Aside0.mk (hb10.trans HBr.out); have HK10 := Aside0.mk hk10; have j3 := hd10.c3; have jf := frozen_of hd10 3; clear hr10 hg10 hd10 hb10 hk10)
          go_roundg gg
          case measure => omega
          case rel => exact ⟨i + 1, _, by go_num, ⟨by have := HI.out; omega⟩, ⟨HD10.out.set3 _⟩, ⟨by rw [HKs.out, HF0.out]; have h := HR10.out; rw [List.length_append, List.length_singleton] at h; exact Kd.R_move h (fun k hk => Below.heap_setCell w10 ⟨d, 3, none⟩ _ k hk.1)⟩, ⟨set_other 3 _ HF9.out.2.1 HB10.out⟩, ⟨Keep.setCell (F := fun k => k = g ∨ k = d) (a := ⟨d, 3, none⟩) HK10.out (.inl (Or.inr rfl)) _⟩⟩
end Go.Proofs.YtbgimkjodpjnfaaDoor.Proto
