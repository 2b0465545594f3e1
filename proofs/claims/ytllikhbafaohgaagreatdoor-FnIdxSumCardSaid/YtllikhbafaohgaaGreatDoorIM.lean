/- One entry of an index is read. -/
import Derived.Test.YtllikhbafaohgaaGreatDoorIL
namespace Go.Proofs.YtllikhbafaohgaaGreatDoor.Idx
open Go.RowKit Go.Proofs.YtllikhbafaohgaaGreatDoorW.PrintWords Go.Proofs.YtllikhbafaohgaaGreatDoorW.PrintLast Go.Proofs.YtllikhbafaohgaaGreatDoorW.PrintMore
set_option linter.unusedVariables false
set_option linter.unusedSimpArgs false

def zEnt : Array Value := #[.int .u8 0, .int .u8 0, .int .u8 0, .int .u8 0, .int .u8 0, .int .u8 0, .int .u8 0, .int .u8 0, .int .u8 0, .int .u8 0, .int .u8 0, .int .u8 0, .int .u8 0, .int .u8 0, .int .u8 0, .int .u8 0, .int .u8 0, .int .u8 0, .int .u8 0, .int .u8 0, .string ⟨#[]⟩, .int .i64 0, .int .i64 0, .int .i64 0, .int .i64 0, .int .i64 0, .int .i64 0, .int .u32 0, .int .u32 0, .int .u32 0, .int .u32 0, .int .u32 0, .int .u32 0, .int .i64 0, .bool false, .bool false]
theorem zEnt_ok : Ent zEnt := by
  refine ⟨rfl, fun k v h => ?_⟩
  match k, h with
  | 0, h => cases h; unfold entOk; rw [if_pos (by omega)]; exact ⟨0, rfl, by omega, by omega⟩
  | 1, h => cases h; unfold entOk; rw [if_pos (by omega)]; exact ⟨0, rfl, by omega, by omega⟩
  | 2, h => cases h; unfold entOk; rw [if_pos (by omega)]; exact ⟨0, rfl, by omega, by omega⟩
  | 3, h => cases h; unfold entOk; rw [if_pos (by omega)]; exact ⟨0, rfl, by omega, by omega⟩
  | 4, h => cases h; unfold entOk; rw [if_pos (by omega)]; exact ⟨0, rfl, by omega, by omega⟩
  | 5, h => cases h; unfold entOk; rw [if_pos (by omega)]; exact ⟨0, rfl, by omega, by omega⟩
  | 6, h => cases h; unfold entOk; rw [if_pos (by omega)]; exact ⟨0, rfl, by omega, by omega⟩
  | 7, h => cases h; unfold entOk; rw [if_pos (by omega)]; exact ⟨0, rfl, by omega, by omega⟩
  | 8, h => cases h; unfold entOk; rw [if_pos (by omega)]; exact ⟨0, rfl, by omega, by omega⟩
  | 9, h => cases h; unfold entOk; rw [if_pos (by omega)]; exact ⟨0, rfl, by omega, by omega⟩
  | 10, h => cases h; unfold entOk; rw [if_pos (by omega)]; exact ⟨0, rfl, by omega, by omega⟩
  | 11, h => cases h; unfold entOk; rw [if_pos (by omega)]; exact ⟨0, rfl, by omega, by omega⟩
  | 12, h => cases h; unfold entOk; rw [if_pos (by omega)]; exact ⟨0, rfl, by omega, by omega⟩
  | 13, h => cases h; unfold entOk; rw [if_pos (by omega)]; exact ⟨0, rfl, by omega, by omega⟩
  | 14, h => cases h; unfold entOk; rw [if_pos (by omega)]; exact ⟨0, rfl, by omega, by omega⟩
  | 15, h => cases h; unfold entOk; rw [if_pos (by omega)]; exact ⟨0, rfl, by omega, by omega⟩
  | 16, h => cases h; unfold entOk; rw [if_pos (by omega)]; exact ⟨0, rfl, by omega, by omega⟩
  | 17, h => cases h; unfold entOk; rw [if_pos (by omega)]; exact ⟨0, rfl, by omega, by omega⟩
  | 18, h => cases h; unfold entOk; rw [if_pos (by omega)]; exact ⟨0, rfl, by omega, by omega⟩
  | 19, h => cases h; unfold entOk; rw [if_pos (by omega)]; exact ⟨0, rfl, by omega, by omega⟩
  | 20, h => cases h; unfold entOk; rw [if_neg (by omega), if_pos rfl]; exact ⟨_, rfl⟩
  | 21, h => cases h; unfold entOk; rw [if_neg (by omega), if_neg (by omega), if_pos (by omega)]; exact ⟨_, rfl⟩
  | 22, h => cases h; unfold entOk; rw [if_neg (by omega), if_neg (by omega), if_pos (by omega)]; exact ⟨_, rfl⟩
  | 23, h => cases h; unfold entOk; rw [if_neg (by omega), if_neg (by omega), if_pos (by omega)]; exact ⟨_, rfl⟩
  | 24, h => cases h; unfold entOk; rw [if_neg (by omega), if_neg (by omega), if_pos (by omega)]; exact ⟨_, rfl⟩
  | 25, h => cases h; unfold entOk; rw [if_neg (by omega), if_neg (by omega), if_pos (by omega)]; exact ⟨_, rfl⟩
  | 26, h => cases h; unfold entOk; rw [if_neg (by omega), if_neg (by omega), if_pos (by omega)]; exact ⟨_, rfl⟩
  | 27, h => cases h; unfold entOk; rw [if_neg (by omega), if_neg (by omega), if_neg (by omega), if_pos (by omega)]; exact ⟨_, rfl⟩
  | 28, h => cases h; unfold entOk; rw [if_neg (by omega), if_neg (by omega), if_neg (by omega), if_pos (by omega)]; exact ⟨_, rfl⟩
  | 29, h => cases h; unfold entOk; rw [if_neg (by omega), if_neg (by omega), if_neg (by omega), if_pos (by omega)]; exact ⟨_, rfl⟩
  | 30, h => cases h; unfold entOk; rw [if_neg (by omega), if_neg (by omega), if_neg (by omega), if_pos (by omega)]; exact ⟨_, rfl⟩
  | 31, h => cases h; unfold entOk; rw [if_neg (by omega), if_neg (by omega), if_neg (by omega), if_pos (by omega)]; exact ⟨_, rfl⟩
  | 32, h => cases h; unfold entOk; rw [if_neg (by omega), if_neg (by omega), if_neg (by omega), if_pos (by omega)]; exact ⟨_, rfl⟩
  | 33, h => cases h; unfold entOk; rw [if_neg (by omega), if_neg (by omega), if_neg (by omega), if_neg (by omega), if_pos rfl]; exact ⟨_, rfl⟩
  | 34, h => cases h; unfold entOk; rw [if_neg (by omega), if_neg (by omega), if_neg (by omega), if_neg (by omega), if_neg (by omega)]; exact ⟨_, rfl⟩
  | 35, h => cases h; unfold entOk; rw [if_neg (by omega), if_neg (by omega), if_neg (by omega), if_neg (by omega), if_neg (by omega)]; exact ⟨_, rfl⟩
  | k + 36, h =>
    have : (zEnt)[k + 36]? = none := Array.getElem?_eq_none (by show 36 ≤ k + 36; omega)
    rw [this] at h
    cases h
theorem Keep.mono' {w w' : World} {F G : Nat → Prop} (h : Keep w w' F) (hFG : ∀ k, k < w.heap.size → F k → G k) : Keep w w' G := ⟨h.os, h.tape, h.output, h.size, fun k hk hn => h.block k hk (fun hf => hn (hFG k hk hf))⟩
theorem ent_i64 {cs : Array Value} (h : Ent cs) {k : Nat} (h1 : 21 ≤ k) (h2 : k < 27) : ∃ x : Int, cs[k]? = some (.int .i64 x) := by
  obtain ⟨v, hv, he⟩ := h.get (k := k) (by omega)
  unfold entOk at he
  rw [if_neg (by omega), if_neg (by omega), if_pos h2] at he
  obtain ⟨x, rfl⟩ := he
  exact ⟨x, hv⟩
theorem entOk_i64 {k : Nat} (h1 : 21 ≤ k) (h2 : k < 27) (x : Int) : entOk k (.int .i64 x) := by
  unfold entOk
  rw [if_neg (by omega), if_neg (by omega), if_pos h2]
  exact ⟨x, rfl⟩
theorem ent_33 {cs : Array Value} (h : Ent cs) : ∃ x : Int, cs[33]? = some (.int .i64 x) := by
  obtain ⟨v, hv, he⟩ := h.get (k := 33) (by omega)
  unfold entOk at he
  rw [if_neg (by omega), if_neg (by omega), if_neg (by omega), if_neg (by omega), if_pos rfl] at he
  obtain ⟨x, rfl⟩ := he
  exact ⟨x, hv⟩
theorem entOk_33 (x : Int) : entOk 33 (.int .i64 x) := by
  unfold entOk
  rw [if_neg (by omega), if_neg (by omega), if_neg (by omega), if_neg (by omega), if_pos rfl]
  exact ⟨x, rfl⟩
theorem ent_20 {cs : Array Value} (h : Ent cs) : ∃ x, cs[20]? = some (.string x) := by
  obtain ⟨v, hv, he⟩ := h.get (k := 20) (by omega)
  unfold entOk at he
  rw [if_neg (by omega), if_pos rfl] at he
  obtain ⟨x, rfl⟩ := he
  exact ⟨x, hv⟩
theorem entOk_20 (x : ByteArray) : entOk 20 (.string x) := by
  unfold entOk
  rw [if_neg (by omega), if_pos rfl]
  exact ⟨x, rfl⟩
theorem alloc_old {w : World} {k : Nat} {x : Obj} (h : w.heap[k]? = some x) (o : Obj) : (w.alloc o).heap[k]? = some x := by
  rw [heap_alloc_old w o (lt_of_block h)]; exact h
theorem alloc_at {w : World} {k : Nat} (o : Obj) (h : w.heap.size = k) : (w.alloc o).heap[k]? = some o := by
  rw [← h]; exact heap_alloc_new w o
theorem unix_any (a0 a1 : Int) (w : World) : Calls Tryz.prog 56 #[.int .i64 a0, .int .i64 a1] w fun e w' => ∃ r1 r2 r3 : Int, e = .returned (.agg #[.int .i64 r1, .int .i64 r2, .int .i64 r3]) ∧ Below w.heap.size w w' := by
  have h : ∃ r1 r2 r3 : Int, PFnIdxSum.zztime_Unix.f a0 a1 = some (r1, r2, r3) := by
    unfold PFnIdxSum.zztime_Unix.f
    split <;> exact ⟨_, _, _, rfl⟩
  obtain ⟨r1, r2, r3, h⟩ := h
  exact (PFnIdxSum.zztime_Unix.calls a0 a1 r1 r2 r3 w h).mono fun e w' ⟨h1, h2⟩ => ⟨r1, r2, r3, h1, h2⟩
set_option maxHeartbeats 16000000 in
set_option maxRecDepth 100000 in
theorem readEntry_calls {w : World} {d : DC} {i k x l p2 : Nat} {le v : Value} {q7 : Addr} (hd : d.Ok) (H : St w d i v) (hi : i + 62 + l + pad l ≤ d.c.n) (hk : Dcd w d k le p2) (hkF : Free d v k) (hxF : Free d v x) (hl0 : 0 < l) (hl : l < 4000) (hx : w.cell? ⟨x, 0, none⟩ = some (.int .u32 2))
    (hfl : Go.bits .and .u16 (bigOf ((d.c.D.drop (i + 60)).take 2) % 65536) 4095 = (l : Int)) (hfx : Go.bits .and .u16 (bigOf ((d.c.D.drop (i + 60)).take 2) % 65536) 16384 = 0) (hu : w.cell? ⟨7, 0, none⟩ = some (.iface 179 (.pointer (some q7)))) :
    Calls Tryz.prog 44 #[.pointer (some ⟨k, 0, none⟩), .pointer (some ⟨x, 0, none⟩)] w fun e w' => e = .returned (.tuple #[.pointer (some ⟨w.heap.size, 0, none⟩), .nilIface]) ∧ (∃ cs, Ent cs ∧ w'.heap[w.heap.size]? = some (.cells cs 118 (0, 0))) ∧ ∃ v', St w' d (i + 62 + l + pad l) v' ∧ Owns w v v' ∧ Keep w w' (Fr0 d v) := by
  obtain ⟨B, hB⟩ : ∃ B, B = w.heap.size := ⟨_, rfl⟩
  have HBs := Aside0.mk hB
  obtain ⟨W6, hW6⟩ : ∃ W6, W6 = (((((w.alloc (.cells zEnt 118)).alloc (.cells #[.int .u32 0] 27)).alloc (.cells #[.int .u32 0] 27)).alloc (.cells #[.int .u32 0] 27)).alloc (.cells #[.int .u32 0] 27)).alloc (.cells #[.int .u16 0] 140) := ⟨_, rfl⟩
  have HW6 := Aside0.mk hW6
  have h6 : W6.heap.size = B + 6 := by rw [hW6, hB]; simp only [World.size_alloc]
  have H6 := Aside0.mk h6
  have hb6 : Below w.heap.size w W6 := by rw [hW6]; exact below_alloc (below_alloc (below_alloc (below_alloc (below_alloc (below_alloc (Below.refl _ _) _) _) _) _) _) _
  have c1 : W6.cell? ⟨k, 1, none⟩ = some (.iface 97 (.pointer (some ⟨d.t, 0, none⟩))) := (Keep.of_below hb6 (fun _ => False)).cell hk.c1 id
  have s0 : w.heap.size = B := hB.symm
  have g0 : W6.heap[B]? = some (.cells zEnt 118 (0, 0)) := by rw [hW6]; exact alloc_old (alloc_old (alloc_old (alloc_old (alloc_old (alloc_at _ s0) _) _) _) _) _
  have g1 : W6.heap[B + 1]? = some (.cells #[.int .u32 0] 27 (0, 0)) := by rw [hW6]; exact alloc_old (alloc_old (alloc_old (alloc_old (alloc_at _ (by simp only [World.size_alloc, s0])) _) _) _) _
  have g2 : W6.heap[B + 2]? = some (.cells #[.int .u32 0] 27 (0, 0)) := by rw [hW6]; exact alloc_old (alloc_old (alloc_old (alloc_at _ (by simp only [World.size_alloc, s0])) _) _) _
  have g3 : W6.heap[B + 3]? = some (.cells #[.int .u32 0] 27 (0, 0)) := by rw [hW6]; exact alloc_old (alloc_old (alloc_at _ (by simp only [World.size_alloc, s0])) _) _
  have g4 : W6.heap[B + 4]? = some (.cells #[.int .u32 0] 27 (0, 0)) := by rw [hW6]; exact alloc_old (alloc_at _ (by simp only [World.size_alloc, s0])) _
  have g5 : W6.heap[B + 5]? = some (.cells #[.int .u16 0] 140 (0, 0)) := by rw [hW6]; exact alloc_at _ (by simp only [World.size_alloc, s0])
  have hS6 : St W6 d i v := H.below hd hb6
  obtain ⟨W7, hW7⟩ : ∃ W7, W7 = (W6.alloc (.cells #[.iface 105 (.pointer (some ⟨B + 1 + 1 + 1, 0, none⟩)), .iface 105 (.pointer (some ⟨B + 1 + 1 + 1 + 1, 0, none⟩)), .iface 105 (.pointer (some ⟨B + 1, 0, none⟩)), .iface 105 (.pointer (some ⟨B + 1 + 1, 0, none⟩)), .iface 105 (.pointer (some ⟨B, 27, none⟩)), .iface 105 (.pointer (some ⟨B, 28, none⟩)), .iface 142 (.pointer (some ⟨B, 29, none⟩)), .iface 105 (.pointer (some ⟨B, 30, none⟩)), .iface 105 (.pointer (some ⟨B, 31, none⟩)), .iface 105 (.pointer (some ⟨B, 32, none⟩)), .iface 143 (.pointer (some ⟨B, 0, none⟩)), .iface 139 (.pointer (some ⟨B + 1 + 1 + 1 + 1 + 1, 0, none⟩))] 20)).drew := ⟨_, rfl⟩
  have HW7 := Aside0.mk hW7
  have hk7 : Keep W6 W7 (fun _ => False) := by rw [hW7]; exact ((Keep.refl W6 _).alloc _).drewN 1
  have h7 : W7.heap.size = B + 7 := by rw [hW7]; show (W6.alloc _).heap.size = _; rw [World.size_alloc, h6]
  have hS7 : St W7 d i v := hS6.keep hd hk7 (fun _ h => h.elim)
  have hRC : RdC W7 d v i B := ⟨fun b hb hb' => Free.fresh hd H (by omega), by omega, by rw [← s0]; exact H.hash.le, by omega⟩
  have hR0 : RdS W7 W7 d v i B 0 := ⟨⟨v, hS7, Owns.refl _ _⟩, ⟨zEnt, zEnt_ok, (hk7.block B (lt_of_block g0) id).trans g0⟩, ⟨0, (hk7.block _ (lt_of_block g1) id).trans g1⟩, ⟨0, (hk7.block _ (lt_of_block g2) id).trans g2⟩, ⟨0, (hk7.block _ (lt_of_block g3) id).trans g3⟩, ⟨0, (hk7.block _ (lt_of_block g4) id).trans g4⟩, ⟨0, (hk7.block _ (lt_of_block g5) id).trans g5, by omega⟩, by rw [hW7]; exact alloc_at (w := W6) _ h6, Keep.refl _ _⟩
  have HB := Aside0.mk (binRead_calls (d := d) (fb := W6.heap.size) (n := 12) (T := targets B) (P := fun j W => RdS W7 W d v i B j) (w := W7) rfl (by omega) hR0 (fun j x W hP hx => by rw [h6]; exact cell_of hP.sl j (by rw [List.getElem?_toArray]; exact hx)) (fun j x W hP hx => RdS.step hd hRC hP hx))
  have HRC := Aside0.mk hRC
  have HK7 : Aside0 (Keep w W7 (fun _ => False)) := ⟨(Keep.of_below hb6 _).trans hk7 (fun _ _ h => h)⟩
  have HD := Aside0.mk hd
  have HS := Aside0.mk H
  have HI := Aside0.mk hi
  have HKd := Aside0.mk hk
  have HKF := Aside0.mk (⟨hkF, hxF⟩ : Free d v k ∧ Free d v x)
  have HX := Aside0.mk hx
  have HFl := Aside0.mk hfl
  have HFx := Aside0.mk hfx
  have HU := Aside0.mk hu
  have HC1 := Aside0.mk c1
  clear hB hW6 h6 hW7 hb6 s0 g0 g1 g2 g3 g4 g5 hS6 hk7 h7 hS7 hRC hR0 hd H hi hk hkF hxF hx hfl hfx hu c1
  go_enter Tryz.func44, Tryz.ntmps44
  go_upto_region 4 with (fail)
  rw [show (((((w.alloc (.cells #[.int .u8 0, .int .u8 0, .int .u8 0, .int .u8 0, .int .u8 0, .int .u8 0, .int .u8 0, .int .u8 0, .int .u8 0, .int .u8 0, .int .u8 0, .int .u8 0, .int .u8 0, .int .u8 0, .int .u8 0, .int .u8 0, .int .u8 0, .int .u8 0, .int .u8 0, .int .u8 0, .string ⟨#[]⟩, .int .i64 0, .int .i64 0, .int .i64 0, .int .i64 0, .int .i64 0, .int .i64 0, .int .u32 0, .int .u32 0, .int .u32 0, .int .u32 0, .int .u32 0, .int .u32 0, .int .i64 0, .bool false, .bool false] 118)).alloc (.cells #[.int .u32 0] 27)).alloc (.cells #[.int .u32 0] 27)).alloc (.cells #[.int .u32 0] 27)).alloc (.cells #[.int .u32 0] 27)).alloc (.cells #[.int .u16 0] 140) = W6 from HW6.out.symm, ← HBs.out]
  go_region_held3 (fun _ => True) (exact trivial) ((fail))
  have c1' : ∀ o : Obj, (W6.alloc o).cell? ⟨k, 1, none⟩ = some (.iface 97 (.pointer (some ⟨d.t, 0, none⟩))) := fun o => (Keep.of_below (below_alloc (Below.refl W6.heap.size W6) o) (fun _ => False)).cell HC1.out id
  go_upto_region 9 with (go_at_call 55; rw [← HW7.out]; refine HB.out.mono ?_; rintro e w8 ⟨rfl, hr8⟩; have HR8 := Aside0.mk hr8; clear hr8)
  obtain ⟨v8, hs8, ho8⟩ := HR8.out.st
  obtain ⟨ce, hE8, hB8⟩ := HR8.out.ent
  obtain ⟨x1, hl1⟩ := HR8.out.l1
  obtain ⟨x2, hl2⟩ := HR8.out.l2
  obtain ⟨x3, hl3⟩ := HR8.out.l3
  obtain ⟨x4, hl4⟩ := HR8.out.l4
  obtain ⟨y, hf8, hy⟩ := HR8.out.fl
  have HS8 : Aside0 (St w8 d (i + 62) v8) := ⟨hs8⟩
  have HO8 := Aside0.mk ho8
  have HK8 := Aside0.mk HR8.out.kp
  have HE8 : Aside0 (∃ cs, Ent cs ∧ w8.heap[B]? = some (.cells cs 118 (0, 0))) := ⟨ce, hE8, hB8⟩
  have HL1 := Aside0.mk hl1
  have HL2 := Aside0.mk hl2
  have HL5 := Aside0.mk hf8
  have HY := Aside0.mk (hy rfl)
  have c3 : w8.cell? ⟨B + 1 + 1 + 1, 0, none⟩ = some (.int .u32 x3) := cell_of hl3 0 rfl
  have c4 : w8.cell? ⟨B + 1 + 1 + 1 + 1, 0, none⟩ = some (.int .u32 x4) := cell_of hl4 0 rfl
  clear hs8 ho8 hE8 hB8 hl1 hl2 hl3 hl4 hf8 hy HB HR8 c1'
  go_cut [69] (fun v69 wx => (∃ b : Bool, v69 = .bool b) ∧ wx = w8)
  case first =>
    by_cases z3 : x3 = 0
    · subst z3
      by_cases z4 : x4 = 0
      · subst z4
        go_wp2_with fail
        go_meet
        exact ⟨⟨_, rfl⟩, rfl⟩
      · go_wp2_with fail
        go_meet
        exact ⟨⟨_, rfl⟩, rfl⟩
    · go_wp2_with fail
      go_meet
      exact ⟨⟨_, rfl⟩, rfl⟩
  obtain ⟨⟨bt, rfl⟩, hww⟩ := hcut
  subst hww
  go_upto_if 69 with (fail)
  go_cut [] (fun wx => (∃ cs, Ent cs ∧ wx.heap[B]? = some (.cells cs 118 (0, 0))) ∧ Keep wc wx (fun q => q = B))
  case first =>
    cases bt
    · clear c3 c4
      go_wp2_with fail
      go_meet
      exact ⟨HE8.out, Keep.refl _ _⟩
    · obtain ⟨ce, hE8, hB8⟩ := HE8.out
      obtain ⟨a1, ha1⟩ := ent_i64 hE8 (k := 21) (by omega) (by omega)
      obtain ⟨a2, ha2⟩ := ent_i64 hE8 (k := 22) (by omega) (by omega)
      obtain ⟨a3, ha3⟩ := ent_i64 hE8 (k := 23) (by omega) (by omega)
      have HA := Aside0.mk (⟨ha1, ha2, ha3⟩ : ce[21]? = some (.int .i64 a1) ∧ ce[22]? = some (.int .i64 a2) ∧ ce[23]? = some (.int .i64 a3))
      have HBx := Aside0.mk hB8
      have HEx := Aside0.mk hE8
      clear ha1 ha2 ha3 hB8 hE8
      go_wp2_with (go_at_call 56; refine (unix_any _ _ _).mono ?_; rintro e w9 ⟨r1, r2, r3, rfl, hb9⟩; have HK9 : Aside0 (Keep wc w9 (fun _ => False)) := ⟨⟨hb9.os, hb9.tape, hb9.output, hb9.size, fun j hj _ => hb9.block j hj⟩⟩; have HB9 : Aside0 (w9.heap[B]? = some (.cells ce 118 (0, 0))) := ⟨(HK9.out.block B (lt_of_block HBx.out) id).trans HBx.out⟩; have e21 : w9.cell? ⟨B, 21, none⟩ = some (.int .i64 a1) := cell_of HB9.out 21 HA.out.1; have e22 : w9.cell? ⟨B, 22, none⟩ = some (.int .i64 a2) := cell_of HB9.out 22 HA.out.2.1; have e23 : w9.cell? ⟨B, 23, none⟩ = some (.int .i64 a3) := cell_of HB9.out 23 HA.out.2.2; have f21 := frozen_of HB9.out 21; have f22 := frozen_of HB9.out 22; have f23 := frozen_of HB9.out 23; clear hb9)
      go_meet
      exact ⟨⟨_, ((HEx.out.set (entOk_i64 (k := 21) (by omega) (by omega) r1)).set (entOk_i64 (k := 22) (by omega) (by omega) r2)).set (entOk_i64 (k := 23) (by omega) (by omega) r3), set_block (set_block (set_block HB9.out 21 _) 22 _) 23 _⟩, Keep.setCell (F := fun q => q = B) (a := ⟨B, 23, none⟩) (Keep.setCell (F := fun q => q = B) (a := ⟨B, 22, none⟩) (Keep.setCell (F := fun q => q = B) (a := ⟨B, 21, none⟩) (HK9.out.mono (fun _ h => h.elim)) (.inl rfl) _) (.inl rfl) _) (.inl rfl) _⟩
  obtain ⟨w10, rfl⟩ : ∃ w10 : World, w10 = wc := ⟨_, rfl⟩
  obtain ⟨hE10, hk10⟩ := hcut
  have HE10 := Aside0.mk hE10
  have HK10 := Aside0.mk hk10
  have c1 : w10.cell? ⟨B + 1, 0, none⟩ = some (.int .u32 x1) := cell_of ((hk10.block (B + 1) (lt_of_block HL1.out) (by omega)).trans HL1.out) 0 rfl
  have c2 : w10.cell? ⟨B + 1 + 1, 0, none⟩ = some (.int .u32 x2) := cell_of ((hk10.block (B + 2) (lt_of_block HL2.out) (by omega)).trans HL2.out) 0 rfl
  clear c3 c4 hE10 hk10 HE8
  go_upto_region 11 with (fail)
  go_cut [83] (fun v83 wx => (∃ b : Bool, v83 = .bool b) ∧ wx = w10)
  case first =>
    by_cases z3 : x1 = 0
    · subst z3
      by_cases z4 : x2 = 0
      · subst z4
        go_wp2_with fail
        go_meet
        exact ⟨⟨_, rfl⟩, rfl⟩
      · go_wp2_with fail
        go_meet
        exact ⟨⟨_, rfl⟩, rfl⟩
    · go_wp2_with fail
      go_meet
      exact ⟨⟨_, rfl⟩, rfl⟩
  obtain ⟨⟨bt2, rfl⟩, hww⟩ := hcut
  subst hww
  obtain ⟨w11, rfl⟩ : ∃ w11 : World, w11 = wc := ⟨_, rfl⟩
  go_upto_if 83 with (fail)
  go_cut [] (fun wx => (∃ cs, Ent cs ∧ wx.heap[B]? = some (.cells cs 118 (0, 0))) ∧ Keep w11 wx (fun q => q = B))
  case first =>
    cases bt2
    · clear c1 c2
      go_wp2_with fail
      go_meet
      exact ⟨HE10.out, Keep.refl _ _⟩
    · obtain ⟨ce, hE8, hB8⟩ := HE10.out
      obtain ⟨a1, ha1⟩ := ent_i64 hE8 (k := 24) (by omega) (by omega)
      obtain ⟨a2, ha2⟩ := ent_i64 hE8 (k := 25) (by omega) (by omega)
      obtain ⟨a3, ha3⟩ := ent_i64 hE8 (k := 26) (by omega) (by omega)
      have HA := Aside0.mk (⟨ha1, ha2, ha3⟩ : ce[24]? = some (.int .i64 a1) ∧ ce[25]? = some (.int .i64 a2) ∧ ce[26]? = some (.int .i64 a3))
      have HBx := Aside0.mk hB8
      have HEx := Aside0.mk hE8
      clear ha1 ha2 ha3 hB8 hE8
      go_wp2_with (go_at_call 56; refine (unix_any _ _ _).mono ?_; rintro e w9 ⟨r1, r2, r3, rfl, hb9⟩; have HK9 : Aside0 (Keep w11 w9 (fun _ => False)) := ⟨⟨hb9.os, hb9.tape, hb9.output, hb9.size, fun j hj _ => hb9.block j hj⟩⟩; have HB9 : Aside0 (w9.heap[B]? = some (.cells ce 118 (0, 0))) := ⟨(HK9.out.block B (lt_of_block HBx.out) id).trans HBx.out⟩; have e21 : w9.cell? ⟨B, 24, none⟩ = some (.int .i64 a1) := cell_of HB9.out 24 HA.out.1; have e22 : w9.cell? ⟨B, 25, none⟩ = some (.int .i64 a2) := cell_of HB9.out 25 HA.out.2.1; have e23 : w9.cell? ⟨B, 26, none⟩ = some (.int .i64 a3) := cell_of HB9.out 26 HA.out.2.2; have f21 := frozen_of HB9.out 24; have f22 := frozen_of HB9.out 25; have f23 := frozen_of HB9.out 26; clear hb9)
      go_meet
      exact ⟨⟨_, ((HEx.out.set (entOk_i64 (k := 24) (by omega) (by omega) r1)).set (entOk_i64 (k := 25) (by omega) (by omega) r2)).set (entOk_i64 (k := 26) (by omega) (by omega) r3), set_block (set_block (set_block HB9.out 24 _) 25 _) 26 _⟩, Keep.setCell (F := fun q => q = B) (a := ⟨B, 26, none⟩) (Keep.setCell (F := fun q => q = B) (a := ⟨B, 25, none⟩) (Keep.setCell (F := fun q => q = B) (a := ⟨B, 24, none⟩) (HK9.out.mono (fun _ h => h.elim)) (.inl rfl) _) (.inl rfl) _) (.inl rfl) _⟩
  obtain ⟨w12, rfl⟩ : ∃ w12 : World, w12 = wc := ⟨_, rfl⟩
  obtain ⟨⟨ce, hE12, hB12⟩, hk12⟩ := hcut
  have HK12 : Aside0 (Keep W7 w12 (RdF d v B)) := ⟨(HK8.out.trans HK10.out (fun q _ e => by subst e; exact .inr ⟨by omega, by omega⟩)).trans hk12 (fun q _ e => by subst e; exact .inr ⟨by omega, by omega⟩)⟩
  have hk812 := HK10.out.trans hk12 (fun _ _ h => h)
  have HRN : Aside0 (∀ q, q = B → d.N ≤ q ∧ some q ≠ v8.ownBlock) := ⟨fun q e => by subst e; exact ⟨HRC.out.le, fun e => ((HRC.out.free q (Nat.le_refl _) (by have := HRC.out.size; omega)).of HO8.out (by have := HRC.out.size; omega)).v e.symm⟩⟩
  have HS12 : Aside0 (St w12 d (i + 62) v8) := ⟨HS8.out.keep HD.out hk812 HRN.out⟩
  have hfl12 := (hk812.block (B + 5) (lt_of_block HL5.out) (by omega)).trans HL5.out
  have HFl12 := Aside0.mk hfl12
  obtain ⟨a33, ha33⟩ := ent_33 hE12
  have c5 : w12.cell? ⟨B + 1 + 1 + 1 + 1 + 1, 0, none⟩ = some (.int .u16 y) := cell_of hfl12 0 rfl
  have c33 : w12.cell? ⟨B, 33, none⟩ = some (.int .i64 a33) := cell_of hB12 33 ha33
  have f33 := frozen_of hB12 33
  have HB12 := Aside0.mk hB12
  have HE12 := Aside0.mk hE12
  have hfx := HFx.out
  rw [← HY.out] at hfx
  have hfx0 : (0 : Int) = 0 := rfl
  clear c1 c2 hk12 hk812 hfl12 ha33 hB12 hE12 HK8 HK10 HE10 hfx0
  go_upto_region 21 with (fail)
  obtain ⟨W13, hW13⟩ : ∃ W13, W13 = w12.setCell ⟨B, 33, none⟩ (.int .i64 (Go.bits .and .i64 (wrap64 (y / 4096)) 3)) := ⟨_, rfl⟩
  rw [← hW13]
  have hk13 : Keep w12 W13 (fun q => q = B) := by rw [hW13]; exact Keep.setCell (F := fun q => q = B) (a := ⟨B, 33, none⟩) (Keep.refl w12 _) (.inl rfl) _
  have hK13 : Keep w W13 (RdF d v B) := (Keep.trans (F := RdF d v B) (HK7.out.mono (fun _ h => h.elim)) HK12.out (fun _ _ h => h)).trans hk13 (fun q _ e => by subst e; exact .inr ⟨by omega, by omega⟩)
  have hBw := HBs.out
  have hno : ∀ q, q < w.heap.size → Free d v q → ¬ RdF d v B q := fun q hq hf hF => hF.elim hf.fr0 (fun h => by omega)
  have hE13 : Ent (ce.setIfInBounds 33 (.int .i64 (Go.bits .and .i64 (wrap64 (y / 4096)) 3))) := HE12.out.set (entOk_33 _)
  have hB13 : W13.heap[B]? = some (.cells (ce.setIfInBounds 33 (.int .i64 (Go.bits .and .i64 (wrap64 (y / 4096)) 3))) 118 (0, 0)) := by rw [hW13]; exact set_block HB12.out 33 _
  obtain ⟨nm0, hnm0⟩ := ent_20 hE13
  have hs13 : St W13 d (i + 62) v8 := HS12.out.keep HD.out hk13 HRN.out
  have hx13 : W13.cell? ⟨x, 0, none⟩ = some (.int .u32 2) := hK13.cell HX.out (hno x (World.block_lt_of_cell? w _ HX.out) HKF.out.2)
  have hu13 : W13.cell? ⟨7, 0, none⟩ = some (.iface 179 (.pointer (some q7))) := hK13.cell HU.out (fun hF => hF.elim (St.glob (k := 7) HD.out HS.out (by omega)) (fun h => by have h1 := HRC.out.le; have := HD.out.Lp; have := HD.out.pN; have : B ≤ 7 := h.1; omega))
  have hf8 : Free d v8 B := (HRC.out.free B (Nat.le_refl _) (by have := HRC.out.size; omega)).of HO8.out (by have := HRC.out.size; omega)
  have hfl := HFl.out
  rw [← HY.out] at hfl
  have hi := HI.out
  have HN := Aside0.mk (readEntryName_calls HD.out hs13 (by omega) (HKd.out.keep hK13 (hno k (lt_of_block HKd.out) HKF.out.1)) hl0 hl hx13 hfl hB13 hnm0 hf8 HRC.out.le)
  have hsz : (strOfNums ((d.c.D.drop (i + 62)).take l)).size = l := by rw [strOfNums_size, List.length_take, List.length_drop, HD.out.c.len]; omega
  have HP : Aside0 (∀ w14 v14, St w14 d (i + 62 + l) v14 → Owns W13 v8 v14 → Keep W13 w14 (fun j => Fr0 d v8 j ∨ j = B) → w14.heap[B]? = some (.cells ((ce.setIfInBounds 33 (.int .i64 (Go.bits .and .i64 (wrap64 (y / 4096)) 3))).setIfInBounds 20 (.string (strOfNums ((d.c.D.drop (i + 62)).take l)))) 118 (0, 0)) →
      Calls Tryz.prog 59 #[.pointer (some ⟨k, 0, none⟩), .pointer (some ⟨x, 0, none⟩), .pointer (some ⟨B, 0, none⟩), .int .i64 62, .int .i64 l] w14 fun e w' => e = .returned .nilIface ∧ (∃ cs, Ent cs ∧ w'.heap[B]? = some (.cells cs 118 (0, 0))) ∧ ∃ v', St w' d (i + 62 + l + pad l) v' ∧ Owns w v v' ∧ Keep w w' (Fr0 d v)) := ⟨fun w14 v14 hs14 ho14 hk14 hB14 => by
    have hK14 : Keep w w14 (RdF d v B) := hK13.trans hk14 (fun q hq hF => hF.elim (fun hF => .inl (hF.elim Or.inl (fun hF => Or.inr (hF.elim Or.inl (fun e => (HO8.out q e.symm).elim Or.inr (fun e => by have := HRC.out.size; have := HK7.out.size; omega)))))) (fun e => by subst e; exact .inr ⟨by omega, by omega⟩))
    have hno14 : ∀ q, q < w.heap.size → Free d v q → w14.heap[q]? = w.heap[q]? := fun q hq hf => hK14.block q hq (hno q hq hf)
    have h := padEntry_calls (nm := strOfNums ((d.c.D.drop (i + 62)).take l)) HD.out hs14 (by rw [hsz]; exact hi) (HKd.out.keep hK14 (hno k (lt_of_block HKd.out) HKF.out.1)) (hK14.cell HX.out (hno x (World.block_lt_of_cell? w _ HX.out) HKF.out.2)) (cell_of hB14 20 (by rw [Array.getElem?_setIfInBounds, if_pos rfl, if_pos (by rw [Array.size_setIfInBounds, HE12.out.1]; omega)])) (by rw [hsz]; omega) (hK14.cell HU.out (fun hF => hF.elim (St.glob (k := 7) HD.out HS.out (by omega)) (fun h => by have h1 := HRC.out.le; have := HD.out.Lp; have := HD.out.pN; have : B ≤ 7 := h.1; omega)))
    rw [hsz] at h
    have hBlt : B < w14.heap.size := lt_of_block hB14
    have hO7 : Owns W7 v v14 := HO8.out.trans ho14 (Nat.le_trans HK12.out.size hk13.size)
    have hO14 : Owns w v v14 := fun j hj => (hO7 j hj).imp id (fun h => Nat.le_trans HK7.out.size h)
    have hf14 : Free d v14 B := hf8.of ho14 (lt_of_block hB13)
    refine h.mono fun e w' ⟨h1, v', h2, h3, h4⟩ => ⟨h1, ⟨_, hE13.set (entOk_20 _), (h4.block B hBlt hf14.fr0).trans hB14⟩, v', h2, hO14.trans h3 hK14.size, ?_⟩
    have h5 : Keep w w' (RdF d v B) := hK14.trans h4 (fun q hq hF => .inl (hF.elim Or.inl (fun hF => Or.inr (hF.elim Or.inl (fun e => (hO14 q e.symm).elim Or.inr (fun e => by omega))))))
    exact h5.mono' (fun q hq hF => hF.elim id (fun h => by omega))⟩
  have c5' : W13.cell? ⟨B + 1 + 1 + 1 + 1 + 1, 0, none⟩ = some (.int .u16 y) := cell_of ((hk13.block (B + 5) (lt_of_block HFl12.out) (by omega)).trans HFl12.out) 0 rfl
  clear hW13 hk13 hK13 hBw hno hE13 hB13 hnm0 hs13 hx13 hu13 hf8 hfl hi hsz c5 c33 f33 hfx
  go_wp2_with (first | (go_at_call 58; refine HN.out.mono ?_; rintro e w14 ⟨rfl, hB14, v14, hs14, ho14, hk14⟩; have HP14 := Aside0.mk (HP.out w14 v14 hs14 ho14 hk14 hB14); clear hB14 hs14 ho14 hk14) | (go_at_call 59; refine HP14.out.mono ?_; rintro e w15 ⟨rfl, hg15⟩; have HG15 := Aside0.mk hg15; clear hg15))
  go_ret2
  exact ⟨by rw [← HBs.out]; rfl, by rw [← HBs.out]; exact HG15.out.1, HG15.out.2⟩
end Go.Proofs.YtllikhbafaohgaaGreatDoor.Idx
