/- io.CopyN into nothing, of at most eight bytes. -/
import Derived.Test.YtllikhbafaohgaaGreatDoorII
import Derived.Stop.Asserts
namespace Go.Proofs.YtllikhbafaohgaaGreatDoor.Idx
open Go.RowKit Go.Proofs.YtllikhbafaohgaaGreatDoorW.PrintWords Go.Proofs.YtllikhbafaohgaaGreatDoorW.PrintLast Go.Proofs.YtllikhbafaohgaaGreatDoorW.PrintMore
set_option linter.unusedVariables false
set_option linter.unusedSimpArgs false

/-- The io.LimitedReader at block L: it may still give r bytes. -/
def Lim (w : World) (d : DC) (L : Nat) (r : Int) : Prop := w.heap[L]? = some (.cells #[.iface 97 (.pointer (some ⟨d.t, 0, none⟩)), .int .i64 r] 194 (0, 0))
theorem Lim.set {w : World} {d : DC} {L : Nat} {r : Int} (h : Lim w d L r) (x : Int) : Lim (w.setCell ⟨L, 1, none⟩ (.int .i64 x)) d L x := set_block h 1 _
theorem Lim.keep {w w' : World} {d : DC} {L : Nat} {r : Int} (h : Lim w d L r) {F : Nat → Prop} (k : Keep w w' F) (hF : ¬ F L) : Lim w' d L r := (k.block L (lt_of_block h) hF).trans h
theorem Free.fr {d : DC} {v : Value} {b c : Nat} (h : Free d v b) (hbc : b ≠ c) : ¬ Fr d v c b := fun hF => hF.elim (fun hF => by rcases hF with e | e | e | e; exact h.p e; exact h.bb e; exact h.g e; exact hbc e) (fun hF => hF.elim h.h (fun e => h.v e.symm))
theorem cut_0k (b o m cp k : Nat) (hk : k ≤ m) (hm : m ≤ cp) (h0 : 0 < cp) : ∀ W : World, (Instr.slice 24 (.slice (some ⟨b, o, none⟩) m cp) (some (.int .i64 0)) (some (.int .i64 (k : Int))) none).run Tryz.prog W = .ok (.slice (some ⟨b, o, none⟩) k cp) W := by
  obtain ⟨i0, hi, _, hsz, _⟩ := info_parts PFnIdxSum.info5
  intro W
  have := cut_mid (P := Tryz.prog) 24 5 .i64 .i64 Tryz.underlying24 hi 1 hsz (some ⟨b, o, none⟩) m cp 0 (k : Int) (by omega) (by omega) (by omega) hm W
  rw [this, Int.toNat_natCast]
  have e : (⟨b, o, none⟩ : Addr).add 0 = ⟨b, o, none⟩ := by rw [add_off]; rfl
  simp only [Int.toNat_zero, Nat.zero_mul, Option.map_some, e, Nat.sub_zero]
  split <;> rfl
theorem discard_calls {w : World} {x : Value} {A : Option Addr} {m cp : Nat} : Calls Tryz.prog 169 #[x, .slice A m cp] w fun e w' => e = .returned (.tuple #[.int .i64 m, .nilIface]) ∧ w = w' := by
  go_enter Tryz.func169, Tryz.ntmps169
  go_wp2_with fail
  go_ret2
  exact ⟨rfl, rfl⟩
theorem err_same_neq (a : Addr) (W : World) : (binOp .neq 49 (.iface 179 (.pointer (some a))) (.iface 179 (.pointer (some a)))).run Tryz.prog W = .ok (.bool false) W := by
  have h1 : (Tryz.prog.info? 179).map (·.comparable) = some true := by kernel_rfl
  have h2 : (Tryz.prog.info? 181).isSome = true := by kernel_rfl
  obtain ⟨i, hi, hc⟩ := Option.map_eq_some_iff.1 h1
  obtain ⟨j, hj⟩ := Option.isSome_iff_exists.1 h2
  simp only [binOp]
  simp [Op.equal, Op.maxDepth, run_equalIn_iface_ptr_same (P := Tryz.prog) W 9998 a Tryz.underlying49 Tryz.underlying179 hi hc hj]
theorem Fr.glob {w : World} {d : DC} {i b : Nat} {v : Value} (hd : d.Ok) (h : St w d i v) {k : Nat} (hk : k < 22) (hb : 22 ≤ b) : ¬ Fr d v b k := fun hF => by
  rcases hF with (e | e | e | e) | e
  · exact St.glob hd h hk (.inl (.inl e))
  · exact St.glob hd h hk (.inl (.inr (.inl e)))
  · exact St.glob hd h hk (.inl (.inr (.inr e)))
  · omega
  · exact St.glob hd h hk (.inr e)
theorem limitReader_calls (w : World) (a : Addr) (n : Int) : Calls Tryz.prog 86 #[.iface 97 (.pointer (some a)), .int .i64 n] w fun e w' => e = .returned (.iface 192 (.pointer (some ⟨w.heap.size, 0, none⟩))) ∧ w' = w.alloc (.cells #[.iface 97 (.pointer (some a)), .int .i64 n] 194) := by
  go_enter Tryz.func86, Tryz.ntmps86
  go_wp2_with fail
  go_ret
  exact ⟨rfl, rfl⟩
theorem makeBytes (m : Nat) (hm0 : 0 < m) (hm : m ≤ 100000) : ∃ Z : List Value, Z.length = m ∧ ∀ W : World, (Instr.makeSlice 24 (.int .i64 (m : Int)) (.int .i64 (m : Int))).run Tryz.prog W = .ok (.slice (some ⟨W.heap.size, 0, none⟩) m m) (W.alloc (.cells Z.toArray 5)) := by
  obtain ⟨i, hi, hz, hs, hb⟩ := info_parts PFnIdxSum.info5
  refine ⟨(madeCells (Value.int .u8 0).cells m).toList, ?_, fun W => ?_⟩
  · rw [Array.length_toList, size_madeCells]
  · have := run_makeSlice (P := Tryz.prog) W 24 5 i (.int .u8 0) Tryz.underlying24 hi hz .i64 .i64 (m : Int) (m : Int) (by omega) (by omega) (by rw [hs]; omega) (by rw [hb]; omega) (by omega)
    rw [hs] at this
    simpa using this
set_option maxHeartbeats 8000000 in
set_option maxRecDepth 100000 in
theorem lread_all {w : World} {d : DC} {i b o m cp L r : Nat} {v : Value} {cur : List Value} {t : TypeId} (hd : d.Ok) (H : St w d i v) (hi : i + r ≤ d.c.n) (hr : 0 < r) (hrl : r ≤ 4000) (hm : 0 < m) (hmr : m ≤ r) (hm4 : m < 4096) (hcp : m ≤ cp) (hcl : cp ≤ 100000)
    (hblk : w.heap[b]? = some (.cells cur.toArray t (0, 0))) (hb : Free d v b) (hfit : o + m ≤ cur.length) (hL : Lim w d L r) (hLf : Free d v L) (hLb : L ≠ b) (hLN : d.N ≤ L) :
    Calls Tryz.prog 170 #[.pointer (some ⟨L, 0, none⟩), .slice (some ⟨b, o, none⟩) m cp] w fun e w' => ∃ k v', 0 < k ∧ k ≤ m ∧ e = .returned (.tuple #[.int .i64 k, .nilIface]) ∧ St w' d (i + k) v' ∧ Owns w v v' ∧ (∃ cur' : List Value, cur'.length = cur.length ∧ w'.heap[b]? = some (.cells cur'.toArray t (0, 0))) ∧ Lim w' d L ((r : Int) - (k : Int)) ∧ Keep w w' (fun j => Fr d v b j ∨ j = L) := by
  have hme : ∀ (x : Addr) (W : World), (method 394 97 (.pointer (some x)) "Read").run Tryz.prog W = .ok (153, .pointer (some x)) W := fun _ _ => by kernel_rfl
  have HC : Aside0 (Calls Tryz.prog 153 #[.pointer (some ⟨d.t, 0, none⟩), .slice (some ⟨b, o, none⟩) m cp] w fun e w' => ∃ k v', 0 < k ∧ k ≤ m ∧ e = .returned (.tuple #[.int .i64 k, .nilIface]) ∧ St w' d (i + k) v' ∧ Owns w v v' ∧ (∃ cur' : List Value, cur'.length = cur.length ∧ w'.heap[b]? = some (.cells cur'.toArray t (0, 0))) ∧ Lim w' d L r ∧ Keep w w' (Fr d v b)) := ⟨by
    refine (teeRead (cp := cp) hd H (by omega) (by omega) (by omega) (by omega) hcl hblk hb (by omega)).mono fun e w' ⟨k, v', h1, h2, h3, h4, h5, h6, h7, h8⟩ => ⟨k, v', h1, h2, h4, h5, h6, ⟨_, ?_, h7⟩, hL.keep h8 (hLf.fr hLb), h8⟩
    rw [splice_length _ _ _ (by rw [nums_sub_len _ _ _ (by rw [hd.c.len]; omega)]; omega)]⟩
  have l0 : w.cell? ⟨L, 0, none⟩ = some (.iface 97 (.pointer (some ⟨d.t, 0, none⟩))) := cell_of hL 0 rfl
  have l1 : w.cell? ⟨L, 1, none⟩ = some (.int .i64 r) := cell_of hL 1 rfl
  have d0 : decide ((r : Int) ≤ 0) = false := decide_eq_false (by omega)
  have d0' : decide (r ≤ 0) = false := decide_eq_false (by omega)
  have d0'' : (r == 0) = false := by rw [beq_eq_false_iff_ne]; omega
  have d1 : decide (r < m) = false := decide_eq_false (by omega)
  have d1' : decide ((r : Int) < (m : Int)) = false := decide_eq_false (by omega)
  have HD := Aside0.mk hd
  have HLN := Aside0.mk hLN
  have HLf := Aside0.mk hLf
  have HL := Aside0.mk hL
  have HLB := Aside0.mk hLb
  clear hd H hblk hb hfit hL hLf hLb hLN hmr
  go_enter Tryz.func170, Tryz.ntmps170
  go_wp2_with (go_at_call 153; refine HC.out.mono ?_; rintro e w2 ⟨k, v2, hk0, hk1, rfl, hs2, ho2, hc2, hl2, hk2⟩; have HS2 := Aside0.mk hs2; have HO2 := Aside0.mk ho2; have HC2 := Aside0.mk hc2; have HL2 := Aside0.mk hl2; have HK2 := Aside0.mk hk2; have l1' : w2.cell? ⟨L, 1, none⟩ = some (.int .i64 r) := cell_of hl2 1 rfl; have f1 : w2.frozen? ⟨L, 1, none⟩ = false := frozen_of hl2 1; clear hs2 ho2 hc2 hl2 hk2)
  go_ret2
  have hK : Keep w2 (w2.setCell ⟨L, 1, none⟩ (.int .i64 ((r : Int) - (k : Int)))) (fun j => j = L) := Keep.setCell (F := fun j => j = L) (a := ⟨L, 1, none⟩) (Keep.refl w2 _) (.inl rfl) _
  have hown : v2.ownBlock ≠ some L := (HLf.out.of HO2.out (lt_of_block HL.out)).v
  obtain ⟨cur', hc1, hc2⟩ := HC2.out
  refine ⟨k, v2, hk0, hk1, rfl, HS2.out.keep HD.out hK (fun j e => by subst e; exact ⟨HLN.out, fun e => hown e.symm⟩), HO2.out, ⟨cur', hc1, (hK.block b (lt_of_block hc2) (fun e => HLB.out e.symm)).trans hc2⟩, HL2.out.set _, (HK2.out.mono (fun _ h => Or.inl h)).trans hK (fun _ _ h => Or.inr h)⟩
set_option maxHeartbeats 8000000 in
set_option maxRecDepth 100000 in
theorem lread_cut {w : World} {d : DC} {i b o m cp L r : Nat} {v : Value} {cur : List Value} {t : TypeId} (hd : d.Ok) (H : St w d i v) (hi : i + r ≤ d.c.n) (hr : 0 < r) (hrl : r ≤ 4000) (hm : 0 < m) (hmr : r < m) (hm4 : m < 4096) (hcp : m ≤ cp) (hcl : cp ≤ 100000)
    (hblk : w.heap[b]? = some (.cells cur.toArray t (0, 0))) (hb : Free d v b) (hfit : o + m ≤ cur.length) (hL : Lim w d L r) (hLf : Free d v L) (hLb : L ≠ b) (hLN : d.N ≤ L) :
    Calls Tryz.prog 170 #[.pointer (some ⟨L, 0, none⟩), .slice (some ⟨b, o, none⟩) m cp] w fun e w' => ∃ k v', 0 < k ∧ k ≤ r ∧ e = .returned (.tuple #[.int .i64 k, .nilIface]) ∧ St w' d (i + k) v' ∧ Owns w v v' ∧ (∃ cur' : List Value, cur'.length = cur.length ∧ w'.heap[b]? = some (.cells cur'.toArray t (0, 0))) ∧ Lim w' d L ((r : Int) - (k : Int)) ∧ Keep w w' (fun j => Fr d v b j ∨ j = L) := by
  have hme : ∀ (x : Addr) (W : World), (method 394 97 (.pointer (some x)) "Read").run Tryz.prog W = .ok (153, .pointer (some x)) W := fun _ _ => by kernel_rfl
  have HC : Aside0 (Calls Tryz.prog 153 #[.pointer (some ⟨d.t, 0, none⟩), .slice (some ⟨b, o, none⟩) r cp] w fun e w' => ∃ k v', 0 < k ∧ k ≤ r ∧ e = .returned (.tuple #[.int .i64 k, .nilIface]) ∧ St w' d (i + k) v' ∧ Owns w v v' ∧ (∃ cur' : List Value, cur'.length = cur.length ∧ w'.heap[b]? = some (.cells cur'.toArray t (0, 0))) ∧ Lim w' d L r ∧ Keep w w' (Fr d v b)) := ⟨by
    refine (teeRead (cp := cp) hd H (by omega) (by omega) (by omega) (by omega) hcl hblk hb (by omega)).mono fun e w' ⟨k, v', h1, h2, h3, h4, h5, h6, h7, h8⟩ => ⟨k, v', h1, h2, h4, h5, h6, ⟨_, ?_, h7⟩, hL.keep h8 (hLf.fr hLb), h8⟩
    rw [splice_length _ _ _ (by rw [nums_sub_len _ _ _ (by rw [hd.c.len]; omega)]; omega)]⟩
  have l0 : w.cell? ⟨L, 0, none⟩ = some (.iface 97 (.pointer (some ⟨d.t, 0, none⟩))) := cell_of hL 0 rfl
  have l1 : w.cell? ⟨L, 1, none⟩ = some (.int .i64 r) := cell_of hL 1 rfl
  have d0 : decide ((r : Int) ≤ 0) = false := decide_eq_false (by omega)
  have d0' : decide (r ≤ 0) = false := decide_eq_false (by omega)
  have d0'' : (r == 0) = false := by rw [beq_eq_false_iff_ne]; omega
  have d1 : decide (r < m) = true := decide_eq_true (by omega)
  have d1' : decide ((r : Int) < (m : Int)) = true := decide_eq_true (by omega)
  have hcut := cut_0k b o m cp r (by omega) (by omega) (by omega)
  have HD := Aside0.mk hd
  have HLN := Aside0.mk hLN
  have HLf := Aside0.mk hLf
  have HL := Aside0.mk hL
  have HLB := Aside0.mk hLb
  clear hd H hblk hb hfit hL hLf hLb hLN hmr
  go_enter Tryz.func170, Tryz.ntmps170
  go_wp2_with (go_at_call 153; refine HC.out.mono ?_; rintro e w2 ⟨k, v2, hk0, hk1, rfl, hs2, ho2, hc2, hl2, hk2⟩; have HS2 := Aside0.mk hs2; have HO2 := Aside0.mk ho2; have HC2 := Aside0.mk hc2; have HL2 := Aside0.mk hl2; have HK2 := Aside0.mk hk2; have l1' : w2.cell? ⟨L, 1, none⟩ = some (.int .i64 r) := cell_of hl2 1 rfl; have f1 : w2.frozen? ⟨L, 1, none⟩ = false := frozen_of hl2 1; clear hs2 ho2 hc2 hl2 hk2)
  go_ret2
  have hK : Keep w2 (w2.setCell ⟨L, 1, none⟩ (.int .i64 ((r : Int) - (k : Int)))) (fun j => j = L) := Keep.setCell (F := fun j => j = L) (a := ⟨L, 1, none⟩) (Keep.refl w2 _) (.inl rfl) _
  have hown : v2.ownBlock ≠ some L := (HLf.out.of HO2.out (lt_of_block HL.out)).v
  obtain ⟨cur', hc1, hc2⟩ := HC2.out
  refine ⟨k, v2, hk0, hk1, rfl, HS2.out.keep HD.out hK (fun j e => by subst e; exact ⟨HLN.out, fun e => hown e.symm⟩), HO2.out, ⟨cur', hc1, (hK.block b (lt_of_block hc2) (fun e => HLB.out e.symm)).trans hc2⟩, HL2.out.set _, (HK2.out.mono (fun _ h => Or.inl h)).trans hK (fun _ _ h => Or.inr h)⟩
set_option maxHeartbeats 8000000 in
set_option maxRecDepth 100000 in
theorem lread_end {w : World} {d : DC} {L : Nat} {x u : Value} (hL : Lim w d L 0) (hu : w.cell? ⟨7, 0, none⟩ = some u) :
    Calls Tryz.prog 170 #[.pointer (some ⟨L, 0, none⟩), x] w fun e w' => e = .returned (.tuple #[.int .i64 0, u]) ∧ Drawn0 w w' := by
  have l1 : w.cell? ⟨L, 1, none⟩ = some (.int .i64 0) := cell_of hL 1 rfl
  clear hL
  go_enter Tryz.func170, Tryz.ntmps170
  go_wp2_with fail
  go_quiet (fail)
  go_wp2_with fail
  go_ret2
  exact ⟨rfl, by repeat (first | exact Drawn0.refl _ | apply Drawn0.step)⟩
set_option maxHeartbeats 8000000 in
set_option maxRecDepth 100000 in
theorem copyBuffer_calls {w : World} {d : DC} {i L r : Nat} {v : Value} {dz q7 : Addr} (hd : d.Ok) (H : St w d i v) (hi : i + r ≤ d.c.n) (hr : 0 < r) (hrl : r ≤ 4000) (hL : Lim w d L r) (hLf : Free d v L) (hLN : d.N ≤ L) (hu : w.cell? ⟨7, 0, none⟩ = some (.iface 179 (.pointer (some q7)))) :
    Calls Tryz.prog 91 #[.iface 188 (.pointer (some dz)), .iface 192 (.pointer (some ⟨L, 0, none⟩)), .slice none 0 0] w fun e w' => e = .returned (.tuple #[.int .i64 r, .nilIface]) ∧ ∃ v', St w' d (i + r) v' ∧ Owns w v v' ∧ Keep w w' (fun j => Fr0 d v j ∨ j = L) := by
  have hme : ∀ (x : Addr) (W : World), (method 394 192 (.pointer (some x)) "Read").run Tryz.prog W = .ok (170, .pointer (some x)) W := fun _ _ => by kernel_rfl
  have hmw : ∀ (x : Addr) (W : World), (method 394 188 (.pointer (some x)) "Write").run Tryz.prog W = .ok (169, .pointer (some x)) W := fun _ _ => by kernel_rfl
  have hnw : ∀ (x : Addr) (W : World), (nilAhead 394 188 (.pointer (some x)) "Write").run Tryz.prog W = .ok (some false) W := fun _ _ => by kernel_rfl
  have ht1 : ∀ (x : Addr) (W : World), (Instr.typeAssert (.iface 192 (.pointer (some x))) 67 222 true).run Tryz.prog W = .ok (.tuple #[.nilIface, .bool false]) W := fun x W => run_typeAssert_lacksB Tryz.underlying222 (by kernel_rfl) (by kernel_rfl) (.pointer (some x)) 67 W
  have ht2 : ∀ (x : Addr) (W : World), (Instr.typeAssert (.iface 188 (.pointer (some x))) 96 226 true).run Tryz.prog W = .ok (.tuple #[.nilIface, .bool false]) W := fun x W => run_typeAssert_lacksB Tryz.underlying226 (by kernel_rfl) (by kernel_rfl) (.pointer (some x)) 96 W
  have ht3 : ∀ (x : Addr) (W : World), (Instr.typeAssert (.iface 192 (.pointer (some x))) 67 192 true).run Tryz.prog W = .ok (.tuple #[.pointer (some x), .bool true]) W := fun _ _ => by kernel_rfl
  have hnil : ∀ W : World, (binOp .eql 24 (.slice none 0 0) (.slice none 0 0)).run Tryz.prog W = .ok (.bool true) W := fun _ => by kernel_rfl
  obtain ⟨Z, hZ, hmk⟩ := makeBytes r hr (by omega)
  have HZ := Aside0.mk hZ
  have l1 : w.cell? ⟨L, 1, none⟩ = some (.int .i64 r) := cell_of hL 1 rfl
  have d0 : decide ((r : Int) < 32768) = true := decide_eq_true (by omega)
  have d0' : decide (r < 32768) = true := decide_eq_true (by omega)
  have d1 : decide ((r : Int) < 1) = false := decide_eq_false (by omega)
  have d1' : decide (r < 1) = false := decide_eq_false (by omega)
  have HD := Aside0.mk hd
  have HS := Aside0.mk H
  have HLf := Aside0.mk hLf
  have HL := Aside0.mk hL
  have HLN := Aside0.mk hLN
  have HU := Aside0.mk hu
  have hneq := err_same_neq q7
  obtain ⟨B, hB⟩ : ∃ B, B = w.heap.size := ⟨_, rfl⟩
  have hNB : d.N ≤ B := by rw [hB]; exact H.hash.le
  have HNB := Aside0.mk hNB
  have HN := Aside0.mk (Free.fresh hd H (by omega) : Free d v B)
  obtain ⟨W1, hW1⟩ : ∃ W1, W1 = w.alloc (.cells Z.toArray 5) := ⟨_, rfl⟩
  have hb1 : Below w.heap.size w W1 := by rw [hW1]; exact below_alloc (Below.refl _ _) _
  have HB1 := Aside0.mk hb1
  have hnew : W1.heap[B]? = some (.cells Z.toArray 5 (0, 0)) := by rw [hW1, hB]; exact heap_alloc_new w _
  have HNew := Aside0.mk hnew
  have HBl : Aside0 (B < W1.heap.size) := ⟨lt_of_block hnew⟩
  have HS1 : Aside0 (St W1 d i v) := ⟨H.below hd hb1⟩
  have HL1 : Aside0 (Lim W1 d L r) := ⟨hL.keep (Keep.of_below hb1 (fun _ => False)) id⟩
  have HLB : Aside0 (L ≠ B) := ⟨fun e => by have := lt_of_block hL; omega⟩
  have HU1 : Aside0 (W1.cell? ⟨7, 0, none⟩ = some (.iface 179 (.pointer (some q7)))) := ⟨(Keep.of_below hb1 (fun _ => False)).cell hu id⟩
  have HU7 : Aside0 (¬ (Fr d v B 7 ∨ 7 = L)) := ⟨fun h => h.elim (Fr.glob hd H (by omega) (by have := hd.Lp; have := hd.pN; omega)) (fun e => by have := hd.Lp; have := hd.pN; omega)⟩
  have HW1 := Aside0.mk hW1
  have HBs := Aside0.mk hB
  have HIr := Aside0.mk (⟨hi, hrl⟩ : i + r ≤ d.c.n ∧ r ≤ 4000)
  clear hd H hL hLf hLN hu hZ hW1 hb1 hnew hNB hi hrl HS HL HU
  go_enter Tryz.func91, Tryz.ntmps91
  go_wp2_with fail
  rw [← HW1.out, ← HBs.out]
  clear hB
  go_loopg [6, 7, 15, 16, 17, 18] r (fun kq v6 v7 v15 v16 v17 v18 w' => ∃ (a rem : Nat) (va : Value), a + rem = r ∧ kq = rem ∧ v6 = .int .i64 a ∧ v7 = .nilIface ∧ Aside0 (St w' d (i + a) va) ∧ Aside0 (Owns W1 v va) ∧ Aside0 (∃ cur : List Value, cur.length = r ∧ w'.heap[B]? = some (.cells cur.toArray 5 (0, 0))) ∧ Aside0 (Lim w' d L rem) ∧ Aside0 (Keep W1 w' (fun j => Fr d v B j ∨ j = L)))
  case atStart => exact ⟨0, r, v, by omega, rfl, rfl, rfl, HS1, ⟨Owns.refl _ _⟩, ⟨Z, HZ.out, HNew.out⟩, HL1, ⟨Keep.refl _ _⟩⟩
  case round =>
    obtain ⟨a, rem, va, har, hkr, rfl, rfl, HSa, HOa, HBa, HLa, HKa⟩ := hrel
    have HKr := Aside0.mk hkr
    clear hkr
    rcases Nat.eq_zero_or_pos rem with hz | hpos
    · have HC : Aside0 (Calls Tryz.prog 170 #[.pointer (some ⟨L, 0, none⟩), .slice (some ⟨B, 0, none⟩) r r] wr fun e w' => e = .returned (.tuple #[.int .i64 0, .iface 179 (.pointer (some q7))]) ∧ Keep W1 w' (fun j => Fr d v B j ∨ j = L) ∧ St w' d (i + r) va ∧ w'.cell? ⟨7, 0, none⟩ = some (.iface 179 (.pointer (some q7)))) := ⟨by
        subst hz
        have ha : a = r := by omega
        subst ha
        have hu7 := HKa.out.cell HU1.out HU7.out
        refine (lread_end HLa.out hu7).mono fun e w' ⟨h1, h2⟩ => ⟨h1, HKa.out.trans (keep_of_draw h2 (fun _ => False)) (fun _ _ h => h.elim), HSa.out.keep HD.out (keep_of_draw h2 (fun _ => False)) (fun _ h => h.elim), (keep_of_draw h2 (fun _ => False)).cell hu7 id⟩⟩
      have ha : a = r := by omega
      subst ha
      clear hz har HSa HBa HLa HKa
      go_wp2_with (go_at_call 170; refine HC.out.mono ?_; rintro e w2 ⟨rfl, hk2, hs2, hu2⟩; have HK2 := Aside0.mk hk2; have HS2 := Aside0.mk hs2; clear hk2 hs2)
      go_ret2
      refine ⟨rfl, va, HS2.out, fun j hj => (HOa.out j hj).imp id (fun h => Nat.le_trans HB1.out.size h), (Keep.of_below HB1.out (fun j => Fr0 d v j ∨ j = L)).trans HK2.out (fun j hj hF => ?_)⟩
      have hBe := HBs.out
      rcases hF with (hF | hF) | hF
      · rcases hF with e | e | e | e
        · exact .inl (.inl (.inl e))
        · exact .inl (.inl (.inr (.inl e)))
        · exact .inl (.inl (.inr (.inr e)))
        · omega
      · exact .inl (.inr hF)
      · exact .inr hF
    · have HC : Aside0 (Calls Tryz.prog 170 #[.pointer (some ⟨L, 0, none⟩), .slice (some ⟨B, 0, none⟩) r r] wr fun e w' => ∃ k v2, 0 < k ∧ k ≤ rem ∧ e = .returned (.tuple #[.int .i64 k, .nilIface]) ∧ St w' d (i + (a + k)) v2 ∧ Owns W1 v v2 ∧ (∃ cur : List Value, cur.length = r ∧ w'.heap[B]? = some (.cells cur.toArray 5 (0, 0))) ∧ Lim w' d L ((rem - k : Nat) : Int) ∧ Keep W1 w' (fun j => Fr d v B j ∨ j = L)) := ⟨by
        obtain ⟨cur, hcl, hcb⟩ := HBa.out
        have hf1 : Free d va B := HN.out.of HOa.out HBl.out
        have hf2 : Free d va L := HLf.out.of HOa.out (lt_of_block HL1.out)
        have hir := HIr.out
        have hpost : ∀ (k : Nat) (v2 : Value) (w' : World), k ≤ rem → St w' d (i + a + k) v2 → Owns wr va v2 → (∃ cur' : List Value, cur'.length = cur.length ∧ w'.heap[B]? = some (.cells cur'.toArray 5 (0, 0))) → Lim w' d L ((rem : Int) - (k : Int)) → Keep wr w' (fun j => Fr d va B j ∨ j = L) → St w' d (i + (a + k)) v2 ∧ Owns W1 v v2 ∧ (∃ cur : List Value, cur.length = r ∧ w'.heap[B]? = some (.cells cur.toArray 5 (0, 0))) ∧ Lim w' d L ((rem - k : Nat) : Int) ∧ Keep W1 w' (fun j => Fr d v B j ∨ j = L) := fun k v2 w' hk h1 h2 h3 h4 h5 => by
          refine ⟨by rw [← Nat.add_assoc]; exact h1, HOa.out.trans h2 HKa.out.size, ?_, ?_, ?_⟩
          · obtain ⟨cur', hc1, hc2⟩ := h3
            exact ⟨cur', hc1.trans hcl, hc2⟩
          · rw [show ((rem - k : Nat) : Int) = (rem : Int) - (k : Int) by omega]; exact h4
          · exact HKa.out.trans h5 (fun j hj hF => hF.elim (fun hF => Or.inl (hF.elim Or.inl (fun hF => Or.inr (hF.elim Or.inl (fun e => (HOa.out j e.symm).elim Or.inr (fun e => by omega)))))) Or.inr)
        rcases Nat.lt_or_ge rem r with hlt | hge
        · refine (lread_cut HD.out HSa.out (by omega) hpos (by omega) (by omega) hlt (by omega) (Nat.le_refl _) (by omega) hcb hf1 (by omega) HLa.out hf2 HLB.out HLN.out).mono fun e w' ⟨k, v2, h1, h2, h3, h4, h5, h6, h7, h8⟩ => ⟨k, v2, h1, h2, h3, hpost k v2 w' h2 h4 h5 h6 h7 h8⟩
        · refine (lread_all HD.out HSa.out (by omega) hpos (by omega) (by omega) (by omega) (by omega) (Nat.le_refl _) (by omega) hcb hf1 (by omega) HLa.out hf2 HLB.out HLN.out).mono fun e w' ⟨k, v2, h1, h2, h3, h4, h5, h6, h7, h8⟩ => ⟨k, v2, h1, by omega, h3, hpost k v2 w' (by omega) h4 h5 h6 h7 h8⟩⟩
      have hcut : ∀ k, k ≤ rem → ∀ W : World, (Instr.slice 24 (.slice (some ⟨B, 0, none⟩) r r) (some (.int .i64 0)) (some (.int .i64 (k : Int))) none).run Tryz.prog W = .ok (.slice (some ⟨B, 0, none⟩) k r) W := fun k hk => cut_0k B 0 r r k (by omega) (Nat.le_refl _) (by omega)
      have HCut := Aside0.mk hcut
      have hkr := HKr.out
      have HAr := Aside0.mk har
      clear HSa HBa HLa HKa HOa hcut hkr har
      go_wp2_with (go_at_call 170; refine HC.out.mono ?_; rintro e w2 ⟨k, v2, hk0, hk1, rfl, hs2, ho2, hc2, hl2, hk2⟩; have HS2 := Aside0.mk hs2; have HO2 := Aside0.mk ho2; have HC2 := Aside0.mk hc2; have HL2 := Aside0.mk hl2; have HK2 := Aside0.mk hk2; have hcut := HCut.out k hk1; clear hs2 ho2 hc2 hl2 hk2)
      have HCd : Aside0 (∀ q, Calls Tryz.prog 169 #[.pointer (some dz), .slice (some ⟨B, 0, none⟩) k r] (w2.drewN q) fun e w' => e = .returned (.tuple #[.int .i64 k, .nilIface]) ∧ Keep w2 w' (fun _ => False)) := ⟨fun q => discard_calls.mono fun e w' ⟨h1, h2⟩ => ⟨h1, by rw [← h2]; exact (Keep.refl w2 _).drewN q⟩⟩
      go_region_held3 (fun _ => True) (exact trivial) ((go_at_call 169; refine (HCd.out _).mono ?_; rintro e w3 ⟨rfl, hk3⟩; have HK3 := Aside0.mk hk3; clear hk3))
      clear hcut HCut HCd
      have e1 : decide ((k : Int) < 0) = false := decide_eq_false (by omega)
      have e2 : decide (k < k) = false := by simp
      have hak : a + k ≤ 4000 := by have := HAr.out; have := HIr.out; omega
      go_wp2_with fail
      have hK3 := HK3.out
      go_roundg (rem - k)
      case measure => have := HKr.out; omega
      case rel =>
        obtain ⟨cur, hcl, hcb⟩ := HC2.out
        exact ⟨a + k, rem - k, v2, by have := HAr.out; omega, rfl, by go_num, rfl, ⟨HS2.out.keep HD.out hK3 (fun _ h => h.elim)⟩, HO2, ⟨cur, hcl, (hK3.block B (lt_of_block hcb) id).trans hcb⟩, ⟨HL2.out.keep hK3 id⟩, ⟨HK2.out.trans hK3 (fun _ _ h => h.elim)⟩⟩
set_option maxHeartbeats 8000000 in
set_option maxRecDepth 100000 in
theorem copy_calls {w : World} {d : DC} {i L r : Nat} {v : Value} {dz q7 : Addr} (hd : d.Ok) (H : St w d i v) (hi : i + r ≤ d.c.n) (hr : 0 < r) (hrl : r ≤ 4000) (hL : Lim w d L r) (hLf : Free d v L) (hLN : d.N ≤ L) (hu : w.cell? ⟨7, 0, none⟩ = some (.iface 179 (.pointer (some q7)))) :
    Calls Tryz.prog 85 #[.iface 188 (.pointer (some dz)), .iface 192 (.pointer (some ⟨L, 0, none⟩))] w fun e w' => e = .returned (.tuple #[.int .i64 r, .nilIface]) ∧ ∃ v', St w' d (i + r) v' ∧ Owns w v v' ∧ Keep w w' (fun j => Fr0 d v j ∨ j = L) := by
  have HC := Aside0.mk (copyBuffer_calls (dz := dz) hd H hi hr hrl hL hLf hLN hu)
  clear hd H hi hr hrl hL hLf hLN hu
  go_enter Tryz.func85, Tryz.ntmps85
  go_wp2_with (go_at_call 91; refine HC.out.mono ?_; rintro e w2 ⟨rfl, hg2⟩; have HG2 := Aside0.mk hg2; clear hg2)
  go_ret2
  exact ⟨rfl, HG2.out⟩
set_option maxHeartbeats 8000000 in
set_option maxRecDepth 100000 in
/-- io.CopyN: so many bytes are read, and forgotten. -/
theorem copyN_calls {w : World} {d : DC} {i r : Nat} {v : Value} {dz q7 : Addr} (hd : d.Ok) (H : St w d i v) (hi : i + r ≤ d.c.n) (hr : 0 < r) (hrl : r ≤ 4000) (hu : w.cell? ⟨7, 0, none⟩ = some (.iface 179 (.pointer (some q7)))) :
    Calls Tryz.prog 76 #[.iface 188 (.pointer (some dz)), .iface 97 (.pointer (some ⟨d.t, 0, none⟩)), .int .i64 r] w fun e w' => e = .returned (.tuple #[.int .i64 r, .nilIface]) ∧ ∃ v', St w' d (i + r) v' ∧ Owns w v v' ∧ Keep w w' (Fr0 d v) := by
  obtain ⟨W1, hW1⟩ : ∃ W1, W1 = w.alloc (.cells #[.iface 97 (.pointer (some ⟨d.t, 0, none⟩)), .int .i64 r] 194) := ⟨_, rfl⟩
  have hb1 : Below w.heap.size w W1 := by rw [hW1]; exact below_alloc (Below.refl _ _) _
  have HC : Aside0 (Calls Tryz.prog 85 #[.iface 188 (.pointer (some dz)), .iface 192 (.pointer (some ⟨w.heap.size, 0, none⟩))] W1 fun e w' => e = .returned (.tuple #[.int .i64 r, .nilIface]) ∧ ∃ v', St w' d (i + r) v' ∧ Owns w v v' ∧ Keep w w' (Fr0 d v)) := ⟨by
    refine (copy_calls (dz := dz) (L := w.heap.size) hd (H.below hd hb1) hi hr hrl (by rw [hW1]; exact heap_alloc_new w _) (Free.fresh hd H (Nat.le_refl _)) H.hash.le ((Keep.of_below hb1 (fun _ => False)).cell hu id)).mono fun e w' ⟨h1, v', h2, h3, h4⟩ => ⟨h1, v', h2, fun j hj => (h3 j hj).imp id (fun h => Nat.le_trans hb1.size h), Fr0.fresh hb1 h4 (Nat.le_refl _)⟩⟩
  have HW1 := Aside0.mk hW1
  clear hd H hi hr hrl hu hW1 hb1
  go_enter Tryz.func76, Tryz.ntmps76
  go_wp2_with (first | (go_at_call 86; refine (limitReader_calls _ _ _).mono ?_; rintro e w1 ⟨rfl, hw1⟩; rw [hw1, ← HW1.out]; clear hw1) | (go_at_call 85; refine HC.out.mono ?_; rintro e w2 ⟨rfl, hg2⟩; have HG2 := Aside0.mk hg2; clear hg2))
  go_ret2
  exact ⟨rfl, HG2.out⟩
end Go.Proofs.YtllikhbafaohgaaGreatDoor.Idx
