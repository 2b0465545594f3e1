/- The name of an entry, and what fills it up. -/
import Derived.Test.YtllikhbafaohgaaGreatDoorIJ
namespace Go.Proofs.YtllikhbafaohgaaGreatDoor.Idx
open Go.RowKit Go.Proofs.YtllikhbafaohgaaGreatDoorW.PrintWords Go.Proofs.YtllikhbafaohgaaGreatDoorW.PrintLast Go.Proofs.YtllikhbafaohgaaGreatDoorW.PrintMore
set_option linter.unusedVariables false
set_option linter.unusedSimpArgs false

/-- The decoder at block k. -/
def Dcd (w : World) (d : DC) (k : Nat) (le : Value) (p2 : Nat) : Prop := w.heap[k]? = some (.cells #[.pointer (some ⟨d.c.p, 0, none⟩), .iface 97 (.pointer (some ⟨d.t, 0, none⟩)), .iface 91 (.pointer (some ⟨d.h, 0, none⟩)), le, .pointer (some ⟨p2, 0, none⟩)] 76 (0, 0))
theorem Dcd.c1 {w : World} {d : DC} {k p2 : Nat} {le : Value} (h : Dcd w d k le p2) : w.cell? ⟨k, 1, none⟩ = some (.iface 97 (.pointer (some ⟨d.t, 0, none⟩))) := cell_of h 1 rfl
theorem Dcd.keep {w w' : World} {d : DC} {k p2 : Nat} {le : Value} (h : Dcd w d k le p2) {F : Nat → Prop} (q : Keep w w' F) (hF : ¬ F k) : Dcd w' d k le p2 := (q.block k (lt_of_block h) hF).trans h
/-- How many bytes fill up an entry whose name has so many. -/
def pad (l : Nat) : Nat := 8 - (62 + l) % 8
set_option maxHeartbeats 8000000 in
set_option maxRecDepth 100000 in
theorem padEntry_calls {w : World} {d : DC} {i k x eb p2 : Nat} {le v : Value} {nm : ByteArray} {q7 : Addr} (hd : d.Ok) (H : St w d i v) (hi : i + pad nm.size ≤ d.c.n) (hk : Dcd w d k le p2) (hx : w.cell? ⟨x, 0, none⟩ = some (.int .u32 2)) (he : w.cell? ⟨eb, 20, none⟩ = some (.string nm)) (hnm : nm.size ≤ 4000) (hu : w.cell? ⟨7, 0, none⟩ = some (.iface 179 (.pointer (some q7)))) :
    Calls Tryz.prog 59 #[.pointer (some ⟨k, 0, none⟩), .pointer (some ⟨x, 0, none⟩), .pointer (some ⟨eb, 0, none⟩), .int .i64 62, .int .i64 nm.size] w fun e w' => e = .returned .nilIface ∧ ∃ v', St w' d (i + pad nm.size) v' ∧ Owns w v v' ∧ Keep w w' (Fr0 d v) := by
  obtain ⟨W1, hW1⟩ : ∃ W1, W1 = w.alloc (.cells #[] 190) := ⟨_, rfl⟩
  have hb1 : Below w.heap.size w W1 := by rw [hW1]; exact below_alloc (Below.refl _ _) _
  obtain ⟨r, hr⟩ : ∃ r, r = pad nm.size := ⟨_, rfl⟩
  have hr0 : 0 < r := by rw [hr]; unfold pad; omega
  have hr8 : r ≤ 8 := by rw [hr]; unfold pad; omega
  rw [← hr] at hi ⊢
  have HC : Aside0 (Calls Tryz.prog 76 #[.iface 188 (.pointer (some ⟨w.heap.size, 0, none⟩)), .iface 97 (.pointer (some ⟨d.t, 0, none⟩)), .int .i64 r] W1 fun e w' => e = .returned (.tuple #[.int .i64 r, .nilIface]) ∧ ∃ v', St w' d (i + r) v' ∧ Owns w v v' ∧ Keep w w' (Fr0 d v)) := ⟨by
    refine (copyN_calls hd (H.below hd hb1) hi hr0 (by omega) ((Keep.of_below hb1 (fun _ => False)).cell hu id)).mono fun e w' ⟨h1, v', h2, h3, h4⟩ => ⟨h1, v', h2, fun j hj => (h3 j hj).imp id (fun h => Nat.le_trans hb1.size h), (Keep.of_below hb1 _).trans h4 (fun _ _ h => h)⟩⟩
  have c1 := hk.c1
  obtain ⟨l, hl⟩ : ∃ l, l = nm.size := ⟨_, rfl⟩
  have hz : 8 - (62 + l) % 8 = r := by rw [hr, hl]; rfl
  rw [← hl] at hnm
  have e1 : 8 - (62 + (l : Int)) % 8 = (r : Int) := by omega
  have e0 : (r : Int) ≤ 8 := by omega
  have c1' : (w.alloc (.cells #[] 190)).cell? ⟨k, 1, none⟩ = some (.iface 97 (.pointer (some ⟨d.t, 0, none⟩))) := (Keep.of_below (below_alloc (Below.refl w.heap.size w) (.cells #[] 190)) (fun _ => False)).cell c1 id
  have HW1 := Aside0.mk hW1
  have HL := Aside0.mk hl
  have HZ := Aside0.mk hz
  rw [← hl]
  have hsz : ((nm.size : Nat) : Int) = (l : Int) := by rw [hl]
  clear hd H hi hk hu hW1 hb1 hr hl hz
  go_enter Tryz.func59, Tryz.ntmps59
  go_wp2_with (go_at_call 76; rw [← HW1.out]; refine HC.out.mono ?_; rintro e w2 ⟨rfl, hg2⟩; have HG2 := Aside0.mk hg2; clear hg2)
  go_ret
  exact ⟨rfl, HG2.out⟩
theorem makeBytes16 (m : Nat) (hm0 : 0 < m) (hm : m ≤ 100000) : ∃ Z : List Value, Z.length = m ∧ ∀ W : World, (Instr.makeSlice 24 (.int .u16 (m : Int)) (.int .u16 (m : Int))).run Tryz.prog W = .ok (.slice (some ⟨W.heap.size, 0, none⟩) m m) (W.alloc (.cells Z.toArray 5)) := by
  obtain ⟨i, hi, hz, hs, hb⟩ := info_parts PFnIdxSum.info5
  refine ⟨(madeCells (Value.int .u8 0).cells m).toList, ?_, fun W => ?_⟩
  · rw [Array.length_toList, size_madeCells]
  · have := run_makeSlice (P := Tryz.prog) W 24 5 i (.int .u8 0) Tryz.underlying24 hi hz .u16 .u16 (m : Int) (m : Int) (by omega) (by omega) (by rw [hs]; omega) (by rw [hb]; omega) (by omega)
    rw [hs] at this
    simpa using this
set_option maxHeartbeats 8000000 in
set_option maxRecDepth 100000 in
theorem doReadEntryName_calls {w : World} {d : DC} {i k l p2 : Nat} {le v : Value} (hd : d.Ok) (H : St w d i v) (hi : i + l ≤ d.c.n) (hk : Dcd w d k le p2) (hl0 : 0 < l) (hl : l < 4000) :
    Calls Tryz.prog 74 #[.pointer (some ⟨k, 0, none⟩), .int .u16 l] w fun e w' => e = .returned (.tuple #[.string (strOfNums ((d.c.D.drop i).take l)), .int .i64 l, .nilIface]) ∧ ∃ v', St w' d (i + l) v' ∧ Owns w v v' ∧ Keep w w' (Fr0 d v) := by
  obtain ⟨Z, hZ, hmk⟩ := makeBytes16 l hl0 (by omega)
  obtain ⟨W1, hW1⟩ : ∃ W1, W1 = w.alloc (.cells Z.toArray 5) := ⟨_, rfl⟩
  have hb1 : Below w.heap.size w W1 := by rw [hW1]; exact below_alloc (Below.refl _ _) _
  have hnew : W1.heap[w.heap.size]? = some (.cells Z.toArray 5 (0, 0)) := by rw [hW1]; exact heap_alloc_new w _
  obtain ⟨xs, hxs⟩ : ∃ xs, xs = (d.c.D.drop i).take l := ⟨_, rfl⟩
  have hxl : xs.length = l := by rw [hxs, List.length_take, List.length_drop, hd.c.len]; omega
  have HC : Aside0 (Calls Tryz.prog 40 #[.iface 97 (.pointer (some ⟨d.t, 0, none⟩)), .slice (some ⟨w.heap.size, 0, none⟩) l l] W1 fun e w' => e = .returned (.tuple #[.int .i64 l, .nilIface]) ∧ Kd.C (Kd.int .u8) w' (some ⟨w.heap.size, 0, none⟩) l xs ∧ ∃ v', St w' d (i + l) v' ∧ Owns w v v' ∧ Keep w w' (Fr0 d v)) := ⟨by
    refine (readFull_tee (cp := l) hd (H.below hd hb1) hi hl0 (by omega) (Nat.le_refl _) (by omega) hnew (Free.fresh hd H (Nat.le_refl _)) (by omega)).mono fun e w' ⟨h1, v', h2, h3, h4, h5⟩ => ⟨h1, C_of h4 hxl (by omega) ?_, v', h2, fun j hj => (h3 j hj).imp id (fun h => Nat.le_trans hb1.size h), Fr0.of hb1 h5 (Nat.le_refl _)⟩
    intro j u hj
    rw [← hxs, splice_at _ _ _ _ (List.getElem?_eq_some_iff.1 hj).1 (Nat.zero_le _)]
    exact hj⟩
  have c1 := hk.c1
  have c1' : (w.alloc (.cells Z.toArray 5)).cell? ⟨k, 1, none⟩ = some (.iface 97 (.pointer (some ⟨d.t, 0, none⟩))) := (Keep.of_below (below_alloc (Below.refl w.heap.size w) _) (fun _ => False)).cell c1 id
  have n1 : ((l : Int) == 4095) = false := by rw [beq_eq_false_iff_ne]; omega
  have n2 : (l == 4095) = false := by rw [beq_eq_false_iff_ne]; omega
  have HW1 := Aside0.mk hW1
  have HXl := Aside0.mk hxl
  clear hd H hi hk hW1 hb1 hnew hxl hZ
  rw [← hxs]
  clear hxs
  go_enter Tryz.func74, Tryz.ntmps74
  go_wp2_with (go_at_call 40; rw [← HW1.out]; refine HC.out.mono ?_; rintro e w2 ⟨rfl, hc2, hg2⟩; have HG2 := Aside0.mk hg2; have hcv := Kd.C_string (P := Tryz.prog) (c := l) Tryz.underlying24 Tryz.underlying5 Tryz.underlying9 hc2; clear hg2 hc2)
  go_ret3
  exact ⟨rfl, HG2.out⟩
set_option maxHeartbeats 8000000 in
set_option maxRecDepth 100000 in
theorem readEntryName_calls {w : World} {d : DC} {i k x eb l p2 : Nat} {le v : Value} {fl : Int} {cs : Array Value} {t : TypeId} {nm : ByteArray} (hd : d.Ok) (H : St w d i v) (hi : i + l ≤ d.c.n) (hk : Dcd w d k le p2) (hl0 : 0 < l) (hl : l < 4000) (hx : w.cell? ⟨x, 0, none⟩ = some (.int .u32 2)) (hfl : Go.bits .and .u16 fl 4095 = (l : Int))
    (heb : w.heap[eb]? = some (.cells cs t (0, 0))) (hc20 : cs[20]? = some (.string nm)) (hef : Free d v eb) (heN : d.N ≤ eb) :
    Calls Tryz.prog 58 #[.pointer (some ⟨k, 0, none⟩), .pointer (some ⟨x, 0, none⟩), .pointer (some ⟨eb, 0, none⟩), .int .u16 fl] w fun e w' => e = .returned (.tuple #[.int .i64 l, .nilIface]) ∧ w'.heap[eb]? = some (.cells (cs.setIfInBounds 20 (.string (strOfNums ((d.c.D.drop i).take l)))) t (0, 0)) ∧ ∃ v', St w' d (i + l) v' ∧ Owns w v v' ∧ Keep w w' (fun j => Fr0 d v j ∨ j = eb) := by
  have HC := Aside0.mk (doReadEntryName_calls hd H hi hk hl0 hl)
  have HD := Aside0.mk hd
  have HE := Aside0.mk heb
  have HEF := Aside0.mk hef
  have HEN := Aside0.mk heN
  have HC20 := Aside0.mk hc20
  obtain ⟨sv, hsv⟩ : ∃ sv, sv = strOfNums ((d.c.D.drop i).take l) := ⟨_, rfl⟩
  rw [← hsv] at HC ⊢
  clear hd H hi hk hef heb heN hc20 hsv
  go_enter Tryz.func58, Tryz.ntmps58
  go_wp2_with (go_at_call 74; refine HC.out.mono ?_; rintro e w2 ⟨rfl, v2, hs2, ho2, hk2⟩; have HS2 := Aside0.mk hs2; have HO2 := Aside0.mk ho2; have HK2 := Aside0.mk hk2; have HE2 : Aside0 (w2.heap[eb]? = some (.cells cs t (0, 0))) := ⟨(hk2.block eb (lt_of_block HE.out) HEF.out.fr0).trans HE.out⟩; have e20 : w2.cell? ⟨eb, 20, none⟩ = some (.string nm) := cell_of HE2.out 20 HC20.out; have ef : w2.frozen? ⟨eb, 20, none⟩ = false := frozen_of HE2.out 20; clear hs2 ho2 hk2)
  go_ret2
  have hown : v2.ownBlock ≠ some eb := (HEF.out.of HO2.out (lt_of_block HE.out)).v
  exact ⟨rfl, set_block HE2.out 20 _, v2, HS2.out.keep HD.out (Keep.setCell (F := fun j => j = eb) (a := ⟨eb, 20, none⟩) (Keep.refl w2 _) (.inl rfl) _) (fun j e => by subst e; exact ⟨HEN.out, fun e => hown e.symm⟩), HO2.out, Keep.setCell (F := fun j => Fr0 d v j ∨ j = eb) (a := ⟨eb, 20, none⟩) (HK2.out.mono (fun _ h => Or.inl h)) (.inl (Or.inr rfl)) _⟩
end Go.Proofs.YtllikhbafaohgaaGreatDoor.Idx
