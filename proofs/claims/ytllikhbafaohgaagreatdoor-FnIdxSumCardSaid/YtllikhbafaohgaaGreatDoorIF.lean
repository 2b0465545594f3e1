/- Readers: bytes.Reader.Read fills the slice that is asked for; bufio.Reader.Read gives some of the bytes that come next. -/
import Derived.Test.YtllikhbafaohgaaGreatDoorIE
import Derived.LaidEql
namespace Go.Proofs.YtllikhbafaohgaaGreatDoor.Idx
open Go.RowKit Go.Proofs.YtllikhbafaohgaaGreatDoorW.PrintWords Go.Proofs.YtllikhbafaohgaaGreatDoorW.PrintLast Go.Proofs.YtllikhbafaohgaaGreatDoorW.PrintMore
set_option linter.unusedVariables false
set_option linter.unusedSimpArgs false

/-- copy as one step of a region, the world behind it named. -/
theorem step_copy_at {P : Program} {ops : Array Oper} {o : Oper} {a : Act} {w : World} {K : Act → World → Prop} {Q : Exit → Act → World → Prop} {E : Prop} (hgd : o.guard = none) (d s : Operand) (dT sT : TypeId)
    (ho : o.op = .call { callee := .builtin .copy, args := #[d, s], argTypes := #[dT, sT] }) (elem : TypeId) (hu : P.underlying dT = some (.slice elem)) (hsz : (P.info? elem).map (·.size) = some 1)
    (g off dLen dCap : Nat) (ad : Addr) (sLen sCap : Nat) (hd : a.eval d = .slice (some ⟨g, off, none⟩) dLen dCap) (hs : a.eval s = .slice (some ad) sLen sCap)
    (cur : List Value) (t : TypeId) (hg : w.heap[g]? = some (.cells cur.toArray t (0, 0))) (cs : List Value) (hn : cs.length = Nat.min sLen dLen)
    (hsrc : ∀ j v, cs[j]? = some v → w.cell? (ad.add j) = some v) (hfit : off + cs.length ≤ cur.length) (h1 : ∀ v ∈ cs, v.oneCell' = true)
    (h : ∀ w', Aside0 (w' = w.setRow g (splice cur off cs).toArray) → K (a.put o.dst (goInt cs.length)) w') :
    if Region.wanted o (yielded ops a.tmps) = true then Oper.wp P o a w K Q else E := by
  have hw : Region.wanted o (yielded ops a.tmps) = true := by simp [Region.wanted, hgd]
  rw [if_pos hw]
  have hrun := run_copy_row (P := P) w dT sT o.type elem g off dLen dCap ad sLen sCap cur.toArray t cs hu hsz hg hn hsrc (by simpa using hfit) h1
  unfold Oper.wp
  simp [execOp, ho, resolve, invoke, builtin, hd, hs, hrun, Result.andThen]
  exact h _ ⟨by simp [splice]⟩

/-- The reader at block g stands at place i of the n bytes at A. -/
def Rdr (w : World) (g : Nat) (A : Addr) (n cap i : Nat) (pr : Int) : Prop := w.heap[g]? = some (.cells #[.slice (some A) n cap, .int .i64 i, .int .i64 pr] 78 (0, 0))
theorem Rdr.c0 {w : World} {g : Nat} {A : Addr} {n cap i : Nat} {pr : Int} (h : Rdr w g A n cap i pr) : w.cell? ⟨g, 0, none⟩ = some (.slice (some A) n cap) := cell_of h 0 rfl
theorem Rdr.c1 {w : World} {g : Nat} {A : Addr} {n cap i : Nat} {pr : Int} (h : Rdr w g A n cap i pr) : w.cell? ⟨g, 1, none⟩ = some (.int .i64 i) := cell_of h 1 rfl
theorem Rdr.c2 {w : World} {g : Nat} {A : Addr} {n cap i : Nat} {pr : Int} (h : Rdr w g A n cap i pr) : w.cell? ⟨g, 2, none⟩ = some (.int .i64 pr) := cell_of h 2 rfl

theorem size5 : (Tryz.prog.info? 5).map (·.size) = some 1 := by kernel_rfl
theorem read_copied {w W1 w2 : World} {g b : Nat} {A : Addr} {n cap i : Nat} {pr : Int} {cs : Array Value} (h2 : w2 = w.setRow b cs) {m : Nat} (hw : w = W1.drewN m) (hbg : b ≠ g) (hr : Rdr W1 g A n cap i pr) : Rdr w2 g A n cap i pr := by
  subst h2; subst hw
  exact (setRow_other (W1.drewN m) b g cs (fun e => hbg e.symm)).trans hr
theorem rdr_set {w : World} {g : Nat} {A : Addr} {n cap i : Nat} {pr : Int} (h : Rdr w g A n cap i pr) : Rdr (w.setCell ⟨g, 2, none⟩ (.int .i64 (-1))) g A n cap i (-1) := by
  unfold Rdr at h ⊢
  rw [setCell_eq_setRow w g 2 _ 78 (0, 0) _ h]
  exact setRow_heap w g _ _ 78 _ h
theorem rdr_at {w : World} {g : Nat} {A : Addr} {n cap i : Nat} {pr : Int} (h : Rdr w g A n cap i pr) (j : Nat) : Rdr (w.setCell ⟨g, 1, none⟩ (.int .i64 j)) g A n cap j pr := by
  unfold Rdr at h ⊢
  rw [setCell_eq_setRow w g 1 _ 78 (0, 0) _ h]
  exact setRow_heap w g _ _ 78 _ h
set_option maxHeartbeats 4000000 in
set_option maxRecDepth 100000 in
theorem read_calls (g : Nat) (A : Addr) (n cap i : Nat) (pr : Int) (b o m c : Nat) (cur : List Value) (t : TypeId) (xs : List Value) (w : World) (hr : Rdr w g A n cap i pr) (hb : w.heap[b]? = some (.cells cur.toArray t (0, 0))) (hbg : b ≠ g)
    (hA : A.block ≠ b) (hAg : A.block ≠ g) (hsrc : ∀ j v, xs[j]? = some v → w.cell? (A.add (i + j)) = some v) (r : Nat) (hx : xs.length = r) (hrm : r = min (n - i) m) (h1 : ∀ v ∈ xs, v.oneCell' = true) (hm : 0 < m) (hin0 : i < n) (hn : n ≤ cap) (hcap : n ≤ 140737488355328) (hfit : o + r ≤ cur.length) :
    Calls Tryz.prog 142 #[.pointer (some ⟨g, 0, none⟩), .slice (some ⟨b, o, none⟩) m c] w fun e w' => e = .returned (.tuple #[.int .i64 r, .nilIface]) ∧ Rdr w' g A n cap (i + r) (-1) ∧ w'.heap[b]? = some (.cells (splice cur o xs).toArray t (0, 0)) ∧ Keep w w' (fun k => k = g ∨ k = b) := by
  have HR := Aside0.mk hr
  have c0 := hr.c0
  have c1 := hr.c1
  have c2 := hr.c2
  have f1 := frozen_of hr 1
  have f2 := frozen_of hr 2
  have hlt : decide (n ≤ i) = false := by simp; omega
  have HB := Aside0.mk hb
  have HS := Aside0.mk hsrc
  have HX := Aside0.mk hx
  have HRm := Aside0.mk hrm
  have hrn : i + r ≤ n := by omega
  have H1 := Aside0.mk h1
  have HF := Aside0.mk hfit
  have HA := Aside0.mk (And.intro hA hAg)
  have HN := Aside0.mk hbg
  clear hr hb hsrc hx hrm h1 hfit hA hAg
  go_enter Tryz.func142, Tryz.ntmps142
  go_wp2_with fail
  go_quiet (fail)
  go_wp2_with fail
  obtain ⟨W1, hW1⟩ : ∃ W1, W1 = (w.drewN nq).setCell ⟨g, 2, none⟩ (.int .i64 (-1)) := ⟨_, rfl⟩
  have HR1 : Aside0 (Rdr W1 g A n cap i (-1)) := ⟨by rw [hW1]; exact rdr_set (w := w.drewN nq) HR.out⟩
  have HB1 : Aside0 (W1.heap[b]? = some (.cells cur.toArray t (0, 0))) := ⟨by rw [hW1]; exact (Below.heap_setCell (w.drewN nq) ⟨g, 2, none⟩ _ b HN.out).trans HB.out⟩
  have HK1 : Aside0 (Keep w W1 (fun k => k = g)) := ⟨by rw [hW1]; exact ((Keep.refl w (fun k => k = g)).drewN nq).setCell (a := ⟨g, 2, none⟩) (.inl rfl) _⟩
  have HS1 : Aside0 (∀ (j : Nat) (v : Value), xs[j]? = some v → W1.cell? (A.add (i + j)) = some v) := ⟨fun j v hv => by
    rw [hW1, World.cell?_setCell_other _ _ _ _ (fun e => HA.out.2 ((add_block A (i + j)).symm.trans (congrArg Addr.block e).symm))]
    exact HS.out j v hv⟩
  rw [← hW1]
  have c0' := HR1.out.c0
  have c1' := HR1.out.c1
  have f1' := frozen_of HR1.out 1
  have hin : i ≤ n := by omega
  have hne : ¬ cap = i := by omega
  clear hW1 c0 c1 c2 f1 f2
  go_region_held3 (fun w' => w'.cell? ⟨g, 0, none⟩ = some (.slice (some A) n cap) ∧ w'.cell? ⟨g, 1, none⟩ = some (.int .i64 i)) (first | go_keep | (exact ⟨c0', c1'⟩) | (exact k2)) ((refine step_copy_at rfl (.tmp 20) (.tmp 29) 24 24 rfl 5 Tryz.underlying24 size5 b o m c (A.add i) (n - i) (cap - i) ?hd ?hs cur t ?hg xs ?hn ?hsrc ?hfit ?h1 ?_; (case hd => rfl); (case hs => rfl); (case hg => exact HB1.out); (case hn => exact HX.out.trans HRm.out); (case hsrc => intro j v hj; rw [Go.Deep.add_add]; exact HS1.out j v hj); (case hfit => have := HX.out; have := HF.out; omega); (case h1 => exact H1.out); intro w2 hw2; have HR2 : Aside0 (Rdr w2 g A n cap i (-1)) := ⟨read_copied hw2.out rfl HN.out HR1.out⟩; have HB2 : Aside0 (w2.heap[b]? = some (.cells (splice cur o xs).toArray t (0, 0))) := ⟨by rw [hw2.out]; exact setRow_heap _ b _ _ t _ HB1.out⟩; have HK2 : Aside0 (Keep w w2 (fun k => k = g ∨ k = b)) := ⟨by rw [hw2.out]; exact Keep.setRow (F := fun k => k = g ∨ k = b) ((HK1.out.mono (fun k hk => Or.inl hk)).drewN 1) (.inl (Or.inr rfl)) _⟩; clear hw2; have k2 : w2.cell? ⟨g, 0, none⟩ = some (.slice (some A) n cap) ∧ w2.cell? ⟨g, 1, none⟩ = some (.int .i64 i) := ⟨HR2.out.c0, HR2.out.c1⟩))
  have k1 := k2.2
  have f1 := frozen_of HR2.out 1
  clear k2 c0' c1' f1'
  go_wp2_with fail
  go_ret2
  have hw : wrap64 ((i : Int) + (xs.length : Int)) = ((i + r : Nat) : Int) := by rw [HX.out]; unfold wrap64; omega
  rw [hw]
  exact ⟨by rw [HX.out]; rfl, rdr_at HR2.out _, (Below.heap_setCell w2 ⟨g, 1, none⟩ _ b HN.out).trans HB2.out, HK2.out.setCell (a := ⟨g, 1, none⟩) (.inl (Or.inl rfl)) _⟩

set_option maxHeartbeats 4000000 in
set_option maxRecDepth 100000 in
/-- At the end of what is there: the error io.EOF. -/
theorem read_end (g : Nat) (A : Addr) (n cap : Nat) (pr : Int) (v : Value) (u : Value) (w : World) (hr : Rdr w g A n cap n pr) (he : w.cell? ⟨7, 0, none⟩ = some u) :
    Calls Tryz.prog 142 #[.pointer (some ⟨g, 0, none⟩), v] w fun e w' => e = .returned (.tuple #[.int .i64 0, u]) ∧ Drawn0 w w' := by
  have c0 := hr.c0
  have c1 := hr.c1
  have hlt : decide (n ≤ n) = true := by simp
  clear hr
  go_enter Tryz.func142, Tryz.ntmps142
  go_wp2_with fail
  go_quiet (fail)
  go_wp2_with fail
  go_quiet (fail)
  go_wp2_with fail
  go_ret2
  exact ⟨rfl, by repeat (first | exact Drawn0.refl _ | apply Drawn0.step)⟩



/-- The bufio.Reader at block p: its buffer is block bb, its reader the bytes.Reader at block g. -/
def Bio (w : World) (p bb g : Nat) (r wv : Int) (ev : Value) (lb lr : Int) : Prop := w.heap[p]? = some (.cells #[.slice (some ⟨bb, 0, none⟩) 4096 4096, .iface 52 (.pointer (some ⟨g, 0, none⟩)), .int .i64 r, .int .i64 wv, ev, .int .i64 lb, .int .i64 lr] 133 (0, 0))
section
variable {w : World} {p bb g : Nat} {r wv : Int} {ev : Value} {lb lr : Int}
theorem Bio.c0 (h : Bio w p bb g r wv ev lb lr) : w.cell? ⟨p, 0, none⟩ = some (.slice (some ⟨bb, 0, none⟩) 4096 4096) := cell_of h 0 rfl
theorem Bio.c1 (h : Bio w p bb g r wv ev lb lr) : w.cell? ⟨p, 1, none⟩ = some (.iface 52 (.pointer (some ⟨g, 0, none⟩))) := cell_of h 1 rfl
theorem Bio.c2 (h : Bio w p bb g r wv ev lb lr) : w.cell? ⟨p, 2, none⟩ = some (.int .i64 r) := cell_of h 2 rfl
theorem Bio.c3 (h : Bio w p bb g r wv ev lb lr) : w.cell? ⟨p, 3, none⟩ = some (.int .i64 wv) := cell_of h 3 rfl
theorem Bio.c4 (h : Bio w p bb g r wv ev lb lr) : w.cell? ⟨p, 4, none⟩ = some (ev) := cell_of h 4 rfl
theorem Bio.c5 (h : Bio w p bb g r wv ev lb lr) : w.cell? ⟨p, 5, none⟩ = some (.int .i64 lb) := cell_of h 5 rfl
theorem Bio.c6 (h : Bio w p bb g r wv ev lb lr) : w.cell? ⟨p, 6, none⟩ = some (.int .i64 lr) := cell_of h 6 rfl
theorem Bio.f (h : Bio w p bb g r wv ev lb lr) (j : Nat) : w.frozen? ⟨p, j, none⟩ = false := frozen_of h j
theorem Bio.set2 (h : Bio w p bb g r wv ev lb lr) (x : Int) : Bio (w.setCell ⟨p, 2, none⟩ (.int .i64 x)) p bb g x wv ev lb lr := set_block h 2 _
theorem Bio.set3 (h : Bio w p bb g r wv ev lb lr) (x : Int) : Bio (w.setCell ⟨p, 3, none⟩ (.int .i64 x)) p bb g r x ev lb lr := set_block h 3 _
theorem Bio.set4 (h : Bio w p bb g r wv ev lb lr) (x : Value) : Bio (w.setCell ⟨p, 4, none⟩ x) p bb g r wv x lb lr := set_block h 4 _
theorem Bio.set5 (h : Bio w p bb g r wv ev lb lr) (x : Int) : Bio (w.setCell ⟨p, 5, none⟩ (.int .i64 x)) p bb g r wv ev x lr := set_block h 5 _
theorem Bio.set6 (h : Bio w p bb g r wv ev lb lr) (x : Int) : Bio (w.setCell ⟨p, 6, none⟩ (.int .i64 x)) p bb g r wv ev lb x := set_block h 6 _
theorem Bio.lt (h : Bio w p bb g r wv ev lb lr) : p < w.heap.size := lt_of_block h
theorem Bio.keep (h : Bio w p bb g r wv ev lb lr) {w' : World} {F : Nat → Prop} (k : Keep w w' F) (hF : ¬ F p) : Bio w' p bb g r wv ev lb lr := (k.block p h.lt hF).trans h
end
theorem Rdr.keep {w : World} {g : Nat} {A : Addr} {n cap i : Nat} {pr : Int} (h : Rdr w g A n cap i pr) {w' : World} {F : Nat → Prop} (k : Keep w w' F) (hF : ¬ F g) : Rdr w' g A n cap i pr := (k.block g (lt_of_block h) hF).trans h
/-- The places of a reader, and the bytes that it reads. -/
structure RC where
  g : Nat
  p : Nat
  bb : Nat
  A : Addr
  n : Nat
  cap : Nat
  D : List Int
structure RC.Ok (c : RC) : Prop where
  len : c.D.length = c.n
  le : c.n ≤ c.cap
  small : c.n ≤ 1000000000
  pg : c.p ≠ c.g
  pb : c.p ≠ c.bb
  bg : c.bb ≠ c.g
  Ap : c.A.block ≠ c.p
  Ag : c.A.block ≠ c.g
  Ab : c.A.block ≠ c.bb
  byte : ∀ x ∈ c.D, 0 ≤ x ∧ x < 256
/-- The buffer stands at place i of the bytes; what it holds ahead lies from r to wv in its row. -/
structure BufS (w : World) (c : RC) (i e r wv : Nat) (ev : Value) (cs : List Value) : Prop where
  rd : ∃ pr, Rdr w c.g c.A c.n c.cap e pr
  bio : ∃ lb lr, Bio w c.p c.bb c.g r wv ev lb lr
  row : w.heap[c.bb]? = some (.cells cs.toArray 5 (0, 0))
  len : cs.length = 4096
  rw_ : r ≤ wv
  fit : wv ≤ 4096
  at_ : i + (wv - r) = e
  le : e ≤ c.n
  has : ∀ (j : Nat) (v : Value), j < wv - r → (nums .u8 c.D)[i + j]? = some v → cs[r + j]? = some v
  src : ∀ (j : Nat) (v : Value), (nums .u8 c.D)[j]? = some v → w.cell? (c.A.add j) = some v
def Buf (w : World) (c : RC) (i : Nat) : Prop := ∃ e r wv cs, BufS w c i e r wv .nilIface cs
theorem BufS.keep {w w' : World} {c : RC} {i e r wv : Nat} {ev : Value} {cs : List Value} (h : BufS w c i e r wv ev cs) {F : Nat → Prop} (k : Keep w w' F) (h1 : ¬ F c.g) (h2 : ¬ F c.p) (h3 : ¬ F c.bb) (h4 : ¬ F c.A.block) : BufS w' c i e r wv ev cs :=
  ⟨h.rd.imp fun _ x => x.keep k h1, h.bio.imp fun _ x => x.imp fun _ x => x.keep k h2, (k.block c.bb (lt_of_block h.row) h3).trans h.row, h.len, h.rw_, h.fit, h.at_, h.le, h.has, fun j v hv => k.cell (h.src j v hv) (by rw [add_block]; exact h4)⟩
theorem Buf.keep {w w' : World} {c : RC} {i : Nat} (h : Buf w c i) {F : Nat → Prop} (k : Keep w w' F) (h1 : ¬ F c.g) (h2 : ¬ F c.p) (h3 : ¬ F c.bb) (h4 : ¬ F c.A.block) : Buf w' c i := by
  obtain ⟨e, r, wv, cs, h⟩ := h
  exact ⟨e, r, wv, cs, h.keep k h1 h2 h3 h4⟩
theorem splice_length (cur : List Value) (o : Nat) (xs : List Value) (h : o + xs.length ≤ cur.length) : (splice cur o xs).length = cur.length := by
  unfold splice
  simp only [List.length_append, List.length_take, List.length_drop]
  omega
theorem splice_at (cur xs : List Value) (o j : Nat) (h : j < xs.length) (ho : o ≤ cur.length) : (splice cur o xs)[o + j]? = xs[j]? := by
  unfold splice
  rw [List.getElem?_append_right (by rw [List.length_take]; omega), List.length_take, Nat.min_eq_left ho, Nat.add_sub_cancel_left, List.getElem?_append_left h]
theorem splice_before (cur xs : List Value) (o j : Nat) (h : j < o) (ho : o ≤ cur.length) : (splice cur o xs)[j]? = cur[j]? := by
  unfold splice
  rw [List.getElem?_append_left (by rw [List.length_take]; omega), List.getElem?_take_of_lt h]
theorem nums_sub (D : List Int) (i k j : Nat) (v : Value) (h : (nums .u8 ((D.drop i).take k))[j]? = some v) : j < k ∧ (nums .u8 D)[i + j]? = some v := by
  unfold nums at h ⊢
  rw [List.getElem?_map, List.getElem?_take] at h
  split at h
  · rename_i hj
    rw [List.getElem?_drop, ← List.getElem?_map] at h
    exact ⟨hj, h⟩
  · simp at h
theorem nums_one (l : List Int) : ∀ v ∈ nums .u8 l, v.oneCell' = true := by
  intro v hv
  obtain ⟨b, _, rfl⟩ := List.mem_map.1 hv
  rfl
theorem nums_sub_len (D : List Int) (i k : Nat) (h : i + k ≤ D.length) : (nums .u8 ((D.drop i).take k)).length = k := by
  rw [nums_length, List.length_take, List.length_drop]; omega
theorem cut_rw (bb a k : Nat) (h1 : a ≤ k) (h2 : k ≤ 4096) (h3 : a ≤ 4095) : ∀ W : World, (Instr.slice 24 (.slice (some ⟨bb, 0, none⟩) 4096 4096) (some (.int .i64 (a : Int))) (some (.int .i64 (k : Int))) none).run Tryz.prog W = .ok (.slice (some ⟨bb, a, none⟩) (k - a) (4096 - a)) W := by
  obtain ⟨i0, hi, _, hsz, _⟩ := info_parts PFnIdxSum.info5
  intro W
  have := cut_mid (P := Tryz.prog) 24 5 .i64 .i64 Tryz.underlying24 hi 1 hsz (some ⟨bb, 0, none⟩) 4096 4096 (a : Int) (k : Int) (by omega) (by omega) (by omega) (by omega) W
  rw [this, Int.toNat_natCast, Int.toNat_natCast, if_neg (by omega), Nat.mul_one]
  have e : (⟨bb, 0, none⟩ : Addr).add a = ⟨bb, a, none⟩ := by unfold Addr.add; split <;> simp_all
  rw [Option.map_some, e]
/-- What holds where the buffer is not empty. -/
def Mid (w w6 : World) (c : RC) (i b : Nat) (cur : List Value) (t : TypeId) : Prop := ∃ e r wv cs, r < wv ∧ BufS w6 c i e r wv .nilIface cs ∧ w6.heap[b]? = some (.cells cur.toArray t (0, 0)) ∧ Keep w w6 (fun j => j = c.p ∨ j = c.bb ∨ j = c.g)
theorem keep_of_drawn {w w1 : World} {k : Nat} {F : Nat → Prop} (h : Keep (w.drewN k) w1 F) : Keep w w1 F := ⟨h.os, h.tape, h.output, h.size, h.block⟩

set_option maxHeartbeats 8000000 in
set_option maxRecDepth 100000 in
/-- bufio.Reader.Read: some of the bytes that come next, one at least. -/
theorem bufRead {w : World} {c : RC} {i b o m cp : Nat} {cur : List Value} {t : TypeId} (hc : c.Ok) (H : Buf w c i) (hi : i < c.n) (hm : 0 < m) (hm4 : m < 4096)
    (hblk : w.heap[b]? = some (.cells cur.toArray t (0, 0))) (hbp : b ≠ c.p) (hbb : b ≠ c.bb) (hbg : b ≠ c.g) (hbA : b ≠ c.A.block) (hfit : o + m ≤ cur.length) :
    Calls Tryz.prog 80 #[.pointer (some ⟨c.p, 0, none⟩), .slice (some ⟨b, o, none⟩) m cp] w fun e w' => ∃ k, 0 < k ∧ k ≤ m ∧ i + k ≤ c.n ∧ e = .returned (.tuple #[.int .i64 k, .nilIface]) ∧ Buf w' c (i + k) ∧ w'.heap[b]? = some (.cells (splice cur o (nums .u8 ((c.D.drop i).take k))).toArray t (0, 0)) ∧ Keep w w' (fun j => j = c.p ∨ j = c.bb ∨ j = c.g ∨ j = b) := by
  have hna : ∀ (x : Addr) (W : World), (nilAhead 394 52 (.pointer (some x)) "Read").run Tryz.prog W = .ok (some false) W := fun _ _ => by kernel_rfl
  have hme : ∀ (x : Addr) (W : World), (method 394 52 (.pointer (some x)) "Read").run Tryz.prog W = .ok (142, .pointer (some x)) W := fun _ _ => by kernel_rfl
  obtain ⟨e0, r0, wv0, cs0, hS⟩ := H
  obtain ⟨lb, lr, hbio⟩ := hS.bio
  have HC := Aside0.mk hc
  have HS := Aside0.mk hS
  have HB := Aside0.mk hbio
  have HN := Aside0.mk (⟨hbp, hbb, hbg, hbA⟩ : b ≠ c.p ∧ b ≠ c.bb ∧ b ≠ c.g ∧ b ≠ c.A.block)
  have HBlk := Aside0.mk hblk
  have HF := Aside0.mk hfit
  have c2 := hbio.c2
  have c3 := hbio.c3
  have c4 := hbio.c4
  have c0 := hbio.c0
  have z0 : ((m : Int) == 0) = false := by rw [beq_eq_false_iff_ne]; omega
  have z0' : (m == 0) = false := by rw [beq_eq_false_iff_ne]; omega
  have g0 : decide (4096 ≤ m) = false := decide_eq_false (by omega)
  have g0' : decide ((4096 : Int) ≤ (m : Int)) = false := decide_eq_false (by omega)
  clear hc hblk hbp hbb hbg hbA hfit hS hbio
  go_enter Tryz.func80, Tryz.ntmps80
  go_wp2_with fail
  go_quiet (fail)
  go_upto_if 23 with (fail)
  go_cut [4] (fun v4 w6 => Mid w w6 c i b cur t)
  case first =>
    rcases Nat.lt_or_eq_of_le HS.out.rw_ with hlt | heq
    · have z1 : ((r0 : Int) == (wv0 : Int)) = false := by rw [beq_eq_false_iff_ne]; omega
      clear c0 c2 c3 c4 hlt
      go_wp2_with fail
      go_meet
      have hlt : r0 < wv0 := Nat.lt_of_le_of_ne HS.out.rw_ (fun e => by subst e; simp at z1)
      exact ⟨e0, r0, wv0, cs0, hlt, HS.out.keep ((Keep.refl w (fun _ => False)).drewN nq) id id id id, HBlk.out, (Keep.refl w _).drewN nq⟩
    · have z1 : ((r0 : Int) == (wv0 : Int)) = true := by rw [beq_iff_eq]; omega
      have f2 := HB.out.f 2
      have f3 := HB.out.f 3
      have he0 : e0 = i := by have := HS.out.at_; omega
      clear heq
      go_wp2_with fail
      obtain ⟨W1, hW1⟩ : ∃ W1, W1 = ((w.drewN nq).setCell ⟨c.p, 2, none⟩ (.int .i64 0)).setCell ⟨c.p, 3, none⟩ (.int .i64 0) := ⟨_, rfl⟩
      rw [← hW1]
      have HB1 : Aside0 (Bio W1 c.p c.bb c.g 0 0 .nilIface lb lr) := ⟨by rw [hW1]; exact (Bio.set2 (w := w.drewN nq) HB.out 0).set3 0⟩
      have HK1 : Aside0 (Keep w W1 (fun j => j = c.p)) := ⟨by rw [hW1]; exact Keep.setCell (F := fun j => j = c.p) (a := ⟨c.p, 3, none⟩) (Keep.setCell (F := fun j => j = c.p) (a := ⟨c.p, 2, none⟩) ((Keep.refl w _).drewN nq) (.inl rfl) _) (.inl rfl) _⟩
      obtain ⟨k, hk⟩ : ∃ k, k = min (c.n - i) 4096 := ⟨_, rfl⟩
      have hk0 : 0 < k := by omega
      have hk1 : k ≤ 4096 := by omega
      have hk2 : i + k ≤ c.n := by omega
      obtain ⟨pr, hrd⟩ := HS.out.rd
      rw [he0] at hrd
      have HC1 : Aside0 (∀ q, Calls Tryz.prog 142 #[.pointer (some ⟨c.g, 0, none⟩), .slice (some ⟨c.bb, 0, none⟩) 4096 4096] (W1.drewN q) fun e w' => e = .returned (.tuple #[.int .i64 k, .nilIface]) ∧ Bio w' c.p c.bb c.g 0 0 .nilIface lb lr ∧ Rdr w' c.g c.A c.n c.cap (i + k) (-1) ∧ w'.heap[c.bb]? = some (.cells (splice cs0 0 (nums .u8 ((c.D.drop i).take k))).toArray 5 (0, 0)) ∧ Keep w w' (fun j => j = c.p ∨ j = c.bb ∨ j = c.g)) := ⟨fun q => by
        have hs : ∀ (j : Nat) (v : Value), (nums .u8 ((c.D.drop i).take k))[j]? = some v → (W1.drewN q).cell? (c.A.add (i + j)) = some v := fun j v hv => HK1.out.cell (HS.out.src (i + j) v (nums_sub _ _ _ _ _ hv).2) (by rw [add_block]; exact HC.out.Ap)
        have := read_calls c.g c.A c.n c.cap i pr c.bb 0 4096 4096 cs0 5 (nums .u8 ((c.D.drop i).take k)) (W1.drewN q) (Rdr.keep (w' := W1.drewN q) hrd (HK1.out.drewN q) HC.out.pg.symm) ((HK1.out.block c.bb (lt_of_block HS.out.row) HC.out.pb.symm).trans HS.out.row) HC.out.bg HC.out.Ab HC.out.Ag hs k (nums_sub_len _ _ _ (by rw [HC.out.len]; omega)) hk (nums_one _) (by omega) (by omega) HC.out.le (by have := HC.out.small; omega) (by rw [HS.out.len]; omega)
        refine this.mono fun e w' ⟨h1, h2, h3, h4⟩ => ⟨h1, HB1.out.keep (w' := w') ⟨h4.os, h4.tape, h4.output, h4.size, h4.block⟩ (fun h => h.elim HC.out.pg HC.out.pb), h2, h3, ?_⟩
        exact (HK1.out.mono (fun _ h => Or.inl h)).trans (G := fun j => j = c.g ∨ j = c.bb) ⟨h4.os, h4.tape, h4.output, h4.size, h4.block⟩ (fun j _ h => h.elim (fun e => Or.inr (Or.inr e)) (fun e => Or.inr (Or.inl e)))⟩
      have HKm := Aside0.mk hk
      have HRd := Aside0.mk hrd
      have zk : ((k : Int) == 0) = false := by rw [beq_eq_false_iff_ne]; omega
      have zk2 : (k == 0) = false := by rw [beq_eq_false_iff_ne]; omega
      have HE0 := Aside0.mk he0
      clear hW1 c0 c2 c3 c4 f2 f3 hk hrd z1 he0
      have c0 := HB1.out.c0
      have c1 := HB1.out.c1
      go_region_held3 (fun w' => w'.cell? ⟨c.p, 0, none⟩ = some (.slice (some ⟨c.bb, 0, none⟩) 4096 4096) ∧ w'.cell? ⟨c.p, 1, none⟩ = some (.iface 52 (.pointer (some ⟨c.g, 0, none⟩)))) (first | (exact ⟨c0, c1⟩) | (exact k2) | (exact HC4.out) | go_keep) ((go_at_call 142; refine (HC1.out _).mono ?_; rintro e w3 ⟨rfl, hb3, hr3, hrow3, hk3⟩; have HB3 := Aside0.mk hb3; have HR3 := Aside0.mk hr3; have HRow3 := Aside0.mk hrow3; have HK3 := Aside0.mk hk3; have f4 := hb3.f 4; have c4 := hb3.c4; have k2 : w3.cell? ⟨c.p, 0, none⟩ = some (.slice (some ⟨c.bb, 0, none⟩) 4096 4096) ∧ w3.cell? ⟨c.p, 1, none⟩ = some (.iface 52 (.pointer (some ⟨c.g, 0, none⟩))) := ⟨hb3.c0, hb3.c1⟩; have HC4 : Aside0 ((w3.setCell ⟨c.p, 4, none⟩ .nilIface).cell? ⟨c.p, 0, none⟩ = some (.slice (some ⟨c.bb, 0, none⟩) 4096 4096) ∧ (w3.setCell ⟨c.p, 4, none⟩ .nilIface).cell? ⟨c.p, 1, none⟩ = some (.iface 52 (.pointer (some ⟨c.g, 0, none⟩)))) := ⟨(hb3.set4 _).c0, (hb3.set4 _).c1⟩; clear hb3 hr3 hrow3 hk3))
      obtain ⟨W5, hW5⟩ : ∃ W5, W5 = w3.setCell ⟨c.p, 4, none⟩ .nilIface := ⟨_, rfl⟩
      rw [← hW5]
      have HB5 : Aside0 (Bio W5 c.p c.bb c.g 0 0 .nilIface lb lr) := ⟨by rw [hW5]; exact HB3.out.set4 _⟩
      have HR5 : Aside0 (Rdr W5 c.g c.A c.n c.cap (i + k) (-1)) := ⟨by rw [hW5]; exact set_other 4 _ HC.out.pg.symm HR3.out⟩
      have HRow5 : Aside0 (W5.heap[c.bb]? = some (.cells (splice cs0 0 (nums .u8 ((c.D.drop i).take k))).toArray 5 (0, 0))) := ⟨by rw [hW5]; exact set_other 4 _ HC.out.pb.symm HRow3.out⟩
      have HK5 : Aside0 (Keep w W5 (fun j => j = c.p ∨ j = c.bb ∨ j = c.g)) := ⟨by rw [hW5]; exact Keep.setCell (a := ⟨c.p, 4, none⟩) HK3.out (.inl (Or.inl rfl)) _⟩
      clear hW5 c0 c1 k2 f4 c4 HC4 HC1 HB3 HR3 HRow3 HK3 HB1 HK1 hna hme
      have c3 := HB5.out.c3
      have f3 := HB5.out.f 3
      go_wp2_with fail
      go_meet
      refine ⟨i + k, 0, k, splice cs0 0 (nums .u8 ((c.D.drop i).take k)), hk0, ⟨⟨-1, set_other 3 _ HC.out.pg.symm HR5.out⟩, ⟨lb, lr, HB5.out.set3 _⟩, set_other 3 _ HC.out.pb.symm HRow5.out, ?_, Nat.zero_le _, hk1, by omega, hk2, ?_, ?_⟩, ?_, Keep.setCell (a := ⟨c.p, 3, none⟩) HK5.out (.inl (Or.inl rfl)) _⟩
      · rw [splice_length _ _ _ (by rw [nums_sub_len _ _ _ (by rw [HC.out.len]; omega), HS.out.len]; omega)]; exact HS.out.len
      · intro j v hj hv
        rw [splice_at _ _ _ _ (by rw [nums_sub_len _ _ _ (by rw [HC.out.len]; omega)]; omega) (Nat.zero_le _)]
        unfold nums at hv ⊢
        rw [List.getElem?_map, List.getElem?_take_of_lt (by omega), List.getElem?_drop, ← List.getElem?_map]
        exact hv
      · intro j v hv
        exact (Keep.setCell (a := ⟨c.p, 3, none⟩) HK5.out (.inl (Or.inl rfl)) _).cell (HS.out.src j v hv) (by rw [add_block]; exact fun h => h.elim HC.out.Ap (fun h => h.elim HC.out.Ab HC.out.Ag))
      · exact ((Keep.setCell (a := ⟨c.p, 3, none⟩) HK5.out (.inl (Or.inl rfl)) _).block b (lt_of_block HBlk.out) (fun h => h.elim HN.out.1 (fun h => h.elim HN.out.2.1 HN.out.2.2.1))).trans HBlk.out
  clear c0 c2 c3 c4 HBlk HB HS
  obtain ⟨w6, rfl⟩ : ∃ w6 : World, w6 = wc := ⟨_, rfl⟩
  obtain ⟨e, r, wv, cs, hrw, hS, hblk, hK⟩ := hcut
  obtain ⟨lb6, lr6, hbio⟩ := hS.bio
  have HS := Aside0.mk hS
  have HB := Aside0.mk hbio
  have HBlk := Aside0.mk hblk
  have HK := Aside0.mk hK
  have c0 := hbio.c0
  have c2 := hbio.c2
  have c3 := hbio.c3
  have hw4 := hS.fit
  obtain ⟨k, hk⟩ : ∃ k, k = min (wv - r) m := ⟨_, rfl⟩
  have hk0 : 0 < k := by omega
  have hk1 : k ≤ m := by omega
  have hk2 : r + k ≤ wv := by omega
  have hk3 : i + k ≤ c.n := by have := hS.at_; have := hS.le; omega
  obtain ⟨xs, hxs⟩ : ∃ xs, xs = nums .u8 ((c.D.drop i).take k) := ⟨_, rfl⟩
  have hiv : xs.length = k := by rw [hxs]; exact nums_sub_len _ _ _ (by rw [HC.out.len]; omega)
  have HX := Aside0.mk hxs
  have HXl := Aside0.mk hiv
  have HSr : Aside0 (∀ (j : Nat) (v : Value), xs[j]? = some v → w6.cell? ⟨c.bb, r + j, none⟩ = some v) := ⟨fun j v hv => by
    rw [HX.out] at hv
    have h := nums_sub _ _ _ _ _ hv
    exact cell_of HS.out.row (r + j) (by rw [List.getElem?_toArray]; exact HS.out.has j v (by omega) h.2)⟩
  have hcut := cut_rw c.bb r wv (by omega) (by omega) (by omega)
  have i1 : (r : Int) ≤ (wv : Int) := by omega
  have i2 : (wv : Int) ≤ 4096 := by omega
  have HKm := Aside0.mk hk
  clear hS hbio hblk hK hk hxs
  go_wp2_with fail
  go_region_held3 (fun w' => w'.cell? ⟨c.p, 0, none⟩ = some (.slice (some ⟨c.bb, 0, none⟩) 4096 4096) ∧ w'.cell? ⟨c.p, 2, none⟩ = some (.int .i64 (r : Int)) ∧ w'.cell? ⟨c.p, 3, none⟩ = some (.int .i64 (wv : Int))) (first | go_keep | (exact ⟨c0, c2, c3⟩) | (exact k2)) ((refine step_copy_at rfl (.tmp 109) (.tmp 122) 24 24 rfl 5 Tryz.underlying24 size5 b o m cp ⟨c.bb, r, none⟩ (wv - r) (4096 - r) ?hd ?hs cur t ?hg xs ?hn ?hsrc ?hfit ?h1 ?_; (case hd => rfl); (case hs => rfl); (case hg => exact HBlk.out); (case hn => rw [HXl.out, HKm.out]); (case hsrc => intro j v hj; rw [add_off]; exact HSr.out j v hj); (case hfit => have := HF.out; have := HXl.out; omega); (case h1 => rw [HX.out]; exact nums_one _); intro w2 hw2; have HK2 : Aside0 (Keep w6 w2 (fun j => j = b)) := ⟨by rw [hw2.out]; exact Keep.setRow (F := fun j => j = b) ((Keep.refl w6 _).drewN 1) (.inl rfl) _⟩; have HD2 : Aside0 (w2.heap[b]? = some (.cells (splice cur o xs).toArray t (0, 0))) := ⟨by rw [hw2.out]; exact setRow_heap _ b _ _ t _ HBlk.out⟩; have HS2 : Aside0 (BufS w2 c i e r wv .nilIface cs) := ⟨HS.out.keep HK2.out (fun e => HN.out.2.2.1 e.symm) (fun e => HN.out.1 e.symm) (fun e => HN.out.2.1 e.symm) (fun e => HN.out.2.2.2 e.symm)⟩; have HB2 : Aside0 (Bio w2 c.p c.bb c.g r wv .nilIface lb6 lr6) := ⟨HB.out.keep HK2.out (fun e => HN.out.1 e.symm)⟩; clear hw2; have k2 : w2.cell? ⟨c.p, 0, none⟩ = some (.slice (some ⟨c.bb, 0, none⟩) 4096 4096) ∧ w2.cell? ⟨c.p, 2, none⟩ = some (.int .i64 (r : Int)) ∧ w2.cell? ⟨c.p, 3, none⟩ = some (.int .i64 (wv : Int)) := ⟨HB2.out.c0, HB2.out.c2, HB2.out.c3⟩))
  have c2' := HB2.out.c2
  have f2' := HB2.out.f 2
  obtain ⟨q, hq⟩ : ∃ q, q + 1 = r + k := ⟨r + k - 1, by omega⟩
  have HQ := Aside0.mk hq
  clear k2 c0 c2 c3 hcut hq
  go_wp2_with fail
  obtain ⟨z, hz⟩ : ∃ z : Int, (r : Int) + (k : Int) = z := ⟨_, rfl⟩
  have hzq : z = ((q + 1 : Nat) : Int) := by have := HQ.out; omega
  obtain ⟨W3, hW3⟩ : ∃ W3, W3 = w2.setCell ⟨c.p, 2, none⟩ (.int .i64 z) := ⟨_, rfl⟩
  rw [hz, ← hW3]
  have HZ := Aside0.mk hzq
  have HB3 : Aside0 (Bio W3 c.p c.bb c.g z wv .nilIface lb6 lr6) := ⟨by rw [hW3]; exact HB2.out.set2 _⟩
  have HK3 : Aside0 (Keep w2 W3 (fun j => j = c.p)) := ⟨by rw [hW3]; exact Keep.setCell (F := fun j => j = c.p) (a := ⟨c.p, 2, none⟩) (Keep.refl w2 _) (.inl rfl) _⟩
  obtain ⟨y, hy⟩ : ∃ y : Int, c.D[i + k - 1]? = some y := ⟨_, List.getElem?_eq_getElem (by have := HC.out.len; omega)⟩
  have hyc : W3.cell? ⟨c.bb, q, none⟩ = some (.int .u8 y) := by
    refine HK3.out.cell (a := ⟨c.bb, q, none⟩) (cell_of HS2.out.row q ?_) (fun h => HC.out.pb h.symm)
    have hq := HQ.out
    rw [List.getElem?_toArray, show q = r + (k - 1) by omega]
    refine HS2.out.has (k - 1) _ (by omega) ?_
    unfold nums
    rw [List.getElem?_map, show i + (k - 1) = i + k - 1 by omega, hy]
    rfl
  clear hW3 c2' f2' HB2 hy hzq hz
  have c0 := HB3.out.c0
  have c2 := HB3.out.c2
  have f5 := HB3.out.f 5
  have c5 := HB3.out.c5
  have HC7 : Aside0 (∀ x : Int, (W3.setCell ⟨c.p, 5, none⟩ (.int .i64 x)).drew.cell? ⟨c.p, 0, none⟩ = some (.slice (some ⟨c.bb, 0, none⟩) 4096 4096) ∧ (W3.setCell ⟨c.p, 5, none⟩ (.int .i64 x)).drew.cell? ⟨c.p, 2, none⟩ = some (.int .i64 z) ∧ (W3.setCell ⟨c.p, 5, none⟩ (.int .i64 x)).drew.cell? ⟨c.bb, q, none⟩ = some (.int .u8 y)) := ⟨fun x => ⟨(HB3.out.set5 x).c0, (HB3.out.set5 x).c2, by
    show (W3.setCell ⟨c.p, 5, none⟩ (.int .i64 x)).cell? ⟨c.bb, q, none⟩ = _
    rw [World.cell?_setCell_other _ _ _ _ (fun e => HC.out.pb (congrArg Addr.block e))]; exact hyc⟩⟩
  have e7 : IntKind.i64.wrap (z - 1) = (q : Int) := by rw [HZ.out, IntWalk.i64_in _ (by have := HQ.out; omega)]; omega
  have q1 : (0 : Int) ≤ (q : Int) := by omega
  have q2 : (q : Int) < 4096 := by have := HQ.out; omega
  go_region_held3 (fun w' => w'.cell? ⟨c.p, 0, none⟩ = some (.slice (some ⟨c.bb, 0, none⟩) 4096 4096) ∧ w'.cell? ⟨c.p, 2, none⟩ = some (.int .i64 z) ∧ w'.cell? ⟨c.bb, q, none⟩ = some (.int .u8 y)) (first | (exact ⟨c0, c2, hyc⟩) | (exact HC7.out _)) ((fail))
  obtain ⟨W4, hW4⟩ : ∃ W4, W4 = (W3.setCell ⟨c.p, 5, none⟩ (.int .i64 (IntKind.i64.wrap y))).drew := ⟨_, rfl⟩
  rw [← hW4]
  have HB4 : Aside0 (Bio W4 c.p c.bb c.g z wv .nilIface (IntKind.i64.wrap y) lr6) := ⟨by rw [hW4]; exact HB3.out.set5 _⟩
  have HK4 : Aside0 (Keep w2 W4 (fun j => j = c.p)) := ⟨by rw [hW4]; exact (Keep.setCell (a := ⟨c.p, 5, none⟩) HK3.out (.inl rfl) _).drewN 1⟩
  clear hW4 c0 c2 f5 c5 hyc HB3 HK3 HC7
  have c6 := HB4.out.c6
  have f6 := HB4.out.f 6
  go_wp2_with fail
  go_ret2
  have HKf : Keep w2 (W4.setCell ⟨c.p, 6, none⟩ (.int .i64 (-1))) (fun j => j = c.p) := Keep.setCell (a := ⟨c.p, 6, none⟩) HK4.out (.inl rfl) _
  have hq := HQ.out
  obtain ⟨prr, hrr⟩ := HS2.out.rd
  refine ⟨k, hk0, hk1, hk3, rfl, ⟨e, r + k, wv, cs, ⟨⟨prr, hrr.keep HKf (fun e => HC.out.pg e.symm)⟩, ⟨IntKind.i64.wrap y, -1, ?_⟩, (HKf.block c.bb (lt_of_block HS2.out.row) (fun e => HC.out.pb e.symm)).trans HS2.out.row, HS2.out.len, hk2, hw4, ?_, HS2.out.le, ?_, ?_⟩⟩, ?_, ?_⟩
  · have := HB4.out.set6 (-1)
    rw [HZ.out, hq] at this
    exact this
  · have := HS2.out.at_; omega
  · intro j v hj hv
    rw [Nat.add_assoc]
    refine HS2.out.has (k + j) v (by omega) ?_
    rw [← Nat.add_assoc]
    exact hv
  · intro j v hv
    exact HKf.cell (HS2.out.src j v hv) (by rw [add_block]; exact HC.out.Ap)
  · rw [← HX.out]
    exact (HKf.block b (lt_of_block HD2.out) HN.out.1).trans HD2.out
  · exact ((HK.out.mono (fun _ h => h.elim Or.inl (fun h => h.elim (fun e => Or.inr (Or.inl e)) (fun e => Or.inr (Or.inr (Or.inl e)))))).trans HK2.out (fun _ _ h => Or.inr (Or.inr (Or.inr h)))).trans HKf (fun _ _ h => Or.inl h)
end Go.Proofs.YtllikhbafaohgaaGreatDoor.Idx
