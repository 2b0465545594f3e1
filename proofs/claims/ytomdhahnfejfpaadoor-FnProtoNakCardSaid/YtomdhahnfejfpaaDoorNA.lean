/- What a bytes.Reader gives: Read fills the slice that is asked for, where there is enough; at the end it tells of it. -/
import Derived.Test.YtomdhahnfejfpaaDoorPFnProtoNakx0
import Derived.Laws.CopyOwn
import Derived.Deep.Slices
namespace Go.Proofs.YtomdhahnfejfpaaDoor.Proto
open Go.RowKit Go.Proofs.YtomdhahnfejfpaaDoorW.PrintWords Go.Proofs.YtomdhahnfejfpaaDoorW.PrintLast Go.Proofs.YtomdhahnfejfpaaDoorW.PrintMore

/-- Nothing but the blocks of F has turned. -/
structure Keep (w w' : World) (F : Nat → Prop) : Prop where
  os : w'.os = w.os
  tape : w'.tape = w.tape
  output : w'.output = w.output
  size : w.heap.size ≤ w'.heap.size
  block : ∀ k, k < w.heap.size → ¬ F k → w'.heap[k]? = w.heap[k]?
theorem Keep.of_below {w w' : World} (h : Below w.heap.size w w') (F : Nat → Prop) : Keep w w' F := ⟨h.os, h.tape, h.output, h.size, fun k hk _ => h.block k hk⟩
theorem Keep.refl (w : World) (F : Nat → Prop) : Keep w w F := ⟨rfl, rfl, rfl, Nat.le_refl _, fun _ _ _ => rfl⟩
theorem Keep.mono {w w' : World} {F G : Nat → Prop} (h : Keep w w' F) (hFG : ∀ k, F k → G k) : Keep w w' G := ⟨h.os, h.tape, h.output, h.size, fun k hk hn => h.block k hk (fun hf => hn (hFG k hf))⟩
theorem Keep.trans {w w1 w2 : World} {F G : Nat → Prop} (h : Keep w w1 F) (h' : Keep w1 w2 G) (hG : ∀ k, k < w.heap.size → G k → F k) : Keep w w2 F :=
  ⟨h'.os.trans h.os, h'.tape.trans h.tape, h'.output.trans h.output, Nat.le_trans h.size h'.size, fun k hk hn => (h'.block k (Nat.lt_of_lt_of_le hk h.size) (fun hg => hn (hG k hk hg))).trans (h.block k hk hn)⟩
theorem Keep.setCell {w w1 : World} {F : Nat → Prop} (h : Keep w w1 F) {a : Addr} (ha : F a.block ∨ w.heap.size ≤ a.block) (u : Value) : Keep w (w1.setCell a u) F :=
  ⟨h.os, h.tape, h.output, by simpa [World.setCell] using h.size, fun k hk hn => (Below.heap_setCell w1 a u k (by rintro rfl; rcases ha with h | h; exact hn h; omega)).trans (h.block k hk hn)⟩
theorem Keep.setRow {w w1 : World} {F : Nat → Prop} (h : Keep w w1 F) {g : Nat} (ha : F g ∨ w.heap.size ≤ g) (cs : Array Value) : Keep w (w1.setRow g cs) F :=
  ⟨h.os, h.tape, h.output, by simpa [World.setRow] using h.size, fun k hk hn => (setRow_other w1 g k cs (by rintro rfl; rcases ha with h | h; exact hn h; omega)).trans (h.block k hk hn)⟩
theorem Keep.drewN {w w1 : World} {F : Nat → Prop} (h : Keep w w1 F) (n : Nat) : Keep w (w1.drewN n) F := ⟨h.os, h.tape, h.output, h.size, h.block⟩

/-- copy as one step of a region, the world behind it named. -/
theorem step_copy_at {P : Program} {ops : Array Oper} {o : Oper} {a : Act} {w : World} {K : Act → World → Prop} {Q : Exit → Act → World → Prop} {E : Prop} (hgd : o.guard = none) (d s : Operand) (dT sT : TypeId)
    (ho : o.op = .call { callee := .builtin .copy, args := #[d, s], argTypes := #[dT, sT] }) (elem : TypeId) (hu : P.underlying dT = some (.slice elem)) (hsz : (P.info? elem).map (·.size) = some 1)
    (g off dLen dCap : Nat) (ad : Addr) (sLen sCap : Nat) (hd : a.eval d = .slice (some ⟨g, off, none⟩) dLen dCap) (hs : a.eval s = .slice (some ad) sLen sCap)
    (cur : List Value) (t : TypeId) (hg : w.heap[g]? = some (.cells cur.toArray t (0, 0))) (cs : List Value) (hn : cs.length = Nat.min sLen dLen)
    (hsrc : ∀ j v, cs[j]? = some v → w.cell? (ad.add j) = some v) (hfit : off + cs.length ≤ cur.length) (h1 : ∀ v ∈ cs, v.oneCell' = true)
    (h : ∀ w', Aside0 (w' = w.setRow g (splice cur off cs).toArray) → K (a.put o.dst (goInt cs.length)) w') :
    if Region.wanted o (yielded ops a.tmps) = true then Oper.wp P o a w K Q else E := by
  have hw : Region.wanted o (yielded ops a.tmps) = true := by simp [Region.wanted, hgd]
  rw [if_pos hw]
  have hrun := run_copy_row (P := P) w dT sT o.type elem g off dLen dCap ad sLen sCap cur.toArray t cs hu hsz hg hn hsrc (by simpa using hfit) h1
  unfold Oper.wp
  simp [execOp, ho, resolve, invoke, builtin, hd, hs, hrun, Result.andThen]
  exact h _ ⟨by simp [splice]⟩

theorem cell_of {w : World} {g : Nat} {cs : Array Value} {t : TypeId} {fr : Nat × Nat} (h : w.heap[g]? = some (.cells cs t fr)) (i : Nat) {u : Value} (hu : cs[i]? = some u) : w.cell? ⟨g, i, none⟩ = some u := by simp [World.cell?, h, hu]
theorem frozen_of {w : World} {g : Nat} {cs : Array Value} {t : TypeId} (h : w.heap[g]? = some (.cells cs t (0, 0))) (i : Nat) : w.frozen? ⟨g, i, none⟩ = false := by simp [World.frozen?, h]
/-- The reader at block g stands at place i of the n bytes at A. -/
def Rdr (w : World) (g : Nat) (A : Addr) (n cap i : Nat) (pr : Int) : Prop := w.heap[g]? = some (.cells #[.slice (some A) n cap, .int .i64 i, .int .i64 pr] 60 (0, 0))
theorem Rdr.c0 {w : World} {g : Nat} {A : Addr} {n cap i : Nat} {pr : Int} (h : Rdr w g A n cap i pr) : w.cell? ⟨g, 0, none⟩ = some (.slice (some A) n cap) := cell_of h 0 rfl
theorem Rdr.c1 {w : World} {g : Nat} {A : Addr} {n cap i : Nat} {pr : Int} (h : Rdr w g A n cap i pr) : w.cell? ⟨g, 1, none⟩ = some (.int .i64 i) := cell_of h 1 rfl
theorem Rdr.c2 {w : World} {g : Nat} {A : Addr} {n cap i : Nat} {pr : Int} (h : Rdr w g A n cap i pr) : w.cell? ⟨g, 2, none⟩ = some (.int .i64 pr) := cell_of h 2 rfl

theorem size5 : (Tryd.prog.info? 5).map (·.size) = some 1 := by kernel_rfl
theorem add_block (A : Addr) (k : Nat) : (A.add k).block = A.block := by unfold Addr.add; split <;> rfl
theorem read_copied {w W1 w2 : World} {g b : Nat} {A : Addr} {n cap i : Nat} {pr : Int} {cs : Array Value} (h2 : w2 = w.setRow b cs) {m : Nat} (hw : w = W1.drewN m) (hbg : b ≠ g) (hr : Rdr W1 g A n cap i pr) : Rdr w2 g A n cap i pr := by
  subst h2; subst hw
  exact (setRow_other (W1.drewN m) b g cs (fun e => hbg e.symm)).trans hr
theorem rdr_set {w : World} {g : Nat} {A : Addr} {n cap i : Nat} {pr : Int} (h : Rdr w g A n cap i pr) : Rdr (w.setCell ⟨g, 2, none⟩ (.int .i64 (-1))) g A n cap i (-1) := by
  unfold Rdr at h ⊢
  rw [setCell_eq_setRow w g 2 _ 60 (0, 0) _ h]
  exact setRow_heap w g _ _ 60 _ h
theorem rdr_at {w : World} {g : Nat} {A : Addr} {n cap i : Nat} {pr : Int} (h : Rdr w g A n cap i pr) (j : Nat) : Rdr (w.setCell ⟨g, 1, none⟩ (.int .i64 j)) g A n cap j pr := by
  unfold Rdr at h ⊢
  rw [setCell_eq_setRow w g 1 _ 60 (0, 0) _ h]
  exact setRow_heap w g _ _ 60 _ h
set_option maxHeartbeats 4000000 in
set_option maxRecDepth 100000 in
theorem read_calls (g : Nat) (A : Addr) (n cap i : Nat) (pr : Int) (b o m c : Nat) (cur : List Value) (t : TypeId) (xs : List Value) (w : World) (hr : Rdr w g A n cap i pr) (hb : w.heap[b]? = some (.cells cur.toArray t (0, 0))) (hbg : b ≠ g)
    (hA : A.block ≠ b) (hAg : A.block ≠ g) (hsrc : ∀ j v, xs[j]? = some v → w.cell? (A.add (i + j)) = some v) (r : Nat) (hx : xs.length = r) (hrm : r = min (n - i) m) (h1 : ∀ v ∈ xs, v.oneCell' = true) (hm : 0 < m) (hin0 : i < n) (hn : n ≤ cap) (hcap : n ≤ 140737488355328) (hfit : o + r ≤ cur.length) :
    Calls Tryd.prog 78 #[.pointer (some ⟨g, 0, none⟩), .slice (some ⟨b, o, none⟩) m c] w fun e w' => e = .returned (.tuple #[.int .i64 r, .nilIface]) ∧ Rdr w' g A n cap (i + r) (-1) ∧ w'.heap[b]? = some (.cells (splice cur o xs).toArray t (0, 0)) ∧ Keep w w' (fun k => k = g ∨ k = b) := by
  have HR := Aside0.mk hr
  have c0 := hr.c0
  have c1 := hr.c1
  have c2 := hr.c2
  have f1 := frozen_of hr 1
  have f2 := frozen_of hr 2
  have hlt : decide (n ≤ i) = false := by simp; omega
  have HB := Aside0.mk hb
  have HS := Aside0.mk hsrc
  have HX := Aside0.mk hx
  have HRm := Aside0.mk hrm
  have hrn : i + r ≤ n := by omega
  have H1 := Aside0.mk h1
  have HF := Aside0.mk hfit
  have HA := Aside0.mk (And.intro hA hAg)
  have HN := Aside0.mk hbg
  clear hr hb hsrc hx hrm h1 hfit hA hAg
  go_enter Tryd.func78, Tryd.ntmps78
  go_wp2_with fail
  go_quiet (fail)
  go_wp2_with fail
  obtain ⟨W1, hW1⟩ : ∃ W1, W1 = (w.drewN nq).setCell ⟨g, 2, none⟩ (.int .i64 (-1)) := ⟨_, rfl⟩
  have HR1 : Aside0 (Rdr W1 g A n cap i (-1)) := ⟨by rw [hW1]; exact rdr_set (w := w.drewN nq) HR.out⟩
  have HB1 : Aside0 (W1.heap[b]? = some (.cells cur.toArray t (0, 0))) := ⟨by rw [hW1]; exact (Below.heap_setCell (w.drewN nq) ⟨g, 2, none⟩ _ b HN.out).trans HB.out⟩
  have HK1 : Aside0 (Keep w W1 (fun k => k = g)) := ⟨by rw [hW1]; exact ((Keep.refl w (fun k => k = g)).drewN nq).setCell (a := ⟨g, 2, none⟩) (.inl rfl) _⟩
  have HS1 : Aside0 (∀ (j : Nat) (v : Value), xs[j]? = some v → W1.cell? (A.add (i + j)) = some v) := ⟨fun j v hv => by
    rw [hW1, World.cell?_setCell_other _ _ _ _ (fun e => HA.out.2 ((add_block A (i + j)).symm.trans (congrArg Addr.block e).symm))]
    exact HS.out j v hv⟩
  rw [← hW1]
  have c0' := HR1.out.c0
  have c1' := HR1.out.c1
  have f1' := frozen_of HR1.out 1
  have hin : i ≤ n := by omega
  have hne : ¬ cap = i := by omega
  clear hW1 c0 c1 c2 f1 f2
  go_region_held3 (fun w' => w'.cell? ⟨g, 0, none⟩ = some (.slice (some A) n cap) ∧ w'.cell? ⟨g, 1, none⟩ = some (.int .i64 i)) (first | go_keep | (exact ⟨c0', c1'⟩) | (exact k2)) ((refine step_copy_at rfl (.tmp 20) (.tmp 29) 22 22 rfl 5 Tryd.underlying22 size5 b o m c (A.add i) (n - i) (cap - i) ?hd ?hs cur t ?hg xs ?hn ?hsrc ?hfit ?h1 ?_; (case hd => rfl); (case hs => rfl); (case hg => exact HB1.out); (case hn => exact HX.out.trans HRm.out); (case hsrc => intro j v hj; rw [Go.Deep.add_add]; exact HS1.out j v hj); (case hfit => have := HX.out; have := HF.out; omega); (case h1 => exact H1.out); intro w2 hw2; have HR2 : Aside0 (Rdr w2 g A n cap i (-1)) := ⟨read_copied hw2.out rfl HN.out HR1.out⟩; have HB2 : Aside0 (w2.heap[b]? = some (.cells (splice cur o xs).toArray t (0, 0))) := ⟨by rw [hw2.out]; exact setRow_heap _ b _ _ t _ HB1.out⟩; have HK2 : Aside0 (Keep w w2 (fun k => k = g ∨ k = b)) := ⟨by rw [hw2.out]; exact Keep.setRow (F := fun k => k = g ∨ k = b) ((HK1.out.mono (fun k hk => Or.inl hk)).drewN 1) (.inl (Or.inr rfl)) _⟩; clear hw2; have k2 : w2.cell? ⟨g, 0, none⟩ = some (.slice (some A) n cap) ∧ w2.cell? ⟨g, 1, none⟩ = some (.int .i64 i) := ⟨HR2.out.c0, HR2.out.c1⟩))
  have k1 := k2.2
  have f1 := frozen_of HR2.out 1
  clear k2 c0' c1' f1'
  go_wp2_with fail
  go_ret2
  have hw : wrap64 ((i : Int) + (xs.length : Int)) = ((i + r : Nat) : Int) := by rw [HX.out]; unfold wrap64; omega
  rw [hw]
  exact ⟨by rw [HX.out]; rfl, rdr_at HR2.out _, (Below.heap_setCell w2 ⟨g, 1, none⟩ _ b HN.out).trans HB2.out, HK2.out.setCell (a := ⟨g, 1, none⟩) (.inl (Or.inl rfl)) _⟩

set_option maxHeartbeats 4000000 in
set_option maxRecDepth 100000 in
/-- At the end of what is there: the error io.EOF. -/
theorem read_end (g : Nat) (A : Addr) (n cap : Nat) (pr : Int) (v : Value) (u : Value) (w : World) (hr : Rdr w g A n cap n pr) (he : w.cell? ⟨0, 0, none⟩ = some u) :
    Calls Tryd.prog 78 #[.pointer (some ⟨g, 0, none⟩), v] w fun e w' => e = .returned (.tuple #[.int .i64 0, u]) ∧ Drawn0 w w' := by
  have c0 := hr.c0
  have c1 := hr.c1
  have hlt : decide (n ≤ n) = true := by simp
  clear hr
  go_enter Tryd.func78, Tryd.ntmps78
  go_wp2_with fail
  go_quiet (fail)
  go_wp2_with fail
  go_quiet (fail)
  go_wp2_with fail
  go_ret2
  exact ⟨rfl, by repeat (first | exact Drawn0.refl _ | apply Drawn0.step)⟩
end Go.Proofs.YtomdhahnfejfpaaDoor.Proto

