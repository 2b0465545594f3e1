/- A request is read. -/
import Derived.Test.YtbgimkjodpjnfaaDoorProtoN
namespace Go.Proofs.YtbgimkjodpjnfaaDoor.Proto
open Go.RowKit Go.Proofs.YtbgimkjodpjnfaaDoorW.PrintWords Go.Proofs.YtbgimkjodpjnfaaDoorW.PrintLast Go.Proofs.YtbgimkjodpjnfaaDoorW.PrintMore Go.Proofs.YtbgimkjodpjnfaaDoor.PFnProtoFirstRead

/-- The bytes of the line, in memory. -/
structure TextAt (w : World) (A : Addr) (n cap : Nat) (ys : List UInt8) : Prop where
  len : n = 4 + ys.length
  cap_ : n ≤ cap
  hex : ∀ j v, (([hexc ((ys.length + 4) / 4096 % 16), hexc ((ys.length + 4) / 256 % 16), hexc ((ys.length + 4) / 16 % 16), hexc ((ys.length + 4) % 16)] : List Int).map (Value.int .u8))[j]? = some v → w.cell? (A.add j) = some v
  src : ∀ j v, (vals ys)[j]? = some v → w.cell? (A.add (4 + j)) = some v
  pos : 0 < ys.length
  few : ys.length ≤ 1000
  noErr : ys.take 4 ≠ errBytes
theorem results_tmp5 {fn : Func} {t0 t1 t2 t3 t4 : Tmp} (h : fn.results = #[.tmp t0, .tmp t1, .tmp t2, .tmp t3, .tmp t4]) (tmps : Array Value) (P : Program) (w : World) :
    (results fn tmps).run P w = .ok (.tuple #[tmps.getD t0 undef, tmps.getD t1 undef, tmps.getD t2 undef, tmps.getD t3 undef, tmps.getD t4 undef]) w := by
  simp [results, h]
def reqW (w : World) : World := w.alloc (.cells #[.string ⟨#[]⟩, .string ⟨#[]⟩, .string ⟨#[]⟩, .slice none 0 0] 58)
def rdW (w : World) (A : Addr) (n cap : Nat) : World := (reqW w).alloc (.cells #[.slice (some A) n cap, .int .i64 0, .int .i64 (-1)] 104)
theorem rdW_below (w : World) (A : Addr) (n cap : Nat) : Below w.heap.size w (rdW w A n cap) := below_alloc (below_alloc (Below.refl _ _) _) _
theorem TextAt.line {w : World} {A : Addr} {n cap : Nat} {ys : List UInt8} (h : TextAt w A n cap ys) : LineAt (rdW w A n cap) (w.heap.size + 1) A n cap ys := by
  have hb := rdW_below w A n cap
  have hAl : A.block < w.heap.size := by
    have := World.block_lt_of_cell? w _ (h.hex 0 _ rfl)
    rwa [add_block] at this
  have cellk : ∀ {a : Addr} {v : Value}, w.cell? a = some v → (rdW w A n cap).cell? a = some v := fun hc => (hb.cell (World.block_lt_of_cell? w _ hc)).trans hc
  exact ⟨heap_new2 w _ _, h.len, h.cap_, by omega, fun j v hv => cellk (h.hex j v hv), fun j v hv => cellk (h.src j v hv), h.pos, h.few, h.noErr⟩
theorem req_new (w : World) (A : Addr) (n cap : Nat) : Req (rdW w A n cap) w.heap.size ⟨#[]⟩ ⟨#[]⟩ ⟨#[]⟩ (.slice none 0 0) := alloc_old (heap_alloc_new w _) _

theorem empty_R9 {base : Nat} (w : World) (hb : base ≤ w.heap.size) : Kd.string.R 9 (w.alloc (.cells #[] 9)) base (fun k => w.heap.size ≤ k) (.slice (some ⟨w.heap.size, 0, none⟩) 0 0) [] :=
  Kd.R_of_own (World.ownsRow_made w #[] 0 hb (by decide) rfl) (fun k hk => by
    have : k = w.heap.size := by simpa [Value.ownBlock] using hk.symm
    omega)
theorem req_drew {w : World} {d : Nat} {s0 s1 s2 : ByteArray} {v3 : Value} {o : Obj} (h : Req w d s0 s1 s2 v3) : (w.alloc o).drew.heap[d]? = some (.cells #[.string s0, .string s1, .string s2, v3] 58 (0, 0)) := alloc_old h o
theorem req_cells {w : World} {d : Nat} {s0 s1 s2 : ByteArray} {v3 : Value} (h : Req w d s0 s1 s2 v3) : w.cell? ⟨d, 0, none⟩ = some (.string s0) ∧ w.cell? ⟨d, 1, none⟩ = some (.string s1) ∧ w.cell? ⟨d, 2, none⟩ = some (.string s2) ∧ w.cell? ⟨d, 3, none⟩ = some v3 := ⟨cell_of h 0 rfl, cell_of h 1 rfl, cell_of h 2 rfl, cell_of h 3 rfl⟩
set_option maxHeartbeats 8000000 in
set_option maxRecDepth 100000 in
theorem readProto_calls {w : World} {A : Addr} {n cap : Nat} {ys : List UInt8} {a1 a2 : Addr} {command path h1 host : ByteArray} {more : List ByteArray} (ht : TextAt w A n cap ys) (hs : Says ys command path h1 host more) (he : Errs w a1 a2) (hm : more.length ≤ 1000) :
    Calls Tryd.prog 15 #[.slice (some A) n cap] w fun e w' => ∃ v, e = .returned (.tuple #[.string command, .string path, .string host, v, .bool true]) ∧ Kd.R Kd.string 9 w' w.heap.size (fun _ => True) v (full more) ∧ Below w.heap.size w w' := by
  have h1l : 1 < w.heap.size := World.block_lt_of_cell? w _ he.e1
  have hdec := decode_calls ht.line hs (req_new w A n cap) (by omega) (he.below (rdW_below w A n cap)).e1 (by omega) hm
  obtain ⟨ks, hks⟩ : ∃ ks, ks = full more := ⟨_, rfl⟩
  have hkl : ks.length ≤ more.length := by (rw [hks]; exact List.length_filter_le _ _)
  rw [← hks] at hdec ⊢
  have HLk : Aside0 ((0 + ks.length) * 16 ≤ 140737488355328) := ⟨by omega⟩
  have HC : Aside0 (Calls Tryd.prog 29 #[.pointer (some ⟨w.heap.size, 0, none⟩), .iface 62 (.pointer (some ⟨w.heap.size + 1, 0, none⟩))] (rdW w A n cap) fun e w' => e = .returned .nilIface ∧ ∃ v3, Req w' w.heap.size command path host v3 ∧ Kd.R Kd.string 9 w' w.heap.size (fun k => k ≠ w.heap.size) v3 ks ∧ Below w.heap.size w w') := ⟨by
    refine hdec.mono fun e w' ⟨h1, v3, h2, h3, h4⟩ => ⟨h1, v3, h2, Kd.R_lower h3 (rdW_below w A n cap).size, below_keep (rdW_below w A n cap) h4 (fun j hj => by omega)⟩⟩
  clear ht hs he hm h1l hdec hks hkl
  go_enter Tryd.func15, Tryd.ntmps15
  go_wp2_with (first
    | (go_at_call 30; refine (newReader_calls _ _ _ _).mono ?_; rintro e w1 ⟨rfl, rfl⟩)
    | (go_at_call 29; refine HC.out.mono ?_; rintro e w2 ⟨rfl, v3, hd2, hr2, hb2⟩; have HD2 := Aside0.mk hd2; have HR2 := Aside0.mk hr2; have HB2 := Aside0.mk hb2; clear hd2 hr2 hb2))
  obtain ⟨A3, c3, he3, hle3, hC3⟩ := Kd.R_reads HR2.out
  subst he3
  have HC3 := Aside0.mk hC3
  have c0 : w2.cell? ⟨w.heap.size, 0, none⟩ = some (.string command) := cell_of HD2.out 0 rfl
  have c1 : w2.cell? ⟨w.heap.size, 1, none⟩ = some (.string path) := cell_of HD2.out 1 rfl
  have c2 : w2.cell? ⟨w.heap.size, 2, none⟩ = some (.string host) := cell_of HD2.out 2 rfl
  have cc3 : w2.cell? ⟨w.heap.size, 3, none⟩ = some (.slice A3 ks.length c3) := cell_of HD2.out 3 rfl
  have hdl : w.heap.size < w2.heap.size := lt_of_block HD2.out
  have HO5 : Aside0 (Kd.string.R 9 (w2.alloc (.cells #[] 9)).drew w.heap.size (fun k => w2.heap.size ≤ k) (.slice (some ⟨w2.heap.size, 0, none⟩) 0 0) []) := ⟨Kd.R_drew (empty_R9 w2 HB2.out.size)⟩
  have HC5 : Aside0 (Kd.C Kd.string (w2.alloc (.cells #[] 9)).drew A3 ks.length ks) := ⟨Kd.C_drew (Kd.C_alloc hC3 _)⟩
  have HF5 : Aside0 (∀ k, (w2.alloc (.cells #[] 9)).drew.heap.size ≤ k → w2.heap.size ≤ k) := ⟨fun k hk => Nat.le_trans (size_le_alloc w2 (.cells #[] 9)) hk⟩
  have HB5 : Aside0 (Below w.heap.size w (w2.alloc (.cells #[] 9)).drew) := ⟨(below_alloc HB2.out _).drew⟩
  have HN5 : Aside0 (some w.heap.size ≠ (Value.slice (some ⟨w2.heap.size, 0, none⟩) 0 0).ownBlock) := ⟨by simp [Value.ownBlock]; omega⟩
  clear hC3 hle3 HC
  go_region_held3 (fun w' => w'.cell? ⟨w.heap.size, 0, none⟩ = some (.string command) ∧ w'.cell? ⟨w.heap.size, 1, none⟩ = some (.string path) ∧ w'.cell? ⟨w.heap.size, 2, none⟩ = some (.string host) ∧ w'.cell? ⟨w.heap.size, 3, none⟩ = some (.slice A3 ks.length c3)) (first | go_keep | (exact ⟨c0, c1, c2, cc3⟩) | (exact k2)) ((refine Kd.R_append_rows_step Kd.string (w0 := w) w.heap.size ?hw (.tmp 19) (.tmp 21) 26 9 (.string ⟨#[]⟩) 16 ?ho Tryd.underlying26 info9' ?hz ?h0 ?hb0 (.slice (some ⟨w2.heap.size, 0, none⟩) 0 0) [] ks A3 ks.length c3 (fun k => w2.heap.size ≤ k) (fun _ => False) ?hs ?hx ?aO ?aR (fun _ _ h => h) (fun _ h => h.elim) ?aF ?aB ?aS ?aL ?_; (case hw => rfl); (case ho => rfl); (case hz => rfl); (case h0 => decide); (case hb0 => omega); (case hs => rfl); (case hx => rfl); (case aO => exact HO5.out); (case aR => exact HC5.out); (case aF => exact HF5.out); (case aB => exact HB5.out); (case aS => exact HB5.out.size); (case aL => exact HLk.out); rintro v9 w9 hr9 hb9 hg9 -; have HR9 := Aside0.mk hr9; have HB9 := Aside0.mk hb9; have HD9 : Aside0 (Req w9 w.heap.size command path host (.slice A3 ks.length c3)) := ⟨grown_old hg9 (req_drew HD2.out) HN5.out⟩; clear hr9 hb9 hg9; have k2 : w9.cell? ⟨w.heap.size, 0, none⟩ = some (.string command) ∧ w9.cell? ⟨w.heap.size, 1, none⟩ = some (.string path) ∧ w9.cell? ⟨w.heap.size, 2, none⟩ = some (.string host) ∧ w9.cell? ⟨w.heap.size, 3, none⟩ = some (.slice A3 ks.length c3) := req_cells HD9.out))
  go_wp2_with fail
  (try simp only [Exit.inBlock, Exit.then])
  refine bodyPost_ret (results_tmp5 rfl _ _ _) rfl ?_
  exact ⟨_, rfl, Kd.R_mono (by have h := HR9.out; rwa [List.nil_append] at h) (fun _ _ => trivial), HB9.out⟩
end Go.Proofs.YtbgimkjodpjnfaaDoor.Proto
