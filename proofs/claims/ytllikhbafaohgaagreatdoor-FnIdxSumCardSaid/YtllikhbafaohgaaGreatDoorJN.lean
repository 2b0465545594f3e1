/- What is handed in, opened; the errors of the package's variables, out of what the row lists. -/
import Derived.Test.YtllikhbafaohgaaGreatDoorJM
import Derived.Test.YtllikhbafaohgaaGreatDoorRows
import Derived.LaidLaws
import Derived.LaidMore
import Derived.Deep.Slices
import Derived.ChangeArms
import Derived.OpenShut
namespace Go.Proofs.YtllikhbafaohgaaGreatDoor.Idx
open Go.RowKit Go.Proofs.YtllikhbafaohgaaGreatDoorW.PrintWords Go.Proofs.YtllikhbafaohgaaGreatDoorW.PrintLast Go.Proofs.YtllikhbafaohgaaGreatDoorW.PrintMore Go.Proofs.YtllikhbafaohgaaGreatDoor.PFnIdxSum
set_option linter.unusedVariables false
set_option linter.unusedSimpArgs false

theorem cells2 : Tryz.prog.cellsOf 2 = 1 := by kernel_rfl
theorem cells3 : Tryz.prog.cellsOf 3 = 1 := by kernel_rfl
theorem cells4 : Tryz.prog.cellsOf 4 = 1 := by kernel_rfl
theorem cells27 : Tryz.prog.cellsOf 27 = 1 := by kernel_rfl
theorem cells33 : Tryz.prog.cellsOf 33 = 2 := by kernel_rfl
theorem cells35 : Tryz.prog.cellsOf 35 = 15 := by kernel_rfl
theorem star_name : ("*" : String) ++ "errors.errorString" = "*errors.errorString" := by decide
theorem typeName179 (u : TypeId) (h : Tryz.prog.typeName? 3 u = some "*errors.errorString") : u = 179 :=
  typeName_ptr_named (nm := "errors.errorString") (by rw [star_name]; kernel_rfl) (by kernel_rfl) (by decide) u (by rw [star_name]; exact h)
theorem cells181 : Tryz.prog.cellsOf 181 = 1 := by kernel_rfl
theorem cells9 : Tryz.prog.cellsOf 9 = 1 := by kernel_rfl
def Sent (W : World) (G : Nat) (text : List UInt8) : Prop := ∃ a s, W.cell? ⟨G, 0, none⟩ = some (.iface 179 (.pointer (some a))) ∧ W.cell? a = some (.string s) ∧ s.data.toList = text ∧ ∃ c t, W.heap[a.block]? = some (.cells c t (0, 0))
theorem laid_rest {W : World} {x : String × DataW Unit} {rest : List (String × DataW Unit)} {ps : List MemPlace} (h : DataW.LaidVars Tryz.prog W (x :: rest) ps) : ∃ q, DataW.LaidVars Tryz.prog W rest q ∧ ∀ y ∈ q, y ∈ ps := by
  obtain ⟨n, d⟩ := x
  obtain ⟨g, t, cs, fuel, p, q, h1, h2, h3, h4, h5, e⟩ := h
  exact ⟨q, h5, fun y hy => by rw [e]; simp [hy]⟩
set_option maxRecDepth 100000 in
theorem laid_sent {W : World} {n : String} {text : List UInt8} {rest : List (String × DataW Unit)} {ps : List MemPlace} {G : Nat} (h : DataW.LaidVars Tryz.prog W ((n, .iface "*errors.errorString" (.ptr (.agg [.lit (.string text)]))) :: rest) ps)
    (hG : Tryz.prog.globalNamed n = some G) (hT : (Tryz.prog.globals[G]?).map (·.type) = some 49)
    (hall : ∀ b off, MemPlace.cell b off ∈ ps → (∃ c t, W.heap[b]? = some (.cells c t (0, 0))) ∧ ∀ u v, W.cell? ⟨b, off, none⟩ = some (.iface u v) → Value.okWide Tryz.prog W .any 0 u v) : Sent W G text := by
  obtain ⟨g, t, cs, fuel, p, q, h1, h2, h3, h4, h5, e⟩ := h
  obtain rfl := Option.some.inj (hG.symm.trans h1)
  obtain rfl := Option.some.inj (hT.symm.trans h2)
  have hcell : ∀ i : Nat, W.cell? ⟨G, i, none⟩ = cs[i]? := fun i => World.var?_cell hG h3 i
  obtain ⟨a, s, e1, e2, e3, _, e5⟩ := errorString_of_trod (P := Tryz.prog) (ts := 9) (te := 181) Tryz.underlying49 typeName179 Tryz.underlying179 Tryz.underlying181 rfl rfl Tryz.underlying9 cells181 cells9 h4 (fun u v hcs => by
    have h0 : W.cell? ⟨G, 0, none⟩ = some (.iface u v) := by rw [hcell 0, ← Array.getElem?_toList, hcs]; rfl
    refine (hall G 0 ?_).2 u v h0
    have hsz : cs.size = 1 := by rw [← Array.length_toList, hcs]; rfl
    rw [e, hsz]
    simp [MemPlace.row])
  refine ⟨a, s, ?_, e2, e3, ?_⟩
  · rw [hcell 0, ← Array.getElem?_toList, e1]; rfl
  · refine (hall a.block a.off ?_).1
    rw [e, e5]
    simp [MemPlace.row]

theorem laid_drop {W : World} : ∀ (k : Nat) (L : List (String × DataW Unit)) (ps : List MemPlace), DataW.LaidVars Tryz.prog W L ps → k ≤ L.length → ∃ q, DataW.LaidVars Tryz.prog W (L.drop k) q ∧ ∀ y ∈ q, y ∈ ps
  | 0, _, ps, h, _ => ⟨ps, h, fun _ hy => hy⟩
  | _ + 1, [], _, _, hk => by simp at hk
  | k + 1, x :: rest, ps, h, hk => by
    obtain ⟨q, h1, m1⟩ := laid_rest h
    obtain ⟨q2, h2, m2⟩ := laid_drop k rest q h1 (by simpa using hk)
    exact ⟨q2, h2, fun y hy => m1 y (m2 y hy)⟩
theorem errs_of_sent {W : World} {t0 t1 t2 t7 : List UInt8} (h0 : Sent W 0 t0) (h1 : Sent W 1 t1) (h2 : Sent W 2 t2) (h7 : Sent W 7 t7) (h22 : 22 ≤ W.heap.size) : ∃ a0 a1 a2 a7, Errs W a0 a1 a2 a7 := by
  obtain ⟨a0, s0, x0, _, _, b0⟩ := h0
  obtain ⟨a1, s1, x1, _, _, b1⟩ := h1
  obtain ⟨a2, s2, x2, _, _, b2⟩ := h2
  obtain ⟨a7, s7, x7, _, _, b7⟩ := h7
  exact ⟨a0, a1, a2, a7, x0, x1, x2, x7, b0, b1, b2, h22⟩
set_option maxRecDepth 100000 in
theorem errs_of_laid {W : World} (h : laidMetH Tryz.prog Rows.fnIdxSumRow.laid W) (h22 : 22 ≤ W.heap.size) : ∃ a0 a1 a2 a7, Errs W a0 a1 a2 a7 := by
  rw [MakeChecks.laidMetH_plain _ _ _ (by kernel_rfl)] at h
  obtain ⟨ps, hv, _, hall⟩ := h
  obtain ⟨q8, v8, m8⟩ := laid_drop 8 _ _ hv (by decide)
  obtain ⟨q15, v15, m15⟩ := laid_drop 15 _ _ hv (by decide)
  obtain ⟨q16, v16, m16⟩ := laid_drop 16 _ _ hv (by decide)
  obtain ⟨q19, v19, m19⟩ := laid_drop 19 _ _ hv (by decide)
  exact errs_of_sent (laid_sent v15 (by kernel_rfl) (by kernel_rfl) (fun b off hm => hall b off (m15 _ hm))) (laid_sent v19 (by kernel_rfl) (by kernel_rfl) (fun b off hm => hall b off (m19 _ hm))) (laid_sent v16 (by kernel_rfl) (by kernel_rfl) (fun b off hm => hall b off (m16 _ hm))) (laid_sent v8 (by kernel_rfl) (by kernel_rfl) (fun b off hm => hall b off (m8 _ hm))) h22
section
variable {H : Type} {enc : TypeId × Value → H} {w : World} {base : Nat} {spare : Nat → Bool} {held : Bool}
theorem open_field {P : Program} {fs : Array Field} {xs : List (DataW H × List MemPlace)} {n : Nat} {cs : List Value}
    (hx : ∀ (i : Nat) (f : Field), fs[i]? = some f → DataW.trod enc P w base spare held n f.type ((cs.drop f.offset).take (P.cellsOf f.type)) = xs[i]?) (hl : xs.length = fs.size) (i : Nat) (f : Field) (hf : fs[i]? = some f) :
    ∃ y, DataW.trod enc P w base spare held n f.type ((cs.drop f.offset).take (P.cellsOf f.type)) = some y := by
  have hi : i < xs.length := by rw [hl]; exact (Array.getElem?_eq_some_iff.1 hf).1
  exact ⟨xs[i], by rw [hx i f hf, List.getElem?_eq_getElem hi]⟩
theorem open_row {α : Type} [Inhabited α] {P : Program} {k : Kd α} {t e : TypeId} {fuel : Nat} {cs : List Value} {x : DataW H × List MemPlace} (ht : P.underlying t = some (.slice e)) (hsz : P.cellsOf e = k.sz)
    (hopen : ∀ (n : Nat) (cs : List Value) (x : DataW H × List MemPlace), DataW.trod enc P w base spare held n e cs = some x → ∃ a, k.K w a cs) (h : DataW.trod enc P w base spare held fuel t cs = some x) :
    ∃ (A : Option Addr) (c : Nat) (l : List α), cs = [.slice A l.length c] ∧ l.length ≤ c ∧ k.C w A l.length l := by
  rcases Go.Deep.open_slice ht h with ⟨rfl, rfl⟩ | ⟨a, len, cap, m, n, D, Pl, rfl, hb, hl, hm, hmm, rfl, hx⟩
  · exact ⟨none, 0, [], rfl, Nat.le_refl _, rfl, by simp, fun h => by simp at h⟩
  · have hlm : len ≤ m := by rw [hmm]; split <;> omega
    obtain ⟨f, hf⟩ := Go.Deep.choose_lt (α := α) (n := len) (p := fun i a' => ∃ cs', w.cells? base (a.add (i * P.cellsOf e)) (P.cellsOf e) = some cs' ∧ k.K w a' cs') (fun i hi => by
      obtain ⟨cs', h1, h2⟩ := hx i (by omega)
      obtain ⟨a', h3⟩ := hopen _ _ _ h2
      exact ⟨a', cs', h1, h3⟩)
    have hlen : ((List.range len).map f).length = len := by simp
    refine ⟨some a, cap, (List.range len).map f, by rw [hlen], by rw [hlen]; exact hl, ⟨rfl, ?_, fun _ => ⟨a, rfl, fun j p hj => ?_⟩⟩⟩
    · rw [hlen]
      have : maxLen ≤ 9223372036854775807 := by decide
      omega
    · obtain ⟨hj1, hj2⟩ := List.getElem?_eq_some_iff.1 hj
      rw [hlen] at hj1
      have hp : f j = p := by simpa using hj2
      subst hp
      obtain ⟨cs', h1, h2⟩ := hf j hj1
      obtain ⟨_, h3, h4⟩ := World.cells?_some h1
      refine ⟨cs', by rw [h3, hsz], h2, fun i u hu => ?_⟩
      have hi : i < cs'.length := (List.getElem?_eq_some_iff.1 hu).1
      have := h4 i (by omega)
      rw [hu, hsz, Go.Deep.add_add] at this
      exact this

instance : Inhabited S35 := ⟨z35⟩
instance : Inhabited S33 := ⟨z33⟩
set_option maxRecDepth 100000 in
theorem open33 (n : Nat) (cs : List Value) (x : DataW H × List MemPlace) (h : DataW.trod enc Tryz.prog w base spare held n 33 cs = some x) : ∃ a, k33.K w a cs := by
  obtain ⟨xs, m, _, _, h3, h4, h5⟩ := DataW.trod_struct Tryz.underlying33 h
  rw [cells33] at h3
  match cs, h3 with
  | [v0, v1], _ =>
    obtain ⟨y0, g0⟩ := open_field h5 h4 0 _ rfl
    change DataW.trod enc Tryz.prog w base spare held m 2 (List.take (Tryz.prog.cellsOf 2) [v0, v1]) = some y0 at g0
    rw [cells2] at g0
    obtain ⟨s0, e0, _, _⟩ := DataW.trod_int Tryz.underlying2 g0
    obtain rfl : v0 = .int .i64 s0 := by simpa using e0
    obtain ⟨y1, g1⟩ := open_field h5 h4 1 _ rfl
    change DataW.trod enc Tryz.prog w base spare held m 2 (List.take (Tryz.prog.cellsOf 2) [v1]) = some y1 at g1
    rw [cells2] at g1
    obtain ⟨s1, e1, _, _⟩ := DataW.trod_int Tryz.underlying2 g1
    obtain rfl : v1 = .int .i64 s1 := by simpa using e1
    exact ⟨⟨s0, s1⟩, k33_mk _ _⟩
set_option maxRecDepth 100000 in
theorem open35 (n : Nat) (cs : List Value) (x : DataW H × List MemPlace) (h : DataW.trod enc Tryz.prog w base spare held n 35 cs = some x) : ∃ a, k35.K w a cs := by
  obtain ⟨xs, m, _, _, h3, h4, h5⟩ := DataW.trod_struct Tryz.underlying35 h
  rw [cells35] at h3
  match cs, h3 with
  | [v0, v1, v2, v3, v4, v5, v6, v7, v8, v9, v10, v11, v12, v13, v14], _ =>
    obtain ⟨y0, g0⟩ := open_field h5 h4 0 _ rfl
    change DataW.trod enc Tryz.prog w base spare held m 33 (List.take (Tryz.prog.cellsOf 33) [v0, v1, v2, v3, v4, v5, v6, v7, v8, v9, v10, v11, v12, v13, v14]) = some y0 at g0
    rw [cells33] at g0
    obtain ⟨s0, k0⟩ := open33 _ _ _ g0
    have e0 := k33_open k0
    obtain ⟨rfl, rfl⟩ : v0 = .int .i64 s0.f0 ∧ v1 = .int .i64 s0.f1 := by simpa using e0
    obtain ⟨y1, g1⟩ := open_field h5 h4 1 _ rfl
    change DataW.trod enc Tryz.prog w base spare held m 33 (List.take (Tryz.prog.cellsOf 33) [v2, v3, v4, v5, v6, v7, v8, v9, v10, v11, v12, v13, v14]) = some y1 at g1
    rw [cells33] at g1
    obtain ⟨s1, k1⟩ := open33 _ _ _ g1
    have e1 := k33_open k1
    obtain ⟨rfl, rfl⟩ : v2 = .int .i64 s1.f0 ∧ v3 = .int .i64 s1.f1 := by simpa using e1
    obtain ⟨y2, g2⟩ := open_field h5 h4 2 _ rfl
    change DataW.trod enc Tryz.prog w base spare held m 27 (List.take (Tryz.prog.cellsOf 27) [v4, v5, v6, v7, v8, v9, v10, v11, v12, v13, v14]) = some y2 at g2
    rw [cells27] at g2
    obtain ⟨s2, e2, _, _⟩ := DataW.trod_int Tryz.underlying27 g2
    obtain rfl : v4 = .int .u32 s2 := by simpa using e2
    obtain ⟨y3, g3⟩ := open_field h5 h4 3 _ rfl
    change DataW.trod enc Tryz.prog w base spare held m 27 (List.take (Tryz.prog.cellsOf 27) [v5, v6, v7, v8, v9, v10, v11, v12, v13, v14]) = some y3 at g3
    rw [cells27] at g3
    obtain ⟨s3, e3, _, _⟩ := DataW.trod_int Tryz.underlying27 g3
    obtain rfl : v5 = .int .u32 s3 := by simpa using e3
    obtain ⟨y4, g4⟩ := open_field h5 h4 4 _ rfl
    change DataW.trod enc Tryz.prog w base spare held m 27 (List.take (Tryz.prog.cellsOf 27) [v6, v7, v8, v9, v10, v11, v12, v13, v14]) = some y4 at g4
    rw [cells27] at g4
    obtain ⟨s4, e4, _, _⟩ := DataW.trod_int Tryz.underlying27 g4
    obtain rfl : v6 = .int .u32 s4 := by simpa using e4
    obtain ⟨y5, g5⟩ := open_field h5 h4 5 _ rfl
    change DataW.trod enc Tryz.prog w base spare held m 27 (List.take (Tryz.prog.cellsOf 27) [v7, v8, v9, v10, v11, v12, v13, v14]) = some y5 at g5
    rw [cells27] at g5
    obtain ⟨s5, e5, _, _⟩ := DataW.trod_int Tryz.underlying27 g5
    obtain rfl : v7 = .int .u32 s5 := by simpa using e5
    obtain ⟨y6, g6⟩ := open_field h5 h4 6 _ rfl
    change DataW.trod enc Tryz.prog w base spare held m 27 (List.take (Tryz.prog.cellsOf 27) [v8, v9, v10, v11, v12, v13, v14]) = some y6 at g6
    rw [cells27] at g6
    obtain ⟨s6, e6, _, _⟩ := DataW.trod_int Tryz.underlying27 g6
    obtain rfl : v8 = .int .u32 s6 := by simpa using e6
    obtain ⟨y7, g7⟩ := open_field h5 h4 7 _ rfl
    change DataW.trod enc Tryz.prog w base spare held m 27 (List.take (Tryz.prog.cellsOf 27) [v9, v10, v11, v12, v13, v14]) = some y7 at g7
    rw [cells27] at g7
    obtain ⟨s7, e7, _, _⟩ := DataW.trod_int Tryz.underlying27 g7
    obtain rfl : v9 = .int .u32 s7 := by simpa using e7
    obtain ⟨y8, g8⟩ := open_field h5 h4 8 _ rfl
    change DataW.trod enc Tryz.prog w base spare held m 9 (List.take (Tryz.prog.cellsOf 9) [v10, v11, v12, v13, v14]) = some y8 at g8
    rw [cells9] at g8
    obtain ⟨s8, e8, _, _⟩ := DataW.trod_string Tryz.underlying9 g8
    obtain rfl : v10 = .string s8 := by simpa using e8
    obtain ⟨y9, g9⟩ := open_field h5 h4 9 _ rfl
    change DataW.trod enc Tryz.prog w base spare held m 9 (List.take (Tryz.prog.cellsOf 9) [v11, v12, v13, v14]) = some y9 at g9
    rw [cells9] at g9
    obtain ⟨s9, e9, _, _⟩ := DataW.trod_string Tryz.underlying9 g9
    obtain rfl : v11 = .string s9 := by simpa using e9
    obtain ⟨y10, g10⟩ := open_field h5 h4 10 _ rfl
    change DataW.trod enc Tryz.prog w base spare held m 3 (List.take (Tryz.prog.cellsOf 3) [v12, v13, v14]) = some y10 at g10
    rw [cells3] at g10
    obtain ⟨s10, e10, _, _⟩ := DataW.trod_int Tryz.underlying3 g10
    obtain rfl : v12 = .int .i64 s10 := by simpa using e10
    obtain ⟨y11, g11⟩ := open_field h5 h4 11 _ rfl
    change DataW.trod enc Tryz.prog w base spare held m 4 (List.take (Tryz.prog.cellsOf 4) [v13, v14]) = some y11 at g11
    rw [cells4] at g11
    obtain ⟨s11, e11, _⟩ := DataW.trod_bool Tryz.underlying4 g11
    obtain rfl : v13 = .bool s11 := by simpa using e11
    obtain ⟨y12, g12⟩ := open_field h5 h4 12 _ rfl
    change DataW.trod enc Tryz.prog w base spare held m 4 (List.take (Tryz.prog.cellsOf 4) [v14]) = some y12 at g12
    rw [cells4] at g12
    obtain ⟨s12, e12, _⟩ := DataW.trod_bool Tryz.underlying4 g12
    obtain rfl : v14 = .bool s12 := by simpa using e12
    exact ⟨⟨s0, s1, s2, s3, s4, s5, s6, s7, s8, s9, s10, s11, s12⟩, k35_mk _ _⟩
set_option maxRecDepth 100000 in
/-- The slice of files that is handed in. -/
theorem open_files {v : Value} {d : DataW H} {ps : List MemPlace} (h : DataW.Trod enc Tryz.prog w base spare held 22 v d ps) (hv : ∃ (A : Option Addr) (n c : Nat), v = .slice A n c) : ∃ (A : Option Addr) (c : Nat) (l : List S35), v = .slice A l.length c ∧ l.length ≤ c ∧ k35.C w A l.length l := by
  obtain ⟨fuel, hf⟩ := h
  obtain ⟨A0, n, c0, rfl⟩ := hv
  obtain ⟨A, c, l, e, hl, hC⟩ := open_row (k := k35) Tryz.underlying22 (cells35.trans rfl) open35 hf
  exact ⟨A, c, l, by simpa [Value.cells] using e, hl, hC⟩
end
end Go.Proofs.YtllikhbafaohgaaGreatDoor.Idx
