/- A request is decoded. -/
import Derived.Test.YtbgimkjodpjnfaaDoorProtoL
namespace Go.Proofs.YtbgimkjodpjnfaaDoor.Proto
open Go.RowKit Go.Proofs.YtbgimkjodpjnfaaDoorW.PrintWords Go.Proofs.YtbgimkjodpjnfaaDoorW.PrintLast Go.Proofs.YtbgimkjodpjnfaaDoorW.PrintMore Go.Proofs.YtbgimkjodpjnfaaDoor.PFnProtoFirstRead

/-- The request at block d. -/
def Req (w : World) (d : Nat) (s0 s1 s2 : ByteArray) (v3 : Value) : Prop := w.heap[d]? = some (.cells #[.string s0, .string s1, .string s2, v3] 58 (0, 0))
section
variable {w : World} {d : Nat} {s0 s1 s2 : ByteArray} {v3 : Value}
theorem Req.c3 (h : Req w d s0 s1 s2 v3) : w.cell? ⟨d, 3, none⟩ = some v3 := cell_of h 3 rfl
theorem Req.set0 (h : Req w d s0 s1 s2 v3) (s : ByteArray) : Req (w.setCell ⟨d, 0, none⟩ (.string s)) d s s1 s2 v3 := set_block h 0 _
theorem Req.set1 (h : Req w d s0 s1 s2 v3) (s : ByteArray) : Req (w.setCell ⟨d, 1, none⟩ (.string s)) d s0 s s2 v3 := set_block h 1 _
theorem Req.set2 (h : Req w d s0 s1 s2 v3) (s : ByteArray) : Req (w.setCell ⟨d, 2, none⟩ (.string s)) d s0 s1 s v3 := set_block h 2 _
theorem Req.set3 (h : Req w d s0 s1 s2 v3) (v : Value) : Req (w.setCell ⟨d, 3, none⟩ v) d s0 s1 s2 v := set_block h 3 _
end
/-- The line at the reader: its length in four digits, and its bytes. -/
structure LineAt (w : World) (g : Nat) (A : Addr) (n cap : Nat) (ys : List UInt8) : Prop where
  rdr : Rdr w g A n cap 0 (-1)
  len : n = 4 + ys.length
  cap_ : n ≤ cap
  A2 : A.block ≠ g
  hex : ∀ j v, (([hexc ((ys.length + 4) / 4096 % 16), hexc ((ys.length + 4) / 256 % 16), hexc ((ys.length + 4) / 16 % 16), hexc ((ys.length + 4) % 16)] : List Int).map (Value.int .u8))[j]? = some v → w.cell? (A.add j) = some v
  src : ∀ j v, (vals ys)[j]? = some v → w.cell? (A.add (4 + j)) = some v
  pos : 0 < ys.length
  few : ys.length ≤ 1000
  noErr : ys.take 4 ≠ errBytes

theorem scan_line {w : World} {g : Nat} {A : Addr} {n cap : Nat} {ys : List UInt8} {a1 : Addr} (h : LineAt w g A n cap ys) (he : w.cell? ⟨1, 0, none⟩ = some (.iface 170 (.pointer (some a1)))) (hg1 : 1 ≠ g) :
    Calls Tryd.prog 48 #[.pointer (some ⟨w.heap.size, 0, none⟩)] (w.alloc (.cells #[.iface 62 (.pointer (some ⟨g, 0, none⟩)), .nilIface, .slice none 0 0, .int .u8 0, .int .u8 0, .int .u8 0, .int .u8 0] 113)) fun e w' => e = .returned (.bool true) ∧ ∃ pb, w.heap.size < pb ∧ (∃ y0 y1 y2 y3, Scn w' w.heap.size g .nilIface (.slice (some ⟨pb, 0, none⟩) ys.length ys.length) y0 y1 y2 y3) ∧ w'.heap[pb]? = some (.cells (vals ys).toArray 5 (0, 0)) ∧ Keep w w' (fun k => k = g) := by
  have hgl := lt_of_block h.rdr
  have h1l : 1 < w.heap.size := World.block_lt_of_cell? w _ he
  have hAl : A.block < w.heap.size := by
    have := World.block_lt_of_cell? w _ (h.hex 0 _ rfl)
    rwa [add_block] at this
  have cellk : ∀ {a : Addr} {v : Value} (o : Obj), w.cell? a = some v → (w.alloc o).cell? a = some v := fun o hc => (below_alloc (Below.refl w.heap.size w) o).cell (World.block_lt_of_cell? w _ hc) |>.trans hc
  have := scan_some (w := w.alloc (.cells #[.iface 62 (.pointer (some ⟨g, 0, none⟩)), .nilIface, .slice none 0 0, .int .u8 0, .int .u8 0, .int .u8 0, .int .u8 0] 113)) (g := g) (A := A) (n := n) (cap := cap) (i := 0) (pr := -1) (q := w.heap.size) (x0 := 0) (x1 := 0) (x2 := 0) (x3 := 0) (te := 170) (a1 := a1) ys
    ⟨alloc_old h.rdr _, heap_alloc_new w _, by omega, by omega, h.A2, fun j v hv => by rw [Nat.zero_add]; exact cellk _ (h.hex j v hv), rfl, (by
      intro v hv
      simp only [List.mem_cons, List.not_mem_nil, or_false] at hv
      rcases hv with rfl | rfl | rfl | rfl <;> rfl), by omega, by have := h.len; omega, h.cap_, by have := h.len; have := h.few; omega, by simp, by omega⟩
    (hexc_ok (by omega)) (hexc_ok (by omega)) (hexc_ok (by omega)) (hexc_ok (by omega)) (by have := h.few; omega) h.pos (by have := h.few; omega)
    (fun j v hv => by rw [Nat.zero_add]; exact cellk _ (h.src j v hv)) (by have := h.len; omega) h.noErr (cellk _ he) hg1 (by omega)
  refine this.mono fun e w' ⟨h1, pb, h2, h3, h4, h5, h6⟩ => ⟨h1, pb, ?_, ⟨_, _, _, _, h4⟩, h5, ?_⟩
  · have : (w.alloc (.cells #[.iface 62 (.pointer (some ⟨g, 0, none⟩)), .nilIface, .slice none 0 0, .int .u8 0, .int .u8 0, .int .u8 0, .int .u8 0] 113)).heap.size = w.heap.size + 1 := by show (w.heap.push _).size = _; simp
    omega
  · have k1 : Keep w (w.alloc (.cells #[.iface 62 (.pointer (some ⟨g, 0, none⟩)), .nilIface, .slice none 0 0, .int .u8 0, .int .u8 0, .int .u8 0, .int .u8 0] 113)) (fun k => k = g) := (Keep.refl w _).alloc _
    exact k1.trans h6 (fun k hk hf => hf.elim id (fun e => by omega))
end Go.Proofs.YtbgimkjodpjnfaaDoor.Proto
