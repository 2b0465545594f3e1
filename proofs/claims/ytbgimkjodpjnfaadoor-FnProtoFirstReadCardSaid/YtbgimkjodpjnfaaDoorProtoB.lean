/- io.ReadAtLeast and io.ReadFull over a bytes.Reader. -/
import Derived.Test.YtbgimkjodpjnfaaDoorProtoA
namespace Go.Proofs.YtbgimkjodpjnfaaDoor.Proto
open Go.RowKit Go.Proofs.YtbgimkjodpjnfaaDoorW.PrintWords Go.Proofs.YtbgimkjodpjnfaaDoorW.PrintLast Go.Proofs.YtbgimkjodpjnfaaDoorW.PrintMore

/-- What is asked of the reader and of the slice to be filled. -/
structure Ask (w : World) (g : Nat) (A : Addr) (n cap i : Nat) (pr : Int) (b o m c : Nat) (cur : List Value) (t : TypeId) (xs : List Value) : Prop where
  rdr : Rdr w g A n cap i pr
  blk : w.heap[b]? = some (.cells cur.toArray t (0, 0))
  ne : b ≠ g
  A1 : A.block ≠ b
  A2 : A.block ≠ g
  src : ∀ j v, xs[j]? = some v → w.cell? (A.add (i + j)) = some v
  len : xs.length = m
  one : ∀ v ∈ xs, v.oneCell' = true
  pos : 0 < m
  fits : i + m ≤ n
  ncap : n ≤ cap
  capl : n ≤ 140737488355328
  room : o + m ≤ cur.length
  mc : m ≤ c
/-- What is there when it is filled. -/
structure Got (w : World) (g : Nat) (A : Addr) (n cap i : Nat) (b o m : Nat) (cur : List Value) (t : TypeId) (xs : List Value) (w' : World) : Prop where
  rdr : Rdr w' g A n cap (i + m) (-1)
  blk : w'.heap[b]? = some (.cells (splice cur o xs).toArray t (0, 0))
  keep : Keep w w' (fun k => k = g ∨ k = b)

theorem drawn_trans {a b c : World} (h : Drawn0 a b) (k : Drawn0 b c) : Drawn0 a c := by
  obtain ⟨n, rfl⟩ := h.out
  obtain ⟨m, rfl⟩ := k.out
  exact ⟨⟨n + m, by rw [World.drewN_drewN]⟩⟩
set_option maxHeartbeats 4000000 in
set_option maxRecDepth 100000 in
theorem readAtLeast_calls {w : World} {g : Nat} {A : Addr} {n cap i : Nat} {pr : Int} {b o m c : Nat} {cur : List Value} {t : TypeId} {xs : List Value} (h : Ask w g A n cap i pr b o m c cur t xs) :
    Calls Tryd.prog 75 #[.iface 62 (.pointer (some ⟨g, 0, none⟩)), .slice (some ⟨b, o, none⟩) m c, .int .i64 m] w fun e w' => e = .returned (.tuple #[.int .i64 m, .nilIface]) ∧ Got w g A n cap i b o m cur t xs w' := by
  have H := Aside0.mk h
  have HC : Aside0 (∀ k, Calls Tryd.prog 112 #[.pointer (some ⟨g, 0, none⟩), .slice (some ⟨b, o, none⟩) m c] (w.drewN k) fun e w' => e = .returned (.tuple #[.int .i64 m, .nilIface]) ∧ Got w g A n cap i b o m cur t xs w') := ⟨fun k => (read_calls g A n cap i pr b o m c cur t xs (w.drewN k) h.rdr h.blk h.ne h.A1 h.A2 h.src h.len h.one h.pos h.fits h.ncap h.capl h.room h.mc).mono fun e w' ⟨h1, h2, h3, h4⟩ => ⟨h1, h2, h3, ⟨h4.os, h4.tape, h4.output, h4.size, h4.block⟩⟩⟩
  have hpos := h.pos
  have hml : m ≤ 140737488355328 := by have := h.fits; have := h.ncap; have := h.capl; omega
  have d1 : decide (m < m) = false := by simp
  have d2 : decide (0 < m) = true := by simp; omega
  have d3 : decide (m ≤ m) = true := by simp
  have hna : ∀ (x : Addr) (W : World), (nilAhead 301 62 (.pointer (some x)) "Read").run Tryd.prog W = .ok (some false) W := fun _ _ => by kernel_rfl
  have hme : ∀ (x : Addr) (W : World), (method 301 62 (.pointer (some x)) "Read").run Tryd.prog W = .ok (112, .pointer (some x)) W := fun _ _ => by kernel_rfl
  clear h
  go_enter Tryd.func75, Tryd.ntmps75
  go_wp2_with fail
  go_loopg [6, 7, 8] 1 (fun kq v6 v7 v8 w' => (Aside0 (kq = 1) ∧ v6 = .int .i64 0 ∧ v7 = .nilIface ∧ w' = w) ∨ (v6 = .int .i64 m ∧ v7 = .nilIface ∧ Aside0 (Got w g A n cap i b o m cur t xs w')))
  case atStart => exact .inl ⟨⟨rfl⟩, rfl, rfl, rfl⟩
  case round =>
    rcases hrel with ⟨HK, rfl, rfl, hww⟩ | ⟨rfl, rfl, HG⟩
    · subst hww
      go_wp2_with fail
      go_region_held3 (fun _ => True) (exact trivial) ((go_at_call 112; refine (HC.out _).mono ?_; rintro e w2 ⟨rfl, hg2⟩; have HG2 := Aside0.mk hg2; clear hg2))
      go_wp2_with fail
      obtain rfl : gk = 1 := HK.out
      go_roundg 0
      case measure => omega
      case rel => exact .inr ⟨rfl, rfl, HG2⟩
    · go_wp2_with fail
      go_ret2
      exact ⟨rfl, HG.out⟩

set_option maxHeartbeats 4000000 in
set_option maxRecDepth 100000 in
theorem readFull_calls {w : World} {g : Nat} {A : Addr} {n cap i : Nat} {pr : Int} {b o m c : Nat} {cur : List Value} {t : TypeId} {xs : List Value} (h : Ask w g A n cap i pr b o m c cur t xs) :
    Calls Tryd.prog 64 #[.iface 62 (.pointer (some ⟨g, 0, none⟩)), .slice (some ⟨b, o, none⟩) m c] w fun e w' => e = .returned (.tuple #[.int .i64 m, .nilIface]) ∧ Got w g A n cap i b o m cur t xs w' := by
  have H := Aside0.mk h
  clear h
  go_enter Tryd.func64, Tryd.ntmps64
  go_wp2_with (go_at_call 75; refine (readAtLeast_calls H.out).mono ?_; rintro e w2 ⟨rfl, hg2⟩; have HG2 := Aside0.mk hg2; clear hg2)
  go_ret2
  exact ⟨rfl, HG2.out⟩

set_option maxHeartbeats 4000000 in
set_option maxRecDepth 100000 in
/-- At the end: nothing, and the error of the reader. -/
theorem readAtLeast_end (g : Nat) (A : Addr) (n cap : Nat) (pr : Int) (b : Addr) (m c : Nat) (te : TypeId) (q : Addr) (w : World) (hr : Rdr w g A n cap n pr) (he : w.cell? ⟨1, 0, none⟩ = some (.iface te (.pointer (some q)))) (hm : 0 < m) (hml : m ≤ 140737488355328) :
    Calls Tryd.prog 75 #[.iface 62 (.pointer (some ⟨g, 0, none⟩)), .slice (some b) m c, .int .i64 m] w fun e w' => e = .returned (.tuple #[.int .i64 0, .iface te (.pointer (some q))]) ∧ Drawn0 w w' := by
  have HC : Aside0 (∀ (k : Nat) (v : Value), Calls Tryd.prog 112 #[.pointer (some ⟨g, 0, none⟩), v] (w.drewN k) fun e w' => e = .returned (.tuple #[.int .i64 0, .iface te (.pointer (some q))]) ∧ Drawn0 (w.drewN k) w') := ⟨fun k v => read_end g A n cap pr v _ (w.drewN k) hr he⟩
  have d1 : decide (m < m) = false := by simp
  have d2 : decide (0 < m) = true := by simp; omega
  have d3 : decide (m ≤ 0) = false := by simp; omega
  have hna : ∀ (x : Addr) (W : World), (nilAhead 301 62 (.pointer (some x)) "Read").run Tryd.prog W = .ok (some false) W := fun _ _ => by kernel_rfl
  have hme : ∀ (x : Addr) (W : World), (method 301 62 (.pointer (some x)) "Read").run Tryd.prog W = .ok (112, .pointer (some x)) W := fun _ _ => by kernel_rfl
  clear hr he
  go_enter Tryd.func75, Tryd.ntmps75
  go_wp2_with fail
  go_loopg [6, 7, 8] 1 (fun kq v6 v7 v8 w' => (Aside0 (kq = 1) ∧ v6 = .int .i64 0 ∧ v7 = .nilIface ∧ w' = w) ∨ (v6 = .int .i64 0 ∧ v7 = .iface te (.pointer (some q)) ∧ Aside0 (Drawn0 w w')))
  case atStart => exact .inl ⟨⟨rfl⟩, rfl, rfl, rfl⟩
  case round =>
    rcases hrel with ⟨HK, rfl, rfl, hww⟩ | ⟨rfl, rfl, HG⟩
    · subst hww
      go_wp2_with fail
      go_region_held3 (fun _ => True) (exact trivial) ((go_at_call 112; refine (HC.out _ _).mono ?_; rintro e w2 ⟨rfl, hg2⟩; have HG2 : Aside0 (Drawn0 wr w2) := ⟨(drawn_trans ⟨⟨_, rfl⟩⟩ hg2)⟩; clear hg2))
      go_wp2_with fail
      obtain rfl : gk = 1 := HK.out
      go_roundg 0
      case measure => omega
      case rel => exact .inr ⟨rfl, rfl, HG2⟩
    · go_wp2_with fail
      go_ret2
      exact ⟨rfl, HG.out⟩
set_option maxHeartbeats 4000000 in
set_option maxRecDepth 100000 in
theorem readFull_end (g : Nat) (A : Addr) (n cap : Nat) (pr : Int) (b : Addr) (m c : Nat) (te : TypeId) (q : Addr) (w : World) (hr : Rdr w g A n cap n pr) (he : w.cell? ⟨1, 0, none⟩ = some (.iface te (.pointer (some q)))) (hm : 0 < m) (hml : m ≤ 140737488355328) :
    Calls Tryd.prog 64 #[.iface 62 (.pointer (some ⟨g, 0, none⟩)), .slice (some b) m c] w fun e w' => e = .returned (.tuple #[.int .i64 0, .iface te (.pointer (some q))]) ∧ Drawn0 w w' := by
  have H := Aside0.mk (readAtLeast_end g A n cap pr b m c te q w hr he hm hml)
  clear hr he
  go_enter Tryd.func64, Tryd.ntmps64
  go_wp2_with (go_at_call 75; refine H.out.mono ?_; rintro e w2 ⟨rfl, hg2⟩; have HG2 := Aside0.mk hg2; clear hg2)
  go_ret2
  exact ⟨rfl, HG2.out⟩
end Go.Proofs.YtbgimkjodpjnfaaDoor.Proto
