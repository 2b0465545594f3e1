/- io.ReadAtLeast and io.ReadFull over a reader of which one call of Read gives all that is asked; and over a bytes.Reader at its end. -/
import Derived.Test.YtomdhahnfejfpaaDoorNA
namespace Go.Proofs.YtomdhahnfejfpaaDoor.Proto
open Go.RowKit Go.Proofs.YtomdhahnfejfpaaDoorW.PrintWords Go.Proofs.YtomdhahnfejfpaaDoorW.PrintLast Go.Proofs.YtomdhahnfejfpaaDoorW.PrintMore
theorem drawn_trans {a b c : World} (h : Drawn0 a b) (k : Drawn0 b c) : Drawn0 a c := by
  obtain ⟨n, rfl⟩ := h.out
  obtain ⟨m, rfl⟩ := k.out
  exact ⟨⟨n + m, by rw [World.drewN_drewN]⟩⟩

set_option maxHeartbeats 4000000 in
set_option maxRecDepth 100000 in
theorem readAtLeast_bytes {w : World} {rp : Addr} {bp : Addr} {m c : Nat} {R : World → Prop} (hm : 0 < m) (hml : m ≤ 140737488355328)
    (h : ∀ k, Calls Tryd.prog 78 #[.pointer (some rp), .slice (some bp) m c] (w.drewN k) fun e w' => e = .returned (.tuple #[.int .i64 m, .nilIface]) ∧ R w') :
    Calls Tryd.prog 30 #[.iface 42 (.pointer (some rp)), .slice (some bp) m c, .int .i64 m] w fun e w' => e = .returned (.tuple #[.int .i64 m, .nilIface]) ∧ R w' := by
  have HC := Aside0.mk h
  have d1 : decide (m < m) = false := by simp
  have d2 : decide (0 < m) = true := by simp; omega
  have d3 : decide (m ≤ m) = true := by simp
  have hna : ∀ (x : Addr) (W : World), (nilAhead 245 42 (.pointer (some x)) "Read").run Tryd.prog W = .ok (some false) W := fun _ _ => by kernel_rfl
  have hme : ∀ (x : Addr) (W : World), (method 245 42 (.pointer (some x)) "Read").run Tryd.prog W = .ok (78, .pointer (some x)) W := fun _ _ => by kernel_rfl
  clear h
  go_enter Tryd.func30, Tryd.ntmps30
  go_wp2_with fail
  go_loopg [6, 7, 8] 1 (fun kq v6 v7 v8 w' => (Aside0 (kq = 1) ∧ v6 = .int .i64 0 ∧ v7 = .nilIface ∧ w' = w) ∨ (v6 = .int .i64 m ∧ v7 = .nilIface ∧ Aside0 (R w')))
  case atStart => exact .inl ⟨⟨rfl⟩, rfl, rfl, rfl⟩
  case round =>
    rcases hrel with ⟨HK, rfl, rfl, hww⟩ | ⟨rfl, rfl, HG⟩
    · subst hww
      go_wp2_with fail
      go_region_held3 (fun _ => True) (exact trivial) ((go_at_call 78; refine (HC.out _).mono ?_; rintro e w2 ⟨rfl, hg2⟩; have HG2 := Aside0.mk hg2; clear hg2))
      go_wp2_with fail
      obtain rfl : gk = 1 := HK.out
      go_roundg 0
      case measure => omega
      case rel => exact .inr ⟨rfl, rfl, HG2⟩
    · go_wp2_with fail
      go_ret2
      exact ⟨rfl, HG.out⟩
set_option maxHeartbeats 4000000 in
set_option maxRecDepth 100000 in
theorem readFull_bytes {w : World} {rp : Addr} {bp : Addr} {m c : Nat} {R : World → Prop} (hm : 0 < m) (hml : m ≤ 140737488355328)
    (h : ∀ k, Calls Tryd.prog 78 #[.pointer (some rp), .slice (some bp) m c] (w.drewN k) fun e w' => e = .returned (.tuple #[.int .i64 m, .nilIface]) ∧ R w') :
    Calls Tryd.prog 21 #[.iface 42 (.pointer (some rp)), .slice (some bp) m c] w fun e w' => e = .returned (.tuple #[.int .i64 m, .nilIface]) ∧ R w' := by
  have H := Aside0.mk (readAtLeast_bytes hm hml h)
  clear h
  go_enter Tryd.func21, Tryd.ntmps21
  go_wp2_with (go_at_call 30; refine H.out.mono ?_; rintro e w2 ⟨rfl, hg2⟩; have HG2 := Aside0.mk hg2; clear hg2)
  go_ret2
  exact ⟨rfl, HG2.out⟩

set_option maxHeartbeats 4000000 in
set_option maxRecDepth 100000 in
theorem readAtLeast_bufio {w : World} {rp : Addr} {bp : Addr} {m c : Nat} {R : World → Prop} (hm : 0 < m) (hml : m ≤ 140737488355328)
    (h : ∀ k, Calls Tryd.prog 79 #[.pointer (some rp), .slice (some bp) m c] (w.drewN k) fun e w' => e = .returned (.tuple #[.int .i64 m, .nilIface]) ∧ R w') :
    Calls Tryd.prog 30 #[.iface 49 (.pointer (some rp)), .slice (some bp) m c, .int .i64 m] w fun e w' => e = .returned (.tuple #[.int .i64 m, .nilIface]) ∧ R w' := by
  have HC := Aside0.mk h
  have d1 : decide (m < m) = false := by simp
  have d2 : decide (0 < m) = true := by simp; omega
  have d3 : decide (m ≤ m) = true := by simp
  have hna : ∀ (x : Addr) (W : World), (nilAhead 245 49 (.pointer (some x)) "Read").run Tryd.prog W = .ok (some false) W := fun _ _ => by kernel_rfl
  have hme : ∀ (x : Addr) (W : World), (method 245 49 (.pointer (some x)) "Read").run Tryd.prog W = .ok (79, .pointer (some x)) W := fun _ _ => by kernel_rfl
  clear h
  go_enter Tryd.func30, Tryd.ntmps30
  go_wp2_with fail
  go_loopg [6, 7, 8] 1 (fun kq v6 v7 v8 w' => (Aside0 (kq = 1) ∧ v6 = .int .i64 0 ∧ v7 = .nilIface ∧ w' = w) ∨ (v6 = .int .i64 m ∧ v7 = .nilIface ∧ Aside0 (R w')))
  case atStart => exact .inl ⟨⟨rfl⟩, rfl, rfl, rfl⟩
  case round =>
    rcases hrel with ⟨HK, rfl, rfl, hww⟩ | ⟨rfl, rfl, HG⟩
    · subst hww
      go_wp2_with fail
      go_region_held3 (fun _ => True) (exact trivial) ((go_at_call 79; refine (HC.out _).mono ?_; rintro e w2 ⟨rfl, hg2⟩; have HG2 := Aside0.mk hg2; clear hg2))
      go_wp2_with fail
      obtain rfl : gk = 1 := HK.out
      go_roundg 0
      case measure => omega
      case rel => exact .inr ⟨rfl, rfl, HG2⟩
    · go_wp2_with fail
      go_ret2
      exact ⟨rfl, HG.out⟩
set_option maxHeartbeats 4000000 in
set_option maxRecDepth 100000 in
theorem readFull_bufio {w : World} {rp : Addr} {bp : Addr} {m c : Nat} {R : World → Prop} (hm : 0 < m) (hml : m ≤ 140737488355328)
    (h : ∀ k, Calls Tryd.prog 79 #[.pointer (some rp), .slice (some bp) m c] (w.drewN k) fun e w' => e = .returned (.tuple #[.int .i64 m, .nilIface]) ∧ R w') :
    Calls Tryd.prog 21 #[.iface 49 (.pointer (some rp)), .slice (some bp) m c] w fun e w' => e = .returned (.tuple #[.int .i64 m, .nilIface]) ∧ R w' := by
  have H := Aside0.mk (readAtLeast_bufio hm hml h)
  clear h
  go_enter Tryd.func21, Tryd.ntmps21
  go_wp2_with (go_at_call 30; refine H.out.mono ?_; rintro e w2 ⟨rfl, hg2⟩; have HG2 := Aside0.mk hg2; clear hg2)
  go_ret2
  exact ⟨rfl, HG2.out⟩
set_option maxHeartbeats 4000000 in
set_option maxRecDepth 100000 in
/-- At the end: nothing, and the error of the reader. -/
theorem readAtLeast_end (g : Nat) (A : Addr) (n cap : Nat) (pr : Int) (b : Addr) (m c : Nat) (te : TypeId) (q : Addr) (w : World) (hr : Rdr w g A n cap n pr) (he : w.cell? ⟨0, 0, none⟩ = some (.iface te (.pointer (some q)))) (hm : 0 < m) (hml : m ≤ 140737488355328) :
    Calls Tryd.prog 30 #[.iface 42 (.pointer (some ⟨g, 0, none⟩)), .slice (some b) m c, .int .i64 m] w fun e w' => e = .returned (.tuple #[.int .i64 0, .iface te (.pointer (some q))]) ∧ Drawn0 w w' := by
  have HC : Aside0 (∀ (k : Nat) (v : Value), Calls Tryd.prog 78 #[.pointer (some ⟨g, 0, none⟩), v] (w.drewN k) fun e w' => e = .returned (.tuple #[.int .i64 0, .iface te (.pointer (some q))]) ∧ Drawn0 (w.drewN k) w') := ⟨fun k v => read_end g A n cap pr v _ (w.drewN k) hr he⟩
  have d1 : decide (m < m) = false := by simp
  have d2 : decide (0 < m) = true := by simp; omega
  have d3 : decide (m ≤ 0) = false := by simp; omega
  have hna : ∀ (x : Addr) (W : World), (nilAhead 245 42 (.pointer (some x)) "Read").run Tryd.prog W = .ok (some false) W := fun _ _ => by kernel_rfl
  have hme : ∀ (x : Addr) (W : World), (method 245 42 (.pointer (some x)) "Read").run Tryd.prog W = .ok (78, .pointer (some x)) W := fun _ _ => by kernel_rfl
  clear hr he
  go_enter Tryd.func30, Tryd.ntmps30
  go_wp2_with fail
  go_loopg [6, 7, 8] 1 (fun kq v6 v7 v8 w' => (Aside0 (kq = 1) ∧ v6 = .int .i64 0 ∧ v7 = .nilIface ∧ w' = w) ∨ (v6 = .int .i64 0 ∧ v7 = .iface te (.pointer (some q)) ∧ Aside0 (Drawn0 w w')))
  case atStart => exact .inl ⟨⟨rfl⟩, rfl, rfl, rfl⟩
  case round =>
    rcases hrel with ⟨HK, rfl, rfl, hww⟩ | ⟨rfl, rfl, HG⟩
    · subst hww
      go_wp2_with fail
      go_region_held3 (fun _ => True) (exact trivial) ((go_at_call 78; refine (HC.out _ _).mono ?_; rintro e w2 ⟨rfl, hg2⟩; have HG2 : Aside0 (Drawn0 wr w2) := ⟨(drawn_trans ⟨⟨_, rfl⟩⟩ hg2)⟩; clear hg2))
      go_wp2_with fail
      obtain rfl : gk = 1 := HK.out
      go_roundg 0
      case measure => omega
      case rel => exact .inr ⟨rfl, rfl, HG2⟩
    · go_wp2_with fail
      go_ret2
      exact ⟨rfl, HG.out⟩
set_option maxHeartbeats 4000000 in
set_option maxRecDepth 100000 in
theorem readFull_end (g : Nat) (A : Addr) (n cap : Nat) (pr : Int) (b : Addr) (m c : Nat) (te : TypeId) (q : Addr) (w : World) (hr : Rdr w g A n cap n pr) (he : w.cell? ⟨0, 0, none⟩ = some (.iface te (.pointer (some q)))) (hm : 0 < m) (hml : m ≤ 140737488355328) :
    Calls Tryd.prog 21 #[.iface 42 (.pointer (some ⟨g, 0, none⟩)), .slice (some b) m c] w fun e w' => e = .returned (.tuple #[.int .i64 0, .iface te (.pointer (some q))]) ∧ Drawn0 w w' := by
  have H := Aside0.mk (readAtLeast_end g A n cap pr b m c te q w hr he hm hml)
  clear hr he
  go_enter Tryd.func21, Tryd.ntmps21
  go_wp2_with (go_at_call 30; refine H.out.mono ?_; rintro e w2 ⟨rfl, hg2⟩; have HG2 := Aside0.mk hg2; clear hg2)
  go_ret2
  exact ⟨rfl, HG2.out⟩
end Go.Proofs.YtomdhahnfejfpaaDoor.Proto
