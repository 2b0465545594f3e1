/- Digits in base 16; the length of a packet line; the prefix of an error line. -/
import Derived.Test.YtomdhahnfejfpaaDoorND
import Derived.Test.YtomdhahnfejfpaaDoorNakP
import Derived.Lib.SlBytesConst
import Derived.Lib.LazyBuf
namespace Go.Proofs.YtomdhahnfejfpaaDoor.Proto
open Go.RowKit Go.Proofs.YtomdhahnfejfpaaDoorW.PrintWords Go.Proofs.YtomdhahnfejfpaaDoorW.PrintLast Go.Proofs.YtomdhahnfejfpaaDoorW.PrintMore Go.Proofs.YtomdhahnfejfpaaDoor.PFnProtoNak

/-- b is the digit of d: 0 to 9, or a to f. -/
def HexD (b d : Int) : Prop := (48 ≤ b ∧ b ≤ 57 ∧ d = b - 48) ∨ (97 ≤ b ∧ b ≤ 102 ∧ d = b - 87)
set_option maxHeartbeats 1000000 in
set_option maxRecDepth 100000 in
theorem hexByte_calls (b d : Int) (w : World) (h : HexD b d) : Calls Tryd.prog 44 #[.int .u8 b] w fun e w' => e = .returned (.tuple #[.int .u8 d, .nilIface]) ∧ w = w' := by
  rcases h with ⟨h1, h2, rfl⟩ | ⟨h1, h2, rfl⟩
  · have d1 : decide (48 ≤ b) = true := by simpa using h1
    have d2 : decide (b ≤ 57) = true := by simpa using h2
    go_enter Tryd.func44, Tryd.ntmps44
    go_wp2_with fail
    go_ret2
    refine ⟨?_, rfl⟩
    go_num
  · have d1 : decide (48 ≤ b) = true := by simp; omega
    have d2 : decide (b ≤ 57) = false := by simp; omega
    have d3 : decide (97 ≤ b) = true := by simpa using h1
    have d4 : decide (b ≤ 102) = true := by simpa using h2
    go_enter Tryd.func44, Tryd.ntmps44
    go_wp2_with fail
    go_ret2
    refine ⟨?_, rfl⟩
    go_num

set_option maxHeartbeats 1000000 in
set_option maxRecDepth 100000 in
theorem errPrefix_calls (w : World) : Calls Tryd.prog 23 #[] w fun e w' => e = .returned (.slice (some ⟨w.heap.size, 0, none⟩) 4 4) ∧ w' = w.alloc (.cells #[.int .u8 69, .int .u8 82, .int .u8 82, .int .u8 32] 5 (4, 5)) := by
  have kc := fun (w : World) (C : Array Value) (n c : Nat) => Lib.run_convert_bytes_const (P := Tryd.prog) w 22 5 C n c Tryd.underlying22 Tryd.underlying5
  go_enter Tryd.func23, Tryd.ntmps23
  go_wp2_with fail
  go_ret
  exact ⟨rfl, rfl⟩
set_option maxHeartbeats 4000000 in
set_option maxRecDepth 100000 in
theorem hexDecode_calls (b0 b1 b2 b3 d0 d1 d2 d3 : Int) (w : World) (h0 : HexD b0 d0) (h1 : HexD b1 d1) (h2 : HexD b2 d2) (h3 : HexD b3 d3) :
    Calls Tryd.prog 29 #[.agg #[.int .u8 b0, .int .u8 b1, .int .u8 b2, .int .u8 b3]] w fun e w' => e = .returned (.tuple #[.int .i64 (16 * (16 * (16 * d0 + d1) + d2) + d3), .nilIface]) ∧ w' = w.alloc (.cells #[.int .u8 b0, .int .u8 b1, .int .u8 b2, .int .u8 b3] 56) := by
  have r0 : 0 ≤ d0 ∧ d0 ≤ 15 := by rcases h0 with h | h <;> omega
  have r1 : 0 ≤ d1 ∧ d1 ≤ 15 := by rcases h1 with h | h <;> omega
  have r2 : 0 ≤ d2 ∧ d2 ≤ 15 := by rcases h2 with h | h <;> omega
  have r3 : 0 ≤ d3 ∧ d3 ≤ 15 := by rcases h3 with h | h <;> omega
  have R := Aside0.mk (And.intro r0 (And.intro r1 (And.intro r2 r3)))
  have C0 := Aside0.mk (fun w => hexByte_calls b0 d0 w h0)
  have C1 := Aside0.mk (fun w => hexByte_calls b1 d1 w h1)
  have C2 := Aside0.mk (fun w => hexByte_calls b2 d2 w h2)
  have C3 := Aside0.mk (fun w => hexByte_calls b3 d3 w h3)
  obtain ⟨x1, hx1⟩ : ∃ x, x = 16 * d0 + d1 := ⟨_, rfl⟩
  obtain ⟨x2, hx2⟩ : ∃ x, x = 16 * x1 + d2 := ⟨_, rfl⟩
  obtain ⟨x3, hx3⟩ : ∃ x, x = 16 * x2 + d3 := ⟨_, rfl⟩
  rw [← hx1, ← hx2, ← hx3]
  have X := Aside0.mk (And.intro hx1 (And.intro hx2 hx3))
  clear h0 h1 h2 h3 r0 r1 r2 r3 hx1 hx2 hx3
  go_enter Tryd.func29, Tryd.ntmps29
  go_wp2_with fail
  go_loopg [4, 5] 4 (fun kq v4 v5 w' => Aside0 (w' = w.alloc (.cells #[.int .u8 b0, .int .u8 b1, .int .u8 b2, .int .u8 b3] 56)) ∧ ((kq = 4 ∧ v4 = .int .i64 0 ∧ v5 = .int .i64 0) ∨ (kq = 3 ∧ v4 = .int .i64 d0 ∧ v5 = .int .i64 1) ∨ (kq = 2 ∧ v4 = .int .i64 x1 ∧ v5 = .int .i64 2) ∨ (kq = 1 ∧ v4 = .int .i64 x2 ∧ v5 = .int .i64 3) ∨ (kq = 0 ∧ v4 = .int .i64 x3 ∧ v5 = .int .i64 4)))
  case atStart => exact ⟨⟨rfl⟩, .inl ⟨rfl, rfl, rfl⟩⟩
  case round =>
    obtain ⟨HW, hrel⟩ := hrel
    have hw := HW.out
    subst hw
    rcases hrel with ⟨rfl, rfl, rfl⟩ | ⟨rfl, rfl, rfl⟩ | ⟨rfl, rfl, rfl⟩ | ⟨rfl, rfl, rfl⟩ | ⟨rfl, rfl, rfl⟩
    · go_wp2_with (go_at_call 44; refine (C0.out _).mono ?_; rintro e w2 ⟨rfl, rfl⟩)
      go_roundg 3
      case measure => omega
      case rel => exact ⟨⟨rfl⟩, .inr (.inl ⟨rfl, by have := R.out; congr 1; unfold wrap64; omega, rfl⟩)⟩
    · go_wp2_with (go_at_call 44; refine (C1.out _).mono ?_; rintro e w2 ⟨rfl, rfl⟩)
      go_roundg 2
      case measure => omega
      case rel => exact ⟨⟨rfl⟩, .inr (.inr (.inl ⟨rfl, by have := R.out; have := X.out; congr 1; unfold wrap64; omega, rfl⟩))⟩
    · go_wp2_with (go_at_call 44; refine (C2.out _).mono ?_; rintro e w2 ⟨rfl, rfl⟩)
      go_roundg 1
      case measure => omega
      case rel => exact ⟨⟨rfl⟩, .inr (.inr (.inr (.inl ⟨rfl, by have := R.out; have := X.out; congr 1; unfold wrap64; omega, rfl⟩)))⟩
    · go_wp2_with (go_at_call 44; refine (C3.out _).mono ?_; rintro e w2 ⟨rfl, rfl⟩)
      go_roundg 0
      case measure => omega
      case rel => exact ⟨⟨rfl⟩, .inr (.inr (.inr (.inr ⟨rfl, by have := R.out; have := X.out; congr 1; unfold wrap64; omega, rfl⟩)))⟩
    · go_wp2_with fail
      go_ret2
      exact ⟨rfl, rfl⟩
/-- '==' tells the two errors apart, here and behind draws. -/
def NeErr (w : World) (x y : Value) : Prop := ∀ m, (binOp .eql 35 x y).run Tryd.prog (w.drewN m) = .ok (.bool false) (w.drewN m)
theorem NeErr.at_ {w w1 : World} {x y : Value} (h : NeErr w x y) (hd : Drawn0 w w1) : (binOp .eql 35 x y).run Tryd.prog w1 = .ok (.bool false) w1 := by
  obtain ⟨m, rfl⟩ := hd.out
  exact h m
set_option maxHeartbeats 4000000 in
set_option maxRecDepth 100000 in
theorem payloadLen_gen {w : World} {q : Nat} {rv ev pv : Value} {x0 x1 x2 x3 b0 b1 b2 b3 d0 d1 d2 d3 : Int} (N : Int) {R : World → Prop}
    (hblk : w.heap[q]? = some (.cells #[rv, ev, pv, .int .u8 x0, .int .u8 x1, .int .u8 x2, .int .u8 x3] 58 (0, 0)))
    (hR : ∀ k, Calls Tryd.prog 21 #[rv, .slice (some ⟨q, 3, none⟩) 4 4] (w.drewN k) fun e w' => e = .returned (.tuple #[.int .i64 4, .nilIface]) ∧ w'.heap[q]? = some (.cells #[rv, ev, pv, .int .u8 b0, .int .u8 b1, .int .u8 b2, .int .u8 b3] 58 (0, 0)) ∧ R w')
    (hRa : ∀ w' o, R w' → R (w'.alloc o))
    (h0 : HexD b0 d0) (h1 : HexD b1 d1) (h2 : HexD b2 d2) (h3 : HexD b3 d3) (hN : N = 16 * (16 * (16 * d0 + d1) + d2) + d3) (hN1 : 4 < N) (hN2 : N ≤ 65524) :
    Calls Tryd.prog 20 #[.pointer (some ⟨q, 0, none⟩)] w fun e w' => e = .returned (.tuple #[.int .i64 (N - 4), .nilIface]) ∧ w'.heap[q]? = some (.cells #[rv, ev, pv, .int .u8 b0, .int .u8 b1, .int .u8 b2, .int .u8 b3] 58 (0, 0)) ∧ R w' := by
  have HC := Aside0.mk hR
  have HRa := Aside0.mk hRa
  have HD : Aside0 (∀ w : World, Calls Tryd.prog 29 #[.agg #[.int .u8 b0, .int .u8 b1, .int .u8 b2, .int .u8 b3]] w fun e w' => e = .returned (.tuple #[.int .i64 N, .nilIface]) ∧ w' = w.alloc (.cells #[.int .u8 b0, .int .u8 b1, .int .u8 b2, .int .u8 b3] 56)) := ⟨fun w => by rw [hN]; exact hexDecode_calls b0 b1 b2 b3 d0 d1 d2 d3 w h0 h1 h2 h3⟩
  have c0 : w.cell? ⟨q, 0, none⟩ = some rv := cell_of hblk 0 rfl
  have e1 : decide (N = 0) = false := by simp; omega
  have e2 : decide (N ≤ 4) = false := by simp; omega
  have e3 : decide (65524 < N) = false := by simp; omega
  have e4 : (N == 0) = false := by simp; omega
  have HN := Aside0.mk (And.intro hN1 hN2)
  clear hblk hR hRa h0 h1 h2 h3 hN hN1 hN2
  go_enter Tryd.func20, Tryd.ntmps20
  go_wp2_with fail
  go_region_held3 (fun w' => w'.cell? ⟨q, 0, none⟩ = some rv) (first | go_keep | (exact c0) | (exact k2)) ((go_at_call 21; refine (HC.out _).mono ?_; rintro e w2 ⟨rfl, hb2, hr2⟩; have HB2 := Aside0.mk hb2; have HR2 := Aside0.mk hr2; clear hb2 hr2; have k2 : w2.cell? ⟨q, 0, none⟩ = some rv := cell_of HB2.out 0 rfl))
  have k3 : w2.cell? ⟨q, 3, none⟩ = some (.int .u8 b0) := cell_of HB2.out 3 rfl
  have k4 : w2.cell? ⟨q, 4, none⟩ = some (.int .u8 b1) := cell_of HB2.out 4 rfl
  have k5 : w2.cell? ⟨q, 5, none⟩ = some (.int .u8 b2) := cell_of HB2.out 5 rfl
  have k6 : w2.cell? ⟨q, 6, none⟩ = some (.int .u8 b3) := cell_of HB2.out 6 rfl
  clear HC c0
  go_wp2_with (go_at_call 29; refine (HD.out _).mono ?_; rintro e w3 ⟨rfl, rfl⟩)
  go_ret2
  have hw : wrap64 (N - 4) = N - 4 := by have := HN.out; unfold wrap64; omega
  rw [hw]
  exact ⟨rfl, alloc_old HB2.out _, HRa.out _ _ HR2.out⟩

set_option maxHeartbeats 4000000 in
set_option maxRecDepth 100000 in
theorem payloadLen_end {w : World} {g : Nat} {A : Addr} {n cap : Nat} {pr : Int} {q : Nat} {cur : Array Value} {te : TypeId} {a1 a2 : Addr} (hr : Rdr w g A n cap n pr)
    (hb : w.heap[q]? = some (.cells cur 58 (0, 0))) (h0 : cur[0]? = some (.iface 42 (.pointer (some ⟨g, 0, none⟩)))) (he1 : w.cell? ⟨0, 0, none⟩ = some (.iface te (.pointer (some a1)))) (he2 : w.cell? ⟨1, 0, none⟩ = some (.iface te (.pointer (some a2)))) (hne : NeErr w (.iface te (.pointer (some a1))) (.iface te (.pointer (some a2)))) :
    Calls Tryd.prog 20 #[.pointer (some ⟨q, 0, none⟩)] w fun e w' => e = .returned (.tuple #[.int .i64 0, .iface te (.pointer (some a1))]) ∧ Drawn0 w w' := by
  have HC : Aside0 (∀ k, Calls Tryd.prog 21 #[.iface 42 (.pointer (some ⟨g, 0, none⟩)), .slice (some ⟨q, 3, none⟩) 4 4] (w.drewN k) fun e w' => e = .returned (.tuple #[.int .i64 0, .iface te (.pointer (some a1))]) ∧ Drawn0 (w.drewN k) w') := ⟨fun k => readFull_end g A n cap pr ⟨q, 3, none⟩ 4 4 te a1 (w.drewN k) hr he1 (by omega) (by omega)⟩
  have c0 : w.cell? ⟨q, 0, none⟩ = some (.iface 42 (.pointer (some ⟨g, 0, none⟩))) := cell_of hb 0 h0
  have HE := Aside0.mk he2
  have HQ := Aside0.mk hne
  clear hr hb h0 he1 he2 hne
  go_enter Tryd.func20, Tryd.ntmps20
  go_wp2_with fail
  go_region_held3 (fun w' => w'.cell? ⟨q, 0, none⟩ = some (.iface 42 (.pointer (some ⟨g, 0, none⟩)))) (first | go_keep | (exact c0) | (exact k2)) ((go_at_call 21; refine (HC.out _).mono ?_; rintro e w2 ⟨rfl, hd2⟩; have HD2 : Aside0 (Drawn0 w w2) := ⟨drawn_trans ⟨⟨_, rfl⟩⟩ hd2⟩; clear hd2; have k2 : w2.cell? ⟨q, 0, none⟩ = some (.iface 42 (.pointer (some ⟨g, 0, none⟩))) := drawn_cell HD2.out c0))
  have k4 := drawn_cell HD2.out HE.out
  have kq := HQ.out.at_ HD2.out
  clear HC c0
  go_wp2_with fail
  go_ret2
  exact ⟨rfl, HD2.out⟩
def nums (l : List UInt8) : List Int := l.map fun b => (b.toNat : Int)
def vals (l : List UInt8) : List Value := l.map fun b => .int .u8 b.toNat
theorem nums_length (l : List UInt8) : (nums l).length = l.length := by simp [nums]
theorem vals_length (l : List UInt8) : (vals l).length = l.length := by simp [vals]
theorem vals_one (l : List UInt8) : ∀ v ∈ vals l, v.oneCell' = true := by
  intro v hv
  obtain ⟨b, _, rfl⟩ := List.mem_map.1 hv
  rfl
/-- The first bytes of a block, as a row. -/
theorem bytes_C {w : World} {p t : Nat} {l : List UInt8} {fr : Nat × Nat} (h : w.heap[p]? = some (.cells (vals l).toArray t fr)) (k : Nat) (hk : k ≤ l.length) (hm : l.length ≤ 140737488355328) : Kd.C (Kd.int .u8) w (some ⟨p, 0, none⟩) (nums (l.take k)).length (nums (l.take k)) := by
  refine ⟨rfl, by rw [nums_length, List.length_take]; omega, fun _ => ⟨_, rfl, fun j x hj => ?_⟩⟩
  refine ⟨[.int .u8 x], rfl, rfl, fun i u hu => ?_⟩
  have hi : i = 0 := by
    have := (List.getElem?_eq_some_iff.1 hu).1
    simpa using this
  subst hi
  have hx : u = .int .u8 x := by simpa using hu.symm
  subst hx
  have hlt := (List.getElem?_eq_some_iff.1 hj).1
  rw [nums_length, List.length_take] at hlt
  have e : (nums (l.take k))[j]? = (nums l)[j]? := by
    unfold nums
    rw [List.getElem?_map, List.getElem?_map, List.getElem?_take_of_lt (by omega)]
  rw [e] at hj
  unfold nums at hj
  rw [List.getElem?_map] at hj
  obtain ⟨b, hb, rfl⟩ := Option.map_eq_some_iff.1 hj
  have e2 : (⟨p, 0, none⟩ : Addr).add (j * (Kd.int .u8).sz + 0) = ⟨p, j, none⟩ := by
    show (⟨p, 0, none⟩ : Addr).add (j * 1 + 0) = _
    unfold Addr.add
    split <;> simp_all
  rw [e2]
  exact cell_of h j (by simp [vals, hb])
theorem str_nums (l : List UInt8) : strOfNums (nums l) = ⟨l.toArray⟩ := by
  unfold strOfNums nums
  rw [List.map_map]
  congr 2
  refine (List.map_congr_left fun b _ => ?_).trans (List.map_id l)
  simp
def errBytes : List UInt8 := [69, 82, 82, 32]
set_option maxHeartbeats 4000000 in
set_option maxRecDepth 100000 in
theorem noPrefix_calls (p c : Nat) (ys : List UInt8) (e : Nat) (w : World) (hp : w.heap[p]? = some (.cells (vals ys).toArray 5 (0, 0))) (hc : ys.length ≤ c) (hm : ys.length ≤ 140737488355328)
    (he : w.heap[e]? = some (.cells (vals errBytes).toArray 5 (4, 5))) (hne : ys.take 4 ≠ errBytes) :
    Calls Tryd.prog 22 #[.slice (some ⟨p, 0, none⟩) ys.length c, .slice (some ⟨e, 0, none⟩) 4 4] w fun e w' => e = .returned (.bool false) ∧ Drawn0 w w' := by
  by_cases h4 : 4 ≤ ys.length
  · have d1 : decide (4 ≤ ys.length) = true := by simpa using h4
    have h4c : 4 ≤ c := by omega
    have hl4 : (nums (ys.take 4)).length = 4 := by rw [nums_length, List.length_take]; omega
    have HQ : Aside0 (∀ m, Calls Tryd.prog 31 #[.slice (some ⟨p, 0, none⟩) 4 c, .slice (some ⟨e, 0, none⟩) 4 4] (w.drewN m) fun e w' => e = .returned (.bool false) ∧ Drawn0 (w.drewN m) w') := ⟨fun m => by
      have k1 := bytes_C (w := w.drewN m) hp 4 h4 hm
      have k2 := bytes_C (w := w.drewN m) he 4 (by simp [errBytes]) (by simp [errBytes])
      have := bytes_Equal.calls (some ⟨p, 0, none⟩) c (nums (ys.take 4)) (some ⟨e, 0, none⟩) 4 (nums (errBytes.take 4)) false (w.drewN m) k1 (by omega) k2 (by simp [nums, errBytes]) (by
        unfold bytes_Equal.f
        have a1 : strOfNums (nums (ys.take 4)) = ⟨(ys.take 4).toArray⟩ := str_nums _
        have a2 : strOfNums (nums (errBytes.take 4)) = ⟨errBytes.toArray⟩ := str_nums _
        rw [a1, a2, ByteArray.toList_eq, ByteArray.toList_eq]
        simpa using hne)
      rw [hl4] at this
      exact this⟩
    clear hp he hne hl4
    go_enter Tryd.func22, Tryd.ntmps22
    go_wp2_with fail
    refine (HQ.out 0).mono ?_
    rintro e w2 ⟨rfl, hd2⟩
    have HD2 := Aside0.mk (drawn_trans (a := w) ⟨⟨0, rfl⟩⟩ hd2)
    clear hd2
    go_wp2_with fail
    go_ret
    exact ⟨rfl, HD2.out⟩
  · have d1 : decide (4 ≤ ys.length) = false := by simpa using h4
    clear hp he hne
    go_enter Tryd.func22, Tryd.ntmps22
    go_wp2_with fail
    go_ret
    exact ⟨rfl, Drawn0.refl _⟩
end Go.Proofs.YtomdhahnfejfpaaDoor.Proto
