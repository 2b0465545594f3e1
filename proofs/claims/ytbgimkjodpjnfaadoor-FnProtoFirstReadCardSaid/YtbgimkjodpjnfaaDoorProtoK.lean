/- The text with which a conversation begins. -/
import Derived.Test.YtbgimkjodpjnfaaDoorProtoJ
namespace Go.Proofs.YtbgimkjodpjnfaaDoor.Proto
open Go.RowKit Go.Proofs.YtbgimkjodpjnfaaDoorW.PrintWords Go.Proofs.YtbgimkjodpjnfaaDoorW.PrintLast Go.Proofs.YtbgimkjodpjnfaaDoorW.PrintMore Go.Proofs.YtbgimkjodpjnfaaDoor.PFnProtoFirstRead

def accT : ByteArray → List ByteArray → ByteArray
  | t, [] => t
  | t, e :: r => accT (t ++ (e ++ ⟨#[0]⟩)) r
def T1 (command path : ByteArray) : ByteArray := command ++ ⟨#[32]⟩ ++ path ++ ⟨#[0]⟩
def T2 (t host : ByteArray) : ByteArray := t ++ (⟨#[104, 111, 115, 116, 61]⟩ ++ host ++ ⟨#[0]⟩)
def T3 (t : ByteArray) (extra : List ByteArray) : ByteArray := accT (t ++ ⟨#[0]⟩) extra
def protoT (command path host : ByteArray) (extra : List ByteArray) : ByteArray :=
  if host.toList = [] then (if extra = [] then T1 command path else T3 (T1 command path) extra) else (if extra = [] then T2 (T1 command path) host else T3 (T2 (T1 command path) host) extra)
theorem size_T1 (command path : ByteArray) : (T1 command path).size = command.size + 1 + path.size + 1 := by
  unfold T1
  simp only [ByteArray.size_append]
  rfl
theorem size_T2 (command path host : ByteArray) : (T2 (T1 command path) host).size = command.size + 1 + path.size + 1 + (5 + host.size + 1) := by
  unfold T2
  simp only [ByteArray.size_append, size_T1]
  rfl
theorem bytesWorld_below (w : World) (e : TypeId) (s : ByteArray) : Below w.heap.size w (Lib.bytesWorld w e s) :=
  ⟨rfl, rfl, rfl, by rw [Lib.bytesWorld_size]; omega, fun k hk => Lib.bytesWorld_at_old w e s k hk⟩


theorem text_C (w : World) (T : ByteArray) (hm : T.data.toList.length ≤ 10000) : Kd.C (Kd.int .u8) (Lib.bytesWorld w 5 T) (some ⟨w.heap.size, 0, none⟩) T.data.toList.length (nums T.data.toList) := by
  refine ⟨nums_length _, by omega, fun _ => ⟨_, rfl, fun j x hj => ⟨[.int .u8 x], rfl, rfl, fun i u hu => ?_⟩⟩⟩
  have hi : i = 0 := by
    have := (List.getElem?_eq_some_iff.1 hu).1
    simpa using this
  subst hi
  have hx : u = .int .u8 x := by simpa using hu.symm
  subst hx
  have hlt := (List.getElem?_eq_some_iff.1 hj).1
  rw [nums_length] at hlt
  have e : (⟨w.heap.size, 0, none⟩ : Addr).add (j * (Kd.int .u8).sz + 0) = ⟨w.heap.size, j, none⟩ := by
    show (⟨w.heap.size, 0, none⟩ : Addr).add (j * 1 + 0) = _
    unfold Addr.add
    split <;> simp_all
  rw [e, Lib.bytesWorld_cell w 5 T j hlt]
  unfold nums at hj
  rw [List.getElem?_map] at hj
  obtain ⟨b, hb, rfl⟩ := Option.map_eq_some_iff.1 hj
  rw [List.getD_eq_getElem?_getD, hb]
  rfl

set_option maxHeartbeats 8000000 in
set_option maxRecDepth 100000 in
theorem protoText_calls {w : World} (command path host : ByteArray) (A : Option Addr) (c : Nat) (extra : List ByteArray) (hC : Kd.C Kd.string w A extra.length extra) (hc : command.size ≤ 60) (hpa : path.size ≤ 60) (hho : host.size ≤ 60) (hx : extra.length ≤ 9) (hxs : ∀ e ∈ extra, e.size ≤ 60)
    (hn : (protoT command path host extra).data.toList.length + 4 < 1024) (hp : 0 < (protoT command path host extra).data.toList.length) :
    Calls Tryd.prog 16 #[.string command, .string path, .string host, .slice A extra.length c] w fun e w' => ∃ v, e = .returned v ∧ (Kd.int .u8).R 5 w' w.heap.size (fun _ => True) v (hex4 ((protoT command path host extra).data.toList.length + 4) ++ nums (protoT command path host extra).data.toList) ∧ Below w.heap.size w w' := by
  obtain ⟨T, hT⟩ : ∃ T, T = protoT command path host extra := ⟨_, rfl⟩
  rw [← hT] at hn hp ⊢
  have HC := Aside0.mk hC
  have HN := Aside0.mk (And.intro hn (And.intro hp hx))
  have HT := Aside0.mk hT
  have HXS := Aside0.mk hxs
  clear hC hn hp hT hxs
  have kv := fun (w : World) (s : ByteArray) => Lib.run_convert_string_bytes (P := Tryd.prog) w 9 36 5 s Tryd.underlying9 Tryd.underlying36 Tryd.underlying5
  have HLine : Aside0 (∀ (S : ByteArray) (n : Nat), S = T → n = T.size → Calls Tryd.prog 31 #[.slice (some ⟨w.heap.size, 0, none⟩) n (grownCap w n 0 5)] (Lib.bytesWorld w 5 S) fun e w' => ∃ v, e = .returned v ∧ (Kd.int .u8).R 5 w' w.heap.size (fun _ => True) v (hex4 (T.data.toList.length + 4) ++ nums T.data.toList) ∧ Below w.heap.size w w') := ⟨by
    rintro S n rfl rfl
    have := line_calls (some ⟨w.heap.size, 0, none⟩) (grownCap w S.size 0 5) S.data.toList (text_C w S (by have := HN.out.1; omega)) HN.out.2.1 HN.out.1
    refine this.mono fun e w' ⟨v, h1, h2, h3⟩ => ⟨v, h1, Kd.R_lower h2 (bytesWorld_below w 5 S).size, (bytesWorld_below w 5 S).trans (h3.mono (bytesWorld_below w 5 S).size)⟩⟩
  by_cases hh : host.toList = []
  · have q1 : host.toList.isEmpty = true := by rw [hh]; rfl
    have q2 : (host.toList == []) = true := by rw [hh]; rfl
    have q3 : (host.toList != []) = false := by simp [bne, q2]
    have HH := Aside0.mk hh
    clear hh
    by_cases he : extra = []
    · subst he
      have n0 : ¬ 9223372036854775807 < command.size + 1 := by omega
      have n1 : ¬ 9223372036854775807 < command.size + 1 + path.size := by omega
      have n2 : ¬ 9223372036854775807 < command.size + 1 + path.size + 1 := by omega
      have HSZ := Aside0.mk (And.intro hc (And.intro hpa hho))
      clear hc hpa hho
      go_enter Tryd.func16, Tryd.ntmps16
      go_wp2_with fail
      have hT : T = T1 command path := by rw [HT.out]; unfold protoT; rw [if_pos HH.out, if_pos rfl]
      refine (HLine.out _ _ (by rw [hT]; rfl) (by rw [hT]; exact (size_T1 command path).symm)).mono ?_
      clear hT
      rintro e w2 ⟨v2, rfl, hr2, hb2⟩
      have HR2 := Aside0.mk hr2
      have HB2 := Aside0.mk hb2
      clear hr2 hb2
      go_wp2_with fail
      go_ret
      exact ⟨_, rfl, HR2.out, HB2.out⟩
    · have p1 : decide (0 < extra.length) = true := by simpa using List.length_pos_iff.2 he
      have HE := Aside0.mk he
      clear he
      have n0 : ¬ 9223372036854775807 < command.size + 1 := by omega
      have n1 : ¬ 9223372036854775807 < command.size + 1 + path.size := by omega
      have n2 : ¬ 9223372036854775807 < command.size + 1 + path.size + 1 := by omega
      have n3 : ¬ 9223372036854775807 < command.size + 1 + path.size + 1 + 1 := by omega
      have HSZ := Aside0.mk (And.intro hc (And.intro hpa hho))
      clear hc hpa hho
      go_enter Tryd.func16, Tryd.ntmps16
      go_wp2_with fail
      have hT : T = T3 (T1 command path) extra := by rw [HT.out]; unfold protoT; rw [if_pos HH.out, if_neg HE.out]
      have HA : Aside0 (accT (command ++ ⟨#[32]⟩ ++ path ++ ⟨#[0]⟩ ++ ⟨#[0]⟩) extra = T) := ⟨by rw [hT]; rfl⟩
      clear hT
      go_loopg [9, 11, 31] extra.length (fun g v9 v11 v31 w' => ∃ (i : Nat) (t : ByteArray), v9 = .string t ∧ v31 = .int .i64 i ∧ Aside0 (i + g = extra.length) ∧ Aside0 (accT t (extra.drop i) = T) ∧ Aside0 (t.size ≤ 300 + 61 * i) ∧ w' = w)
      case atStart => exact ⟨0, _, rfl, rfl, ⟨by omega⟩, ⟨by rw [List.drop_zero]; exact HA.out⟩, ⟨by have := HSZ.out; have e := size_T1 command path; rw [ByteArray.size_append]; show _ + 1 ≤ _; unfold T1 at e; omega⟩, rfl⟩
      case round =>
        obtain ⟨i, t, rfl, rfl, HI, HT2, HS2, hww⟩ := hrel
        subst hww
        cases gk with
        | zero =>
          obtain rfl : i = extra.length := by have := HI.out; omega
          have hlt : decide (extra.length < extra.length) = false := by simp
          have ht : t = T := by have := HT2.out; rw [List.drop_length] at this; exact this
          subst ht
          go_wp2_with fail
          refine (HLine.out _ _ rfl rfl).mono ?_
          rintro e w2 ⟨v2, rfl, hr2, hb2⟩
          have HR2 := Aside0.mk hr2
          have HB2 := Aside0.mk hb2
          clear hr2 hb2
          go_wp2_with fail
          go_ret
          exact ⟨_, rfl, HR2.out, HB2.out⟩
        | succ g =>
          have hi2 : i < extra.length := by have := HI.out; omega
          have hlt : decide (i < extra.length) = true := by simpa using hi2
          obtain ⟨ad, cs, rfl, -, hK, hcc⟩ := Kd.C_get HC.out ⟨#[]⟩ i (by omega) (by omega)
          have hcell : wr.cell? (ad.add i) = some (.string (extra.getD i ⟨#[]⟩)) := by have := hcc 0 _ (by rw [hK]; rfl); rw [show Kd.string.sz = 1 from rfl, Nat.mul_one, Nat.add_zero, Int.toNat_natCast] at this; exact this
          obtain ⟨y, hy⟩ : ∃ y, y = extra.getD i ⟨#[]⟩ := ⟨_, rfl⟩
          rw [← hy] at hcell
          have HD : Aside0 (extra.drop i = y :: extra.drop (i + 1)) := ⟨by rw [hy, List.getD_eq_getElem?_getD, List.getElem?_eq_getElem hi2]; exact List.drop_eq_getElem_cons hi2⟩
          have hys : y.size ≤ 60 := HXS.out y (by rw [hy, List.getD_eq_getElem?_getD, List.getElem?_eq_getElem hi2]; exact List.getElem_mem hi2)
          have hts := HS2.out
          have hx9 := HN.out.2.2
          have m1 : ¬ 9223372036854775807 < y.size + 1 := by omega
          have m2 : ¬ 9223372036854775807 < t.size + (y.size + 1) := by omega
          have HZ := Aside0.mk (show (t ++ (y ++ ⟨#[0]⟩)).size ≤ 300 + 61 * (i + 1) by simp only [ByteArray.size_append]; show t.size + (y.size + 1) ≤ _; omega)
          clear hy hK hcc hys hts
          go_wp2_with fail
          go_roundg g
          case measure => omega
          case rel => exact ⟨i + 1, _, rfl, by go_num, ⟨by have := HI.out; omega⟩, ⟨by have := HT2.out; rw [HD.out] at this; exact this⟩, HZ, rfl⟩
  · have q1 : host.toList.isEmpty = false := by cases h : host.toList <;> simp_all
    have q2 : (host.toList == []) = false := by cases h : host.toList <;> simp_all
    have q3 : (host.toList != []) = true := by simp [bne, q2]
    have HH := Aside0.mk hh
    clear hh
    by_cases he : extra = []
    · subst he
      have n0 : ¬ 9223372036854775807 < command.size + 1 := by omega
      have n1 : ¬ 9223372036854775807 < command.size + 1 + path.size := by omega
      have n2 : ¬ 9223372036854775807 < command.size + 1 + path.size + 1 := by omega
      have n3 : ¬ 9223372036854775807 < 5 + host.size := by omega
      have n4 : ¬ 9223372036854775807 < 5 + host.size + 1 := by omega
      have n5 : ¬ 9223372036854775807 < command.size + 1 + path.size + 1 + (5 + host.size + 1) := by omega
      have HSZ := Aside0.mk (And.intro hc (And.intro hpa hho))
      clear hc hpa hho
      go_enter Tryd.func16, Tryd.ntmps16
      go_wp2_with fail
      have hT : T = T2 (T1 command path) host := by rw [HT.out]; unfold protoT; rw [if_neg HH.out, if_pos rfl]
      refine (HLine.out _ _ (by rw [hT]; rfl) (by rw [hT]; exact (size_T2 command path host).symm)).mono ?_
      clear hT
      rintro e w2 ⟨v2, rfl, hr2, hb2⟩
      have HR2 := Aside0.mk hr2
      have HB2 := Aside0.mk hb2
      clear hr2 hb2
      go_wp2_with fail
      go_ret
      exact ⟨_, rfl, HR2.out, HB2.out⟩
    · have p1 : decide (0 < extra.length) = true := by simpa using List.length_pos_iff.2 he
      have HE := Aside0.mk he
      clear he
      have n0 : ¬ 9223372036854775807 < command.size + 1 := by omega
      have n1 : ¬ 9223372036854775807 < command.size + 1 + path.size := by omega
      have n2 : ¬ 9223372036854775807 < command.size + 1 + path.size + 1 := by omega
      have n3 : ¬ 9223372036854775807 < 5 + host.size := by omega
      have n4 : ¬ 9223372036854775807 < 5 + host.size + 1 := by omega
      have n5 : ¬ 9223372036854775807 < command.size + 1 + path.size + 1 + (5 + host.size + 1) := by omega
      have n6 : ¬ 9223372036854775807 < command.size + 1 + path.size + 1 + (5 + host.size + 1) + 1 := by omega
      have HSZ := Aside0.mk (And.intro hc (And.intro hpa hho))
      clear hc hpa hho
      go_enter Tryd.func16, Tryd.ntmps16
      go_wp2_with fail
      have hT : T = T3 (T2 (T1 command path) host) extra := by rw [HT.out]; unfold protoT; rw [if_neg HH.out, if_neg HE.out]
      have HA : Aside0 (accT (command ++ ⟨#[32]⟩ ++ path ++ ⟨#[0]⟩ ++ (⟨#[104, 111, 115, 116, 61]⟩ ++ host ++ ⟨#[0]⟩) ++ ⟨#[0]⟩) extra = T) := ⟨by rw [hT]; rfl⟩
      clear hT
      go_loopg [9, 11, 31] extra.length (fun g v9 v11 v31 w' => ∃ (i : Nat) (t : ByteArray), v9 = .string t ∧ v31 = .int .i64 i ∧ Aside0 (i + g = extra.length) ∧ Aside0 (accT t (extra.drop i) = T) ∧ Aside0 (t.size ≤ 300 + 61 * i) ∧ w' = w)
      case atStart => exact ⟨0, _, rfl, rfl, ⟨by omega⟩, ⟨by rw [List.drop_zero]; exact HA.out⟩, ⟨by have := HSZ.out; have e := size_T2 command path host; rw [ByteArray.size_append]; show _ + 1 ≤ _; unfold T2 T1 at e; omega⟩, rfl⟩
      case round =>
        obtain ⟨i, t, rfl, rfl, HI, HT2, HS2, hww⟩ := hrel
        subst hww
        cases gk with
        | zero =>
          obtain rfl : i = extra.length := by have := HI.out; omega
          have hlt : decide (extra.length < extra.length) = false := by simp
          have ht : t = T := by have := HT2.out; rw [List.drop_length] at this; exact this
          subst ht
          go_wp2_with fail
          refine (HLine.out _ _ rfl rfl).mono ?_
          rintro e w2 ⟨v2, rfl, hr2, hb2⟩
          have HR2 := Aside0.mk hr2
          have HB2 := Aside0.mk hb2
          clear hr2 hb2
          go_wp2_with fail
          go_ret
          exact ⟨_, rfl, HR2.out, HB2.out⟩
        | succ g =>
          have hi2 : i < extra.length := by have := HI.out; omega
          have hlt : decide (i < extra.length) = true := by simpa using hi2
          obtain ⟨ad, cs, rfl, -, hK, hcc⟩ := Kd.C_get HC.out ⟨#[]⟩ i (by omega) (by omega)
          have hcell : wr.cell? (ad.add i) = some (.string (extra.getD i ⟨#[]⟩)) := by have := hcc 0 _ (by rw [hK]; rfl); rw [show Kd.string.sz = 1 from rfl, Nat.mul_one, Nat.add_zero, Int.toNat_natCast] at this; exact this
          obtain ⟨y, hy⟩ : ∃ y, y = extra.getD i ⟨#[]⟩ := ⟨_, rfl⟩
          rw [← hy] at hcell
          have HD : Aside0 (extra.drop i = y :: extra.drop (i + 1)) := ⟨by rw [hy, List.getD_eq_getElem?_getD, List.getElem?_eq_getElem hi2]; exact List.drop_eq_getElem_cons hi2⟩
          have hys : y.size ≤ 60 := HXS.out y (by rw [hy, List.getD_eq_getElem?_getD, List.getElem?_eq_getElem hi2]; exact List.getElem_mem hi2)
          have hts := HS2.out
          have hx9 := HN.out.2.2
          have m1 : ¬ 9223372036854775807 < y.size + 1 := by omega
          have m2 : ¬ 9223372036854775807 < t.size + (y.size + 1) := by omega
          have HZ := Aside0.mk (show (t ++ (y ++ ⟨#[0]⟩)).size ≤ 300 + 61 * (i + 1) by simp only [ByteArray.size_append]; show t.size + (y.size + 1) ≤ _; omega)
          clear hy hK hcc hys hts
          go_wp2_with fail
          go_roundg g
          case measure => omega
          case rel => exact ⟨i + 1, _, rfl, by go_num, ⟨by have := HI.out; omega⟩, ⟨by have := HT2.out; rw [HD.out] at this; exact this⟩, HZ, rfl⟩
end Go.Proofs.YtbgimkjodpjnfaaDoor.Proto
