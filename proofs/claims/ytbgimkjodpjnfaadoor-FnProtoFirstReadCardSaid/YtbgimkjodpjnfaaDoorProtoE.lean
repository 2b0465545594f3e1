/- No error line: bytes.HasPrefix. -/
import Derived.Test.YtbgimkjodpjnfaaDoorProtoD
import Derived.Lib.LazyBuf
namespace Go.Proofs.YtbgimkjodpjnfaaDoor.Proto
open Go.RowKit Go.Proofs.YtbgimkjodpjnfaaDoorW.PrintWords Go.Proofs.YtbgimkjodpjnfaaDoorW.PrintLast Go.Proofs.YtbgimkjodpjnfaaDoorW.PrintMore Go.Proofs.YtbgimkjodpjnfaaDoor.PFnProtoFirstRead

def nums (l : List UInt8) : List Int := l.map fun b => (b.toNat : Int)
def vals (l : List UInt8) : List Value := l.map fun b => .int .u8 b.toNat
theorem nums_length (l : List UInt8) : (nums l).length = l.length := by simp [nums]
theorem vals_length (l : List UInt8) : (vals l).length = l.length := by simp [vals]
theorem vals_one (l : List UInt8) : ∀ v ∈ vals l, v.oneCell' = true := by
  intro v hv
  obtain ⟨b, _, rfl⟩ := List.mem_map.1 hv
  rfl
/-- The first bytes of a block, as a row. -/
theorem bytes_C {w : World} {p t : Nat} {l : List UInt8} {fr : Nat × Nat} (h : w.heap[p]? = some (.cells (vals l).toArray t fr)) (k : Nat) (hk : k ≤ l.length) (hm : l.length ≤ 140737488355328) : Kd.C (Kd.int .u8) w (some ⟨p, 0, none⟩) (nums (l.take k)).length (nums (l.take k)) := by
  refine ⟨rfl, by rw [nums_length, List.length_take]; omega, fun _ => ⟨_, rfl, fun j x hj => ?_⟩⟩
  refine ⟨[.int .u8 x], rfl, rfl, fun i u hu => ?_⟩
  have hi : i = 0 := by
    have := (List.getElem?_eq_some_iff.1 hu).1
    simpa using this
  subst hi
  have hx : u = .int .u8 x := by simpa using hu.symm
  subst hx
  have hlt := (List.getElem?_eq_some_iff.1 hj).1
  rw [nums_length, List.length_take] at hlt
  have e : (nums (l.take k))[j]? = (nums l)[j]? := by
    unfold nums
    rw [List.getElem?_map, List.getElem?_map, List.getElem?_take_of_lt (by omega)]
  rw [e] at hj
  unfold nums at hj
  rw [List.getElem?_map] at hj
  obtain ⟨b, hb, rfl⟩ := Option.map_eq_some_iff.1 hj
  have e2 : (⟨p, 0, none⟩ : Addr).add (j * (Kd.int .u8).sz + 0) = ⟨p, j, none⟩ := by
    show (⟨p, 0, none⟩ : Addr).add (j * 1 + 0) = _
    unfold Addr.add
    split <;> simp_all
  rw [e2]
  exact cell_of h j (by simp [vals, hb])
theorem str_nums (l : List UInt8) : strOfNums (nums l) = ⟨l.toArray⟩ := by
  unfold strOfNums nums
  rw [List.map_map]
  congr 2
  refine (List.map_congr_left fun b _ => ?_).trans (List.map_id l)
  simp
def errBytes : List UInt8 := [69, 82, 82, 32]
set_option maxHeartbeats 4000000 in
set_option maxRecDepth 100000 in
theorem noPrefix_calls (p c : Nat) (ys : List UInt8) (e : Nat) (w : World) (hp : w.heap[p]? = some (.cells (vals ys).toArray 5 (0, 0))) (hc : ys.length ≤ c) (hm : ys.length ≤ 140737488355328)
    (he : w.heap[e]? = some (.cells (vals errBytes).toArray 5 (4, 5))) (hne : ys.take 4 ≠ errBytes) :
    Calls Tryd.prog 65 #[.slice (some ⟨p, 0, none⟩) ys.length c, .slice (some ⟨e, 0, none⟩) 4 4] w fun e w' => e = .returned (.bool false) ∧ Drawn0 w w' := by
  by_cases h4 : 4 ≤ ys.length
  · have d1 : decide (4 ≤ ys.length) = true := by simpa using h4
    have h4c : 4 ≤ c := by omega
    have hl4 : (nums (ys.take 4)).length = 4 := by rw [nums_length, List.length_take]; omega
    have HQ : Aside0 (∀ m, Calls Tryd.prog 76 #[.slice (some ⟨p, 0, none⟩) 4 c, .slice (some ⟨e, 0, none⟩) 4 4] (w.drewN m) fun e w' => e = .returned (.bool false) ∧ Drawn0 (w.drewN m) w') := ⟨fun m => by
      have k1 := bytes_C (w := w.drewN m) hp 4 h4 hm
      have k2 := bytes_C (w := w.drewN m) he 4 (by simp [errBytes]) (by simp [errBytes])
      have := bytes_Equal.calls (some ⟨p, 0, none⟩) c (nums (ys.take 4)) (some ⟨e, 0, none⟩) 4 (nums (errBytes.take 4)) false (w.drewN m) k1 (by omega) k2 (by simp [nums, errBytes]) (by
        unfold bytes_Equal.f
        have a1 : strOfNums (nums (ys.take 4)) = ⟨(ys.take 4).toArray⟩ := str_nums _
        have a2 : strOfNums (nums (errBytes.take 4)) = ⟨errBytes.toArray⟩ := str_nums _
        rw [a1, a2, ByteArray.toList_eq, ByteArray.toList_eq]
        simpa using hne)
      rw [hl4] at this
      exact this⟩
    clear hp he hne hl4
    go_enter Tryd.func65, Tryd.ntmps65
    go_wp2_with fail
    refine (HQ.out 0).mono ?_
    rintro e w2 ⟨rfl, hd2⟩
    have HD2 := Aside0.mk (drawn_trans (a := w) ⟨⟨0, rfl⟩⟩ hd2)
    clear hd2
    go_wp2_with fail
    go_ret
    exact ⟨rfl, HD2.out⟩
  · have d1 : decide (4 ≤ ys.length) = false := by simpa using h4
    clear hp he hne
    go_enter Tryd.func65, Tryd.ntmps65
    go_wp2_with fail
    go_ret
    exact ⟨rfl, Drawn0.refl _⟩
end Go.Proofs.YtbgimkjodpjnfaaDoor.Proto
