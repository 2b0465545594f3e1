/- What the looks of the statement tell of their arguments. -/
import Derived.Test.YtbgimkjodpjnfaaDoorProtoK
import Derived.Test.YtbgimkjodpjnfaaDoorPFnProtoFirstReadx1
import Derived.Test.YtbgimkjodpjnfaaDoorPFnProtoFirstReadx2
namespace Go.Proofs.YtbgimkjodpjnfaaDoor.Proto
open Go.RowKit Go.Proofs.YtbgimkjodpjnfaaDoorW.PrintWords Go.Proofs.YtbgimkjodpjnfaaDoorW.PrintLast Go.Proofs.YtbgimkjodpjnfaaDoorW.PrintMore Go.Proofs.YtbgimkjodpjnfaaDoor.PFnProtoFirstRead

theorem wrap_succ {i : Nat} (h : i ≤ 9223372036854775806) : wrap64 ((i : Int) + 1) = ((i + 1 : Nat) : Int) := by
  unfold wrap64
  omega
/-- A loop over n places that ends with false at once, or goes on. -/
theorem loop_all (n : Nat) (G : Nat → Int → Option Bool) (P : Nat → Prop) (E : Prop)
    (hstep : ∀ i, i < n → Ev (fun k => G k (i : Int)) false ∨ (P i ∧ ∀ r, Ev (fun k => G k ((i + 1 : Nat) : Int)) r → Ev (fun k => G k (i : Int)) r))
    (hend : ∃ r, Ev (fun k => G k (n : Int)) r ∧ (r = true → E)) :
    ∃ r, Ev (fun k => G k 0) r ∧ (r = true → E ∧ ∀ i, i < n → P i) := by
  have key : ∀ d i, i + d = n → ∃ r, Ev (fun k => G k (i : Int)) r ∧ (r = true → E ∧ ∀ j, i ≤ j → j < n → P j) := by
    intro d
    induction d with
    | zero =>
      intro i hi
      obtain rfl : i = n := by omega
      obtain ⟨r, h1, h2⟩ := hend
      exact ⟨r, h1, fun h => ⟨h2 h, fun j h3 h4 => by omega⟩⟩
    | succ d ih =>
      intro i hi
      rcases hstep i (by omega) with h | ⟨hP, hn⟩
      · exact ⟨false, h, fun h => by cases h⟩
      · obtain ⟨r, h1, h2⟩ := ih (i + 1) (by omega)
        refine ⟨r, hn r h1, fun h => ⟨(h2 h).1, fun j h3 h4 => ?_⟩⟩
        rcases Nat.lt_or_ge i j with h5 | h5
        · exact (h2 h).2 j (by omega) h4
        · obtain rfl : j = i := by omega
          exact hP
  obtain ⟨r, h1, h2⟩ := key n 0 (by omega)
  exact ⟨r, h1, fun h => ⟨(h2 h).1, fun i hi => (h2 h).2 i (by omega) hi⟩⟩

def goodB (b : Int) : Prop := (97 ≤ b ∧ b ≤ 122) ∨ (65 ≤ b ∧ b ≤ 90) ∨ (48 ≤ b ∧ b ≤ 57) ∨ b = 46 ∨ b = 47 ∨ b = 58 ∨ b = 45 ∨ b = 95
theorem isWord_step (a : ByteArray) (i : Nat) (hi : i < a.size) (hs : a.size ≤ 2147483647) (k : Nat) (hg : goodB (bt a (i : Int))) : spec_IsWord.l0 (k + 1) a (a.size : Int) (i : Int) = spec_IsWord.l0 k a (a.size : Int) ((i + 1 : Nat) : Int) := by
  unfold goodB at hg
  rw [spec_IsWord.l0, if_pos (by omega), if_pos (by omega), if_pos (by omega), wrap_succ (by omega)]
  rcases hg with ⟨h1, h2⟩ | ⟨h1, h2⟩ | ⟨h1, h2⟩ | h1 | h1 | h1 | h1 | h1
  · rw [if_pos (by omega), if_pos (by omega)]
  · rw [if_neg (by omega), if_pos (by omega), if_pos (by omega)]
  · rw [if_neg (by omega), if_neg (by omega), if_pos (by omega), if_pos (by omega)]
  · rw [if_neg (by omega), if_neg (by omega), if_neg (by omega), if_pos (by omega)]
  · rw [if_neg (by omega), if_neg (by omega), if_neg (by omega), if_neg (by omega), if_pos (by omega)]
  · rw [if_neg (by omega), if_neg (by omega), if_pos (by omega), if_neg (by omega), if_neg (by omega), if_neg (by omega), if_pos (by omega)]
  · rw [if_neg (by omega), if_neg (by omega), if_neg (by omega), if_neg (by omega), if_neg (by omega), if_neg (by omega), if_pos (by omega)]
  · rw [if_neg (by omega), if_pos (by omega), if_neg (by omega), if_pos (by omega), if_neg (by omega), if_neg (by omega), if_neg (by omega), if_neg (by omega), if_neg (by omega), if_pos (by omega)]
theorem isWord_stop (a : ByteArray) (i : Nat) (hi : i < a.size) (hs : a.size ≤ 2147483647) (k : Nat) (hg : ¬ goodB (bt a (i : Int))) : spec_IsWord.l0 (k + 1) a (a.size : Int) (i : Int) = some false := by
  unfold goodB at hg
  rw [spec_IsWord.l0, if_pos (by omega), if_pos (by omega), if_pos (by omega), wrap_succ (by omega)]
  by_cases c1 : 97 ≤ bt a (i : Int)
  · rw [if_pos (by omega), if_neg (by omega), if_pos (by omega), if_neg (by omega), if_pos (by omega), if_neg (by omega), if_neg (by omega), if_neg (by omega), if_neg (by omega), if_neg (by omega), if_neg (by omega)]
  · by_cases c2 : 65 ≤ bt a (i : Int)
    · rw [if_neg (by omega), if_pos (by omega), if_neg (by omega), if_pos (by omega), if_neg (by omega), if_neg (by omega), if_neg (by omega), if_neg (by omega), if_neg (by omega), if_neg (by omega)]
    · by_cases c3 : 48 ≤ bt a (i : Int)
      · rw [if_neg (by omega), if_neg (by omega), if_pos (by omega), if_neg (by omega), if_neg (by omega), if_neg (by omega), if_neg (by omega), if_neg (by omega), if_neg (by omega)]
      · rw [if_neg (by omega), if_neg (by omega), if_neg (by omega), if_neg (by omega), if_neg (by omega), if_neg (by omega), if_neg (by omega), if_neg (by omega)]
/-- 1 to 60 bytes, none of which is 0 or 32. -/
def IsW (a : ByteArray) : Prop := 1 ≤ a.size ∧ a.size ≤ 60 ∧ ∀ i, i < a.size → goodB (bt a (i : Int))
theorem isWord (a : ByteArray) (hs : a.size ≤ 2147483647) : ∃ r, Ev (fun k => spec_IsWord.f k a) r ∧ (r = true → IsW a) := by
  obtain ⟨r, h1, h2⟩ := loop_all a.size (fun k i => spec_IsWord.l0 k a (a.size : Int) i) (fun i => goodB (bt a (i : Int))) (1 ≤ a.size ∧ a.size ≤ 60) (fun i hi => by
    by_cases hg : goodB (bt a (i : Int))
    · exact .inr ⟨hg, fun r hr => Ev.step (fun k => isWord_step a i hi hs k hg) hr⟩
    · exact .inl (Ev.step (f := fun _ => some false) (fun k => isWord_stop a i hi hs k hg) (Ev.now _))) (by
    by_cases c : (a.size : Int) ≥ 1
    · refine ⟨decide ((a.size : Int) ≤ 60), Ev.step (f := fun _ => some (decide ((a.size : Int) ≤ 60))) (fun k => by rw [spec_IsWord.l0, if_neg (by omega), if_pos c]) (Ev.now _), fun h => ?_⟩
      have := of_decide_eq_true h
      omega
    · exact ⟨false, Ev.step (f := fun _ => some false) (fun k => by rw [spec_IsWord.l0, if_neg (by omega), if_neg c]) (Ev.now _), fun h => by cases h⟩)
  exact ⟨r, h1, fun h => ⟨(h2 h).1.1, (h2 h).1.2, (h2 h).2⟩⟩

theorem rdb {l : List ByteArray} {i : Nat} (h : i < l.length) : rdOf ByteArray.empty l (i : Int) = l[i] := by simp [rdOf, List.getD_eq_getElem?_getD, h]
theorem fits16 (l : List ByteArray) : ∃ r, Ev (fun k => laws_zzFits16.f k l) r ∧ (r = true → l.length ≤ 2147483647 ∧ ∀ i (hi : i < l.length), (l[i]).size ≤ 2147483647) := by
  by_cases hn : (l.length : Int) > 2147483647
  · exact ⟨false, Ev.congr (f := fun _ => some false) (fun k => by unfold laws_zzFits16.f; rw [if_pos hn]) (Ev.now _), fun h => by cases h⟩
  · obtain ⟨r, h1, h2⟩ := loop_all l.length (fun k i => laws_zzFits16.l0 k l (l.length : Int) i) (fun i => ∀ hi : i < l.length, (l[i]).size ≤ 2147483647) True (fun i hi => by
      by_cases c : ((l[i]).size : Int) > 2147483647
      · exact .inl (Ev.step (f := fun _ => some false) (fun k => by rw [laws_zzFits16.l0, if_pos (by omega), if_pos (by omega), if_pos (by omega), rdb hi, if_pos c]) (Ev.now _))
      · exact .inr ⟨fun _ => by omega, fun r hr => Ev.step (fun k => by rw [laws_zzFits16.l0, if_pos (by omega), if_pos (by omega), if_pos (by omega), rdb hi, if_neg c, wrap_succ (by omega)]) hr⟩) ⟨true, Ev.step (f := fun _ => some true) (fun k => by rw [laws_zzFits16.l0, if_neg (by omega)]) (Ev.now _), fun _ => trivial⟩
    exact ⟨r, Ev.congr (fun k => by unfold laws_zzFits16.f; rw [if_neg hn]) h1, fun h => ⟨by omega, fun i hi => (h2 h).2 i hi hi⟩⟩
theorem protoGood (command path host : ByteArray) (extra : List ByteArray) (hc : command.size ≤ 2147483647) (hp : path.size ≤ 2147483647) (hh : host.size ≤ 2147483647) (hl : extra.length ≤ 2147483647) (hx : ∀ i (hi : i < extra.length), (extra[i]).size ≤ 2147483647) :
    ∃ r, Ev (fun k => laws_protoGood.f k command path host extra) r ∧ (r = true → IsW command ∧ IsW path ∧ (host.toList = [] ∨ IsW host) ∧ extra.length ≤ 9 ∧ ∀ i (hi : i < extra.length), IsW (extra[i])) := by
  obtain ⟨rc, ec, pc⟩ := isWord command hc
  obtain ⟨rp, ep, pp⟩ := isWord path hp
  obtain ⟨rh, eh, ph⟩ := isWord host hh
  obtain ⟨r, h1, h2⟩ := loop_all extra.length (fun k i => laws_protoGood.l0 k command path host extra extra (extra.length : Int) i) (fun i => ∀ hi : i < extra.length, IsW (extra[i])) (IsW command ∧ IsW path ∧ (host.toList = [] ∨ IsW host) ∧ extra.length ≤ 9) (fun i hi => by
    obtain ⟨r, e, p⟩ := isWord (extra[i]) (hx i hi)
    have hs : ∀ k, laws_protoGood.l0 (k + 1) command path host extra extra (extra.length : Int) (i : Int) = (spec_IsWord.f k (extra[i])).bind fun t => (if t = true then laws_protoGood.l0 k command path host extra extra (extra.length : Int) ((i + 1 : Nat) : Int) else some false) := fun k => by
      rw [laws_protoGood.l0, if_pos (by omega), if_pos (by omega), if_pos (by omega), rdb hi, wrap_succ (by omega)]
    cases r with
    | false => exact .inl (Ev.step hs (Ev.bind e (Ev.congr (fun k => if_neg (by simp)) (Ev.now _))))
    | true => exact .inr ⟨fun _ => p rfl, fun r hr => Ev.step hs (Ev.bind e (Ev.congr (fun k => if_pos rfl) hr))⟩) (by
    have hs : ∀ k, laws_protoGood.l0 (k + 1) command path host extra extra (extra.length : Int) (extra.length : Int) = (spec_IsWord.f k command).bind fun t104 => (if t104 = true then ((spec_IsWord.f k path).bind fun t105 => (if t105 = true then (if host.toList = ([] : List UInt8) then (some (decide ((extra.length : Int) ≤ 9))) else ((spec_IsWord.f k host).bind fun t106 => (if t106 = true then (some (decide ((extra.length : Int) ≤ 9))) else (some false)))) else (some false))) else (some false)) := fun k => by
      rw [laws_protoGood.l0, if_neg (by omega)]
    have fin : ∀ b, (decide ((extra.length : Int) ≤ 9) = b) → b = true → extra.length ≤ 9 := fun b h1 h2 => by subst h1; have := of_decide_eq_true h2; omega
    cases rc with
    | false => exact ⟨false, Ev.step hs (Ev.bind ec (Ev.congr (fun k => if_neg (by simp)) (Ev.now _))), fun h => by cases h⟩
    | true =>
      cases rp with
      | false => exact ⟨false, Ev.step hs (Ev.bind ec (Ev.congr (fun k => if_pos rfl) (Ev.bind ep (Ev.congr (fun k => if_neg (by simp)) (Ev.now _))))), fun h => by cases h⟩
      | true =>
        by_cases c : host.toList = []
        · exact ⟨_, Ev.step hs (Ev.bind ec (Ev.congr (fun k => if_pos rfl) (Ev.bind ep (Ev.congr (fun k => (if_pos rfl).trans (if_pos c)) (Ev.now _))))), fun h => ⟨pc rfl, pp rfl, .inl c, fin _ rfl h⟩⟩
        · cases rh with
          | false => exact ⟨false, Ev.step hs (Ev.bind ec (Ev.congr (fun k => if_pos rfl) (Ev.bind ep (Ev.congr (fun k => (if_pos rfl).trans (if_neg c)) (Ev.bind eh (Ev.congr (fun k => if_neg (by simp)) (Ev.now _))))))), fun h => by cases h⟩
          | true => exact ⟨_, Ev.step hs (Ev.bind ec (Ev.congr (fun k => if_pos rfl) (Ev.bind ep (Ev.congr (fun k => (if_pos rfl).trans (if_neg c)) (Ev.bind eh (Ev.congr (fun k => if_pos rfl) (Ev.now _))))))), fun h => ⟨pc rfl, pp rfl, .inr (ph rfl), fin _ rfl h⟩⟩)
  exact ⟨r, h1, fun h => ⟨(h2 h).1.1, (h2 h).1.2.1, (h2 h).1.2.2.1, (h2 h).1.2.2.2, fun i hi => (h2 h).2 i hi hi⟩⟩
end Go.Proofs.YtbgimkjodpjnfaaDoor.Proto
