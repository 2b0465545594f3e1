/- A delta's instructions, and how its sizes are written: the plain part. -/
import Derived.Test.YtkknoionjppegaaDoorDA
import Derived.Test.YtkknoionjppegaaDoorDF
namespace Go.Proofs.YtkknoionjppegaaDoor.Delta
open Go.RowKit Go.Proofs.YtkknoionjppegaaDoorW.PrintWords Go.Proofs.YtkknoionjppegaaDoorW.PrintLast Go.Proofs.YtkknoionjppegaaDoorW.PrintMore Go.Proofs.YtkknoionjppegaaDoor.PFnDeltaDiffRead

inductive Op where
  | copy (o n : Nat)
  | ins (bs : List Int)
def Op.enc : Op → List Int
  | .copy o n => copyBytes o n
  | .ins bs => (bs.length : Int) :: bs
def Op.make (src : List Int) : Op → List Int
  | .copy o n => (src.drop o).take n
  | .ins bs => bs
def Op.good (src : List Int) : Op → Prop
  | .copy o n => 1 ≤ n ∧ n ≤ 65536 ∧ o + n ≤ src.length
  | .ins bs => 1 ≤ bs.length ∧ bs.length ≤ 127
def encs (ops : List Op) : List Int := ops.flatMap Op.enc
def makes (src : List Int) (ops : List Op) : List Int := ops.flatMap (Op.make src)
theorem encs_append (a b : List Op) : encs (a ++ b) = encs a ++ encs b := by simp [encs]
theorem makes_append (src : List Int) (a b : List Op) : makes src (a ++ b) = makes src a ++ makes src b := by simp [makes]
def Goods (src : List Int) (ops : List Op) : Prop := ∀ op ∈ ops, op.good src
theorem Goods.append {src : List Int} {a b : List Op} (ha : Goods src a) (hb : Goods src b) : Goods src (a ++ b) := fun op h => (List.mem_append.1 h).elim (ha op) (hb op)
theorem copyBytes_len (o n : Nat) : (copyBytes o n).length ≤ 8 := by
  unfold copyBytes argsOf
  have := pb_len (at8 o 0)
  have := pb_len (at8 o 1)
  have := pb_len (at8 o 2)
  have := pb_len (at8 o 3)
  have := pb_len (at8 n 0)
  have := pb_len (at8 n 1)
  have := pb_len (at8 n 2)
  simp only [List.length_cons, List.length_append]
  omega
/-- What is inserted in pieces. -/
theorem insB_ops (src : List Int) : ∀ (k : Nat) (l : List Int), 0 < l.length → k = (l.length - 1) / 127 → ∃ ops, Goods src ops ∧ insB k l = encs ops ∧ makes src ops = l ∧ (insB k l).length = l.length + k + 1 := by
  intro k
  induction k with
  | zero =>
    intro l h1 h2
    refine ⟨[.ins l], fun op h => ?_, by simp [encs, Op.enc, insB], by simp [makes, Op.make], by simp [insB]⟩
    rw [List.mem_singleton] at h
    subst h
    exact ⟨h1, by omega⟩
  | succ k ih =>
    intro l h1 h2
    obtain ⟨ops, g, e, m, n⟩ := ih (l.drop 127) (by rw [List.length_drop]; omega) (by rw [List.length_drop]; omega)
    have ht : (l.take 127).length = 127 := by rw [List.length_take]; omega
    refine ⟨.ins (l.take 127) :: ops, fun op h => ?_, ?_, ?_, ?_⟩
    · rcases List.mem_cons.1 h with rfl | h
      · exact ⟨by omega, by omega⟩
      · exact g op h
    · simp only [encs, List.flatMap_cons, Op.enc, insB, ht]
      rw [e]
      simp [encs]
    · simp only [makes, List.flatMap_cons, Op.make]
      have : List.flatMap (Op.make src) ops = l.drop 127 := m
      rw [this, List.take_append_drop]
    · simp only [insB, List.length_cons, List.length_append, ht]
      rw [n, List.length_drop]
      omega
theorem insBytes_ops (src l : List Int) : ∃ ops, Goods src ops ∧ insBytes l = encs ops ∧ makes src ops = l ∧ 127 * (insBytes l).length ≤ 128 * l.length + 126 := by
  unfold insBytes
  by_cases h : l = []
  · subst h
    exact ⟨[], fun _ h => by simp at h, by simp [encs], by simp [makes], by simp⟩
  · rw [if_neg h]
    have hp : 0 < l.length := List.length_pos_iff.2 h
    obtain ⟨ops, g, e, m, n⟩ := insB_ops src _ l hp rfl
    exact ⟨ops, g, e, m, by rw [n]; omega⟩

/-- A number in groups of seven bits. -/
def size7 : Nat → Nat → List Int
  | 0, n => [((n % 128 : Nat) : Int)]
  | f + 1, n => if n < 128 then [(n : Int)] else ((n % 128 + 128 : Nat) : Int) :: size7 f (n / 128)
theorem size7_len (f n : Nat) : (size7 f n).length ≤ f + 1 := by
  induction f generalizing n with
  | zero => simp [size7]
  | succ f ih =>
    simp only [size7]
    split
    · simp
    · simp [ih]
theorem lt62' {n : Int} (h : n < 1099511627776) : n < 2 ^ 62 := by
  rw [show (2 : Int) ^ 62 = 4611686018427387904 from by decide]
  omega
theorem and127 (n : Nat) (h : n < 1099511627776) : Go.bits .and .i64 (n : Int) 127 = ((n % 128 : Nat) : Int) := by
  have := bits_mask .i64 62 (by decide) (fun n h0 h1 => wraps_i64 n h0 (lt62 h1)) 7 (by decide) (n : Int) (by omega) (lt62' (by omega))
  rw [show (127 : Int) = 2 ^ 7 - 1 from rfl, this]
  omega
theorem or128 : ∀ c : Fin 128, Go.bits .or .i64 ((c.val : Nat) : Int) 128 % 256 = ((c.val + 128 : Nat) : Int) := by decide +kernel
theorem encodeSize_l0 (f : Nat) : ∀ (n : Nat) (acc : List Int), n < 128 ^ (f + 1) → n < 1099511627776 → acc.length + f < 100 → packfile_deltaEncodeSize.l0 (f + 1) ((n / 128 : Nat) : Int) acc ((n % 128 : Nat) : Int) = some (acc ++ size7 f n) := by
  induction f with
  | zero =>
    intro n acc h1 h2 h3
    rw [packfile_deltaEncodeSize.l0, if_pos (by omega), if_pos (by omega)]
    simp only [size7]
    congr 3
    omega
  | succ f ih =>
    intro n acc h1 h2 h3
    rw [packfile_deltaEncodeSize.l0]
    by_cases h : n < 128
    · rw [if_pos (by omega), if_pos (by omega)]
      simp only [size7]
      rw [if_pos h]
      congr 3
      omega
    · rw [if_neg (by omega), if_pos (by omega), and127 (n / 128) (by omega), or128 ⟨n % 128, by omega⟩, show ((n / 128 : Nat) : Int) / 128 = ((n / 128 / 128 : Nat) : Int) by omega]
      rw [ih (n / 128) (acc ++ [((n % 128 + 128 : Nat) : Int)]) (by rw [Nat.pow_succ] at h1; omega) (by omega) (by simp; omega)]
      simp only [size7]
      rw [if_neg h]
      simp
theorem encodeSize (n : Nat) (h : n < 268435456) : packfile_deltaEncodeSize.f 5 (n : Int) = some (size7 4 n) := by
  unfold packfile_deltaEncodeSize.f
  rw [and127 n (by omega), show (n : Int) / 128 = ((n / 128 : Nat) : Int) by omega]
  have := encodeSize_l0 4 n [] (by omega) (by omega) (by simp)
  simpa using this
end Go.Proofs.YtkknoionjppegaaDoor.Delta
