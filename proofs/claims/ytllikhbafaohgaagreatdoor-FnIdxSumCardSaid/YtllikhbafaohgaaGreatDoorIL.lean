/- An entry of an index is read. -/
import Derived.Test.YtllikhbafaohgaaGreatDoorIK
namespace Go.Proofs.YtllikhbafaohgaaGreatDoor.Idx
open Go.RowKit Go.Proofs.YtllikhbafaohgaaGreatDoorW.PrintWords Go.Proofs.YtllikhbafaohgaaGreatDoorW.PrintLast Go.Proofs.YtllikhbafaohgaaGreatDoorW.PrintMore
set_option linter.unusedVariables false
set_option linter.unusedSimpArgs false

set_option maxHeartbeats 8000000 in
set_option maxRecDepth 100000 in
/-- binary.Read: one value after the other. -/
theorem binRead_calls {d : DC} {fb n : Nat} {T : List Value} {P : Nat → World → Prop} {w : World} (hn : T.length = n) (hnl : n ≤ 100) (hP : P 0 w)
    (hc : ∀ j x W, P j W → T[j]? = some x → W.cell? ⟨fb, j, none⟩ = some x)
    (hs : ∀ j x W, P j W → T[j]? = some x → Calls Tryz.prog 43 #[.iface 97 (.pointer (some ⟨d.t, 0, none⟩)), x] W fun e w' => e = .returned .nilIface ∧ P (j + 1) w') :
    Calls Tryz.prog 55 #[.iface 97 (.pointer (some ⟨d.t, 0, none⟩)), .slice (some ⟨fb, 0, none⟩) n n] w fun e w' => e = .returned .nilIface ∧ P n w' := by
  have HP := Aside0.mk hP
  have HC := Aside0.mk hc
  have HS := Aside0.mk hs
  have HN := Aside0.mk hn
  clear hP hc hs hn
  go_enter Tryz.func55, Tryz.ntmps55
  go_wp2_with fail
  go_loopg [6, 7, 10] n (fun kq v6 v7 v10 w' => ∃ k : Nat, kq + k = n ∧ v10 = .int .i64 k ∧ Aside0 (P k w'))
  case atStart => exact ⟨0, by omega, rfl, HP⟩
  case round =>
    obtain ⟨k, hk, rfl, HPk⟩ := hrel
    rcases Nat.lt_or_ge k n with hlt | hge
    · have d1 : decide (k < n) = true := decide_eq_true hlt
      obtain ⟨x, hx⟩ : ∃ x : Value, T[k]? = some x := ⟨_, List.getElem?_eq_getElem (by rw [HN.out]; exact hlt)⟩
      have c0 := HC.out k x wr HPk.out hx
      have HCx := Aside0.mk (HS.out k x wr HPk.out hx)
      clear hx HP
      go_wp2_with (go_at_call 43; refine HCx.out.mono ?_; rintro e w2 ⟨rfl, hp2⟩; have HP2 := Aside0.mk hp2; clear hp2)
      go_roundg (n - (k + 1))
      case measure => omega
      case rel => exact ⟨k + 1, by omega, by go_num, HP2⟩
    · obtain rfl : k = n := by omega
      clear hge
      go_wp2_with fail
      go_ret
      exact ⟨rfl, HPk.out⟩
/-- What a cell of an entry holds. -/
def entOk (k : Nat) (v : Value) : Prop := if k < 20 then ∃ x : Int, v = .int .u8 x ∧ 0 ≤ x ∧ x < 256 else if k = 20 then ∃ s, v = .string s else if k < 27 then ∃ x, v = .int .i64 x else if k < 33 then ∃ x, v = .int .u32 x else if k = 33 then ∃ x, v = .int .i64 x else ∃ b, v = .bool b
def Ent (cs : Array Value) : Prop := cs.size = 36 ∧ ∀ (k : Nat) (v : Value), cs[k]? = some v → entOk k v
theorem Ent.get {cs : Array Value} (h : Ent cs) {k : Nat} (hk : k < 36) : ∃ v, cs[k]? = some v ∧ entOk k v := by
  have : k < cs.size := by rw [h.1]; exact hk
  exact ⟨cs[k], Array.getElem?_eq_getElem this, h.2 k _ (Array.getElem?_eq_getElem this)⟩
theorem Ent.set {cs : Array Value} (h : Ent cs) {k : Nat} {v : Value} (hv : entOk k v) : Ent (cs.setIfInBounds k v) := by
  refine ⟨by rw [Array.size_setIfInBounds]; exact h.1, fun j u hu => ?_⟩
  rw [Array.getElem?_setIfInBounds] at hu
  split at hu
  · split at hu
    · cases hu; rename_i e _; rw [← e]; exact hv
    · cases hu
  · exact h.2 j u hu
theorem Ent.splice20 {cs : List Value} (h : Ent cs.toArray) {xs : List Int} (hl : xs.length = 20) (hx : ∀ x ∈ xs, 0 ≤ x ∧ x < 256) : Ent (splice cs 0 (nums .u8 xs)).toArray := by
  have hc : cs.length = 36 := by simpa using h.1
  have hn : (nums .u8 xs).length = 20 := by rw [nums_length, hl]
  refine ⟨by rw [List.size_toArray, splice_length _ _ _ (by rw [hn, hc]; omega)]; exact hc, fun j u hu => ?_⟩
  rw [List.getElem?_toArray] at hu
  rcases Nat.lt_or_ge j 20 with hj | hj
  · have := splice_at cs (nums .u8 xs) 0 j (by rw [hn]; exact hj) (Nat.zero_le _)
    rw [Nat.zero_add] at this
    rw [this] at hu
    unfold nums at hu
    rw [List.getElem?_map] at hu
    obtain ⟨x, hx1, rfl⟩ := Option.map_eq_some_iff.1 hu
    unfold entOk
    rw [if_pos hj]
    exact ⟨x, rfl, hx x (List.mem_of_getElem? hx1)⟩
  · have e : (splice cs 0 (nums .u8 xs))[j]? = cs[j]? := by
      unfold splice
      rw [List.take_zero, List.nil_append, List.getElem?_append_right (by rw [hn]; exact hj), List.getElem?_drop, hn]
      congr 1
      omega
    rw [e] at hu
    exact h.2 j u (by rw [List.getElem?_toArray]; exact hu)
/-- How far behind an entry's beginning its values lie. -/
def off (j : Nat) : Nat := if j ≤ 10 then 4 * j else if j = 11 then 60 else 62
def targets (B : Nat) : List Value := [.iface 105 (.pointer (some ⟨B + 3, 0, none⟩)), .iface 105 (.pointer (some ⟨B + 4, 0, none⟩)), .iface 105 (.pointer (some ⟨B + 1, 0, none⟩)), .iface 105 (.pointer (some ⟨B + 2, 0, none⟩)), .iface 105 (.pointer (some ⟨B, 27, none⟩)), .iface 105 (.pointer (some ⟨B, 28, none⟩)), .iface 142 (.pointer (some ⟨B, 29, none⟩)), .iface 105 (.pointer (some ⟨B, 30, none⟩)), .iface 105 (.pointer (some ⟨B, 31, none⟩)), .iface 105 (.pointer (some ⟨B, 32, none⟩)), .iface 143 (.pointer (some ⟨B, 0, none⟩)), .iface 139 (.pointer (some ⟨B + 5, 0, none⟩))]
/-- While the values of an entry are read into the blocks from B on. -/
structure RdC (W : World) (d : DC) (v : Value) (i B : Nat) : Prop where
  free : ∀ b, B ≤ b → b < W.heap.size → Free d v b
  size : B + 6 < W.heap.size
  le : d.N ≤ B
  fit : i + 62 ≤ d.c.n
def RdF (d : DC) (v : Value) (B : Nat) : Nat → Prop := fun q => Fr0 d v q ∨ (B ≤ q ∧ q ≤ B + 5)
structure RdS (W w : World) (d : DC) (v : Value) (i B j : Nat) : Prop where
  st : ∃ v', St w d (i + off j) v' ∧ Owns W v v'
  ent : ∃ cs, Ent cs ∧ w.heap[B]? = some (.cells cs 118 (0, 0))
  l1 : ∃ x, w.heap[B + 1]? = some (.cells #[.int .u32 x] 27 (0, 0))
  l2 : ∃ x, w.heap[B + 2]? = some (.cells #[.int .u32 x] 27 (0, 0))
  l3 : ∃ x, w.heap[B + 3]? = some (.cells #[.int .u32 x] 27 (0, 0))
  l4 : ∃ x, w.heap[B + 4]? = some (.cells #[.int .u32 x] 27 (0, 0))
  fl : ∃ y, w.heap[B + 5]? = some (.cells #[.int .u16 y] 140 (0, 0)) ∧ (j = 12 → y = bigOf ((d.c.D.drop (i + 60)).take 2) % 65536)
  sl : w.heap[B + 6]? = some (.cells (targets B).toArray 20 (0, 0))
  kp : Keep W w (RdF d v B)
/-- What a step leaves beside the block that it fills. -/
structure RdR (W w w' : World) (d : DC) (v : Value) (i B b j : Nat) : Prop where
  st : ∃ v', St w' d (i + off j) v' ∧ Owns W v v'
  other : ∀ q, B ≤ q → q ≤ B + 6 → q ≠ b → w'.heap[q]? = w.heap[q]?
  kp : Keep W w' (RdF d v B)
theorem RdR.mk' {W w w' : World} {d : DC} {v v1 v2 : Value} {i B b j j1 : Nat} (hc : RdC W d v i B) (hS : RdS W w d v i B j) (ho : Owns W v v1) (hs : St w' d (i + off j1) v2) (ho2 : Owns w v1 v2) (hk : Keep w w' (fun q => Fr0 d v1 q ∨ q = b)) (hb : B ≤ b) (hb5 : b ≤ B + 5) : RdR W w w' d v i B b j1 := by
  refine ⟨⟨v2, hs, ho.trans ho2 hS.kp.size⟩, fun q h1 h2 h3 => ?_, hS.kp.trans hk (fun q hq hF => ?_)⟩
  · have := hc.size
    refine hk.block q (by have := hS.kp.size; omega) (fun hF => hF.elim ?_ h3)
    exact ((hc.free q h1 (by omega)).of ho (by omega)).fr0
  · rcases hF with hF | rfl
    · exact .inl (hF.elim Or.inl (fun hF => Or.inr (hF.elim Or.inl (fun e => (ho q e.symm).elim Or.inr (fun e => by omega)))))
    · exact .inr ⟨hb, hb5⟩
theorem RdS.u32 {W w : World} {d : DC} {v : Value} {i B j b o : Nat} {cs : Array Value} {t : TypeId} {x0 : Int} (hd : d.Ok) (hc : RdC W d v i B) (hS : RdS W w d v i B j) (hoff : off (j + 1) = off j + 4) (hle : off (j + 1) ≤ 62) (hb : B ≤ b) (hb5 : b ≤ B + 5) (hblk : w.heap[b]? = some (.cells cs t (0, 0))) (hx : cs[o]? = some (.int .u32 x0)) :
    Calls Tryz.prog 43 #[.iface 97 (.pointer (some ⟨d.t, 0, none⟩)), .iface 105 (.pointer (some ⟨b, o, none⟩))] w fun e w' => e = .returned .nilIface ∧ w'.heap[b]? = some (.cells (cs.setIfInBounds o (.int .u32 (bigOf ((d.c.D.drop (i + off j)).take 4) % 4294967296))) t (0, 0)) ∧ RdR W w w' d v i B b (j + 1) := by
  obtain ⟨v1, hs1, ho1⟩ := hS.st
  have hsz := hc.size
  have hf := (hc.free b hb (by omega)).of ho1 (by omega)
  have hfit := hc.fit
  refine (zzRead_u32 hd hs1 (by omega) hf (by have := hc.le; omega) hblk hx).mono fun e w' ⟨h1, h2, v2, h3, h4, h5⟩ => ⟨h1, h2, RdR.mk' hc hS ho1 (by rw [hoff, ← Nat.add_assoc]; exact h3) h4 h5 hb hb5⟩
theorem RdS.u16 {W w : World} {d : DC} {v : Value} {i B j b o : Nat} {cs : Array Value} {t : TypeId} {x0 : Int} (hd : d.Ok) (hc : RdC W d v i B) (hS : RdS W w d v i B j) (hoff : off (j + 1) = off j + 2) (hle : off (j + 1) ≤ 62) (hb : B ≤ b) (hb5 : b ≤ B + 5) (hblk : w.heap[b]? = some (.cells cs t (0, 0))) (hx : cs[o]? = some (.int .u16 x0)) :
    Calls Tryz.prog 43 #[.iface 97 (.pointer (some ⟨d.t, 0, none⟩)), .iface 139 (.pointer (some ⟨b, o, none⟩))] w fun e w' => e = .returned .nilIface ∧ w'.heap[b]? = some (.cells (cs.setIfInBounds o (.int .u16 (bigOf ((d.c.D.drop (i + off j)).take 2) % 65536))) t (0, 0)) ∧ RdR W w w' d v i B b (j + 1) := by
  obtain ⟨v1, hs1, ho1⟩ := hS.st
  have hsz := hc.size
  have hf := (hc.free b hb (by omega)).of ho1 (by omega)
  have hfit := hc.fit
  refine (zzRead_u16 hd hs1 (by omega) hf (by have := hc.le; omega) hblk hx).mono fun e w' ⟨h1, h2, v2, h3, h4, h5⟩ => ⟨h1, h2, RdR.mk' hc hS ho1 (by rw [hoff, ← Nat.add_assoc]; exact h3) h4 h5 hb hb5⟩
theorem RdS.mode {W w : World} {d : DC} {v : Value} {i B j b o : Nat} {cs : Array Value} {t : TypeId} {x0 : Int} (hd : d.Ok) (hc : RdC W d v i B) (hS : RdS W w d v i B j) (hoff : off (j + 1) = off j + 4) (hle : off (j + 1) ≤ 62) (hb : B ≤ b) (hb5 : b ≤ B + 5) (hblk : w.heap[b]? = some (.cells cs t (0, 0))) (hx : cs[o]? = some (.int .u32 x0)) :
    Calls Tryz.prog 43 #[.iface 97 (.pointer (some ⟨d.t, 0, none⟩)), .iface 142 (.pointer (some ⟨b, o, none⟩))] w fun e w' => e = .returned .nilIface ∧ w'.heap[b]? = some (.cells (cs.setIfInBounds o (.int .u32 (bigOf ((d.c.D.drop (i + off j)).take 4) % 4294967296))) t (0, 0)) ∧ RdR W w w' d v i B b (j + 1) := by
  obtain ⟨v1, hs1, ho1⟩ := hS.st
  have hsz := hc.size
  have hf := (hc.free b hb (by omega)).of ho1 (by omega)
  have hfit := hc.fit
  refine (zzRead_mode hd hs1 (by omega) hf (by have := hc.le; omega) hblk hx).mono fun e w' ⟨h1, h2, v2, h3, h4, h5⟩ => ⟨h1, h2, RdR.mk' hc hS ho1 (by rw [hoff, ← Nat.add_assoc]; exact h3) h4 h5 hb hb5⟩
theorem RdS.hash {W w : World} {d : DC} {v : Value} {i B j : Nat} {cs : List Value} (hd : d.Ok) (hc : RdC W d v i B) (hS : RdS W w d v i B j) (hoff : off (j + 1) = off j + 20) (hle : off (j + 1) ≤ 62) (hblk : w.heap[B]? = some (.cells cs.toArray 118 (0, 0))) (hl : 20 ≤ cs.length) :
    Calls Tryz.prog 43 #[.iface 97 (.pointer (some ⟨d.t, 0, none⟩)), .iface 143 (.pointer (some ⟨B, 0, none⟩))] w fun e w' => e = .returned .nilIface ∧ w'.heap[B]? = some (.cells (splice cs 0 (nums .u8 ((d.c.D.drop (i + off j)).take 20))).toArray 118 (0, 0)) ∧ RdR W w w' d v i B B (j + 1) := by
  obtain ⟨v1, hs1, ho1⟩ := hS.st
  have hsz := hc.size
  have hf := (hc.free B (Nat.le_refl _) (by omega)).of ho1 (by omega)
  have hfit := hc.fit
  refine (zzRead_hash hd hs1 (by omega) hf hblk (by omega)).mono fun e w' ⟨h1, h2, v2, h3, h4, h5⟩ => ⟨h1, h2, RdR.mk' hc hS ho1 (by rw [hoff, ← Nat.add_assoc]; exact h3) h4 (h5.mono (fun q hF => ?_)) (Nat.le_refl _) (by omega)⟩
  rcases hF with (e | e | e | e) | e
  · exact .inl (.inl (.inl e))
  · exact .inl (.inl (.inr (.inl e)))
  · exact .inl (.inl (.inr (.inr e)))
  · exact .inr e
  · exact .inl (.inr e)
theorem ent_u32 {cs : Array Value} (h : Ent cs) {k : Nat} (h1 : 27 ≤ k) (h2 : k < 33) : ∃ x : Int, cs[k]? = some (.int .u32 x) := by
  obtain ⟨v, hv, he⟩ := h.get (k := k) (by omega)
  unfold entOk at he
  rw [if_neg (by omega), if_neg (by omega), if_neg (by omega), if_pos h2] at he
  obtain ⟨x, rfl⟩ := he
  exact ⟨x, hv⟩
theorem entOk_u32 {k : Nat} (h1 : 27 ≤ k) (h2 : k < 33) (x : Int) : entOk k (.int .u32 x) := by
  unfold entOk
  rw [if_neg (by omega), if_neg (by omega), if_neg (by omega), if_pos h2]
  exact ⟨x, rfl⟩
theorem RdS.step {W w : World} {d : DC} {v : Value} {i B j : Nat} {x : Value} (hd : d.Ok) (hc : RdC W d v i B) (hS : RdS W w d v i B j) (hx : (targets B)[j]? = some x) :
    Calls Tryz.prog 43 #[.iface 97 (.pointer (some ⟨d.t, 0, none⟩)), x] w fun e w' => e = .returned .nilIface ∧ RdS W w' d v i B (j + 1) := by
  obtain ⟨cs, hE, hB⟩ := hS.ent
  obtain ⟨x1, h1⟩ := hS.l1
  obtain ⟨x2, h2⟩ := hS.l2
  obtain ⟨x3, h3⟩ := hS.l3
  obtain ⟨x4, h4⟩ := hS.l4
  obtain ⟨y, h5, _⟩ := hS.fl
  have h6 := hS.sl
  match j, hx with
  | 0, hx =>
    cases hx
    refine (RdS.u32 hd hc hS (by decide) (by decide) (by omega) (by omega) h3 rfl).mono fun e w' ⟨g1, g2, hR⟩ => ⟨g1, hR.st, ⟨cs, hE, (hR.other B (by omega) (by omega) (by omega)).trans hB⟩, ⟨x1, (hR.other (B + 1) (by omega) (by omega) (by omega)).trans h1⟩, ⟨x2, (hR.other (B + 2) (by omega) (by omega) (by omega)).trans h2⟩, ⟨_, g2⟩, ⟨x4, (hR.other (B + 4) (by omega) (by omega) (by omega)).trans h4⟩, ⟨y, (hR.other (B + 5) (by omega) (by omega) (by omega)).trans h5, by omega⟩, (hR.other (B + 6) (by omega) (by omega) (by omega)).trans h6, hR.kp⟩
  | 1, hx =>
    cases hx
    refine (RdS.u32 hd hc hS (by decide) (by decide) (by omega) (by omega) h4 rfl).mono fun e w' ⟨g1, g2, hR⟩ => ⟨g1, hR.st, ⟨cs, hE, (hR.other B (by omega) (by omega) (by omega)).trans hB⟩, ⟨x1, (hR.other (B + 1) (by omega) (by omega) (by omega)).trans h1⟩, ⟨x2, (hR.other (B + 2) (by omega) (by omega) (by omega)).trans h2⟩, ⟨x3, (hR.other (B + 3) (by omega) (by omega) (by omega)).trans h3⟩, ⟨_, g2⟩, ⟨y, (hR.other (B + 5) (by omega) (by omega) (by omega)).trans h5, by omega⟩, (hR.other (B + 6) (by omega) (by omega) (by omega)).trans h6, hR.kp⟩
  | 2, hx =>
    cases hx
    refine (RdS.u32 hd hc hS (by decide) (by decide) (by omega) (by omega) h1 rfl).mono fun e w' ⟨g1, g2, hR⟩ => ⟨g1, hR.st, ⟨cs, hE, (hR.other B (by omega) (by omega) (by omega)).trans hB⟩, ⟨_, g2⟩, ⟨x2, (hR.other (B + 2) (by omega) (by omega) (by omega)).trans h2⟩, ⟨x3, (hR.other (B + 3) (by omega) (by omega) (by omega)).trans h3⟩, ⟨x4, (hR.other (B + 4) (by omega) (by omega) (by omega)).trans h4⟩, ⟨y, (hR.other (B + 5) (by omega) (by omega) (by omega)).trans h5, by omega⟩, (hR.other (B + 6) (by omega) (by omega) (by omega)).trans h6, hR.kp⟩
  | 3, hx =>
    cases hx
    refine (RdS.u32 hd hc hS (by decide) (by decide) (by omega) (by omega) h2 rfl).mono fun e w' ⟨g1, g2, hR⟩ => ⟨g1, hR.st, ⟨cs, hE, (hR.other B (by omega) (by omega) (by omega)).trans hB⟩, ⟨x1, (hR.other (B + 1) (by omega) (by omega) (by omega)).trans h1⟩, ⟨_, g2⟩, ⟨x3, (hR.other (B + 3) (by omega) (by omega) (by omega)).trans h3⟩, ⟨x4, (hR.other (B + 4) (by omega) (by omega) (by omega)).trans h4⟩, ⟨y, (hR.other (B + 5) (by omega) (by omega) (by omega)).trans h5, by omega⟩, (hR.other (B + 6) (by omega) (by omega) (by omega)).trans h6, hR.kp⟩
  | 4, hx =>
    cases hx
    obtain ⟨x0, hx0⟩ := ent_u32 hE (k := 27) (by omega) (by omega)
    refine (RdS.u32 hd hc hS (by decide) (by decide) (by omega) (by omega) hB hx0).mono fun e w' ⟨g1, g2, hR⟩ => ⟨g1, hR.st, ⟨_, hE.set (entOk_u32 (by omega) (by omega) _), g2⟩, ⟨x1, (hR.other (B + 1) (by omega) (by omega) (by omega)).trans h1⟩, ⟨x2, (hR.other (B + 2) (by omega) (by omega) (by omega)).trans h2⟩, ⟨x3, (hR.other (B + 3) (by omega) (by omega) (by omega)).trans h3⟩, ⟨x4, (hR.other (B + 4) (by omega) (by omega) (by omega)).trans h4⟩, ⟨y, (hR.other (B + 5) (by omega) (by omega) (by omega)).trans h5, by omega⟩, (hR.other (B + 6) (by omega) (by omega) (by omega)).trans h6, hR.kp⟩
  | 5, hx =>
    cases hx
    obtain ⟨x0, hx0⟩ := ent_u32 hE (k := 28) (by omega) (by omega)
    refine (RdS.u32 hd hc hS (by decide) (by decide) (by omega) (by omega) hB hx0).mono fun e w' ⟨g1, g2, hR⟩ => ⟨g1, hR.st, ⟨_, hE.set (entOk_u32 (by omega) (by omega) _), g2⟩, ⟨x1, (hR.other (B + 1) (by omega) (by omega) (by omega)).trans h1⟩, ⟨x2, (hR.other (B + 2) (by omega) (by omega) (by omega)).trans h2⟩, ⟨x3, (hR.other (B + 3) (by omega) (by omega) (by omega)).trans h3⟩, ⟨x4, (hR.other (B + 4) (by omega) (by omega) (by omega)).trans h4⟩, ⟨y, (hR.other (B + 5) (by omega) (by omega) (by omega)).trans h5, by omega⟩, (hR.other (B + 6) (by omega) (by omega) (by omega)).trans h6, hR.kp⟩
  | 6, hx =>
    cases hx
    obtain ⟨x0, hx0⟩ := ent_u32 hE (k := 29) (by omega) (by omega)
    refine (RdS.mode hd hc hS (by decide) (by decide) (by omega) (by omega) hB hx0).mono fun e w' ⟨g1, g2, hR⟩ => ⟨g1, hR.st, ⟨_, hE.set (entOk_u32 (by omega) (by omega) _), g2⟩, ⟨x1, (hR.other (B + 1) (by omega) (by omega) (by omega)).trans h1⟩, ⟨x2, (hR.other (B + 2) (by omega) (by omega) (by omega)).trans h2⟩, ⟨x3, (hR.other (B + 3) (by omega) (by omega) (by omega)).trans h3⟩, ⟨x4, (hR.other (B + 4) (by omega) (by omega) (by omega)).trans h4⟩, ⟨y, (hR.other (B + 5) (by omega) (by omega) (by omega)).trans h5, by omega⟩, (hR.other (B + 6) (by omega) (by omega) (by omega)).trans h6, hR.kp⟩
  | 7, hx =>
    cases hx
    obtain ⟨x0, hx0⟩ := ent_u32 hE (k := 30) (by omega) (by omega)
    refine (RdS.u32 hd hc hS (by decide) (by decide) (by omega) (by omega) hB hx0).mono fun e w' ⟨g1, g2, hR⟩ => ⟨g1, hR.st, ⟨_, hE.set (entOk_u32 (by omega) (by omega) _), g2⟩, ⟨x1, (hR.other (B + 1) (by omega) (by omega) (by omega)).trans h1⟩, ⟨x2, (hR.other (B + 2) (by omega) (by omega) (by omega)).trans h2⟩, ⟨x3, (hR.other (B + 3) (by omega) (by omega) (by omega)).trans h3⟩, ⟨x4, (hR.other (B + 4) (by omega) (by omega) (by omega)).trans h4⟩, ⟨y, (hR.other (B + 5) (by omega) (by omega) (by omega)).trans h5, by omega⟩, (hR.other (B + 6) (by omega) (by omega) (by omega)).trans h6, hR.kp⟩
  | 8, hx =>
    cases hx
    obtain ⟨x0, hx0⟩ := ent_u32 hE (k := 31) (by omega) (by omega)
    refine (RdS.u32 hd hc hS (by decide) (by decide) (by omega) (by omega) hB hx0).mono fun e w' ⟨g1, g2, hR⟩ => ⟨g1, hR.st, ⟨_, hE.set (entOk_u32 (by omega) (by omega) _), g2⟩, ⟨x1, (hR.other (B + 1) (by omega) (by omega) (by omega)).trans h1⟩, ⟨x2, (hR.other (B + 2) (by omega) (by omega) (by omega)).trans h2⟩, ⟨x3, (hR.other (B + 3) (by omega) (by omega) (by omega)).trans h3⟩, ⟨x4, (hR.other (B + 4) (by omega) (by omega) (by omega)).trans h4⟩, ⟨y, (hR.other (B + 5) (by omega) (by omega) (by omega)).trans h5, by omega⟩, (hR.other (B + 6) (by omega) (by omega) (by omega)).trans h6, hR.kp⟩
  | 9, hx =>
    cases hx
    obtain ⟨x0, hx0⟩ := ent_u32 hE (k := 32) (by omega) (by omega)
    refine (RdS.u32 hd hc hS (by decide) (by decide) (by omega) (by omega) hB hx0).mono fun e w' ⟨g1, g2, hR⟩ => ⟨g1, hR.st, ⟨_, hE.set (entOk_u32 (by omega) (by omega) _), g2⟩, ⟨x1, (hR.other (B + 1) (by omega) (by omega) (by omega)).trans h1⟩, ⟨x2, (hR.other (B + 2) (by omega) (by omega) (by omega)).trans h2⟩, ⟨x3, (hR.other (B + 3) (by omega) (by omega) (by omega)).trans h3⟩, ⟨x4, (hR.other (B + 4) (by omega) (by omega) (by omega)).trans h4⟩, ⟨y, (hR.other (B + 5) (by omega) (by omega) (by omega)).trans h5, by omega⟩, (hR.other (B + 6) (by omega) (by omega) (by omega)).trans h6, hR.kp⟩
  | 10, hx =>
    cases hx
    refine (RdS.hash (cs := cs.toList) hd hc hS (by decide) (by decide) hB (by have := hE.1; simp; omega)).mono fun e w' ⟨g1, g2, hR⟩ => ⟨g1, hR.st, ⟨_, Ent.splice20 (cs := cs.toList) hE (by rw [List.length_take, List.length_drop, hd.c.len]; have := hc.fit; have : off 10 = 40 := (by decide); omega) (fun z hz => hd.c.byte z (List.mem_of_mem_drop (List.mem_of_mem_take hz))), g2⟩, ⟨x1, (hR.other (B + 1) (by omega) (by omega) (by omega)).trans h1⟩, ⟨x2, (hR.other (B + 2) (by omega) (by omega) (by omega)).trans h2⟩, ⟨x3, (hR.other (B + 3) (by omega) (by omega) (by omega)).trans h3⟩, ⟨x4, (hR.other (B + 4) (by omega) (by omega) (by omega)).trans h4⟩, ⟨y, (hR.other (B + 5) (by omega) (by omega) (by omega)).trans h5, by omega⟩, (hR.other (B + 6) (by omega) (by omega) (by omega)).trans h6, hR.kp⟩
  | 11, hx =>
    cases hx
    refine (RdS.u16 hd hc hS (by decide) (by decide) (by omega) (by omega) h5 rfl).mono fun e w' ⟨g1, g2, hR⟩ => ⟨g1, hR.st, ⟨cs, hE, (hR.other B (by omega) (by omega) (by omega)).trans hB⟩, ⟨x1, (hR.other (B + 1) (by omega) (by omega) (by omega)).trans h1⟩, ⟨x2, (hR.other (B + 2) (by omega) (by omega) (by omega)).trans h2⟩, ⟨x3, (hR.other (B + 3) (by omega) (by omega) (by omega)).trans h3⟩, ⟨x4, (hR.other (B + 4) (by omega) (by omega) (by omega)).trans h4⟩, ⟨_, g2, fun _ => rfl⟩, (hR.other (B + 6) (by omega) (by omega) (by omega)).trans h6, hR.kp⟩
  | j + 12, hx => simp [targets] at hx
end Go.Proofs.YtllikhbafaohgaaGreatDoor.Idx
