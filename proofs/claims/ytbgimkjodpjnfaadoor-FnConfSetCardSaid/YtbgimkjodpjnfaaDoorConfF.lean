/- withSettedOption of the configuration's package, at one value. -/
import Derived.Test.YtbgimkjodpjnfaaDoorConfE
namespace Go.Proofs.YtbgimkjodpjnfaaDoor.Conf
open Go.RowKit Go.Proofs.YtbgimkjodpjnfaaDoorW.PrintWords Go.Proofs.YtbgimkjodpjnfaaDoorW.PrintMore Go.Proofs.YtbgimkjodpjnfaaDoor.Sep Go.Proofs.YtbgimkjodpjnfaaDoor.PFnConfSet

theorem wrap_succ {i : Nat} (h : i ≤ 9223372036854775806) : wrap64 ((i : Int) + 1) = ((i + 1 : Nat) : Int) := by
  unfold wrap64
  omega
theorem contains_l0 (l : List ByteArray) (a : ByteArray) (hl : l.length ≤ 9223372036854775806) : ∀ (d i : Nat), i + d = l.length → config_contains.l0 (d + 1) a l (l.length : Int) (i : Int) = some ((l.drop i).any (fun x => eqs x a)) := by
  intro d
  induction d with
  | zero =>
    intro i hi
    rw [config_contains.l0, if_neg (by omega), List.drop_eq_nil_of_le (by omega)]
    rfl
  | succ d ih =>
    intro i hi
    have hlt : i < l.length := by omega
    have hr : rdOf ByteArray.empty l (i : Int) = l[i] := by simp [rdOf, List.getD_eq_getElem?_getD, hlt]
    rw [config_contains.l0, if_pos (by omega), if_pos (by omega), if_pos (by omega), wrap_succ (by omega), List.drop_eq_getElem_cons hlt, List.any_cons, hr]
    by_cases h : l[i].toList = a.toList
    · rw [if_pos h]
      simp [eqs, h]
    · rw [if_neg h, ih (i + 1) (by omega)]
      simp [eqs, h]
theorem contains_f (l : List ByteArray) (a : ByteArray) (hl : l.length ≤ 9223372036854775806) : config_contains.f (l.length + 1) l a = some (l.any (fun x => eqs x a)) := by
  unfold config_contains.f
  have := contains_l0 l a hl l.length 0 (by omega)
  rw [List.drop_zero] at this
  exact this
theorem contains_calls (A : Option Addr) (c : Nat) (l : List ByteArray) (a : ByteArray) (w : World) (hr : Kd.C Kd.string w A l.length l) (hc : l.length ≤ c) (hl : l.length ≤ 9223372036854775806) :
    Calls Tryd.prog 72 #[.slice A l.length c, .string a] w fun e w' => e = .returned (.bool (l.any (fun x => eqs x a))) ∧ ∃ n, w' = w.drewN n := by
  refine (config_contains.calls (l.length + 1) A c l a _ w hr hc (contains_f l a hl)).mono ?_
  rintro e w' ⟨rfl, h⟩
  exact ⟨rfl, h.out⟩

/-- The value of the option is set: the others with this key go, and it is put behind the rest unless it was there. -/
def keepB (key value : ByteArray) (o : S45) : Bool := !eqs o.f0 key || eqs value o.f1
def kept (os : List S45) (key value : ByteArray) : List S45 := os.filter (keepB key value)
def adds (os : List S45) (key value : ByteArray) : List ByteArray := (os.filter (fun o => eqs o.f0 key && eqs value o.f1)).map S45.f1
def setOpts (os : List S45) (key value : ByteArray) : List S45 := if (adds os key value).any (fun x => eqs x value) then kept os key value else kept os key value ++ [⟨key, value⟩]

/-- What the main loop knows: ks are the options that stay, as the values that were met. -/
structure Mid (w wr : World) (Fs : Nat → Nat → Prop) (i : Nat) (ks : List S45) (as_ : List ByteArray) (s7 s8 : Value) : Prop where
  rows : ∃ G : Nat → Prop, sOpts.M wr G ks [s7] ∧ (∀ k, G k → (∃ j, j < i ∧ Fs j k) ∨ w.heap.size ≤ k) ∧ (∀ k, G k → s8.ownBlock ≠ some k)
  new7 : ∀ k, s7.ownBlock = some k → w.heap.size ≤ k
  own8 : wr.ownsRow w.heap.size 9 1 s8 as_.length (encs Value.string as_)
  ne : s8.ownBlock = none ∨ s8.ownBlock ≠ s7.ownBlock
  below : Below w.heap.size w wr
section
variable {w wr w1 : World} {Fs : Nat → Nat → Prop} {i : Nat} {ks : List S45} {as_ : List ByteArray} {s7 s8 v1 : Value} {o : S45} {x : ByteArray} {G : Nat → Prop}
theorem Mid.skip (h : Mid w wr Fs i ks as_ s7 s8) : Mid w wr Fs (i + 1) ks as_ s7 s8 := by
  obtain ⟨⟨G, h1, h2, h3⟩, h4, h5, h6, h7⟩ := h
  refine ⟨⟨G, h1, fun k hk => ?_, h3⟩, h4, h5, h6, h7⟩
  rcases h2 k hk with ⟨j, hj, hf⟩ | hk
  · exact .inl ⟨j, by omega, hf⟩
  · exact .inr hk
theorem Mid.put7 (h : Mid w wr Fs i ks as_ s7 s8) (hF : ∀ i k, Fs i k → k < w.heap.size) (hG2 : ∀ k, G k → (∃ j, j < i ∧ Fs j k) ∨ w.heap.size ≤ k) (hG3 : ∀ k, G k → s8.ownBlock ≠ some k)
    (hM : sOpts.M w1 (fun k => G k ∨ Fs i k ∨ wr.heap.size ≤ k) (ks ++ [o]) [v1]) (hg : wr.grownBy w1 s7.ownBlock) (hat : v1.ownBlock = s7.ownBlock ∨ ∃ b, v1.ownBlock = some b ∧ wr.heap.size ≤ b) :
    Mid w w1 Fs (i + 1) (ks ++ [o]) as_ v1 s8 := by
  obtain ⟨_, h4, h5, h6, h7⟩ := h
  have hs := h7.size
  refine ⟨⟨_, hM, fun k hk => ?_, fun k hk => ?_⟩, fun k hk => ?_, h5.kept hg h6, ?_, h7.grown hg hs h4⟩
  · rcases hk with hk | hk | hk
    · rcases hG2 k hk with ⟨j, hj, hf⟩ | hk
      · exact .inl ⟨j, by omega, hf⟩
      · exact .inr hk
    · exact .inl ⟨i, by omega, hk⟩
    · exact .inr (by omega)
  · rcases hk with hk | hk | hk
    · exact hG3 k hk
    · intro he
      have h8 := own_base h5 k he
      have := hF i k hk
      omega
    · intro he
      have h8 := own_lt h5 k he
      omega
  · rcases hat with hat | ⟨b, hb, hle⟩
    · exact h4 k (hat ▸ hk)
    · rw [hb] at hk
      injection hk with hk
      omega
  · rcases hat with hat | ⟨b, hb, hle⟩
    · rw [hat]; exact h6
    · refine .inr fun he => ?_
      have h8 := own_lt h5 b (he.trans hb)
      omega
theorem Mid.put8 (h : Mid w wr Fs i ks as_ s7 s8) (hR : Kd.string.R 9 w1 w.heap.size (fun _ => True) v1 (as_ ++ [x])) (hg : wr.grownBy w1 s8.ownBlock) (hat : v1.ownBlock = s8.ownBlock ∨ ∃ b, v1.ownBlock = some b ∧ wr.heap.size ≤ b) :
    Mid w w1 Fs i ks (as_ ++ [x]) s7 v1 := by
  obtain ⟨⟨G, h1, h2, h3⟩, h4, h5, h6, h7⟩ := h
  have hs := h7.size
  have hb1 := sOpts.bound h1
  refine ⟨⟨_, sOpts.move (fun k hk => hg.block k hk.2 (fun he => h3 k hk.1 he.symm)) hb1, fun k hk => h2 k hk.1, fun k hk => ?_⟩, h4, Kd.own_of_R hR, ?_, h7.grown hg hs (own_base h5)⟩
  · rcases hat with hat | ⟨b, hb, hle⟩
    · rw [hat]; exact h3 k hk.1
    · rw [hb]
      intro he
      injection he with he
      have := hk.2
      omega
  · rcases hat with hat | ⟨b, hb, hle⟩
    · rw [hat]; exact h6
    · refine .inr fun he => ?_
      have h8 := Sd.row_block hb1 b (he.symm.trans hb)
      have := h8.2
      omega
theorem Mid.drew (h : Mid w wr Fs i ks as_ s7 s8) (n : Nat) : Mid w (wr.drewN n) Fs i ks as_ s7 s8 := by
  obtain ⟨⟨G, h1, h2, h3⟩, h4, h5, h6, h7⟩ := h
  have hb : Below wr.heap.size wr (wr.drewN n) := pw_below_drewN (Below.refl _ _) n
  exact ⟨⟨G, Sd.below _ h1 hb, h2, h3⟩, h4, pw_own_below h5 hb, h6, below_step h7 hb⟩
end

theorem mid_apart {w : World} {F G : Nat → Prop} {Fs : Nat → Nat → Prop} {i n : Nat} (h1 : ∀ i k, Fs i k → F k ∧ k < w.heap.size) (h2 : ∀ i j k, i ≠ j → Fs i k → Fs j k → False) (h3 : ∀ k, G k → (∃ j, j < i ∧ Fs j k) ∨ w.heap.size ≤ k) : ∀ k, (G k ∧ k < n) → Fs i k → False := by
  intro k hk hf
  rcases h3 k hk.1 with ⟨j, hj, hjf⟩ | hle
  · exact h2 j i k (by omega) hjf hf
  · have := (h1 i k hf).2
    omega
theorem kept_yes {os : List S45} {o : S45} {key value : ByteArray} (h : keepB key value o = true) : kept (os ++ [o]) key value = kept os key value ++ [o] := by simp [kept, h]
theorem kept_no {os : List S45} {o : S45} {key value : ByteArray} (h : keepB key value o = false) : kept (os ++ [o]) key value = kept os key value := by simp [kept, h]
theorem adds_yes {os : List S45} {o : S45} {key value : ByteArray} (h : (eqs o.f0 key && eqs value o.f1) = true) : adds (os ++ [o]) key value = adds os key value ++ [o.f1] := by simp [adds, h]
theorem adds_no {os : List S45} {o : S45} {key value : ByteArray} (h : (eqs o.f0 key && eqs value o.f1) = false) : adds (os ++ [o]) key value = adds os key value := by simp [adds, h]
theorem adds_le (os : List S45) (key value : ByteArray) (i : Nat) : (adds (os.take i) key value).length ≤ os.length := by
  unfold adds
  rw [List.length_map]
  exact Nat.le_trans (List.length_filter_le _ _) (by rw [List.length_take]; omega)
theorem kept_le (os : List S45) (key value : ByteArray) (i : Nat) : (kept (os.take i) key value).length ≤ os.length := by
  unfold kept
  exact Nat.le_trans (List.length_filter_le _ _) (by rw [List.length_take]; omega)

/-- What the loop over the one value knows. -/
structure Fin2 (w wr wx : World) (F : Nat → Prop) (key value : ByteArray) (os : List S45) (u7 s7 : Value) (g : Nat) : Prop where
  ini : g = 1 → wx = wr ∧ s7 = u7
  fin : g = 0 → sOpts.M wx (fun k => F k ∨ w.heap.size ≤ k) (setOpts os key value) [s7] ∧ Below w.heap.size w wx
set_option maxHeartbeats 4000000 in
set_option maxRecDepth 100000 in
theorem withSetted_calls {w : World} {F : Nat → Prop} {os : List S45} {v : Value} (h : sOpts.M w F os [v]) (hn : os.length ≤ 8589934591) (key value : ByteArray) (hw : ∀ o ∈ os, Word o.f0) (hk : Word key)
    (A : Option Addr) (c : Nat) (hv : Kd.C Kd.string w A 1 [value]) (hc : 1 ≤ c) :
    Calls Tryd.prog 62 #[v, .string key, .slice A 1 c] w fun e w' => ∃ v', e = .returned v' ∧ sOpts.M w' (fun k => F k ∨ w.heap.size ≤ k) (setOpts os key value) [v'] ∧ Below w.heap.size w w' := by
  obtain ⟨A0, c0, rfl, hc0, hm⟩ := Sd.row_shape h
  obtain ⟨Fs, hF1, hF2, hF3⟩ := Sd.row_parts h
  have HF1 := Aside0.mk hF1
  have HF2 := Aside0.mk hF2
  have HF3 := Aside0.mk hF3
  have HW := Aside0.mk hw
  have HK := Aside0.mk hk
  have HN := Aside0.mk hn
  have HV := Aside0.mk hv
  have HC := Aside0.mk hc
  clear h hw hk hc0 hm hn hF1 hF2 hF3 hv hc
  go_enter Tryd.func62, Tryd.ntmps62
  go_wp2
  go_loopg [7, 8, 15] os.length (fun g s7 s8 s15 wr => ∃ i : Nat, s15 = .int .i64 i ∧ Aside0 (i + g = os.length) ∧ Mid w wr Fs i (kept (os.take i) key value) (adds (os.take i) key value) s7 s8)
  case atStart => exact ⟨0, rfl, ⟨by omega⟩, ⟨⟨fun _ => False, Sd.row_nil _ _ _ _, fun _ h => h.elim, fun _ h => h.elim⟩, fun k hk => by simp [Value.ownBlock] at hk, own_nil _ _ _ _, .inl rfl, Below.refl _ _⟩⟩
  case round =>
    obtain ⟨i, rfl, HI, HM⟩ := hrel
    cases gk with
    | zero =>
      obtain rfl : i = os.length := by have := HI.out; omega
      have hlt : decide (os.length < os.length) = false := by simp
      rw [List.take_length] at HM
      obtain ⟨A8, c8, rfl, hle8, hC8⟩ := Kd.R_reads (Kd.R_of_own (h1 := fun _ => rfl) HM.own8 (fun k hk => hk))
      have HC8 := Aside0.mk hC8
      have HL8 := Aside0.mk hle8
      have HAl : Aside0 ((adds os key value).length ≤ os.length) := ⟨by have := adds_le os key value os.length; rwa [List.take_length] at this⟩
      have HKl : Aside0 ((kept os key value).length ≤ os.length) := ⟨by have := kept_le os key value os.length; rwa [List.take_length] at this⟩
      obtain ⟨av, hav, hcv⟩ := Kd.at_string HV.out 0 (by omega) (by omega)
      cases hav
      replace hcv := (HM.below.cell (World.block_lt_of_cell? w _ hcv)).trans hcv
      have e0 : rdOf ByteArray.empty [value] 0 = value := rfl
      rw [e0] at hcv
      replace hcv : wr.cell? av = some (.string value) := by simpa [Addr.add] using hcv
      have HCV := Aside0.mk hcv
      have HMM := Aside0.mk HM
      clear hle8 hC8 hcv e0 HM
      go_wp2
      go_loopg [7, 47] 1 (fun g s7 s47 wx => ∃ i : Nat, s47 = .int .i64 i ∧ Aside0 (i + g = 1) ∧ Fin2 w wr wx F key value os u7 s7 g)
      case atStart => exact ⟨0, rfl, ⟨rfl⟩, ⟨fun _ => ⟨rfl, rfl⟩, fun h => by omega⟩⟩
      case round =>
        obtain ⟨i, rfl, HI2, HQ⟩ := hrel
        cases gk with
        | zero =>
          obtain rfl : i = 1 := by have := HI2.out; omega
          go_wp2
          go_ret
          exact ⟨_, rfl, HQ.fin rfl⟩
        | succ g =>
          obtain rfl : i = 0 := by have := HI2.out; omega
          obtain rfl : g = 0 := by have := HI2.out; omega
          obtain ⟨rfl, rfl⟩ := HQ.ini rfl
          have hcv := HCV.out
          have HCt := Aside0.mk (contains_calls A8 c8 (adds os key value) value wr HC8.out HL8.out (by have := HAl.out; have := HN.out; omega))
          cases ha : (adds os key value).any (fun x => eqs x value) with
          | true =>
            go_wp2_with (go_at_call 72; refine (HCt.out).mono ?_; rintro e w' ⟨rfl, nq, rfl⟩)
            go_roundg 0
            case measure => omega
            case rel =>
              refine ⟨1, by go_num, ⟨rfl⟩, ⟨fun h => by omega, fun _ => ?_⟩⟩
              have hm := HMM.out.drew nq
              obtain ⟨G, g1, g2, g3⟩ := hm.rows
              refine ⟨sOpts.mono (fun k hk => ?_) (show sOpts.M _ G (setOpts os key value) _ from by unfold setOpts; rw [ha]; exact g1), hm.below⟩
              rcases g2 k hk with ⟨j, _, hf⟩ | hk
              · exact .inl (HF1.out j k hf).1
              · exact .inr hk
          | false =>
            go_wp2_with (first | (go_at_call 72; refine (HCt.out).mono ?_; rintro e w' ⟨rfl, nq, rfl⟩; have HMD := Aside0.mk (HMM.out.drew nq)) | (go_at_call 73; refine (withAdded_calls (HMD.out.rows.choose_spec.1) ?hl key value).mono ?_; (case hl => have := HKl.out; have := HN.out; omega); rintro e w2 ⟨v2, rfl, hm2, hg2, ha2⟩; have HM2 := Aside0.mk hm2; have HG2 := Aside0.mk hg2; clear hm2 hg2 ha2))
            go_roundg 0
            case measure => omega
            case rel =>
              refine ⟨1, by go_num, ⟨rfl⟩, ⟨fun h => by omega, fun _ => ?_⟩⟩
              have hs := HMD.out.below.size
              refine ⟨sOpts.mono (fun k hk => ?_) (show sOpts.M _ _ (setOpts os key value) _ from by unfold setOpts; rw [ha]; exact HM2.out), Below.grown HMD.out.below HG2.out hs HMD.out.new7⟩
              rcases hk with hk | hk
              · rcases HMD.out.rows.choose_spec.2.1 k hk with ⟨j, _, hf⟩ | hk
                · exact .inl (HF1.out j k hf).1
                · exact .inr hk
              · exact .inr (by omega)
    | succ g =>
      have hi2 : i < os.length := by have := HI.out; omega
      have hlt : decide (i < os.length) = true := by simp; omega
      have hl2 : os.length ≤ 8589934591 := HN.out
      obtain ⟨ad, u, rfl, hcell, hM⟩ := HF3.out i _ (List.getElem?_eq_getElem hi2)
      replace hcell := (HM.below.cell (World.block_lt_of_cell? w _ hcell)).trans hcell
      have hko := HW.out _ (List.getElem_mem hi2)
      have HP0 := Aside0.mk hM
      replace hM := Sd.below _ hM HM.below
      obtain ⟨b, rfl, _, hb⟩ := pOpt_open hM
      have hc1 := cell_of hb 1 rfl
      have hIk := isKey_calls hM key hko HK.out
      have HIk := Aside0.mk hIk
      obtain ⟨o, ho⟩ : ∃ o, o = os[i] := ⟨_, rfl⟩
      rw [← ho] at hc1 HIk hM HP0
      have hl : os.take (i + 1) = os.take i ++ [o] := by rw [take_snoc _ _ hi2, ho]
      have HL := Aside0.mk hl
      have HP := Aside0.mk hM
      have HV1 : Aside0 (Kd.C Kd.string wr A 1 [value]) := ⟨Kd.C_below HV.out HM.below⟩
      have HCt := Aside0.mk (contains_calls A c [value] o.f1 wr HV1.out HC.out (by simp))
      obtain ⟨G, hG1, hG2, hG3⟩ := HM.rows
      have HG1 := Aside0.mk (sOpts.bound hG1)
      have HG2 := Aside0.mk hG2
      have HG3 := Aside0.mk hG3
      have HAl := Aside0.mk (adds_le os key value i)
      have HKl := Aside0.mk (kept_le os key value i)
      have HD := Aside0.mk (mid_apart (n := wr.heap.size) HF1.out HF2.out hG2)
      have hany : ([value].any fun x => eqs x o.f1) = eqs value o.f1 := by simp
      simp only [hany] at HCt
      clear hb hM hIk hko ho hl hG1 hG2 hG3 hany
      cases hk : eqs o.f0 key with
      | false =>
        go_wp2_with (first | (go_at_call 71; refine (HIk.out).mono ?_; rintro e w' ⟨rfl, rfl⟩) | (at_builtin; refine Sd.row_append (d := pOpt) rfl (.tmp 23) (.tmp 25) 81 108 (.pointer none) 8 rfl Tryd.underlying81 info108 rfl (by decide) u7 (kept (os.take i) key value) o (.pointer (some ⟨b, 0, none⟩)) (fun k => G k ∧ k < wr.heap.size) (Fs i) rfl (by first | (go_simp; done) | (go_simp; rfl)) HP.out HD.out HG1.out ?al ?_; (case al => have := HKl.out; have := HN.out; omega); rintro v1 w1 hr1 hg1 ha1 -; have HR1 := Aside0.mk hr1; have HX1 := Aside0.mk hg1; have HA1 := Aside0.mk ha1; clear hr1 hg1 ha1))
        go_roundg g
        case measure => omega
        case rel =>
          refine ⟨i + 1, by go_num, ⟨by have := HI.out; omega⟩, ?_⟩
          rw [HL.out, kept_yes (by simp [keepB, hk]), adds_no (by simp [hk])]
          exact Mid.put7 HM (fun i k hf => (HF1.out i k hf).2) (fun k hk => HG2.out k hk.1) (fun k hk => HG3.out k hk.1) HR1.out HX1.out HA1.out
      | true =>
        cases hv : eqs value o.f1 with
        | false =>
          go_wp2_with (first | (go_at_call 71; refine (HIk.out).mono ?_; rintro e w' ⟨rfl, rfl⟩) | (go_at_call 72; refine (HCt.out).mono ?_; rintro e w' ⟨rfl, nq, rfl⟩))
          go_roundg g
          case measure => omega
          case rel =>
            refine ⟨i + 1, by go_num, ⟨by have := HI.out; omega⟩, ?_⟩
            rw [HL.out, kept_no (by simp [keepB, hk, hv]), adds_no (by simp [hk, hv])]
            exact (HM.drew nq).skip
        | true =>
          go_wp2_with (first | (go_at_call 71; refine (HIk.out).mono ?_; rintro e w' ⟨rfl, rfl⟩) | (go_at_call 72; refine (HCt.out).mono ?_; rintro e w' ⟨rfl, nq, rfl⟩) | ((with_reducible refine gate_builtin (b := .append) (xs := #[.tmp 33, .tmp 38]) rfl ?_); at_builtin; refine Kd.R_append Kd.string (w0 := w) w.heap.size rfl (.tmp 33) (.tmp 38) 26 9 (.string (⟨#[]⟩ : ByteArray)) 16 rfl Tryd.underlying26 info9 rfl (by decide) (by omega) u8 (adds (os.take i) key value) o.f1 [.string o.f1] (fun _ => True) (fun _ => False) rfl (by first | (go_simp; done) | (go_simp; rfl)) rfl (fun _ hk => hk.elim) (fun _ _ => trivial) (Kd.R_of_own (HM.drew nq).own8 (fun _ _ => trivial)) (HM.drew nq).below (HM.drew nq).below.size ?aL ?_; (case aL => have := HAl.out; have := HN.out; omega); rintro v1 w1 hr1 hb1 hg1 ha1; have HM1 := Mid.put8 (HM.drew nq) hr1 hg1 ha1; obtain ⟨G1, g1, g2, g3⟩ := HM1.rows; have HG1b := Aside0.mk (sOpts.bound g1); have HG2b := Aside0.mk g2; have HG3b := Aside0.mk g3; have HP1 := Aside0.mk (Sd.below _ HP0.out HM1.below); clear hr1 hb1 hg1 ha1 g1 g2 g3) | ((with_reducible refine gate_builtin (b := .append) (xs := #[.tmp 40, .tmp 42]) rfl ?_); at_builtin; refine Sd.row_append (d := pOpt) rfl (.tmp 40) (.tmp 42) 81 108 (.pointer none) 8 rfl Tryd.underlying81 info108 rfl (by decide) u7 (kept (os.take i) key value) o (.pointer (some ⟨b, 0, none⟩)) (fun k => G1 k ∧ k < w1.heap.size) (Fs i) rfl (by first | (go_simp; done) | (go_simp; rfl)) HP1.out ?ad HG1b.out ?al ?_; (case ad => exact mid_apart HF1.out HF2.out HG2b.out); (case al => have := HKl.out; have := HN.out; omega); rintro v2 w2 hr1 hg1 ha1 -; have HR2 := Aside0.mk hr1; have HX2 := Aside0.mk hg1; have HA2 := Aside0.mk ha1; clear hr1 hg1 ha1))
          go_roundg g
          case measure => omega
          case rel =>
            refine ⟨i + 1, by go_num, ⟨by have := HI.out; omega⟩, ?_⟩
            rw [HL.out, kept_yes (by simp [keepB, hk, hv]), adds_yes (by simp [hk, hv])]
            exact Mid.put7 HM1 (fun i k hf => (HF1.out i k hf).2) (fun k hk => HG2b.out k hk.1) (fun k hk => HG3b.out k hk.1) HR2.out HX2.out HA2.out
end Go.Proofs.YtbgimkjodpjnfaaDoor.Conf
