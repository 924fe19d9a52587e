import Derived.Test.YtikaldcoakpfoaaGreatDoorCpuF
-- MORE
-- SUB2
namespace Go.Proofs.YtikaldcoakpfoaaGreatDoor
set_option linter.unusedVariables false
set_option linter.unusedSimpArgs false
set_option linter.unnecessarySimpa false
open Go Go.RowKit Go.V Go.Lib

/-- The numbers from a to b. -/
def rng (a b : Int) : List Int := (List.range (b + 1 - a).toNat).map fun (i : Nat) => a + (i : Int)
theorem rng_len (a b : Int) : (rng a b).length = (b + 1 - a).toNat := by simp [rng]
theorem rng_at (a b : Int) (j : Nat) (h : j < (rng a b).length) : (rng a b)[j] = a + (j : Int) := by simp [rng]
theorem rng_one (a : Int) : rng a a = [a] := by
  unfold rng
  have : (a + 1 - a).toNat = 1 := by omega
  rw [this]
  simp [List.range_succ]
/-- What the pieces put into a set. -/
def addP : List Int → List (List UInt8) → Option (List Int)
  | acc, [] => some acc
  | acc, p :: r => match ipiece p with
    | none => none
    | some ab => addP (insAll acc (rng ab.1 ab.2)) r
theorem addP_none {acc : List Int} {p : List UInt8} {r : List (List UInt8)} (h : ipiece p = none) : addP acc (p :: r) = none := by
  unfold addP
  rw [h]
theorem addP_some {acc : List Int} {p : List UInt8} {r : List (List UInt8)} {a b : Int} (h : ipiece p = some (a, b)) : addP acc (p :: r) = addP (insAll acc (rng a b)) r := by
  conv => lhs; unfold addP
  rw [h]
def iparse (l : List UInt8) : Option (List Int) := if l = [] then some [] else addP [] (splitAt' 44 l)
theorem split_mem_len : ∀ {c : UInt8} {l : List UInt8} {p : List UInt8}, p ∈ splitAt' c l → p.length ≤ l.length
  | _, [], p, h => by
    simp only [splitAt', List.mem_singleton] at h
    subst h
    simp
  | c, x :: r, p, h => by
    have ih := fun {q : List UInt8} (hq : q ∈ splitAt' c r) => split_mem_len hq
    unfold splitAt' at h
    split at h
    · rcases List.mem_cons.1 h with rfl | h
      · simp
      · have := ih h
        simp only [List.length_cons]
        omega
    · split at h
      · rename_i a b hq
        rcases List.mem_cons.1 h with rfl | h
        · have := ih (q := a) (by rw [hq]; simp)
          simp only [List.length_cons]
          omega
        · have := ih (q := p) (by rw [hq]; simp [h])
          simp only [List.length_cons]
          omega
      · simp only [List.mem_singleton] at h
        subst h
        simp
theorem split_ne (c : UInt8) (l : List UInt8) : splitAt' c l ≠ [] := by
  cases l with
  | nil => simp [splitAt']
  | cons x r =>
    unfold splitAt'
    split
    · simp
    · split <;> simp
theorem ip_none_at {p : List UInt8} {v : Option Int} (hq : pair p = none) (h : atoi? p = v) : ipiece p = v.map fun v => (v, v) := by rw [ip_none hq, h]
theorem ip_bad1 {p x y : List UInt8} (hq : pair p = some (x, y)) (h : atoi? x = none) : ipiece p = none := by rw [ip_some hq, h]; rfl
theorem ip_bad2 {p x y : List UInt8} (hq : pair p = some (x, y)) (h : atoi? y = none) : ipiece p = none := by rw [ip_some hq, h]; cases atoi? x <;> rfl
theorem ip_bad3 {p x y : List UInt8} {a b : Int} (hq : pair p = some (x, y)) (h : atoi? x = some a) (h' : atoi? y = some b) (hab : ¬a ≤ b) : ipiece p = none := by
  rw [ip_some hq, h, h']
  simp only [Option.bind_some]
  rw [if_neg hab]
theorem ip_good {p x y : List UInt8} {a b : Int} (hq : pair p = some (x, y)) (h : atoi? x = some a) (h' : atoi? y = some b) (hab : a ≤ b) : ipiece p = some (a, b) := by
  rw [ip_some hq, h, h']
  simp only [Option.bind_some]
  rw [if_pos hab]
theorem wide_bounds {p x y : List UInt8} {a b : Int} (hw : wideP p = false) (hq : pair p = some (x, y)) (h : atoi? x = some a) (h' : atoi? y = some b) : b ≤ 1152921504606846976 ∧ -1152921504606846976 ≤ a := by
  rw [wide_some hq, h, h'] at hw
  simp at hw
  omega
theorem pair_len : ∀ {p x y : List UInt8}, pair p = some (x, y) → x.length ≤ p.length ∧ y.length ≤ p.length
  | [], x, y, h => by cases h
  | c :: r, x, y, h => by
    unfold pair at h
    split at h
    · injection h with h
      injection h with h1 h2
      subst h1
      subst h2
      simp
    · obtain ⟨p, hp, hq⟩ := Option.map_eq_some_iff.1 h
      injection hq with h1 h2
      have := pair_len (p := r) (x := p.1) (y := p.2) hp
      subst h1
      subst h2
      simp only [List.length_cons]
      omega
theorem zzPair_none (l : List UInt8) (hl : l.length ≤ 900000) (h : Hid (pair l = none)) (w : World) :
    Calls Tryz.prog 54 #[.string (bs l)] w fun e w' => ∃ b, e = .returned (.slice (some ⟨b, 0, none⟩) 1 1) ∧ St [] w w' [(true, .is b (strObj [.string (bs l)]))] := by
  refine (zzPair_calls l hl w).mono ?_
  intro e w' hp
  unfold PairPost at hp
  rw [h.out] at hp
  exact hp
theorem zzPair_some (l x y : List UInt8) (hl : l.length ≤ 900000) (h : Hid (pair l = some (x, y))) (w : World) :
    Calls Tryz.prog 54 #[.string (bs l)] w fun e w' => ∃ b, e = .returned (.slice (some ⟨b, 0, none⟩) 2 2) ∧ St [] w w' [(true, .is b (strObj [.string (bs x), .string (bs y)]))] := by
  refine (zzPair_calls l hl w).mono ?_
  intro e w' hp
  unfold PairPost at hp
  rw [h.out] at hp
  exact hp
theorem new0_calls (w : World) : Calls Tryz.prog 27 #[.slice none 0 0] w fun e w' => ∃ m es clock, Hid (SetI es clock []) ∧ e = .returned (setV m) ∧ St [] w w' [(true, .is m (.map es clock))] :=
  setNew_calls none [] 0 0 rfl (by omega) w ((St.init [] w).soft ⟨fun _ => rfl, by intro a h; cases h⟩)
def ParsePost (w : World) (o : Option (List Int)) (e : Ending) (w' : World) : Prop := match o with
  | some L => ∃ m es clock, Hid (SetI es clock L) ∧ e = .returned (.tuple #[setV m, .nilIface]) ∧ St [] w w' [(true, .is m (.map es clock))]
  | none => ∃ m tp v, e = .returned (.tuple #[setV m, .iface tp v]) ∧ Ext [] w w'
theorem parsePost_some {w w' : World} {o : Option (List Int)} {e : Ending} {L : List Int} (h : Hid (o = some L)) (k : ∃ m es clock, Hid (SetI es clock L) ∧ e = .returned (.tuple #[setV m, .nilIface]) ∧ St [] w w' [(true, .is m (.map es clock))]) : ParsePost w o e w' := by
  unfold ParsePost
  rw [h.out]
  exact k
theorem parsePost_none {w w' : World} {o : Option (List Int)} {e : Ending} (h : Hid (o = none)) (k : ∃ m tp v, e = .returned (.tuple #[setV m, .iface tp v]) ∧ Ext [] w w') : ParsePost w o e w' := by
  unfold ParsePost
  rw [h.out]
  exact k
def AtParse (w : World) (m s4 r2 : Nat) (src : Option Addr) (ps : List (List UInt8)) (i : Value) (wr : World) : Prop := ∃ (j : Nat) (es : Array MapEntry) (clock : Nat) (acc : List Int), i = .int .i64 j ∧ j ≤ ps.length ∧ Hid (addP [] ps = addP acc (ps.drop j)) ∧ Hid (SetI es clock acc) ∧
  St [] w wr [(true, .is m (.map es clock)), (true, .is s4 (setObj m)), (true, .is r2 set0), (false, soft src (strs8 ps))]
def AtRange (w : World) (m s4 r2 : Nat) (src : Option Addr) (ps : List (List UInt8)) (a b : Int) (acc : List Int) (i : Value) (wr : World) : Prop := ∃ (j : Nat) (es : Array MapEntry) (clock : Nat), i = .int .i64 (a + j) ∧ a + (j : Int) ≤ b + 1 ∧ Hid (SetI es clock (insAll acc ((rng a b).take j))) ∧
  St [] w wr [(true, .is m (.map es clock)), (true, .is s4 (setObj m)), (true, .is r2 set0), (false, soft src (strs8 ps))]
theorem lies_of_row1 {w : World} {key : Option Nat} {T : TypeId} {s n cap : Nat} {xs : List Value} (h : holds w (.row key T s n cap xs)) : Lies w (key.map fun b => ⟨b, 0, none⟩) xs := lies_of_arr (row_arr h)
/-- A row that is only read from here on. -/
theorem _root_.Go.V.St.rowSoft {S : List Nat} {w0 w : World} {L A B : List Ent} {key : Option Nat} {T : TypeId} {s n cap : Nat} {xs : List Value} (H : St S w0 w L) (hs : Split L (true, .row key T s n cap xs) A B) : St S w0 w ((false, soft (key.map fun b => ⟨b, 0, none⟩) xs) :: (A ++ B)) := by
  have hl := lies_of_row1 (H.get hs)
  have H1 := H.ro hs
  have hs1 : Split (A ++ (false, .row key T s n cap xs) :: B) (false, .row key T s n cap xs) A B := by
    clear H1 hl H hs
    induction A with
    | nil => exact .here _ _
    | cons x A ih => exact .there _ ih
  have H2 := H1.sub hs1 (soft (key.map fun b => ⟨b, 0, none⟩) xs) (soft_holds hl) (by
    intro c hc
    cases key with
    | none => cases xs <;> simp [Kn.fp, softFp] at hc
    | some k => cases xs <;> simp [Kn.fp, softFp] at hc ⊢; exact hc)
  exact H2.sublist (List.Sublist.cons_cons _ (List.Sublist.append_left (List.sublist_cons_self _ _) _))
set_option maxHeartbeats 1000000 in
set_option maxRecDepth 8000 in
theorem parse_calls (l : List UInt8) (hl : l.length ≤ 900000) (hw : ∀ p ∈ splitAt' 44 l, wideP p = false) (w : World) (he : ErrEnv w) :
    Calls Tryz.prog 36 #[.string (bs l)] w (ParsePost w (iparse l)) := by
  have H := St.init [] w
  have he' := Lib.hid he
  have hw' := Lib.hid hw
  have hlen' := Lib.hid (fun p hp => Nat.le_trans (split_mem_len (c := 44) (l := l) (p := p) hp) hl)
  clear he hw
  by_cases h0 : l = []
  · have hfin : Hid (iparse l = some []) := by show _ = _; unfold iparse; rw [if_pos h0]
    subst h0
    have hb0 : List.isEmpty ([] : List UInt8) = true := rfl
    go_enter Tryz.func36, Tryz.ntmps36
    repeat' (first | (go_big_may; (first
    | go_skip
    | ((first
        | (go_at_call 27; refine Calls.mono (new0_calls _) ?_; rintro e w' ⟨m, es, clock, hset, rfl, H'⟩; replace H := H.merge (by first | exact Strikes.nil _ | (repeat (first | exact Strikes.nil _ | (apply Strikes.cons; focus (repeat (first | exact Split.here _ _ | apply Split.there)))))) H' rfl; clear H')
        | (refine loud_ rfl ?_; refine wpList_plain rfl (fun K hK => ?_); (first | (refine op_box _ _ rfl H (fun b w' H1 => hK _ _ ?_)) | (refine op_alloc _ rfl (zero_of _ _ rfl) H (fun b w' H1 => hK _ _ ?_)) | (refine op_store _ _ _ rfl rfl rfl H (by repeat (first | exact Split.here _ _ | apply Split.there)) (by kernel_rfl) (by kernel_rfl) (by kernel_rfl) (fun w' H1 => hK _ _ ?_)) | (refine op_buildSlice_all _ _ _ rfl (by first | exact elem22 | exact elem60 | exact elem66 | exact elem72 | exact elem74) (by kernel_rfl) (by kernel_rfl) (by kernel_rfl) H (fun b w' H1 => hK _ _ ?_))); clear hK K; replace H := H1; clear H1)); (try clear hc); (try simp only [nrm, splice, Value.cells, Nat.reduceAdd, Act.eval, Act.put] at H); have hc := H.cells; simp only [CellsOf, KnCells, knc, Nat.reduceAdd] at hc))) | go_values | go_skip | go_guarded | go_step | go_upon | go_back | dsimp only)
    exact bodyPost_ret (v := .tuple #[setV m, .nilIface]) (by simp [results, Tryz.results36, go_sem, hc, Act.put]; try rfl) rfl (parsePost_some hfin ⟨m, es, clock, hset, rfl, H.top1⟩)
  · have hfin : Hid (iparse l = addP [] (splitAt' 44 l)) := by show _ = _; unfold iparse; rw [if_neg h0]
    have hb0 : l.isEmpty = false := by cases l <;> simp at h0 ⊢
    generalize hps : splitAt' 44 l = ps at *
    obtain ⟨res, hres⟩ : ∃ r, Hid (r = iparse l) := ⟨_, rfl⟩
    rw [← hres.out] at hfin ⊢
    go_enter Tryz.func36, Tryz.ntmps36
    repeat' (first | (go_big_may; (first
    | go_skip
    | ((first
        | (go_at_call 27; refine Calls.mono (new0_calls _) ?_; rintro e w' ⟨m, es, clock, hset, rfl, H'⟩; replace H := H.merge (by first | exact Strikes.nil _ | (repeat (first | exact Strikes.nil _ | (apply Strikes.cons; focus (repeat (first | exact Split.here _ _ | apply Split.there)))))) H' rfl; clear H')
        | (go_at_call 53; refine Calls.mono (zzSplit_calls l hl _) ?_; rintro e w' ⟨key, n, cap, vs, hvs, hvn, rfl, H'⟩; replace H := H.merge (by first | exact Strikes.nil _ | (repeat (first | exact Strikes.nil _ | (apply Strikes.cons; focus (repeat (first | exact Split.here _ _ | apply Split.there)))))) H' rfl; clear H')
        | (refine loud_ rfl ?_; refine wpList_plain rfl (fun K hK => ?_); (first | (refine op_box _ _ rfl H (fun b w' H1 => hK _ _ ?_)) | (refine op_alloc _ rfl (zero_of _ _ rfl) H (fun b w' H1 => hK _ _ ?_)) | (refine op_store _ _ _ rfl rfl rfl H (by repeat (first | exact Split.here _ _ | apply Split.there)) (by kernel_rfl) (by kernel_rfl) (by kernel_rfl) (fun w' H1 => hK _ _ ?_)) | (refine op_buildSlice_all _ _ _ rfl (by first | exact elem22 | exact elem60 | exact elem66 | exact elem72 | exact elem74) (by kernel_rfl) (by kernel_rfl) (by kernel_rfl) H (fun b w' H1 => hK _ _ ?_))); clear hK K; replace H := H1; clear H1)); (try clear hc); (try simp only [nrm, splice, Value.cells, Nat.reduceAdd, Act.eval, Act.put] at H); have hc := H.cells; simp only [CellsOf, KnCells, knc, Nat.reduceAdd] at hc))) | go_values | go_skip | go_guarded | go_step | go_upon | go_back | dsimp only)
    rw [hps] at hvs
    have hvs1 := hvs.out.1
    have hn := Lib.hid hvs.out.2
    subst hvs1
    clear hvs hps hres
    obtain ⟨s4, rfl⟩ : ∃ q, q = b := ⟨_, rfl⟩
    obtain ⟨r2, rfl⟩ : ∃ q, q = b := ⟨_, rfl⟩
    replace H := H.rowSoft (key := key) (by repeat (first | exact Split.here _ _ | apply Split.there))
    (try simp only [List.append] at H)
    have H0 := H.sel (L' := [(true, .is m (.map es clock)), (true, .is s4 (setObj m)), (true, .is r2 set0), (false, soft (key.map fun b => ⟨b, 0, none⟩) (strs8 ps))]) (by repeat (first | exact Sel.nil _ | (apply Sel.cons; focus (repeat (first | exact Split.here _ _ | apply Split.there)))))
    clear H hc
    simp only [sl]
    generalize (key.map fun b => (⟨b, 0, none⟩ : Addr)) = src at *
    have hst : AtParse w m s4 r2 src ps (.int .i64 0) w' := ⟨0, es, clock, [], rfl, Nat.zero_le _, rfl, hset, H0⟩
    clear H0 hset
    go_loopw [23] (AtParse w m s4 r2 src ps) (fun i _ => n - (intOf i).toNat)
    case atStart => exact hst
    case round =>
      clear hst
      obtain ⟨j, es, clock, acc, rfl, hj, hacc, hset, H⟩ := hrel
      rw [← hn.out] at hj
      by_cases hlt : j < n
      · have hlt' : j < ps.length := by rw [← hn.out]; exact hlt
        obtain ⟨b1, o1, rfl, H1⟩ := H.elemSoft (Split.there _ (Split.there _ (Split.there _ (Split.here _ _)))) j [.string (bs ps[j])] (by show 0 < 1; omega) (by simp [strs8]; omega) (by intro i hi; obtain rfl : i = 0 := (by simpa using hi); simp [strs8, hlt'])
        have hwp := Lib.hid (hw'.out ps[j] (List.getElem_mem _))
        have hpl := hlen'.out ps[j] (List.getElem_mem _)
        have hdrop : ps.drop j = ps[j] :: ps.drop (j + 1) := List.drop_eq_getElem_cons hlt'
        rw [hdrop] at hacc
        clear hdrop
        generalize ps[j] = p at *
        replace H := H1
        clear H1
        have hcj : decide ((j : Int) < (n : Int)) = true := by simp; omega
        have hpl2 : p.length ≤ 1000000 := by omega
        cases hq : pair p with
        | none =>
          have hq' := Lib.hid hq
          cases hv : atoi? p with
          | none =>
            have hno' : Hid (res = none) := by show _ = _; rw [hfin.out, hacc.out, addP_none (by rw [ip_none hq, hv]; rfl)]
            have hv' := Lib.hid hv
            clear hv hq
            have hc := H.cells; simp only [CellsOf, KnCells, knc, Nat.reduceAdd] at hc
            repeat' (first | (go_big_may; (first
    | go_skip
    | ((first
        | (go_at_call 54; refine Calls.mono (zzPair_none p hpl hq' _) ?_; rintro e w' ⟨pb, rfl, H'⟩; replace H := H.merge (by first | exact Strikes.nil _ | (repeat (first | exact Strikes.nil _ | (apply Strikes.cons; focus (repeat (first | exact Split.here _ _ | apply Split.there)))))) H' rfl; clear H')
        | (go_at_call 52; (with_reducible refine gate_args (l := Value.string (bs p) :: _) ?_); refine Calls.mono (atoi_bad p hpl2 hv' _ (errEnv_ext he'.out H.ext)) ?_; rintro e w' ⟨va, Nva, rfl, H'⟩; replace H := H.of_ext H'; clear H')
        | (go_at_call 27; refine Calls.mono (new0_calls _) ?_; rintro e w' ⟨m9, es9, clock9, hset9, rfl, H'⟩; replace H := H.merge (by first | exact Strikes.nil _ | (repeat (first | exact Strikes.nil _ | (apply Strikes.cons; focus (repeat (first | exact Split.here _ _ | apply Split.there)))))) H' rfl; clear H')
        | (refine loud_ rfl ?_; refine wpList_plain rfl (fun K hK => ?_); (first | (refine op_box _ _ rfl H (fun b w' H1 => hK _ _ ?_)) | (refine op_alloc _ rfl (zero_of _ _ rfl) H (fun b w' H1 => hK _ _ ?_)) | (refine op_store _ _ _ rfl rfl rfl H (by repeat (first | exact Split.here _ _ | apply Split.there)) (by kernel_rfl) (by kernel_rfl) (by kernel_rfl) (fun w' H1 => hK _ _ ?_)) | (refine op_buildSlice_all _ _ _ rfl (by first | exact elem22 | exact elem60 | exact elem66 | exact elem72 | exact elem74) (by kernel_rfl) (by kernel_rfl) (by kernel_rfl) H (fun b w' H1 => hK _ _ ?_))); clear hK K; replace H := H1; clear H1)); (try clear hc); (try simp only [nrm, splice, Value.cells, Nat.reduceAdd, Act.eval, Act.put] at H); have hc := H.cells; simp only [CellsOf, KnCells, knc, Nat.reduceAdd] at hc))) | go_values | go_skip | go_guarded | go_step | go_upon | go_back | dsimp only)
            exact bodyPost_ret (v := .tuple #[setV m9, .iface 117 (.pointer (some ⟨Nva, 0, none⟩))]) (by simp [results, Tryz.results36, go_sem, hc, Act.put]; try rfl) rfl (parsePost_none hno' ⟨m9, _, _, rfl, H.ext⟩)
          | some v =>
            have hnx : Hid (addP [] ps = addP (ins acc v) (ps.drop (j + 1))) := by show _ = _; rw [hacc.out, addP_some (a := v) (b := v) (by rw [ip_none hq, hv]; rfl), rng_one]; rfl
            have hv' := Lib.hid hv
            clear hv hq
            have hc := H.cells; simp only [CellsOf, KnCells, knc, Nat.reduceAdd] at hc
            repeat' (first | (go_big_may; (first
    | go_skip
    | ((first
        | (go_at_call 54; refine Calls.mono (zzPair_none p hpl hq' _) ?_; rintro e w' ⟨pb, rfl, H'⟩; replace H := H.merge (by first | exact Strikes.nil _ | (repeat (first | exact Strikes.nil _ | (apply Strikes.cons; focus (repeat (first | exact Split.here _ _ | apply Split.there)))))) H' rfl; clear H')
        | (go_at_call 52; (with_reducible refine gate_args (l := Value.string (bs p) :: _) ?_); refine Calls.mono (atoi_ok p hpl2 v hv' _) ?_; rintro e w' ⟨rfl, H'⟩; replace H := H.of_ext H'; clear H')
        | (go_at_call 46; refine Calls.mono (add1_calls _ m _ _ es clock _ hset _ (H.pick (by repeat (first | exact Picks.nil _ | (apply Picks.wr; focus (repeat (first | exact Split.here _ _ | apply Split.there))) | (apply Picks.rd; focus (repeat (first | exact Split.here _ _ | apply Split.there))))))) ?_; rintro e w' ⟨es', clock', hset', rfl, H'⟩; replace H := H.merge (by first | exact Strikes.nil _ | (repeat (first | exact Strikes.nil _ | (apply Strikes.cons; focus (repeat (first | exact Split.here _ _ | apply Split.there)))))) H' rfl; clear H')
        | (refine loud_ rfl ?_; refine wpList_plain rfl (fun K hK => ?_); (first | (refine op_box _ _ rfl H (fun b w' H1 => hK _ _ ?_)) | (refine op_alloc _ rfl (zero_of _ _ rfl) H (fun b w' H1 => hK _ _ ?_)) | (refine op_store _ _ _ rfl rfl rfl H (by repeat (first | exact Split.here _ _ | apply Split.there)) (by kernel_rfl) (by kernel_rfl) (by kernel_rfl) (fun w' H1 => hK _ _ ?_)) | (refine op_buildSlice_all _ _ _ rfl (by first | exact elem22 | exact elem60 | exact elem66 | exact elem72 | exact elem74) (by kernel_rfl) (by kernel_rfl) (by kernel_rfl) H (fun b w' H1 => hK _ _ ?_))); clear hK K; replace H := H1; clear H1)); (try clear hc); (try simp only [nrm, splice, Value.cells, Nat.reduceAdd, Act.eval, Act.put] at H); have hc := H.cells; simp only [CellsOf, KnCells, knc, Nat.reduceAdd] at hc))) | go_values | go_skip | go_guarded | go_step | go_upon | go_back | dsimp only)
            exact ⟨⟨j + 1, es', clock', ins acc v, by go_num, by omega, hnx, hset', H.sel (by repeat (first | exact Sel.nil _ | (apply Sel.cons; focus (repeat (first | exact Split.here _ _ | apply Split.there)))))⟩, by simp [intOf]; omega⟩
        | some xy =>
          obtain ⟨x, y⟩ := xy
          have hq' := Lib.hid hq
          have hxl : x.length ≤ 1000000 := Nat.le_trans (pair_len hq).1 hpl2
          have hyl : y.length ≤ 1000000 := Nat.le_trans (pair_len hq).2 hpl2
          cases hx : atoi? x with
          | none =>
            have hno' : Hid (res = none) := by show _ = _; rw [hfin.out, hacc.out, addP_none (ip_bad1 hq hx)]
            have hvx := Lib.hid hx
            clear hx hq
            have hc := H.cells; simp only [CellsOf, KnCells, knc, Nat.reduceAdd] at hc
            repeat' (first | (go_big_may; (first
    | go_skip
    | ((first
        | (go_at_call 54; refine Calls.mono (zzPair_some p x y hpl hq' _) ?_; rintro e w' ⟨pb, rfl, H'⟩; replace H := H.merge (by first | exact Strikes.nil _ | (repeat (first | exact Strikes.nil _ | (apply Strikes.cons; focus (repeat (first | exact Split.here _ _ | apply Split.there)))))) H' rfl; clear H')
        | (go_at_call 52; (with_reducible refine gate_args (l := Value.string (bs x) :: _) ?_); refine Calls.mono (atoi_bad x hxl hvx _ (errEnv_ext he'.out H.ext)) ?_; rintro e w' ⟨vx, Nx, rfl, H'⟩; replace H := H.of_ext H'; clear H')
        | (go_at_call 27; refine Calls.mono (new0_calls _) ?_; rintro e w' ⟨m9, es9, clock9, hset9, rfl, H'⟩; replace H := H.merge (by first | exact Strikes.nil _ | (repeat (first | exact Strikes.nil _ | (apply Strikes.cons; focus (repeat (first | exact Split.here _ _ | apply Split.there)))))) H' rfl; clear H')
        | (refine loud_ rfl ?_; refine wpList_plain rfl (fun K hK => ?_); (first | (refine op_box _ _ rfl H (fun b w' H1 => hK _ _ ?_)) | (refine op_alloc _ rfl (zero_of _ _ rfl) H (fun b w' H1 => hK _ _ ?_)) | (refine op_store _ _ _ rfl rfl rfl H (by repeat (first | exact Split.here _ _ | apply Split.there)) (by kernel_rfl) (by kernel_rfl) (by kernel_rfl) (fun w' H1 => hK _ _ ?_)) | (refine op_buildSlice_all _ _ _ rfl (by first | exact elem22 | exact elem60 | exact elem66 | exact elem72 | exact elem74) (by kernel_rfl) (by kernel_rfl) (by kernel_rfl) H (fun b w' H1 => hK _ _ ?_))); clear hK K; replace H := H1; clear H1)); (try clear hc); (try simp only [nrm, splice, Value.cells, Nat.reduceAdd, Act.eval, Act.put] at H); have hc := H.cells; simp only [CellsOf, KnCells, knc, Nat.reduceAdd] at hc))) | go_values | go_skip | go_guarded | go_step | go_upon | go_back | dsimp only)
            exact bodyPost_ret (v := .tuple #[setV m9, .iface 117 (.pointer (some ⟨Nx, 0, none⟩))]) (by simp [results, Tryz.results36, go_sem, hc, Act.put]; try rfl) rfl (parsePost_none hno' ⟨m9, _, _, rfl, H.ext⟩)
          | some a =>
            cases hy : atoi? y with
            | none =>
              have hno' : Hid (res = none) := by show _ = _; rw [hfin.out, hacc.out, addP_none (ip_bad2 hq hy)]
              have hvx := Lib.hid hx
              have hvy := Lib.hid hy
              clear hx hy hq
              have hc := H.cells; simp only [CellsOf, KnCells, knc, Nat.reduceAdd] at hc
              repeat' (first | (go_big_may; (first
    | go_skip
    | ((first
        | (go_at_call 54; refine Calls.mono (zzPair_some p x y hpl hq' _) ?_; rintro e w' ⟨pb, rfl, H'⟩; replace H := H.merge (by first | exact Strikes.nil _ | (repeat (first | exact Strikes.nil _ | (apply Strikes.cons; focus (repeat (first | exact Split.here _ _ | apply Split.there)))))) H' rfl; clear H')
        | (go_at_call 52; (with_reducible refine gate_args (l := Value.string (bs x) :: _) ?_); refine Calls.mono (atoi_ok x hxl a hvx _) ?_; rintro e w' ⟨rfl, H'⟩; replace H := H.of_ext H'; clear H')
        | (go_at_call 52; (with_reducible refine gate_args (l := Value.string (bs y) :: _) ?_); refine Calls.mono (atoi_bad y hyl hvy _ (errEnv_ext he'.out H.ext)) ?_; rintro e w' ⟨vy, Ny, rfl, H'⟩; replace H := H.of_ext H'; clear H')
        | (go_at_call 27; refine Calls.mono (new0_calls _) ?_; rintro e w' ⟨m9, es9, clock9, hset9, rfl, H'⟩; replace H := H.merge (by first | exact Strikes.nil _ | (repeat (first | exact Strikes.nil _ | (apply Strikes.cons; focus (repeat (first | exact Split.here _ _ | apply Split.there)))))) H' rfl; clear H')
        | (refine loud_ rfl ?_; refine wpList_plain rfl (fun K hK => ?_); (first | (refine op_box _ _ rfl H (fun b w' H1 => hK _ _ ?_)) | (refine op_alloc _ rfl (zero_of _ _ rfl) H (fun b w' H1 => hK _ _ ?_)) | (refine op_store _ _ _ rfl rfl rfl H (by repeat (first | exact Split.here _ _ | apply Split.there)) (by kernel_rfl) (by kernel_rfl) (by kernel_rfl) (fun w' H1 => hK _ _ ?_)) | (refine op_buildSlice_all _ _ _ rfl (by first | exact elem22 | exact elem60 | exact elem66 | exact elem72 | exact elem74) (by kernel_rfl) (by kernel_rfl) (by kernel_rfl) H (fun b w' H1 => hK _ _ ?_))); clear hK K; replace H := H1; clear H1)); (try clear hc); (try simp only [nrm, splice, Value.cells, Nat.reduceAdd, Act.eval, Act.put] at H); have hc := H.cells; simp only [CellsOf, KnCells, knc, Nat.reduceAdd] at hc))) | go_values | go_skip | go_guarded | go_step | go_upon | go_back | dsimp only)
              exact bodyPost_ret (v := .tuple #[setV m9, .iface 117 (.pointer (some ⟨Ny, 0, none⟩))]) (by simp [results, Tryz.results36, go_sem, hc, Act.put]; try rfl) rfl (parsePost_none hno' ⟨m9, _, _, rfl, H.ext⟩)
            | some b =>
              by_cases hab : a ≤ b
              · have hnx : Hid (addP [] ps = addP (insAll acc (rng a b)) (ps.drop (j + 1))) := by show _ = _; rw [hacc.out, addP_some (ip_good hq hx hy hab)]
                have hbb := wide_bounds hwp.out hq hx hy
                have hvx := Lib.hid hx
                have hvy := Lib.hid hy
                clear hx hy hq
                obtain ⟨ae, rfl⟩ : ∃ q, q = a := ⟨_, rfl⟩
                obtain ⟨be, rfl⟩ : ∃ q, q = b := ⟨_, rfl⟩
                have hcab : decide (be < ae) = false := by simp; omega
                have hc := H.cells; simp only [CellsOf, KnCells, knc, Nat.reduceAdd] at hc
                repeat' (first | (go_big_may; (first
    | go_skip
    | ((first
        | (go_at_call 54; refine Calls.mono (zzPair_some p x y hpl hq' _) ?_; rintro e w' ⟨pb, rfl, H'⟩; replace H := H.merge (by first | exact Strikes.nil _ | (repeat (first | exact Strikes.nil _ | (apply Strikes.cons; focus (repeat (first | exact Split.here _ _ | apply Split.there)))))) H' rfl; clear H')
        | (go_at_call 52; (with_reducible refine gate_args (l := Value.string (bs x) :: _) ?_); refine Calls.mono (atoi_ok x hxl ae hvx _) ?_; rintro e w' ⟨rfl, H'⟩; replace H := H.of_ext H'; clear H')
        | (go_at_call 52; (with_reducible refine gate_args (l := Value.string (bs y) :: _) ?_); refine Calls.mono (atoi_ok y hyl be hvy _) ?_; rintro e w' ⟨rfl, H'⟩; replace H := H.of_ext H'; clear H')
        | (refine loud_ rfl ?_; refine wpList_plain rfl (fun K hK => ?_); (first | (refine op_box _ _ rfl H (fun b w' H1 => hK _ _ ?_)) | (refine op_alloc _ rfl (zero_of _ _ rfl) H (fun b w' H1 => hK _ _ ?_)) | (refine op_store _ _ _ rfl rfl rfl H (by repeat (first | exact Split.here _ _ | apply Split.there)) (by kernel_rfl) (by kernel_rfl) (by kernel_rfl) (fun w' H1 => hK _ _ ?_)) | (refine op_buildSlice_all _ _ _ rfl (by first | exact elem22 | exact elem60 | exact elem66 | exact elem72 | exact elem74) (by kernel_rfl) (by kernel_rfl) (by kernel_rfl) H (fun b w' H1 => hK _ _ ?_))); clear hK K; replace H := H1; clear H1)); (try clear hc); (try simp only [nrm, splice, Value.cells, Nat.reduceAdd, Act.eval, Act.put] at H); have hc := H.cells; simp only [CellsOf, KnCells, knc, Nat.reduceAdd] at hc))) | go_values | go_skip | go_guarded | go_step | go_upon | go_back | dsimp only)
                have hst : AtRange w m s4 r2 (some ⟨b1, o1, none⟩) ps ae be acc (.int .i64 ae) w' := ⟨0, es, clock, by simp, by omega, hset, H.sel (by repeat (first | exact Sel.nil _ | (apply Sel.cons; focus (repeat (first | exact Split.here _ _ | apply Split.there)))))⟩
                clear H hc hset
                go_loopw [14] (AtRange w m s4 r2 (some ⟨b1, o1, none⟩) ps ae be acc) (fun i _ => (be + 1 - intOf i).toNat)
                case atStart => exact hst
                case round =>
                  clear hst
                  obtain ⟨k, es, clock, rfl, hk, hset, H⟩ := hrel
                  by_cases hke : ae + (k : Int) ≤ be
                  · have hck : decide (ae + (k : Int) ≤ be) = true := by simpa using hke
                    have hst : Hid (insAll acc ((rng ae be).take (k + 1)) = ins (insAll acc ((rng ae be).take k)) (ae + (k : Int))) := by
                      have hkl : k < (rng ae be).length := by rw [rng_len]; omega
                      show _ = _
                      rw [← List.take_append_getElem hkl, insAll_snoc, rng_at]
                    have hc := H.cells; simp only [CellsOf, KnCells, knc, Nat.reduceAdd] at hc
                    repeat' (first | (go_big_may; (first
    | go_skip
    | ((first
        | (go_at_call 46; refine Calls.mono (add1_calls _ m _ _ es clock _ hset _ (H.pick (by repeat (first | exact Picks.nil _ | (apply Picks.wr; focus (repeat (first | exact Split.here _ _ | apply Split.there))) | (apply Picks.rd; focus (repeat (first | exact Split.here _ _ | apply Split.there))))))) ?_; rintro e w' ⟨es', clock', hset', rfl, H'⟩; replace H := H.merge (by first | exact Strikes.nil _ | (repeat (first | exact Strikes.nil _ | (apply Strikes.cons; focus (repeat (first | exact Split.here _ _ | apply Split.there)))))) H' rfl; clear H')
        | (refine loud_ rfl ?_; refine wpList_plain rfl (fun K hK => ?_); (first | (refine op_box _ _ rfl H (fun b w' H1 => hK _ _ ?_)) | (refine op_alloc _ rfl (zero_of _ _ rfl) H (fun b w' H1 => hK _ _ ?_)) | (refine op_store _ _ _ rfl rfl rfl H (by repeat (first | exact Split.here _ _ | apply Split.there)) (by kernel_rfl) (by kernel_rfl) (by kernel_rfl) (fun w' H1 => hK _ _ ?_)) | (refine op_buildSlice_all _ _ _ rfl (by first | exact elem22 | exact elem60 | exact elem66 | exact elem72 | exact elem74) (by kernel_rfl) (by kernel_rfl) (by kernel_rfl) H (fun b w' H1 => hK _ _ ?_))); clear hK K; replace H := H1; clear H1)); (try clear hc); (try simp only [nrm, splice, Value.cells, Nat.reduceAdd, Act.eval, Act.put] at H); have hc := H.cells; simp only [CellsOf, KnCells, knc, Nat.reduceAdd] at hc))) | go_values | go_skip | go_guarded | go_step | go_upon | go_back | dsimp only)
                    exact ⟨⟨k + 1, es', clock', by congr 1; omega, by omega, by rw [hst.out]; exact hset', H.sel (by repeat (first | exact Sel.nil _ | (apply Sel.cons; focus (repeat (first | exact Split.here _ _ | apply Split.there)))))⟩, by simp [intOf]; omega⟩
                  · have hck : decide (ae + (k : Int) ≤ be) = false := by simp; omega
                    have hall : Hid ((rng ae be).take k = rng ae be) := by
                      show _ = _
                      rw [List.take_of_length_le]
                      rw [rng_len]
                      omega
                    rw [hall.out] at hset
                    have hc := H.cells; simp only [CellsOf, KnCells, knc, Nat.reduceAdd] at hc
                    repeat' (first | (go_big_may; (first
    | ((first
        | (refine loud_ rfl ?_; refine wpList_plain rfl (fun K hK => ?_); (first | (refine op_box _ _ rfl H (fun b w' H1 => hK _ _ ?_)) | (refine op_alloc _ rfl (zero_of _ _ rfl) H (fun b w' H1 => hK _ _ ?_)) | (refine op_store _ _ _ rfl rfl rfl H (by repeat (first | exact Split.here _ _ | apply Split.there)) (by kernel_rfl) (by kernel_rfl) (by kernel_rfl) (fun w' H1 => hK _ _ ?_)) | (refine op_buildSlice_all _ _ _ rfl (by first | exact elem22 | exact elem60 | exact elem66 | exact elem72 | exact elem74) (by kernel_rfl) (by kernel_rfl) (by kernel_rfl) H (fun b w' H1 => hK _ _ ?_))); clear hK K; replace H := H1; clear H1)); (try clear hc); (try simp only [nrm, splice, Value.cells, Nat.reduceAdd, Act.eval, Act.put] at H); have hc := H.cells; simp only [CellsOf, KnCells, knc, Nat.reduceAdd] at hc))) | go_values | go_skip | go_guarded | go_step | go_upon | go_back | dsimp only)
                    exact ⟨⟨j + 1, es, clock, _, by go_num, by omega, hnx, hset, H.sel (by repeat (first | exact Sel.nil _ | (apply Sel.cons; focus (repeat (first | exact Split.here _ _ | apply Split.there)))))⟩, by simp [intOf]; omega⟩
              · have hno' : Hid (res = none) := by show _ = _; rw [hfin.out, hacc.out, addP_none (ip_bad3 hq hx hy hab)]
                have hvx := Lib.hid hx
                have hvy := Lib.hid hy
                clear hx hy hq
                obtain ⟨ae, rfl⟩ : ∃ q, q = a := ⟨_, rfl⟩
                obtain ⟨be, rfl⟩ : ∃ q, q = b := ⟨_, rfl⟩
                have hcab : decide (be < ae) = true := by simp; omega
                have hc := H.cells; simp only [CellsOf, KnCells, knc, Nat.reduceAdd] at hc
                repeat' (first | (go_big_may; (first
    | go_skip
    | ((first
        | (go_at_call 54; refine Calls.mono (zzPair_some p x y hpl hq' _) ?_; rintro e w' ⟨pb, rfl, H'⟩; replace H := H.merge (by first | exact Strikes.nil _ | (repeat (first | exact Strikes.nil _ | (apply Strikes.cons; focus (repeat (first | exact Split.here _ _ | apply Split.there)))))) H' rfl; clear H')
        | (go_at_call 52; (with_reducible refine gate_args (l := Value.string (bs x) :: _) ?_); refine Calls.mono (atoi_ok x hxl ae hvx _) ?_; rintro e w' ⟨rfl, H'⟩; replace H := H.of_ext H'; clear H')
        | (go_at_call 52; (with_reducible refine gate_args (l := Value.string (bs y) :: _) ?_); refine Calls.mono (atoi_ok y hyl be hvy _) ?_; rintro e w' ⟨rfl, H'⟩; replace H := H.of_ext H'; clear H')
        | (go_at_call 27; refine Calls.mono (new0_calls _) ?_; rintro e w' ⟨m9, es9, clock9, hset9, rfl, H'⟩; replace H := H.merge (by first | exact Strikes.nil _ | (repeat (first | exact Strikes.nil _ | (apply Strikes.cons; focus (repeat (first | exact Split.here _ _ | apply Split.there)))))) H' rfl; clear H')
        | (refine loud_ rfl ?_; refine wpList_plain rfl (fun K hK => ?_); (first | (refine op_box _ _ rfl H (fun b w' H1 => hK _ _ ?_)) | (refine op_alloc _ rfl (zero_of _ _ rfl) H (fun b w' H1 => hK _ _ ?_)) | (refine op_store _ _ _ rfl rfl rfl H (by repeat (first | exact Split.here _ _ | apply Split.there)) (by kernel_rfl) (by kernel_rfl) (by kernel_rfl) (fun w' H1 => hK _ _ ?_)) | (refine op_buildSlice_all _ _ _ rfl (by first | exact elem22 | exact elem60 | exact elem66 | exact elem72 | exact elem74) (by kernel_rfl) (by kernel_rfl) (by kernel_rfl) H (fun b w' H1 => hK _ _ ?_))); clear hK K; replace H := H1; clear H1)); (try clear hc); (try simp only [nrm, splice, Value.cells, Nat.reduceAdd, Act.eval, Act.put] at H); have hc := H.cells; simp only [CellsOf, KnCells, knc, Nat.reduceAdd] at hc))) | go_values | go_skip | go_guarded | go_step | go_upon | go_back | dsimp only)
                exact bodyPost_ret (v := .tuple #[setV m9, .iface 69 (.string { data := #[105, 110, 118, 97, 108, 105, 100, 32, 114, 97, 110, 103, 101] })]) (by simp [results, Tryz.results36, go_sem, hc, Act.put]; try rfl) rfl (parsePost_none hno' ⟨m9, _, _, rfl, H.ext⟩)
      · have hje : j = n := by omega
        have hcj : decide ((j : Int) < (n : Int)) = false := by simp; omega
        have hfi : Hid (res = some acc) := by
          show _ = _
          rw [hfin.out, hacc.out, List.drop_of_length_le (by rw [← hn.out]; omega)]
          rfl
        have hc := H.cells; simp only [CellsOf, KnCells, knc, Nat.reduceAdd] at hc
        repeat' (first | (go_big_may; (first
    | ((first
        | (refine loud_ rfl ?_; refine wpList_plain rfl (fun K hK => ?_); (first | (refine op_box _ _ rfl H (fun b w' H1 => hK _ _ ?_)) | (refine op_alloc _ rfl (zero_of _ _ rfl) H (fun b w' H1 => hK _ _ ?_)) | (refine op_store _ _ _ rfl rfl rfl H (by repeat (first | exact Split.here _ _ | apply Split.there)) (by kernel_rfl) (by kernel_rfl) (by kernel_rfl) (fun w' H1 => hK _ _ ?_)) | (refine op_buildSlice_all _ _ _ rfl (by first | exact elem22 | exact elem60 | exact elem66 | exact elem72 | exact elem74) (by kernel_rfl) (by kernel_rfl) (by kernel_rfl) H (fun b w' H1 => hK _ _ ?_))); clear hK K; replace H := H1; clear H1)); (try clear hc); (try simp only [nrm, splice, Value.cells, Nat.reduceAdd, Act.eval, Act.put] at H); have hc := H.cells; simp only [CellsOf, KnCells, knc, Nat.reduceAdd] at hc))) | go_values | go_skip | go_guarded | go_step | go_upon | go_back | dsimp only)
        exact bodyPost_ret (v := .tuple #[setV m, .nilIface]) (by simp [results, Tryz.results36, go_sem, hc, Act.put]; try rfl) rfl (parsePost_some hfi ⟨m, es, clock, hset, rfl, H.sel (by repeat (first | exact Sel.nil _ | (apply Sel.cons; focus (repeat (first | exact Split.here _ _ | apply Split.there)))))⟩)
end Go.Proofs.YtikaldcoakpfoaaGreatDoor
