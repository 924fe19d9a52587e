import Derived.Test.YtlikpgidjdjgnaaRingQd
import Derived.Test.YtlikpgidjdjgnaaRingW
namespace Go.Proofs.Ytlikpgidjdjgnaa
set_option linter.unusedVariables false
set_option linter.unusedSimpArgs false
set_option linter.unnecessarySimpa false
open Go.RowKit Go.V

def QM.runs (kind : Int) (normal : Nat) (m : QM) : List ROp → QM
  | [] => m
  | o :: l => (m.next kind normal o.kind o.vals).runs kind normal l
theorem QM.runs_snoc (kind : Int) (normal : Nat) (m : QM) (l : List ROp) (o : ROp) : m.runs kind normal (l ++ [o]) = (m.runs kind normal l).next kind normal o.kind o.vals := by
  induction l generalizing m with
  | nil => rfl
  | cons x l ih => exact ih _
/-- What the law asks of an answer and the one that is wanted. -/
def Agree (op : Int) (a b : Bool × Int × List Int) : Prop := op ≠ 1 → op ≠ 7 → a.2.1 = b.2.1 ∧ (op = 2 → a.1 = b.1) ∧ a.2.2 = b.2.2

theorem writes_more {kind : Int} (hk : kind ≠ 2) (v : List Int) : ∀ (n : Nat) (q : List Int) (t : Nat), q.length ≤ n → (QM.mk n q t).writes kind v = ⟨moreAll n q v, q ++ v, t + v.length⟩ ∧ (q ++ v).length ≤ moreAll n q v := by
  induction v with
  | nil => intro n q t h; simp [QM.writes, moreAll, h]
  | cons x v ih =>
    intro n q t h
    have e : (QM.mk n q t).write kind x = ⟨more n q, q ++ [x], t + 1⟩ ∧ (q ++ [x]).length ≤ more n q := by
      unfold QM.write more
      simp only [List.length_append, List.length_cons, List.length_nil]
      by_cases h1 : q.length = n
      · rw [if_neg (by omega), if_neg hk, if_pos h1]
        by_cases h2 : n = 0
        · rw [if_pos h2, if_pos h2]
          exact ⟨rfl, by omega⟩
        · rw [if_neg h2, if_neg h2, Nat.mul_comm]
          exact ⟨rfl, by omega⟩
      · rw [if_pos (by omega), if_neg h1]
        exact ⟨rfl, by omega⟩
    obtain ⟨h3, h4⟩ := ih (more n q) (q ++ [x]) (t + 1) e.2
    show ((QM.mk n q t).write kind x).writes kind v = _ ∧ _
    rw [e.1, h3]
    simp only [List.append_assoc, List.cons_append, List.nil_append, List.length_cons] at h4 ⊢
    exact ⟨by rw [show t + 1 + v.length = t + (v.length + 1) by omega]; rfl, h4⟩

/-- A growing ring is the queue. -/
theorem grow_agrees (o : Option Nat) (kind : Int) (normal : Nat) (hk : kind = rkind o) (ho : ∀ m, o = some m → m = normal) (l : List ROp) (hok : ∀ x ∈ l, okOp kind x) : ∀ (g : GR) (t : Nat), g.q.length ≤ g.n →
    (∀ i (hi : i < l.length), ∃ a, (g.tells o l)[i]? = some a ∧ Agree l[i].kind a (((QM.mk g.n g.q t).runs kind normal (l.take i)).ans l[i].kind)) := by
  induction l with
  | nil => intro g t _ i hi; simp at hi
  | cons x l ih =>
    intro g t hf i hi
    have hk2 : kind ≠ 2 := by rw [hk]; cases o <;> simp [rkind]
    have hx := hok x (by simp)
    have hnext : ∃ t', (QM.mk g.n g.q t).next kind normal x.kind x.vals = QM.mk (g.next o x.kind x.vals).n (g.next o x.kind x.vals).q t' ∧ (g.next o x.kind x.vals).q.length ≤ (g.next o x.kind x.vals).n := by
      unfold QM.next GR.next
      by_cases k1 : x.kind = 1
      · rw [if_pos k1, if_pos k1]
        obtain ⟨h1, h2⟩ := writes_more hk2 x.vals g.n g.q t hf
        exact ⟨_, h1, h2⟩
      · rw [if_neg k1, if_neg k1]
        by_cases k2 : x.kind = 2
        · rw [if_pos k2, if_pos k2]
          have ht : g.q.tail.length ≤ g.q.length := by simp
          cases o with
          | none =>
            have h0 : ¬ kind = 1 := by rw [hk]; simp [rkind]
            rw [if_neg (fun h => h0 h.1)]
            exact ⟨t, rfl, by show g.q.tail.length ≤ g.n; omega⟩
          | some m =>
            obtain rfl := ho m rfl
            have h1 : kind = 1 := by rw [hk]; rfl
            refine ⟨t, ?_, ?_⟩
            · simp only [lessO, less, h1, true_and]
            · simp only [lessO, less]
              split <;> omega
        · rw [if_neg k2, if_neg k2]
          have k7 : ¬ x.kind = 7 := by
            rcases hx with h | h | h | ⟨_, h⟩ | ⟨h, _⟩
            · omega
            · omega
            · omega
            · omega
            · exact absurd h hk2
          rw [if_neg k7]
          exact ⟨t, rfl, hf⟩
    cases i with
    | zero =>
      refine ⟨g.ans x.kind, rfl, ?_⟩
      show Agree x.kind _ ((QM.mk g.n g.q t).ans x.kind)
      intro h1 h7
      unfold GR.ans QM.ans
      rw [if_neg h1]
      by_cases k2 : x.kind = 2
      · rw [if_pos k2, if_pos k2]
        cases g.q <;> simp [headAns]
      · rw [if_neg k2, if_neg k2]
        by_cases k3 : x.kind = 3
        · rw [if_pos k3, if_pos k3]
          exact ⟨rfl, fun h => absurd h k2, rfl⟩
        · rw [if_neg k3, if_neg k3]
          by_cases k4 : x.kind = 4
          · rw [if_pos k4, if_pos k4]
            exact ⟨rfl, fun h => absurd h k2, rfl⟩
          · exfalso
            rcases hx with h | h | h | ⟨_, h⟩ | ⟨h, _⟩
            · exact h1 h
            · exact k3 h
            · exact k4 h
            · exact k2 h
            · exact hk2 h
    | succ i =>
      have hi' : i < l.length := by simpa using hi
      obtain ⟨t', e1, e2⟩ := hnext
      obtain ⟨a, h1, h2⟩ := ih (fun y hy => hok y (by simp [hy])) (g.next o x.kind x.vals) t' e2 i (by simpa using hi)
      refine ⟨a, h1, ?_⟩
      show Agree l[i].kind a ((((QM.mk g.n g.q t).next kind normal x.kind x.vals).runs kind normal (l.take i)).ans l[i].kind)
      rw [e1]
      exact h2

theorem last_write {N : Nat} (h : List Int) (x : Int) (t : Nat) (hN : 0 < N) : (QM.mk N (h.drop (h.length - N)) t).write 2 x = ⟨N, (h ++ [x]).drop ((h ++ [x]).length - N), t + 1⟩ := by
  unfold QM.write
  simp only [List.length_drop, List.length_append, List.length_cons, List.length_nil]
  split
  · rename_i h1
    have e1 : h.length - N = 0 := by omega
    have e2 : h.length + 1 - N = 0 := by omega
    rw [e1, show h.length + (0 + 1) - N = 0 by omega, List.drop_zero, List.drop_zero]
  · rename_i h1
    rw [if_pos trivial, show h.length + (0 + 1) - N = (h.length - N) + 1 by omega, List.drop_append, ← List.drop_drop, show h.length - N + 1 - h.length = 0 by omega, List.drop_zero]
    congr 1
    have : h.drop (h.length - N) ≠ [] := by
      intro h2
      have := congrArg List.length h2
      simp at this
      omega
    obtain ⟨y, l, e⟩ := List.exists_cons_of_ne_nil this
    rw [e]
    rfl
theorem last_writes {N : Nat} (hN : 0 < N) (v : List Int) : ∀ (h : List Int) (t : Nat), (QM.mk N (h.drop (h.length - N)) t).writes 2 v = ⟨N, (h ++ v).drop ((h ++ v).length - N), t + v.length⟩ := by
  induction v with
  | nil => intro h t; simp [QM.writes]
  | cons x v ih =>
    intro h t
    show ((QM.mk N (h.drop (h.length - N)) t).write 2 x).writes 2 v = _
    rw [last_write h x t hN, ih]
    simp only [List.append_assoc, List.cons_append, List.nil_append, List.length_cons]
    rw [show t + 1 + v.length = t + (v.length + 1) by omega]

/-- A fixed ring is the queue of the last values. -/
theorem fixed_agrees (normal : Nat) (l : List ROp) : ∀ (r : FR) (h : List Int) (t : Nat) (b : Bool), (∀ x ∈ l, okOp 2 x) → FInv r h → noTot l b → (b = false → t = h.length) → r.t + wl l ≤ 1000000000000 →
    (∀ i (hi : i < l.length), ∃ a, (r.tells l)[i]? = some a ∧ Agree l[i].kind a (((QM.mk r.N (h.drop (h.length - r.N)) t).runs 2 normal (l.take i)).ans l[i].kind)) := by
  induction l with
  | nil => intro r h t b _ _ _ _ _ i hi; simp at hi
  | cons x l ih =>
    intro r h t b hok hf hn hb hw i hi
    have hx := hok x (by simp)
    rw [wl_cons] at hw
    obtain ⟨hn1, hn2⟩ := hn
    have hnext : ∃ h' t', (QM.mk r.N (h.drop (h.length - r.N)) t).next 2 normal x.kind x.vals = QM.mk (r.next x.kind x.vals).N (h'.drop (h'.length - (r.next x.kind x.vals).N)) t' ∧ FInv (r.next x.kind x.vals) h' ∧ ((b || decide (x.kind = 7)) = false → t' = h'.length) ∧ (r.next x.kind x.vals).t + wl l ≤ 1000000000000 := by
      unfold QM.next FR.next
      by_cases k1 : x.kind = 1
      · rw [if_pos k1] at hw
        rw [if_pos k1, if_pos k1]
        refine ⟨h ++ x.vals, t + x.vals.length, last_writes hf.ok.pos x.vals h t, hf.write x.vals (by omega), fun hb' => ?_, by show r.t + x.vals.length + wl l ≤ _; omega⟩
        have : b = false := by
          revert hb'
          cases b <;> simp
        rw [hb this]
        simp
      · rw [if_neg k1] at hw
        rw [if_neg k1, if_neg k1]
        have k2 : ¬ x.kind = 2 := by
          rcases hx with h | h | h | ⟨h, _⟩ | ⟨_, h | h | h⟩ <;> first | omega | exact absurd rfl h
        rw [if_neg k2]
        by_cases k7 : x.kind = 7
        · rw [if_pos k7, if_pos k7]
          refine ⟨[], t, by simp [FR.reset], ⟨⟨hf.ok.pos, hf.ok.small, hf.ok.pos, hf.ok.len, by simp [FR.reset]⟩, rfl, fun _ => rfl, ?_⟩, ?_, by show 0 + _ ≤ _; omega⟩
          · show (spun 0 r.data).drop (r.N - min r.N 0) = [].drop _
            rw [List.drop_of_length_le (by rw [spun_len, hf.ok.len]; omega)]
            simp
          · intro h
            simp [k7] at h
        · rw [if_neg k7, if_neg k7]
          refine ⟨h, t, rfl, hf, fun hb' => hb ?_, by omega⟩
          revert hb'
          cases b <;> simp
    cases i with
    | zero =>
      refine ⟨r.ans x.kind x.vals, rfl, ?_⟩
      show Agree x.kind _ ((QM.mk r.N (h.drop (h.length - r.N)) t).ans x.kind)
      intro h1 h7
      have hl := hf.len
      unfold FR.ans QM.ans
      rw [if_neg h1]
      have k2 : ¬ x.kind = 2 := by
        rcases hx with h | h | h | ⟨h, _⟩ | ⟨_, h | h | h⟩ <;> first | omega | exact absurd rfl h
      rw [if_neg k2]
      by_cases k3 : x.kind = 3
      · rw [if_pos k3, if_pos k3]
        refine ⟨?_, fun h => absurd h k2, rfl⟩
        simp only [List.length_drop]
        omega
      · rw [if_neg k3, if_neg k3]
        by_cases k4 : x.kind = 4
        · rw [if_pos k4, if_pos k4]
          exact ⟨rfl, fun h => absurd h k2, rfl⟩
        · rw [if_neg k4, if_neg k4]
          by_cases k5 : x.kind = 5
          · rw [if_pos k5, if_pos k5]
            exact ⟨rfl, fun h => absurd h k2, hf.held⟩
          · rw [if_neg k5, if_neg k5]
            by_cases k6 : x.kind = 6
            · rw [if_pos k6, if_pos k6]
              refine ⟨?_, fun h => absurd h k2, rfl⟩
              have : b = false := by
                cases b
                · rfl
                · exact absurd ⟨k6, rfl⟩ hn1
              show (r.t : Int) = (t : Nat)
              rw [hb this, hl]
            · exfalso
              rcases hx with h | h | h | ⟨h, _⟩ | ⟨_, h | h | h⟩
              · exact h1 h
              · exact k3 h
              · exact k4 h
              · exact h rfl
              · exact k5 h
              · exact k6 h
              · exact h7 h
    | succ i =>
      have hi' : i < l.length := by simpa using hi
      obtain ⟨h', t', e1, e2, e3, e4⟩ := hnext
      obtain ⟨a, h1, h2⟩ := ih (r.next x.kind x.vals) h' t' _ (fun y hy => hok y (by simp [hy])) e2 hn2 e3 e4 i (by simpa using hi)
      refine ⟨a, h1, ?_⟩
      show Agree l[i].kind a ((((QM.mk r.N (h.drop (h.length - r.N)) t).next 2 normal x.kind x.vals).runs 2 normal (l.take i)).ans l[i].kind)
      rw [e1]
      exact h2

/-- What the law sees. -/
def AllAgree (kind : Int) (places normal : Nat) (ops : List ROp) (rs : List RA) : Prop := ∀ i (hi : i < ops.length), ∃ a, rs[i]? = some a ∧ Agree ops[i].kind a.tell (((QM.mk places [] 0).runs kind normal (ops.take i)).ans ops[i].kind)
theorem agree_of {kind : Int} {places normal : Nat} {ops : List ROp} {rs : List RA} {T : List (Bool × Int × List Int)} (h : rs.map RA.tell = T) (hT : ∀ i (hi : i < ops.length), ∃ a, T[i]? = some a ∧ Agree ops[i].kind a (((QM.mk places [] 0).runs kind normal (ops.take i)).ans ops[i].kind)) : AllAgree kind places normal ops rs := by
  intro i hi
  obtain ⟨a, h1, h2⟩ := hT i hi
  rw [← h, List.getElem?_map] at h1
  obtain ⟨b, hb, rfl⟩ := Option.map_eq_some_iff.1 h1
  exact ⟨b, hb, h2⟩
theorem ring_any (kind : Int) (places normal : Nat) (ops : List ROp) (hg : RGood kind places normal ops) (src : Option Addr) (k cap : Nat) (w : World) (hk : Hid (ops.length = k)) (hs : Hid (∀ o ∈ ops, Lies w o.at' (ints o.vals) ∧ (o.at' = none → o.vals.length = 0)))
    (H : St [] w w [(false, soft src (ops.flatMap ROp.cells))]) :
    Calls Try.prog 7 #[.int .i64 kind, .int .i64 places, .int .i64 normal, .slice src k cap] w fun e w' => ∃ key cap' rs fp, Hid (AllAgree kind places normal ops rs) ∧ e = .returned (.tuple #[sl key k cap', .bool true]) ∧
      St [] w w' [(true, .row key 34 3 k cap' (rs.flatMap RA.cells)), (true, .rep fp (RAsAt rs fp))] := by
  have h1 := hg.few
  have h2 := hk.out
  have h3 := hg.ini
  have h4 := hg.nor
  by_cases k2 : kind = 2
  · subst k2
    have h5 := hg.pos rfl
    refine (ring2_soft ⟨places, 0, 0, List.replicate places 0⟩ places normal rfl (by omega) (by omega) ⟨by omega, by omega⟩ ops src k cap w hk (by omega) hg.wl hs H).mono ?_
    rintro e w' ⟨key, cap', rs, fp, hrs, rfl, H'⟩
    refine ⟨key, cap', rs, fp, agree_of hrs.out (fun i hi => ?_), rfl, H'⟩
    have := fixed_agrees normal ops ⟨places, 0, 0, List.replicate places 0⟩ [] 0 false hg.ok (FInv.new places (by omega) (by omega)) hg.tot (fun _ => rfl) (by have := hg.wl; show 0 + _ ≤ _; omega) i hi
    rw [List.drop_nil] at this
    exact this
  · obtain ⟨o, ho1, ho2⟩ : ∃ o : Option Nat, kind = rkind o ∧ ∀ m, o = some m → m = normal := by
      rcases hg.kinds with h | h | h
      · exact ⟨none, h, fun m h => by cases h⟩
      · exact ⟨some normal, h, fun m h => by cases h; rfl⟩
      · exact absurd h k2
    refine (ringG_calls o kind ho1 ⟨places, []⟩ places normal rfl ho2 (by omega) (by omega) ops src k cap w hk (by omega) hg.wl hs H).mono ?_
    rintro e w' ⟨key, cap', rs, fp, hrs, rfl, H'⟩
    refine ⟨key, cap', rs, fp, agree_of hrs.out (fun i hi => ?_), rfl, H'⟩
    exact grow_agrees o kind normal ho1 ho2 ops hg.ok ⟨places, []⟩ 0 (Nat.zero_le _) i hi
end Go.Proofs.Ytlikpgidjdjgnaa
