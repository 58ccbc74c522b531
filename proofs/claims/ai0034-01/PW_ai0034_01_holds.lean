import PyProof.Rows.All
import Wide.All
import OpenK.AllK
import Wide.FinOn
import Lean
import PySem.Challenge.RW_ai0034_01
set_option Elab.async false
set_option maxRecDepth 100000
set_option maxHeartbeats 0
set_option linter.unusedVariables false
section
open PySem PySem.W PyProof.Rows
namespace Mine
/-- the run from (s, t) reaches (s', t') in k steps or fewer, each let by -/
noncomputable def Reach (tb : String → Option Builtin) (p : Program) (w : World) (n₀ : Nat) (ann : Option Value) (k : Nat) (s : Shared) (t : Thread) (s' : Shared) (t' : Thread) : Prop :=
  ∀ N r, topRun tb p w n₀ ann N s' t' = some r → topRun tb p w n₀ ann (k + N) s t = some r
section
variable {tb : String → Option Builtin} {p : Program} {w : World} {n₀ : Nat} {ann : Option Value}
variable {s s' s'' : Shared} {t t' t'' : Thread} {j k : Nat}
theorem Reach.refl : Reach tb p w n₀ ann 0 s t s t := fun N r h => by rw [Nat.zero_add]; exact h
theorem Reach.trans (a : Reach tb p w n₀ ann j s t s' t') (b : Reach tb p w n₀ ann k s' t' s'' t'') : Reach tb p w n₀ ann (j + k) s t s'' t'' :=
  fun N r h => by rw [Nat.add_assoc]; exact a _ _ (b _ _ h)
theorem Reach.mono (h : Reach tb p w n₀ ann j s t s' t') (le : j ≤ k) : Reach tb p w n₀ ann k s t s' t' := fun N r x => by
  have q := topRun_mono (k - j) _ _ _ _ (h N r x)
  rwa [show j + N + (k - j) = k + N by omega] at q
theorem Reach.step (h : PySem.step (denote tb) p w s t = .go s' t') (ok : stepOk n₀ ann t = true) (nt : through t = false) : Reach tb p w n₀ ann 1 s t s' t' := fun N r x => by
  rw [Nat.add_comm]
  unfold topRun
  rw [nt, ok, h]
  exact x
/-- as topGo, over trees -/
noncomputable def goT (tb : String → Option Builtin) (p : Program) (w : World) (n₀ : Nat) (ann : Option Value) : Nat → SharedT → Thread → Option (SharedT × Thread)
  | 0, s, t => some (s, t)
  | n + 1, s, t => match through t with
    | true => none
    | false => match stepOk n₀ ann t with
      | false => none
      | true => match stepT (denote tb) p w s t with
        | some (s', t') => goT tb p w n₀ ann n s' t'
        | none => none
theorem goT_reach : ∀ {n : Nat} {s s' : SharedT} {t t' : Thread}, goT tb p w n₀ ann n s t = some (s', t') → Reach tb p w n₀ ann n s.abs t s'.abs t'
  | 0, s, s', t, t', h => by
    obtain ⟨rfl, rfl⟩ : s = s' ∧ t = t' := by simpa [goT] using h
    exact .refl
  | n + 1, s, s', t, t', h => by
    unfold goT at h
    cases ht : through t with
    | true => rw [ht] at h; cases h
    | false =>
      rw [ht] at h
      cases hk : stepOk n₀ ann t with
      | false => rw [hk] at h; cases h
      | true =>
        rw [hk] at h
        cases hs : stepT (denote tb) p w s t with
        | none => rw [hs] at h; cases h
        | some r =>
          obtain ⟨s₂, t₂⟩ := r
          rw [hs] at h
          have q := (Reach.step (n₀ := n₀) (ann := ann) (stepT_spec hs) hk ht).trans (goT_reach h)
          exact q.mono (by omega)
end
/-- the tree t, in code c over the frames B, runs from s to the value a in s', in k steps or fewer -/
noncomputable def Ev {α : Type} (tb : String → Option Builtin) (p : Program) (w : World) (n₀ : Nat) (ann : Option Value) (c : Code) (B : List Frame) (k : Nat) (s : Shared) (t : Sem α) (a : α) (s' : Shared) : Prop :=
  ∀ (K : α → Sem Fin) (H : Value → Sem Fin) (gd : Bool → Bool) (lv : List Value → List Value) (pos : Pos), ∃ pos', Reach tb p w n₀ ann k s ⟨t.wrap K H gd lv, c, pos, B⟩ s' ⟨K a, c, pos', B⟩
section
variable {α β : Type} {tb : String → Option Builtin} {p : Program} {w : World} {n₀ : Nat} {ann : Option Value} {c : Code} {B : List Frame}
variable {s s' s'' : Shared} {j k : Nat}
theorem Ev.mono {t : Sem α} {a : α} (h : Ev tb p w n₀ ann c B j s t a s') (le : j ≤ k) : Ev tb p w n₀ ann c B k s t a s' := fun K H gd lv pos => by
  obtain ⟨pos', q⟩ := h K H gd lv pos
  exact ⟨pos', q.mono le⟩
theorem Ev.pure {a : α} : Ev tb p w n₀ ann c B 0 s (Sem.pure a) a s := fun K H gd lv pos => ⟨pos, Reach.refl⟩
theorem Ev.pure' {a : α} : Ev tb p w n₀ ann c B 0 s (Pure.pure a : Sem α) a s := Ev.pure
theorem Ev.bind {m : Sem α} {f : α → Sem β} {a : α} {b : β} (h : Ev tb p w n₀ ann c B j s m a s') (g : Ev tb p w n₀ ann c B k s' (f a) b s'') : Ev tb p w n₀ ann c B (j + k) s (m >>= f) b s'' := fun K H gd lv pos => by
  rw [Sem.bind_eq_wrap', Sem.wrap_wrap]
  obtain ⟨pos', q⟩ := h (fun a => (f a).wrap K H gd lv) (fun e => (Sem.raise e : Sem β).wrap K H gd lv) (fun g => gd (id g)) (fun l => lv (id l)) pos
  obtain ⟨pos'', q'⟩ := g K H gd lv pos'
  exact ⟨pos'', q.trans q'⟩
theorem Ev.keep {vs : List Value} {t : Sem α} {a : α} (h : Ev tb p w n₀ ann c B k s t a s') : Ev tb p w n₀ ann c B k s (t.keep vs) a s' := fun K H gd lv pos => by
  rw [Sem.keep_eq_wrap, Sem.wrap_wrap]
  exact h _ _ _ _ _
theorem Ev.holding {vs : List Value} {t : Sem α} {a : α} (h : Ev tb p w n₀ ann c B k s t a s') : Ev tb p w n₀ ann c B k s (PySem.holding vs t) a s' := by
  unfold PySem.holding
  split
  · exact h
  · exact h.keep
section nodes
variable (hB : B ≠ [])
include hB
theorem Ev.rule {tag : String} : Ev tb p w n₀ ann c B 1 s (PySem.rule tag) () s := fun K H gd lv pos =>
  ⟨pos, Reach.step rfl rfl (by cases B with | nil => exact absurd rfl hB | cons => rfl)⟩
theorem Ev.standAt {q : Pos} : Ev tb p w n₀ ann c B 1 s (PySem.standAt q) () s := fun K H gd lv pos =>
  ⟨q, Reach.step rfl rfl (by cases B with | nil => exact absurd rfl hB | cons => rfl)⟩
theorem Ev.ask : Ev tb p w n₀ ann c B 1 s PySem.ask ⟨p, w.params⟩ s := fun K H gd lv pos =>
  ⟨pos, Reach.step rfl rfl (by cases B with | nil => exact absurd rfl hB | cons => rfl)⟩
theorem Ev.fresh : Ev tb p w n₀ ann c B 1 s PySem.fresh s.toks { s with toks := s.toks + 1 } := fun K H gd lv pos =>
  ⟨pos, Reach.step rfl rfl (by cases B with | nil => exact absurd rfl hB | cons => rfl)⟩
theorem Ev.alloc {o : Obj} : Ev tb p w n₀ ann c B 1 s (PySem.alloc o) s.heap.objs.size { s with heap := s.heap.push o } := fun K H gd lv pos =>
  ⟨pos, Reach.step rfl rfl (by cases B with | nil => exact absurd rfl hB | cons => rfl)⟩
theorem Ev.load {a : Addr} {o : Obj} (ho : s.heap.get? a = some o) : Ev tb p w n₀ ann c B 1 s (PySem.load a) o s := fun K H gd lv pos => by
  refine ⟨pos, Reach.step ?_ rfl (by cases B with | nil => exact absurd rfl hB | cons => rfl)⟩
  show PySem.step (denote tb) p w s ⟨.load a none fun x => (Sem.pure x : Sem Obj).wrap K H gd lv, c, pos, B⟩ = _
  obtain ⟨heap, gens, drawn, toks, os⟩ := s
  simp only [PySem.step, show heap.get? a = some o from ho]
  rfl
theorem Ev.update {a : Addr} {f : Obj → Obj} {o : Obj} (ho : s.heap.get? a = some o) (ha : n₀ ≤ a) : Ev tb p w n₀ ann c B 1 s (PySem.update a f) () { s with heap := s.heap.update a f } := fun K H gd lv pos => by
  refine ⟨pos, Reach.step ?_ ?_ (by cases B with | nil => exact absurd rfl hB | cons => rfl)⟩
  · show PySem.step (denote tb) p w s ⟨.update a none f fun x => (Sem.pure x : Sem Unit).wrap K H gd lv, c, pos, B⟩ = _
    obtain ⟨heap, gens, drawn, toks, os⟩ := s
    simp only [PySem.step, show heap.get? a = some o from ho, Option.isSome_some, if_true]
    rfl
  · show (true && (Nat.ble n₀ a || a == mainNs || a == cStatics || ann == some (.ref a))) = true
    rw [Nat.ble_eq_true_of_le ha]
    rfl
end nodes
theorem Ev.of_seg {res : α → Flow} (hB : splitAtGen B = none) (inj : ∀ a b, res a = res b → a = b) {t : Sem α} {a : α}
    (h : ∀ gd lv pos, ∃ pos', segRun tb p w n₀ ann B.length k s ⟨t.wrap (fun a => .pure (.done (res a))) deadEnd gd lv, c, pos, B⟩ = some (res a, s', c, pos')) : Ev tb p w n₀ ann c B k s t a s' := fun K H gd lv pos => by
  obtain ⟨pos', q⟩ := h gd lv pos
  obtain ⟨a', e, hN⟩ := seg_top (K' := K) (H' := H) (gd := gd) (lv := lv) (res := res) hB k s ⟨t.wrap (fun a => .pure (.done (res a))) deadEnd gd lv, c, pos, B⟩ ⟨t.wrap K H gd lv, c, pos, B⟩ _ _ _ _ ⟨rfl, rfl, .inl ⟨rfl, rfl, t, rfl, rfl⟩⟩ q
  obtain rfl := inj _ _ e
  exact ⟨pos', hN⟩
end
end Mine
end
section
open PySem PySem.W PyProof.Rows
namespace Mine
/-- a heap with objects on top -/
noncomputable def pushes (b : Heap) (l : List Obj) : Heap := l.foldl Heap.push b
theorem pushes_size : ∀ (l : List Obj) (b : Heap), (pushes b l).objs.size = b.objs.size + l.length
  | [], b => rfl
  | o :: r, b => by
    show (pushes (b.push o) r).objs.size = _
    rw [pushes_size r, List.length_cons]
    have : (b.push o).objs.size = b.objs.size + 1 := Array.size_push ..
    omega
theorem pushes_app (b : Heap) (l : List Obj) (o : Obj) : pushes b (l ++ [o]) = (pushes b l).push o := by
  unfold pushes
  rw [List.foldl_append]
  rfl
theorem pushes_app2 (b : Heap) (l r : List Obj) : pushes b (l ++ r) = pushes (pushes b l) r := by
  unfold pushes
  rw [List.foldl_append]
theorem pushes_objs : ∀ (l : List Obj) (b : Heap), (pushes b l).objs = b.objs ++ l.toArray
  | [], b => by simp [pushes]
  | o :: r, b => by
    show (pushes (b.push o) r).objs = _
    rw [pushes_objs r]
    obtain ⟨objs, life⟩ := b
    show objs.push o ++ r.toArray = _
    apply Array.toList_inj.mp
    simp
theorem pushes_life : ∀ (l : List Obj) (b : Heap), (pushes b l).life = b.life
  | [], _ => rfl
  | o :: r, b => pushes_life r (b.push o)
theorem pushes_old {l : List Obj} {b : Heap} {a : Addr} {o : Obj} (h : b.get? a = some o) : (pushes b l).get? a = some o := by
  induction l generalizing b with
  | nil => exact h
  | cons x r ih => exact ih (Heap.get?_push_of_some _ h)
theorem pushes_new {l : List Obj} {b : Heap} {j : Nat} {o o' : Obj} (h : l[j]? = some o) (al : alive o = some o') : (pushes b l).get? (b.objs.size + j) = some o' := by
  unfold Heap.get?
  have e : (pushes b l).objs[b.objs.size + j]? = some o := by
    rw [pushes_objs, Array.getElem?_append_right (by omega)]
    simpa using h
  rw [e, ← al]
  obtain ⟨c, d, dt, sl⟩ := o
  cases dt <;> rfl
theorem pushes_update {l : List Obj} {b : Heap} {j : Nat} {f : Obj → Obj} (h : j < l.length) : (pushes b l).update (b.objs.size + j) f = pushes b (l.modify j f) := by
  have e1 := pushes_objs l b
  have e2 := pushes_objs (l.modify j f) b
  have e3 := pushes_life l b
  have e4 := pushes_life (l.modify j f) b
  generalize pushes b l = H at *
  generalize pushes b (l.modify j f) = H' at *
  obtain ⟨o1, l1⟩ := H
  obtain ⟨o2, l2⟩ := H'
  dsimp only at e1 e2 e3 e4
  subst e3
  subst e4
  show Heap.mk (o1.modify _ f) _ = Heap.mk o2 _
  congr 1
  rw [e1, e2]
  apply Array.ext_getElem?
  intro i
  rw [Array.getElem?_modify]
  by_cases hi : i < b.objs.size
  · rw [Array.getElem?_append_left hi, Array.getElem?_append_left hi, if_neg (by omega)]
  · rw [Array.getElem?_append_right (by omega), Array.getElem?_append_right (by omega)]
    simp only [List.getElem?_toArray, List.getElem?_modify]
    have hm : ∀ (P : Prop) [Decidable P] (x : Option Obj), (fun a => if P then f a else a) <$> x = if P then x.map f else x := by
      intro P _ x
      by_cases hp : P <;> cases x <;> simp [hp]
    rw [hm]
    by_cases q : b.objs.size + j = i
    · rw [if_pos q, if_pos (by omega)]
    · rw [if_neg q, if_neg (by omega)]
/-- where a read object stands: among the known ones, or among the new ones -/
inductive Hint where
  | no
  | old (i : Nat)
  | new (j : Nat)
structure SX where
  news : List Obj
  gens : Array GenState
  drawn : Drawn
  toks : Nat
  os : OsState
noncomputable def SX.abs (b : Heap) (S : SX) : Shared := ⟨pushes b S.news, S.gens, S.drawn, S.toks, S.os⟩
noncomputable def xStep (den : Code → Sem Fin) (p : Program) (w : World) (known : List (Nat × Obj)) (n : Nat) (h : Hint) : SX → Thread → Option (SX × Thread × List (Nat × Nat))
  | ⟨news, gens, drawn, toks, os⟩, ⟨cur, code, pos, stack⟩ => match cur with
    | .load a _ k => match h with
      | .old i => match known[i]? with
        | some (a', o) => match Nat.beq a a' with
          | true => some (⟨news, gens, drawn, toks, os⟩, ⟨k o, code, pos, stack⟩, [])
          | false => none
        | none => none
      | .new j => match news[j]? with
        | some o => match alive o with
          | some o' => some (⟨news, gens, drawn, toks, os⟩, ⟨k o', code, pos, stack⟩, [(a, n + j)])
          | none => none
        | none => none
      | .no => none
    | .update a _ f k => match h with
      | .new j => match news[j]? with
        | some o => match alive o with
          | some _ => some (⟨news.modify j f, gens, drawn, toks, os⟩, ⟨k (), code, pos, stack⟩, [(a, n + j)])
          | none => none
        | none => none
      | _ => none
    | .alloc o k => some (⟨news ++ [o], gens, drawn, toks, os⟩, ⟨k (n + news.length), code, pos, stack⟩, [])
    | .loadIfAlive .. => none
    | .os .. => none
    | c => match step den p w ⟨{}, gens, drawn, toks, os⟩ ⟨c, code, pos, stack⟩ with
      | .go s' t' => some (⟨news, s'.gens, s'.drawn, s'.toks, s'.os⟩, t', [])
      | .halt _ _ => none
noncomputable def xRun (tb : String → Option Builtin) (p : Program) (w : World) (known : List (Nat × Obj)) (n b : Nat) : List Hint → SX → Thread → Option (Flow × SX × Code × Pos × List (Nat × Nat))
  | [], S, t => match endAt b t with
    | some f => some (f, S, t.code, t.pos, [])
    | none => none
  | h :: hs, S, t => match endAt b t with
    | some _ => none
    | none => match t.calm with
      | false => none
      | true => match xStep (denote tb) p w known n h S t with
        | some (S', t', e) => match xRun tb p w known n b hs S' t' with
          | some (f, S'', c, q, es) => some (f, S'', c, q, e ++ es)
          | none => none
        | none => none
noncomputable def expect (n : Nat) : List Hint → List (Nat × Nat)
  | [] => []
  | .new j :: r => (n + j, n + j) :: expect n r
  | _ :: r => expect n r
theorem expect_same (n : Nat) : ∀ l, ∀ e ∈ expect n l, e.1 = e.2
  | [], _, h => by cases h
  | .new j :: r, e, h => by
    rcases List.mem_cons.mp h with rfl | h
    · rfl
    · exact expect_same n r e h
  | .no :: r, e, h => expect_same n r e h
  | .old _ :: r, e, h => expect_same n r e h
section
variable {tb : String → Option Builtin} {p : Program} {w : World} {n₀ : Nat} {ann : Option Value} {known : List (Nat × Obj)} {base : Heap}
theorem xStep_spec {h : Hint} {S S' : SX} {t t' : Thread} {es : List (Nat × Nat)} (hk : ∀ x ∈ known, base.get? x.1 = some x.2) (hn₀ : n₀ ≤ base.objs.size) (hc : t.calm = true)
    (hx : xStep (denote tb) p w known base.objs.size h S t = some (S', t', es)) (he : ∀ e ∈ es, e.1 = e.2) : step (denote tb) p w (S.abs base) t = .go (S'.abs base) t' ∧ stepOk n₀ ann t = true := by
  obtain ⟨news, gens, drawn, toks, os⟩ := S
  obtain ⟨cur, code, pos, stack⟩ := t
  have other : (∀ a q k, cur ≠ .load a q k) → (∀ a q f k, cur ≠ .update a q f k) → (∀ o k, cur ≠ .alloc o k) → (∀ a k, cur ≠ .loadIfAlive a k) →
      (match step (denote tb) p w ⟨{}, gens, drawn, toks, os⟩ ⟨cur, code, pos, stack⟩ with
        | .go s' t' => some ((⟨news, s'.gens, s'.drawn, s'.toks, s'.os⟩ : SX), t', ([] : List (Nat × Nat)))
        | .halt _ _ => none) = some (S', t', es) → step (denote tb) p w (SX.abs base ⟨news, gens, drawn, toks, os⟩) ⟨cur, code, pos, stack⟩ = .go (S'.abs base) t' := by
    intro h1 h2 h3 h4 hx
    cases q : step (denote tb) p w ⟨{}, gens, drawn, toks, os⟩ ⟨cur, code, pos, stack⟩ with
    | halt o s => rw [q] at hx; cases hx
    | go s₀ t₀ =>
      rw [q] at hx
      cases hx
      exact PySem.W.step_heap h1 h2 h3 h4 q
  cases cur with
  | load a q k =>
    refine ⟨?_, by show (Thread.calm _ && true) = true; rw [hc]; rfl⟩
    simp only [xStep] at hx
    cases h with
    | no => cases hx
    | old i =>
      dsimp only at hx
      cases hi : known[i]? with
      | none => rw [hi] at hx; cases hx
      | some x =>
        obtain ⟨a', o⟩ := x
        rw [hi] at hx
        dsimp only at hx
        cases hb : Nat.beq a a' with
        | false => rw [hb] at hx; cases hx
        | true =>
          rw [hb] at hx
          cases hx
          obtain rfl := Nat.eq_of_beq_eq_true hb
          have ho := pushes_old (l := news) (hk _ (List.mem_of_getElem? hi))
          show step (denote tb) p w ⟨pushes base news, gens, drawn, toks, os⟩ _ = _
          simp only [PySem.step]
          rw [show (pushes base news).get? a = some o from ho]
          rfl
    | new j =>
      dsimp only at hx
      cases hi : news[j]? with
      | none => rw [hi] at hx; cases hx
      | some o =>
        rw [hi] at hx
        dsimp only at hx
        cases al : alive o with
        | none => rw [al] at hx; cases hx
        | some o' =>
          rw [al] at hx
          cases hx
          have e : a = base.objs.size + j := he _ (.head _)
          subst e
          show step (denote tb) p w ⟨pushes base news, gens, drawn, toks, os⟩ _ = _
          simp only [PySem.step]
          rw [pushes_new hi al]
          rfl
  | update a q f k =>
    simp only [xStep] at hx
    cases h with
    | no => cases hx
    | old i => cases hx
    | new j =>
      dsimp only at hx
      cases hi : news[j]? with
      | none => rw [hi] at hx; cases hx
      | some o =>
        rw [hi] at hx
        dsimp only at hx
        cases al : alive o with
        | none => rw [al] at hx; cases hx
        | some o' =>
          rw [al] at hx
          cases hx
          have e : a = base.objs.size + j := he _ (.head _)
          subst e
          constructor
          · show step (denote tb) p w ⟨pushes base news, gens, drawn, toks, os⟩ _ = .go ⟨pushes base (news.modify j f), gens, drawn, toks, os⟩ _
            rw [← pushes_update (List.getElem?_eq_some_iff.mp hi).1]
            simp only [PySem.step]
            rw [pushes_new hi al]
            rfl
          · show (Thread.calm _ && (Nat.ble n₀ (base.objs.size + j) || _ == mainNs || _ == cStatics || ann == some (.ref _))) = true
            rw [hc, Nat.ble_eq_true_of_le (by omega)]
            rfl
  | alloc o k =>
    refine ⟨?_, by show (Thread.calm _ && true) = true; rw [hc]; rfl⟩
    simp only [xStep] at hx
    cases hx
    show step (denote tb) p w ⟨pushes base news, gens, drawn, toks, os⟩ _ = .go ⟨pushes base (news ++ [o]), gens, drawn, toks, os⟩ _
    rw [pushes_app, ← pushes_size]
    rfl
  | loadIfAlive => simp only [xStep] at hx; cases hx
  | os => simp only [xStep] at hx; cases hx
  | _ => exact ⟨other (by intros; intro e; cases e) (by intros; intro e; cases e) (by intros; intro e; cases e) (by intros; intro e; cases e) hx, by show (Thread.calm _ && true) = true; rw [hc]; rfl⟩
theorem xRun_spec {b : Nat} (hk : ∀ x ∈ known, base.get? x.1 = some x.2) (hn₀ : n₀ ≤ base.objs.size) : ∀ {hs : List Hint} {S S' : SX} {t : Thread} {f : Flow} {c : Code} {q : Pos} {es : List (Nat × Nat)},
    xRun tb p w known base.objs.size b hs S t = some (f, S', c, q, es) → (∀ e ∈ es, e.1 = e.2) → segRun tb p w n₀ ann b (hs.length + 1) (S.abs base) t = some (f, S'.abs base, c, q)
  | [], S, S', t, f, c, q, es, h, _ => by
    unfold xRun at h
    unfold segRun
    cases he : endAt b t with
    | none => rw [he] at h; cases h
    | some x => rw [he] at h; cases h; rfl
  | x :: hs, S, S', t, f, c, q, es, h, he => by
    unfold xRun at h
    unfold segRun
    cases hb : endAt b t with
    | some y => rw [hb] at h; cases h
    | none =>
      rw [hb] at h
      dsimp only at h
      cases hc : t.calm with
      | false => rw [hc] at h; cases h
      | true =>
        rw [hc] at h
        dsimp only at h
        cases hx : xStep (denote tb) p w known base.objs.size x S t with
        | none => rw [hx] at h; cases h
        | some r =>
          obtain ⟨S₂, t₂, e₂⟩ := r
          rw [hx] at h
          dsimp only at h
          cases hr : xRun tb p w known base.objs.size b hs S₂ t₂ with
          | none => rw [hr] at h; cases h
          | some r =>
            obtain ⟨f', S₃, c', q', es'⟩ := r
            rw [hr] at h
            cases h
            obtain ⟨g1, g2⟩ := xStep_spec (n₀ := n₀) (ann := ann) hk hn₀ hc hx fun e h => he e (List.mem_append_left _ h)
            dsimp only
            rw [g2, g1]
            exact xRun_spec hk hn₀ hr fun e h => he e (List.mem_append_right _ h)
end
end Mine
end
section
open PySem PySem.W PyProof.Rows
namespace Mine
noncomputable abbrev pw : Program := PySem.Challenge.pw_ai0034_01
noncomputable def noSt : Stmt := .Pass ⟨0, 0, 0, 0⟩
noncomputable def st (i : Nat) : Stmt := (pw.main.body[i]?).getD noSt
noncomputable def blockOfC : Stmt → List Stmt
  | .ClassDef _ _ _ b _ _ _ _ _ _ _ => b
  | _ => []
noncomputable def scopeOfC (dflt : Scope) : Stmt → Scope
  | .ClassDef _ _ _ _ _ _ sc _ _ _ _ => sc
  | _ => dflt
noncomputable def st2 (i j : Nat) : Stmt := ((blockOfC (st i))[j]?).getD noSt
noncomputable def fnD (s : Stmt) (qual : Str) (gl : Addr) (doc pm cd ct : Value) (an : Option Addr) : FuncData := match s with
  | .FunctionDef name args body _ _ _ scope _ _ _ => { name, qualname := qual, params := args, body := .stmts body, scope, globals := gl, closure := [], defaults := .none, kwdefaults := .none, doc, pyModule := pm, annotations := an, code := cd, closureTuple := ct, builtins := 0 }
  | _ => default
noncomputable def de (P : Params) (x : String) (t : Nat) (v : Value) : DictEntry := ⟨PyData.keyHash P (Str.ofString x), .str (Str.ofString x) t, v⟩
/-- the set of the class, as the world has laid it -/
noncomputable def setO (es : Array (Int × Value)) (n : Nat) (t : SetTable) : Obj := ⟨.type "set", none, .set es n t, #[]⟩
/-- an object of Among: its dict, itself, the frame of its making -/
noncomputable def amD (P : Params) (s : Str) (i : Int) (ts ti tr k : Nat) : Obj :=
  ⟨.type "dict", none, .dict [⟨PyData.keyHash P (Str.ofString "s"), .str (Str.ofString "s") k, .str s ts⟩, ⟨PyData.keyHash P (Str.ofString "substring_i"), .str (Str.ofString "substring_i") (k + 2), .int i ti⟩, ⟨PyData.keyHash P (Str.ofString "result"), .str (Str.ofString "result") (k + 4), .int 1 tr⟩].toArray 3, #[]⟩
noncomputable def amI (d : Nat) : Obj := ⟨.ref 218, some d, .plain, #[]⟩
-- the frame of the first: ⟨(.type "frame"), none, .dict [de P "self" 546 (.ref 274), de P "s" 547 (.str (Str.ofString "րորդ") 542), de P "substring_i" 548 (.int (-1) 544), de P "result" 549 (.int 1 545)].toArray 4, #[]⟩
noncomputable def o3_S6 (P : Params) : Obj := ⟨(.type "dict"), none, .dict [de P "__name__" 165 (.str (Str.ofString "snowballstemmer.armenian_stemmer") 459), de P "__doc__" 166 .none, de P "__package__" 167 .none, de P "__loader__" 168 (.builtin "__main__.__loader__#opaque"), de P "__spec__" 169 .none, de P "__annotations__" 170 (.ref 6), de P "__builtins__" 171 (.ref 4), de P "__file__" 173 (.str (Str.ofString "/claim/cut.py") 172), de P "__cached__" 174 .none, de P "_wall" 193 (.ref 21), de P "BaseStemmer" 423 (.ref 197), de P "Among" 458 (.ref 218)].toArray 12, #[]⟩
noncomputable def o11_S6 (P : Params) : Obj := ⟨(.type "tuple"), none, .seq #[] 0, #[]⟩
noncomputable def o12_S6 (P : Params) : Obj := ⟨.none, none, .fields #[(.int 1 0), (.int 0 0), (.ref 20), (.int 5 0), (.int 0 0), (.ref 27), (.int 148 0), (.int 0 0), (.ref 207)], #[]⟩
noncomputable def o13_S6 (P : Params) : Obj := ⟨(.type "code"), none, .fields #[(.str (Str.ofString "<module>") 182), (.str (Str.ofString "<module>") 183), (.str (Str.ofString "/claim/cut.py") 184), (.int 1 0), (.int 0 0), (.int 0 0), (.int 0 0), (.int 0 0), (.ref 11), (.bool false), (.int 181 0), (.ref 12), .none, .none, .none, .none, (.int 185 0), (.int 1 0), (.str (Str.ofString "/claim/cut.py") 186)], #[]⟩
noncomputable def o14_S6 (P : Params) : Obj := ⟨(.type "frame"), none, .plain, #[(some (.ref 13)), (some (.ref 3)), (some (.ref 3)), none, (some (.str (Str.ofString "__main__") 164)), none, (some (.ref 0))]⟩
noncomputable def o15_S6 (P : Params) : Obj := ⟨(.type "tuple"), none, .seq #[] 0, #[]⟩
noncomputable def o16_S6 (P : Params) : Obj := ⟨.none, none, .fields #[], #[]⟩
noncomputable def o17_S6 (P : Params) : Obj := ⟨(.type "tuple"), none, .seq #[(.str (Str.ofString "k") 190)] 0, #[]⟩
noncomputable def o18_S6 (P : Params) : Obj := ⟨(.type "tuple"), none, .seq #[] 0, #[]⟩
noncomputable def o19_S6 (P : Params) : Obj := ⟨.none, none, .func (fnD (st 0) (Str.ofString "_wall") 0 .none .none .none .none none), #[]⟩
noncomputable def o20_S6 (P : Params) : Obj := ⟨(.type "code"), none, .fields #[(.str (Str.ofString "_wall") 187), (.str (Str.ofString "_wall") 188), (.str (Str.ofString "/claim/cut.py") 189), (.int 1 0), (.int 1 0), (.int 0 0), (.int 0 0), (.int 3 0), (.ref 15), (.bool true), (.int 181 0), (.ref 16), .none, (.ref 17), (.ref 18), (.ref 19), (.int 191 0), (.int 1 0), (.str (Str.ofString "/claim/cut.py") 192)], #[]⟩
noncomputable def o21_S6 (P : Params) : Obj := ⟨(.type "function"), none, .func (fnD (st 0) (Str.ofString "_wall") 3 .none (.str (Str.ofString "__main__") 164) (.ref 20) .none none), #[]⟩
noncomputable def o22_S6 (P : Params) : Obj := ⟨(.type "tuple"), none, .seq #[] 0, #[]⟩
noncomputable def o23_S6 (P : Params) : Obj := ⟨(.type "builtin_function_or_method"), none, .fields #[(.builtin "type.__prepare__"), (.type "type")], #[]⟩
noncomputable def o24_S6 (P : Params) : Obj := ⟨(.type "dict"), none, .dict [de P "__module__" 203 (.str (Str.ofString "snowballstemmer.basestemmer") 194), de P "__qualname__" 205 (.str (Str.ofString "BaseStemmer") 204), de P "__firstlineno__" 207 (.int 5 206), de P "__init__" 214 (.ref 35), de P "set_current" 222 (.ref 42), de P "get_current" 229 (.ref 49), de P "copy_from" 237 (.ref 56), de P "in_grouping" 245 (.ref 63), de P "go_in_grouping" 253 (.ref 70), de P "in_grouping_b" 261 (.ref 77), de P "go_in_grouping_b" 269 (.ref 84), de P "out_grouping" 277 (.ref 91), de P "go_out_grouping" 285 (.ref 98), de P "out_grouping_b" 293 (.ref 105), de P "go_out_grouping_b" 301 (.ref 112), de P "eq_s" 309 (.ref 119), de P "eq_s_b" 317 (.ref 126), de P "find_among" 325 (.ref 133), de P "find_among_b" 345 (.ref 140), de P "replace_s" 356 (.ref 147), de P "slice_from" 364 (.ref 154), de P "slice_del" 371 (.ref 161), de P "insert" 381 (.ref 168), de P "slice_to" 388 (.ref 175), de P "assign_to" 395 (.ref 182), de P "stemWord" 403 (.ref 189), de P "stemWords" 409 (.ref 194), de P "__static_attributes__" 416 (.ref 195)].toArray 28, #[]⟩
noncomputable def o25_S6 (P : Params) : Obj := ⟨(.type "tuple"), none, .seq #[] 0, #[]⟩
noncomputable def o26_S6 (P : Params) : Obj := ⟨.none, none, .fields #[(.int 7 0), (.int 4 0), (.ref 34), (.int 10 0), (.int 4 0), (.ref 41), (.int 18 0), (.int 4 0), (.ref 48), (.int 21 0), (.int 4 0), (.ref 55), (.int 24 0), (.int 4 0), (.ref 62), (.int 27 0), (.int 4 0), (.ref 69), (.int 34 0), (.int 4 0), (.ref 76), (.int 37 0), (.int 4 0), (.ref 83), (.int 40 0), (.int 4 0), (.ref 90), (.int 43 0), (.int 4 0), (.ref 97), (.int 50 0), (.int 4 0), (.ref 104), (.int 53 0), (.int 4 0), (.ref 111), (.int 56 0), (.int 4 0), (.ref 118), (.int 59 0), (.int 4 0), (.ref 125), (.int 62 0), (.int 4 0), (.ref 132), (.int 65 0), (.int 4 0), (.ref 139), (.int 110 0), (.int 4 0), (.ref 146), (.int 120 0), (.int 4 0), (.ref 153), (.int 128 0), (.int 4 0), (.ref 160), (.int 131 0), (.int 4 0), (.ref 167), (.int 134 0), (.int 4 0), (.ref 174), (.int 137 0), (.int 4 0), (.ref 181), (.int 140 0), (.int 4 0), (.ref 188), (.int 145 0), (.int 4 0), (.ref 193)], #[]⟩
noncomputable def o27_S6 (P : Params) : Obj := ⟨(.type "code"), none, .fields #[(.str (Str.ofString "BaseStemmer") 198), (.str (Str.ofString "BaseStemmer") 199), (.str (Str.ofString "/claim/cut.py") 200), (.int 5 0), (.int 0 0), (.int 0 0), (.int 0 0), (.int 0 0), (.ref 25), (.bool false), (.int 181 0), (.ref 26), .none, .none, .none, .none, (.int 201 0), (.int 5 0), (.str (Str.ofString "/claim/cut.py") 202)], #[]⟩
noncomputable def o28_S6 (P : Params) : Obj := ⟨(.type "frame"), none, .plain, #[(some (.ref 27)), (some (.ref 3)), (some (.ref 24)), none, (some (.str (Str.ofString "snowballstemmer.basestemmer") 194)), none, (some (.ref 0))]⟩
noncomputable def o29_S6 (P : Params) : Obj := ⟨(.type "tuple"), none, .seq #[] 0, #[]⟩
noncomputable def o30_S6 (P : Params) : Obj := ⟨.none, none, .fields #[], #[]⟩
noncomputable def o31_S6 (P : Params) : Obj := ⟨(.type "tuple"), none, .seq #[(.str (Str.ofString "self") 211)] 0, #[]⟩
noncomputable def o32_S6 (P : Params) : Obj := ⟨(.type "tuple"), none, .seq #[] 0, #[]⟩
noncomputable def o33_S6 (P : Params) : Obj := ⟨.none, none, .func (fnD (st2 2 0) (Str.ofString "BaseStemmer.__init__") 0 .none .none .none .none none), #[]⟩
noncomputable def o34_S6 (P : Params) : Obj := ⟨(.type "code"), none, .fields #[(.str (Str.ofString "__init__") 208), (.str (Str.ofString "BaseStemmer.__init__") 209), (.str (Str.ofString "/claim/cut.py") 210), (.int 7 0), (.int 1 0), (.int 0 0), (.int 0 0), (.int 3 0), (.ref 29), (.bool true), (.int 181 0), (.ref 30), .none, (.ref 31), (.ref 32), (.ref 33), (.int 212 0), (.int 7 0), (.str (Str.ofString "/claim/cut.py") 213)], #[]⟩
noncomputable def o35_S6 (P : Params) : Obj := ⟨(.type "function"), none, .func (fnD (st2 2 0) (Str.ofString "BaseStemmer.__init__") 3 .none (.str (Str.ofString "snowballstemmer.basestemmer") 194) (.ref 34) .none none), #[]⟩
noncomputable def o36_S6 (P : Params) : Obj := ⟨(.type "tuple"), none, .seq #[] 0, #[]⟩
noncomputable def o37_S6 (P : Params) : Obj := ⟨.none, none, .fields #[], #[]⟩
noncomputable def o38_S6 (P : Params) : Obj := ⟨(.type "tuple"), none, .seq #[(.str (Str.ofString "self") 218), (.str (Str.ofString "value") 219)] 0, #[]⟩
noncomputable def o39_S6 (P : Params) : Obj := ⟨(.type "tuple"), none, .seq #[] 0, #[]⟩
noncomputable def o40_S6 (P : Params) : Obj := ⟨.none, none, .func (fnD (st2 2 1) (Str.ofString "BaseStemmer.set_current") 0 .none .none .none .none none), #[]⟩
noncomputable def o41_S6 (P : Params) : Obj := ⟨(.type "code"), none, .fields #[(.str (Str.ofString "set_current") 215), (.str (Str.ofString "BaseStemmer.set_current") 216), (.str (Str.ofString "/claim/cut.py") 217), (.int 10 0), (.int 2 0), (.int 0 0), (.int 0 0), (.int 3 0), (.ref 36), (.bool true), (.int 181 0), (.ref 37), .none, (.ref 38), (.ref 39), (.ref 40), (.int 220 0), (.int 10 0), (.str (Str.ofString "/claim/cut.py") 221)], #[]⟩
noncomputable def o42_S6 (P : Params) : Obj := ⟨(.type "function"), none, .func (fnD (st2 2 1) (Str.ofString "BaseStemmer.set_current") 3 .none (.str (Str.ofString "snowballstemmer.basestemmer") 194) (.ref 41) .none none), #[]⟩
noncomputable def o43_S6 (P : Params) : Obj := ⟨(.type "tuple"), none, .seq #[] 0, #[]⟩
noncomputable def o44_S6 (P : Params) : Obj := ⟨.none, none, .fields #[], #[]⟩
noncomputable def o45_S6 (P : Params) : Obj := ⟨(.type "tuple"), none, .seq #[(.str (Str.ofString "self") 226)] 0, #[]⟩
noncomputable def o46_S6 (P : Params) : Obj := ⟨(.type "tuple"), none, .seq #[] 0, #[]⟩
noncomputable def o47_S6 (P : Params) : Obj := ⟨.none, none, .func (fnD (st2 2 2) (Str.ofString "BaseStemmer.get_current") 0 .none .none .none .none none), #[]⟩
noncomputable def o48_S6 (P : Params) : Obj := ⟨(.type "code"), none, .fields #[(.str (Str.ofString "get_current") 223), (.str (Str.ofString "BaseStemmer.get_current") 224), (.str (Str.ofString "/claim/cut.py") 225), (.int 18 0), (.int 1 0), (.int 0 0), (.int 0 0), (.int 3 0), (.ref 43), (.bool true), (.int 181 0), (.ref 44), .none, (.ref 45), (.ref 46), (.ref 47), (.int 227 0), (.int 18 0), (.str (Str.ofString "/claim/cut.py") 228)], #[]⟩
noncomputable def o49_S6 (P : Params) : Obj := ⟨(.type "function"), none, .func (fnD (st2 2 2) (Str.ofString "BaseStemmer.get_current") 3 .none (.str (Str.ofString "snowballstemmer.basestemmer") 194) (.ref 48) .none none), #[]⟩
noncomputable def o50_S6 (P : Params) : Obj := ⟨(.type "tuple"), none, .seq #[] 0, #[]⟩
noncomputable def o51_S6 (P : Params) : Obj := ⟨.none, none, .fields #[], #[]⟩
noncomputable def o52_S6 (P : Params) : Obj := ⟨(.type "tuple"), none, .seq #[(.str (Str.ofString "self") 233), (.str (Str.ofString "other") 234)] 0, #[]⟩
noncomputable def o53_S6 (P : Params) : Obj := ⟨(.type "tuple"), none, .seq #[] 0, #[]⟩
noncomputable def o54_S6 (P : Params) : Obj := ⟨.none, none, .func (fnD (st2 2 3) (Str.ofString "BaseStemmer.copy_from") 0 .none .none .none .none none), #[]⟩
noncomputable def o55_S6 (P : Params) : Obj := ⟨(.type "code"), none, .fields #[(.str (Str.ofString "copy_from") 230), (.str (Str.ofString "BaseStemmer.copy_from") 231), (.str (Str.ofString "/claim/cut.py") 232), (.int 21 0), (.int 2 0), (.int 0 0), (.int 0 0), (.int 3 0), (.ref 50), (.bool true), (.int 181 0), (.ref 51), .none, (.ref 52), (.ref 53), (.ref 54), (.int 235 0), (.int 21 0), (.str (Str.ofString "/claim/cut.py") 236)], #[]⟩
noncomputable def o56_S6 (P : Params) : Obj := ⟨(.type "function"), none, .func (fnD (st2 2 3) (Str.ofString "BaseStemmer.copy_from") 3 .none (.str (Str.ofString "snowballstemmer.basestemmer") 194) (.ref 55) .none none), #[]⟩
noncomputable def o57_S6 (P : Params) : Obj := ⟨(.type "tuple"), none, .seq #[] 0, #[]⟩
noncomputable def o58_S6 (P : Params) : Obj := ⟨.none, none, .fields #[], #[]⟩
noncomputable def o59_S6 (P : Params) : Obj := ⟨(.type "tuple"), none, .seq #[(.str (Str.ofString "self") 241), (.str (Str.ofString "s") 242)] 0, #[]⟩
noncomputable def o60_S6 (P : Params) : Obj := ⟨(.type "tuple"), none, .seq #[] 0, #[]⟩
noncomputable def o61_S6 (P : Params) : Obj := ⟨.none, none, .func (fnD (st2 2 4) (Str.ofString "BaseStemmer.in_grouping") 0 .none .none .none .none none), #[]⟩
noncomputable def o62_S6 (P : Params) : Obj := ⟨(.type "code"), none, .fields #[(.str (Str.ofString "in_grouping") 238), (.str (Str.ofString "BaseStemmer.in_grouping") 239), (.str (Str.ofString "/claim/cut.py") 240), (.int 24 0), (.int 2 0), (.int 0 0), (.int 0 0), (.int 3 0), (.ref 57), (.bool true), (.int 181 0), (.ref 58), .none, (.ref 59), (.ref 60), (.ref 61), (.int 243 0), (.int 24 0), (.str (Str.ofString "/claim/cut.py") 244)], #[]⟩
noncomputable def o63_S6 (P : Params) : Obj := ⟨(.type "function"), none, .func (fnD (st2 2 4) (Str.ofString "BaseStemmer.in_grouping") 3 .none (.str (Str.ofString "snowballstemmer.basestemmer") 194) (.ref 62) .none none), #[]⟩
noncomputable def o64_S6 (P : Params) : Obj := ⟨(.type "tuple"), none, .seq #[] 0, #[]⟩
noncomputable def o65_S6 (P : Params) : Obj := ⟨.none, none, .fields #[], #[]⟩
noncomputable def o66_S6 (P : Params) : Obj := ⟨(.type "tuple"), none, .seq #[(.str (Str.ofString "self") 249), (.str (Str.ofString "s") 250)] 0, #[]⟩
noncomputable def o67_S6 (P : Params) : Obj := ⟨(.type "tuple"), none, .seq #[] 0, #[]⟩
noncomputable def o68_S6 (P : Params) : Obj := ⟨.none, none, .func (fnD (st2 2 5) (Str.ofString "BaseStemmer.go_in_grouping") 0 .none .none .none .none none), #[]⟩
noncomputable def o69_S6 (P : Params) : Obj := ⟨(.type "code"), none, .fields #[(.str (Str.ofString "go_in_grouping") 246), (.str (Str.ofString "BaseStemmer.go_in_grouping") 247), (.str (Str.ofString "/claim/cut.py") 248), (.int 27 0), (.int 2 0), (.int 0 0), (.int 0 0), (.int 3 0), (.ref 64), (.bool true), (.int 181 0), (.ref 65), .none, (.ref 66), (.ref 67), (.ref 68), (.int 251 0), (.int 27 0), (.str (Str.ofString "/claim/cut.py") 252)], #[]⟩
noncomputable def o70_S6 (P : Params) : Obj := ⟨(.type "function"), none, .func (fnD (st2 2 5) (Str.ofString "BaseStemmer.go_in_grouping") 3 .none (.str (Str.ofString "snowballstemmer.basestemmer") 194) (.ref 69) .none none), #[]⟩
noncomputable def o71_S6 (P : Params) : Obj := ⟨(.type "tuple"), none, .seq #[] 0, #[]⟩
noncomputable def o72_S6 (P : Params) : Obj := ⟨.none, none, .fields #[], #[]⟩
noncomputable def o73_S6 (P : Params) : Obj := ⟨(.type "tuple"), none, .seq #[(.str (Str.ofString "self") 257), (.str (Str.ofString "s") 258)] 0, #[]⟩
noncomputable def o74_S6 (P : Params) : Obj := ⟨(.type "tuple"), none, .seq #[] 0, #[]⟩
noncomputable def o75_S6 (P : Params) : Obj := ⟨.none, none, .func (fnD (st2 2 6) (Str.ofString "BaseStemmer.in_grouping_b") 0 .none .none .none .none none), #[]⟩
noncomputable def o76_S6 (P : Params) : Obj := ⟨(.type "code"), none, .fields #[(.str (Str.ofString "in_grouping_b") 254), (.str (Str.ofString "BaseStemmer.in_grouping_b") 255), (.str (Str.ofString "/claim/cut.py") 256), (.int 34 0), (.int 2 0), (.int 0 0), (.int 0 0), (.int 3 0), (.ref 71), (.bool true), (.int 181 0), (.ref 72), .none, (.ref 73), (.ref 74), (.ref 75), (.int 259 0), (.int 34 0), (.str (Str.ofString "/claim/cut.py") 260)], #[]⟩
noncomputable def o77_S6 (P : Params) : Obj := ⟨(.type "function"), none, .func (fnD (st2 2 6) (Str.ofString "BaseStemmer.in_grouping_b") 3 .none (.str (Str.ofString "snowballstemmer.basestemmer") 194) (.ref 76) .none none), #[]⟩
noncomputable def o78_S6 (P : Params) : Obj := ⟨(.type "tuple"), none, .seq #[] 0, #[]⟩
noncomputable def o79_S6 (P : Params) : Obj := ⟨.none, none, .fields #[], #[]⟩
noncomputable def o80_S6 (P : Params) : Obj := ⟨(.type "tuple"), none, .seq #[(.str (Str.ofString "self") 265), (.str (Str.ofString "s") 266)] 0, #[]⟩
noncomputable def o81_S6 (P : Params) : Obj := ⟨(.type "tuple"), none, .seq #[] 0, #[]⟩
noncomputable def o82_S6 (P : Params) : Obj := ⟨.none, none, .func (fnD (st2 2 7) (Str.ofString "BaseStemmer.go_in_grouping_b") 0 .none .none .none .none none), #[]⟩
noncomputable def o83_S6 (P : Params) : Obj := ⟨(.type "code"), none, .fields #[(.str (Str.ofString "go_in_grouping_b") 262), (.str (Str.ofString "BaseStemmer.go_in_grouping_b") 263), (.str (Str.ofString "/claim/cut.py") 264), (.int 37 0), (.int 2 0), (.int 0 0), (.int 0 0), (.int 3 0), (.ref 78), (.bool true), (.int 181 0), (.ref 79), .none, (.ref 80), (.ref 81), (.ref 82), (.int 267 0), (.int 37 0), (.str (Str.ofString "/claim/cut.py") 268)], #[]⟩
noncomputable def o84_S6 (P : Params) : Obj := ⟨(.type "function"), none, .func (fnD (st2 2 7) (Str.ofString "BaseStemmer.go_in_grouping_b") 3 .none (.str (Str.ofString "snowballstemmer.basestemmer") 194) (.ref 83) .none none), #[]⟩
noncomputable def o85_S6 (P : Params) : Obj := ⟨(.type "tuple"), none, .seq #[] 0, #[]⟩
noncomputable def o86_S6 (P : Params) : Obj := ⟨.none, none, .fields #[], #[]⟩
noncomputable def o87_S6 (P : Params) : Obj := ⟨(.type "tuple"), none, .seq #[(.str (Str.ofString "self") 273), (.str (Str.ofString "s") 274)] 0, #[]⟩
noncomputable def o88_S6 (P : Params) : Obj := ⟨(.type "tuple"), none, .seq #[] 0, #[]⟩
noncomputable def o89_S6 (P : Params) : Obj := ⟨.none, none, .func (fnD (st2 2 8) (Str.ofString "BaseStemmer.out_grouping") 0 .none .none .none .none none), #[]⟩
noncomputable def o90_S6 (P : Params) : Obj := ⟨(.type "code"), none, .fields #[(.str (Str.ofString "out_grouping") 270), (.str (Str.ofString "BaseStemmer.out_grouping") 271), (.str (Str.ofString "/claim/cut.py") 272), (.int 40 0), (.int 2 0), (.int 0 0), (.int 0 0), (.int 3 0), (.ref 85), (.bool true), (.int 181 0), (.ref 86), .none, (.ref 87), (.ref 88), (.ref 89), (.int 275 0), (.int 40 0), (.str (Str.ofString "/claim/cut.py") 276)], #[]⟩
noncomputable def o91_S6 (P : Params) : Obj := ⟨(.type "function"), none, .func (fnD (st2 2 8) (Str.ofString "BaseStemmer.out_grouping") 3 .none (.str (Str.ofString "snowballstemmer.basestemmer") 194) (.ref 90) .none none), #[]⟩
noncomputable def o92_S6 (P : Params) : Obj := ⟨(.type "tuple"), none, .seq #[] 0, #[]⟩
noncomputable def o93_S6 (P : Params) : Obj := ⟨.none, none, .fields #[], #[]⟩
noncomputable def o94_S6 (P : Params) : Obj := ⟨(.type "tuple"), none, .seq #[(.str (Str.ofString "self") 281), (.str (Str.ofString "s") 282)] 0, #[]⟩
noncomputable def o95_S6 (P : Params) : Obj := ⟨(.type "tuple"), none, .seq #[] 0, #[]⟩
noncomputable def o96_S6 (P : Params) : Obj := ⟨.none, none, .func (fnD (st2 2 9) (Str.ofString "BaseStemmer.go_out_grouping") 0 .none .none .none .none none), #[]⟩
noncomputable def o97_S6 (P : Params) : Obj := ⟨(.type "code"), none, .fields #[(.str (Str.ofString "go_out_grouping") 278), (.str (Str.ofString "BaseStemmer.go_out_grouping") 279), (.str (Str.ofString "/claim/cut.py") 280), (.int 43 0), (.int 2 0), (.int 0 0), (.int 0 0), (.int 3 0), (.ref 92), (.bool true), (.int 181 0), (.ref 93), .none, (.ref 94), (.ref 95), (.ref 96), (.int 283 0), (.int 43 0), (.str (Str.ofString "/claim/cut.py") 284)], #[]⟩
noncomputable def o98_S6 (P : Params) : Obj := ⟨(.type "function"), none, .func (fnD (st2 2 9) (Str.ofString "BaseStemmer.go_out_grouping") 3 .none (.str (Str.ofString "snowballstemmer.basestemmer") 194) (.ref 97) .none none), #[]⟩
noncomputable def o99_S6 (P : Params) : Obj := ⟨(.type "tuple"), none, .seq #[] 0, #[]⟩
noncomputable def o100_S6 (P : Params) : Obj := ⟨.none, none, .fields #[], #[]⟩
noncomputable def o101_S6 (P : Params) : Obj := ⟨(.type "tuple"), none, .seq #[(.str (Str.ofString "self") 289), (.str (Str.ofString "s") 290)] 0, #[]⟩
noncomputable def o102_S6 (P : Params) : Obj := ⟨(.type "tuple"), none, .seq #[] 0, #[]⟩
noncomputable def o103_S6 (P : Params) : Obj := ⟨.none, none, .func (fnD (st2 2 10) (Str.ofString "BaseStemmer.out_grouping_b") 0 .none .none .none .none none), #[]⟩
noncomputable def o104_S6 (P : Params) : Obj := ⟨(.type "code"), none, .fields #[(.str (Str.ofString "out_grouping_b") 286), (.str (Str.ofString "BaseStemmer.out_grouping_b") 287), (.str (Str.ofString "/claim/cut.py") 288), (.int 50 0), (.int 2 0), (.int 0 0), (.int 0 0), (.int 3 0), (.ref 99), (.bool true), (.int 181 0), (.ref 100), .none, (.ref 101), (.ref 102), (.ref 103), (.int 291 0), (.int 50 0), (.str (Str.ofString "/claim/cut.py") 292)], #[]⟩
noncomputable def o105_S6 (P : Params) : Obj := ⟨(.type "function"), none, .func (fnD (st2 2 10) (Str.ofString "BaseStemmer.out_grouping_b") 3 .none (.str (Str.ofString "snowballstemmer.basestemmer") 194) (.ref 104) .none none), #[]⟩
noncomputable def o106_S6 (P : Params) : Obj := ⟨(.type "tuple"), none, .seq #[] 0, #[]⟩
noncomputable def o107_S6 (P : Params) : Obj := ⟨.none, none, .fields #[], #[]⟩
noncomputable def o108_S6 (P : Params) : Obj := ⟨(.type "tuple"), none, .seq #[(.str (Str.ofString "self") 297), (.str (Str.ofString "s") 298)] 0, #[]⟩
noncomputable def o109_S6 (P : Params) : Obj := ⟨(.type "tuple"), none, .seq #[] 0, #[]⟩
noncomputable def o110_S6 (P : Params) : Obj := ⟨.none, none, .func (fnD (st2 2 11) (Str.ofString "BaseStemmer.go_out_grouping_b") 0 .none .none .none .none none), #[]⟩
noncomputable def o111_S6 (P : Params) : Obj := ⟨(.type "code"), none, .fields #[(.str (Str.ofString "go_out_grouping_b") 294), (.str (Str.ofString "BaseStemmer.go_out_grouping_b") 295), (.str (Str.ofString "/claim/cut.py") 296), (.int 53 0), (.int 2 0), (.int 0 0), (.int 0 0), (.int 3 0), (.ref 106), (.bool true), (.int 181 0), (.ref 107), .none, (.ref 108), (.ref 109), (.ref 110), (.int 299 0), (.int 53 0), (.str (Str.ofString "/claim/cut.py") 300)], #[]⟩
noncomputable def o112_S6 (P : Params) : Obj := ⟨(.type "function"), none, .func (fnD (st2 2 11) (Str.ofString "BaseStemmer.go_out_grouping_b") 3 .none (.str (Str.ofString "snowballstemmer.basestemmer") 194) (.ref 111) .none none), #[]⟩
noncomputable def o113_S6 (P : Params) : Obj := ⟨(.type "tuple"), none, .seq #[] 0, #[]⟩
noncomputable def o114_S6 (P : Params) : Obj := ⟨.none, none, .fields #[], #[]⟩
noncomputable def o115_S6 (P : Params) : Obj := ⟨(.type "tuple"), none, .seq #[(.str (Str.ofString "self") 305), (.str (Str.ofString "s") 306)] 0, #[]⟩
noncomputable def o116_S6 (P : Params) : Obj := ⟨(.type "tuple"), none, .seq #[] 0, #[]⟩
noncomputable def o117_S6 (P : Params) : Obj := ⟨.none, none, .func (fnD (st2 2 12) (Str.ofString "BaseStemmer.eq_s") 0 .none .none .none .none none), #[]⟩
noncomputable def o118_S6 (P : Params) : Obj := ⟨(.type "code"), none, .fields #[(.str (Str.ofString "eq_s") 302), (.str (Str.ofString "BaseStemmer.eq_s") 303), (.str (Str.ofString "/claim/cut.py") 304), (.int 56 0), (.int 2 0), (.int 0 0), (.int 0 0), (.int 3 0), (.ref 113), (.bool true), (.int 181 0), (.ref 114), .none, (.ref 115), (.ref 116), (.ref 117), (.int 307 0), (.int 56 0), (.str (Str.ofString "/claim/cut.py") 308)], #[]⟩
noncomputable def o119_S6 (P : Params) : Obj := ⟨(.type "function"), none, .func (fnD (st2 2 12) (Str.ofString "BaseStemmer.eq_s") 3 .none (.str (Str.ofString "snowballstemmer.basestemmer") 194) (.ref 118) .none none), #[]⟩
noncomputable def o120_S6 (P : Params) : Obj := ⟨(.type "tuple"), none, .seq #[] 0, #[]⟩
noncomputable def o121_S6 (P : Params) : Obj := ⟨.none, none, .fields #[], #[]⟩
noncomputable def o122_S6 (P : Params) : Obj := ⟨(.type "tuple"), none, .seq #[(.str (Str.ofString "self") 313), (.str (Str.ofString "s") 314)] 0, #[]⟩
noncomputable def o123_S6 (P : Params) : Obj := ⟨(.type "tuple"), none, .seq #[] 0, #[]⟩
noncomputable def o124_S6 (P : Params) : Obj := ⟨.none, none, .func (fnD (st2 2 13) (Str.ofString "BaseStemmer.eq_s_b") 0 .none .none .none .none none), #[]⟩
noncomputable def o125_S6 (P : Params) : Obj := ⟨(.type "code"), none, .fields #[(.str (Str.ofString "eq_s_b") 310), (.str (Str.ofString "BaseStemmer.eq_s_b") 311), (.str (Str.ofString "/claim/cut.py") 312), (.int 59 0), (.int 2 0), (.int 0 0), (.int 0 0), (.int 3 0), (.ref 120), (.bool true), (.int 181 0), (.ref 121), .none, (.ref 122), (.ref 123), (.ref 124), (.int 315 0), (.int 59 0), (.str (Str.ofString "/claim/cut.py") 316)], #[]⟩
noncomputable def o126_S6 (P : Params) : Obj := ⟨(.type "function"), none, .func (fnD (st2 2 13) (Str.ofString "BaseStemmer.eq_s_b") 3 .none (.str (Str.ofString "snowballstemmer.basestemmer") 194) (.ref 125) .none none), #[]⟩
noncomputable def o127_S6 (P : Params) : Obj := ⟨(.type "tuple"), none, .seq #[] 0, #[]⟩
noncomputable def o128_S6 (P : Params) : Obj := ⟨.none, none, .fields #[], #[]⟩
noncomputable def o129_S6 (P : Params) : Obj := ⟨(.type "tuple"), none, .seq #[(.str (Str.ofString "self") 321), (.str (Str.ofString "v") 322)] 0, #[]⟩
noncomputable def o130_S6 (P : Params) : Obj := ⟨(.type "tuple"), none, .seq #[] 0, #[]⟩
noncomputable def o131_S6 (P : Params) : Obj := ⟨.none, none, .func (fnD (st2 2 14) (Str.ofString "BaseStemmer.find_among") 0 .none .none .none .none none), #[]⟩
noncomputable def o132_S6 (P : Params) : Obj := ⟨(.type "code"), none, .fields #[(.str (Str.ofString "find_among") 318), (.str (Str.ofString "BaseStemmer.find_among") 319), (.str (Str.ofString "/claim/cut.py") 320), (.int 62 0), (.int 2 0), (.int 0 0), (.int 0 0), (.int 3 0), (.ref 127), (.bool true), (.int 181 0), (.ref 128), .none, (.ref 129), (.ref 130), (.ref 131), (.int 323 0), (.int 62 0), (.str (Str.ofString "/claim/cut.py") 324)], #[]⟩
noncomputable def o133_S6 (P : Params) : Obj := ⟨(.type "function"), none, .func (fnD (st2 2 14) (Str.ofString "BaseStemmer.find_among") 3 .none (.str (Str.ofString "snowballstemmer.basestemmer") 194) (.ref 132) .none none), #[]⟩
noncomputable def o134_S6 (P : Params) : Obj := ⟨(.type "tuple"), none, .seq #[] 0, #[]⟩
noncomputable def o135_S6 (P : Params) : Obj := ⟨.none, none, .fields #[], #[]⟩
noncomputable def o136_S6 (P : Params) : Obj := ⟨(.type "tuple"), none, .seq #[(.str (Str.ofString "self") 329), (.str (Str.ofString "v") 330), (.str (Str.ofString "i") 331), (.str (Str.ofString "j") 332), (.str (Str.ofString "c") 333), (.str (Str.ofString "lb") 334), (.str (Str.ofString "common_i") 335), (.str (Str.ofString "common_j") 336), (.str (Str.ofString "first_key_inspected") 337), (.str (Str.ofString "k") 338), (.str (Str.ofString "diff") 339), (.str (Str.ofString "common") 340), (.str (Str.ofString "w") 341), (.str (Str.ofString "i2") 342)] 0, #[]⟩
noncomputable def o137_S6 (P : Params) : Obj := ⟨(.type "tuple"), none, .seq #[] 0, #[]⟩
noncomputable def o138_S6 (P : Params) : Obj := ⟨.none, none, .func (fnD (st2 2 15) (Str.ofString "BaseStemmer.find_among_b") 0 .none .none .none .none none), #[]⟩
noncomputable def o139_S6 (P : Params) : Obj := ⟨(.type "code"), none, .fields #[(.str (Str.ofString "find_among_b") 326), (.str (Str.ofString "BaseStemmer.find_among_b") 327), (.str (Str.ofString "/claim/cut.py") 328), (.int 65 0), (.int 2 0), (.int 0 0), (.int 0 0), (.int 3 0), (.ref 134), (.bool true), (.int 181 0), (.ref 135), .none, (.ref 136), (.ref 137), (.ref 138), (.int 343 0), (.int 65 0), (.str (Str.ofString "/claim/cut.py") 344)], #[]⟩
noncomputable def o140_S6 (P : Params) : Obj := ⟨(.type "function"), none, .func (fnD (st2 2 15) (Str.ofString "BaseStemmer.find_among_b") 3 .none (.str (Str.ofString "snowballstemmer.basestemmer") 194) (.ref 139) .none none), #[]⟩
noncomputable def o141_S6 (P : Params) : Obj := ⟨(.type "tuple"), none, .seq #[] 0, #[]⟩
noncomputable def o142_S6 (P : Params) : Obj := ⟨.none, none, .fields #[], #[]⟩
noncomputable def o143_S6 (P : Params) : Obj := ⟨(.type "tuple"), none, .seq #[(.str (Str.ofString "self") 349), (.str (Str.ofString "c_bra") 350), (.str (Str.ofString "c_ket") 351), (.str (Str.ofString "s") 352), (.str (Str.ofString "adjustment") 353)] 0, #[]⟩
noncomputable def o144_S6 (P : Params) : Obj := ⟨(.type "tuple"), none, .seq #[] 0, #[]⟩
noncomputable def o145_S6 (P : Params) : Obj := ⟨.none, none, .func (fnD (st2 2 16) (Str.ofString "BaseStemmer.replace_s") 0 .none .none .none .none none), #[]⟩
noncomputable def o146_S6 (P : Params) : Obj := ⟨(.type "code"), none, .fields #[(.str (Str.ofString "replace_s") 346), (.str (Str.ofString "BaseStemmer.replace_s") 347), (.str (Str.ofString "/claim/cut.py") 348), (.int 110 0), (.int 4 0), (.int 0 0), (.int 0 0), (.int 3 0), (.ref 141), (.bool true), (.int 181 0), (.ref 142), .none, (.ref 143), (.ref 144), (.ref 145), (.int 354 0), (.int 110 0), (.str (Str.ofString "/claim/cut.py") 355)], #[]⟩
noncomputable def o147_S6 (P : Params) : Obj := ⟨(.type "function"), none, .func (fnD (st2 2 16) (Str.ofString "BaseStemmer.replace_s") 3 .none (.str (Str.ofString "snowballstemmer.basestemmer") 194) (.ref 146) .none none), #[]⟩
noncomputable def o148_S6 (P : Params) : Obj := ⟨(.type "tuple"), none, .seq #[] 0, #[]⟩
noncomputable def o149_S6 (P : Params) : Obj := ⟨.none, none, .fields #[], #[]⟩
noncomputable def o150_S6 (P : Params) : Obj := ⟨(.type "tuple"), none, .seq #[(.str (Str.ofString "self") 360), (.str (Str.ofString "s") 361)] 0, #[]⟩
noncomputable def o151_S6 (P : Params) : Obj := ⟨(.type "tuple"), none, .seq #[] 0, #[]⟩
noncomputable def o152_S6 (P : Params) : Obj := ⟨.none, none, .func (fnD (st2 2 17) (Str.ofString "BaseStemmer.slice_from") 0 .none .none .none .none none), #[]⟩
noncomputable def o153_S6 (P : Params) : Obj := ⟨(.type "code"), none, .fields #[(.str (Str.ofString "slice_from") 357), (.str (Str.ofString "BaseStemmer.slice_from") 358), (.str (Str.ofString "/claim/cut.py") 359), (.int 120 0), (.int 2 0), (.int 0 0), (.int 0 0), (.int 3 0), (.ref 148), (.bool true), (.int 181 0), (.ref 149), .none, (.ref 150), (.ref 151), (.ref 152), (.int 362 0), (.int 120 0), (.str (Str.ofString "/claim/cut.py") 363)], #[]⟩
noncomputable def o154_S6 (P : Params) : Obj := ⟨(.type "function"), none, .func (fnD (st2 2 17) (Str.ofString "BaseStemmer.slice_from") 3 .none (.str (Str.ofString "snowballstemmer.basestemmer") 194) (.ref 153) .none none), #[]⟩
noncomputable def o155_S6 (P : Params) : Obj := ⟨(.type "tuple"), none, .seq #[] 0, #[]⟩
noncomputable def o156_S6 (P : Params) : Obj := ⟨.none, none, .fields #[], #[]⟩
noncomputable def o157_S6 (P : Params) : Obj := ⟨(.type "tuple"), none, .seq #[(.str (Str.ofString "self") 368)] 0, #[]⟩
noncomputable def o158_S6 (P : Params) : Obj := ⟨(.type "tuple"), none, .seq #[] 0, #[]⟩
noncomputable def o159_S6 (P : Params) : Obj := ⟨.none, none, .func (fnD (st2 2 18) (Str.ofString "BaseStemmer.slice_del") 0 .none .none .none .none none), #[]⟩
noncomputable def o160_S6 (P : Params) : Obj := ⟨(.type "code"), none, .fields #[(.str (Str.ofString "slice_del") 365), (.str (Str.ofString "BaseStemmer.slice_del") 366), (.str (Str.ofString "/claim/cut.py") 367), (.int 128 0), (.int 1 0), (.int 0 0), (.int 0 0), (.int 3 0), (.ref 155), (.bool true), (.int 181 0), (.ref 156), .none, (.ref 157), (.ref 158), (.ref 159), (.int 369 0), (.int 128 0), (.str (Str.ofString "/claim/cut.py") 370)], #[]⟩
noncomputable def o161_S6 (P : Params) : Obj := ⟨(.type "function"), none, .func (fnD (st2 2 18) (Str.ofString "BaseStemmer.slice_del") 3 .none (.str (Str.ofString "snowballstemmer.basestemmer") 194) (.ref 160) .none none), #[]⟩
noncomputable def o162_S6 (P : Params) : Obj := ⟨(.type "tuple"), none, .seq #[] 0, #[]⟩
noncomputable def o163_S6 (P : Params) : Obj := ⟨.none, none, .fields #[], #[]⟩
noncomputable def o164_S6 (P : Params) : Obj := ⟨(.type "tuple"), none, .seq #[(.str (Str.ofString "self") 375), (.str (Str.ofString "c_bra") 376), (.str (Str.ofString "c_ket") 377), (.str (Str.ofString "s") 378)] 0, #[]⟩
noncomputable def o165_S6 (P : Params) : Obj := ⟨(.type "tuple"), none, .seq #[] 0, #[]⟩
noncomputable def o166_S6 (P : Params) : Obj := ⟨.none, none, .func (fnD (st2 2 19) (Str.ofString "BaseStemmer.insert") 0 .none .none .none .none none), #[]⟩
noncomputable def o167_S6 (P : Params) : Obj := ⟨(.type "code"), none, .fields #[(.str (Str.ofString "insert") 372), (.str (Str.ofString "BaseStemmer.insert") 373), (.str (Str.ofString "/claim/cut.py") 374), (.int 131 0), (.int 4 0), (.int 0 0), (.int 0 0), (.int 3 0), (.ref 162), (.bool true), (.int 181 0), (.ref 163), .none, (.ref 164), (.ref 165), (.ref 166), (.int 379 0), (.int 131 0), (.str (Str.ofString "/claim/cut.py") 380)], #[]⟩
noncomputable def o168_S6 (P : Params) : Obj := ⟨(.type "function"), none, .func (fnD (st2 2 19) (Str.ofString "BaseStemmer.insert") 3 .none (.str (Str.ofString "snowballstemmer.basestemmer") 194) (.ref 167) .none none), #[]⟩
noncomputable def o169_S6 (P : Params) : Obj := ⟨(.type "tuple"), none, .seq #[] 0, #[]⟩
noncomputable def o170_S6 (P : Params) : Obj := ⟨.none, none, .fields #[], #[]⟩
noncomputable def o171_S6 (P : Params) : Obj := ⟨(.type "tuple"), none, .seq #[(.str (Str.ofString "self") 385)] 0, #[]⟩
noncomputable def o172_S6 (P : Params) : Obj := ⟨(.type "tuple"), none, .seq #[] 0, #[]⟩
noncomputable def o173_S6 (P : Params) : Obj := ⟨.none, none, .func (fnD (st2 2 20) (Str.ofString "BaseStemmer.slice_to") 0 .none .none .none .none none), #[]⟩
noncomputable def o174_S6 (P : Params) : Obj := ⟨(.type "code"), none, .fields #[(.str (Str.ofString "slice_to") 382), (.str (Str.ofString "BaseStemmer.slice_to") 383), (.str (Str.ofString "/claim/cut.py") 384), (.int 134 0), (.int 1 0), (.int 0 0), (.int 0 0), (.int 3 0), (.ref 169), (.bool true), (.int 181 0), (.ref 170), .none, (.ref 171), (.ref 172), (.ref 173), (.int 386 0), (.int 134 0), (.str (Str.ofString "/claim/cut.py") 387)], #[]⟩
noncomputable def o175_S6 (P : Params) : Obj := ⟨(.type "function"), none, .func (fnD (st2 2 20) (Str.ofString "BaseStemmer.slice_to") 3 .none (.str (Str.ofString "snowballstemmer.basestemmer") 194) (.ref 174) .none none), #[]⟩
noncomputable def o176_S6 (P : Params) : Obj := ⟨(.type "tuple"), none, .seq #[] 0, #[]⟩
noncomputable def o177_S6 (P : Params) : Obj := ⟨.none, none, .fields #[], #[]⟩
noncomputable def o178_S6 (P : Params) : Obj := ⟨(.type "tuple"), none, .seq #[(.str (Str.ofString "self") 392)] 0, #[]⟩
noncomputable def o179_S6 (P : Params) : Obj := ⟨(.type "tuple"), none, .seq #[] 0, #[]⟩
noncomputable def o180_S6 (P : Params) : Obj := ⟨.none, none, .func (fnD (st2 2 21) (Str.ofString "BaseStemmer.assign_to") 0 .none .none .none .none none), #[]⟩
noncomputable def o181_S6 (P : Params) : Obj := ⟨(.type "code"), none, .fields #[(.str (Str.ofString "assign_to") 389), (.str (Str.ofString "BaseStemmer.assign_to") 390), (.str (Str.ofString "/claim/cut.py") 391), (.int 137 0), (.int 1 0), (.int 0 0), (.int 0 0), (.int 3 0), (.ref 176), (.bool true), (.int 181 0), (.ref 177), .none, (.ref 178), (.ref 179), (.ref 180), (.int 393 0), (.int 137 0), (.str (Str.ofString "/claim/cut.py") 394)], #[]⟩
noncomputable def o182_S6 (P : Params) : Obj := ⟨(.type "function"), none, .func (fnD (st2 2 21) (Str.ofString "BaseStemmer.assign_to") 3 .none (.str (Str.ofString "snowballstemmer.basestemmer") 194) (.ref 181) .none none), #[]⟩
noncomputable def o183_S6 (P : Params) : Obj := ⟨(.type "tuple"), none, .seq #[] 0, #[]⟩
noncomputable def o184_S6 (P : Params) : Obj := ⟨.none, none, .fields #[], #[]⟩
noncomputable def o185_S6 (P : Params) : Obj := ⟨(.type "tuple"), none, .seq #[(.str (Str.ofString "self") 399), (.str (Str.ofString "word") 400)] 0, #[]⟩
noncomputable def o186_S6 (P : Params) : Obj := ⟨(.type "tuple"), none, .seq #[] 0, #[]⟩
noncomputable def o187_S6 (P : Params) : Obj := ⟨.none, none, .func (fnD (st2 2 22) (Str.ofString "BaseStemmer.stemWord") 0 .none .none .none .none none), #[]⟩
noncomputable def o188_S6 (P : Params) : Obj := ⟨(.type "code"), none, .fields #[(.str (Str.ofString "stemWord") 396), (.str (Str.ofString "BaseStemmer.stemWord") 397), (.str (Str.ofString "/claim/cut.py") 398), (.int 140 0), (.int 2 0), (.int 0 0), (.int 0 0), (.int 3 0), (.ref 183), (.bool true), (.int 181 0), (.ref 184), .none, (.ref 185), (.ref 186), (.ref 187), (.int 401 0), (.int 140 0), (.str (Str.ofString "/claim/cut.py") 402)], #[]⟩
noncomputable def o189_S6 (P : Params) : Obj := ⟨(.type "function"), none, .func (fnD (st2 2 22) (Str.ofString "BaseStemmer.stemWord") 3 .none (.str (Str.ofString "snowballstemmer.basestemmer") 194) (.ref 188) .none none), #[]⟩
noncomputable def o190_S6 (P : Params) : Obj := ⟨(.type "tuple"), none, .seq #[] 0, #[]⟩
noncomputable def o191_S6 (P : Params) : Obj := ⟨.none, none, .fields #[], #[]⟩
noncomputable def o192_S6 (P : Params) : Obj := ⟨.none, none, .func (fnD (st2 2 23) (Str.ofString "BaseStemmer.stemWords") 0 .none .none .none .none none), #[]⟩
noncomputable def o193_S6 (P : Params) : Obj := ⟨(.type "code"), none, .fields #[(.str (Str.ofString "stemWords") 404), (.str (Str.ofString "BaseStemmer.stemWords") 405), (.str (Str.ofString "/claim/cut.py") 406), (.int 145 0), (.int 2 0), (.int 0 0), (.int 0 0), (.int 3 0), (.ref 190), (.bool true), (.int 181 0), (.ref 191), .none, .none, .none, (.ref 192), (.int 407 0), (.int 145 0), (.str (Str.ofString "/claim/cut.py") 408)], #[]⟩
noncomputable def o194_S6 (P : Params) : Obj := ⟨(.type "function"), none, .func (fnD (st2 2 23) (Str.ofString "BaseStemmer.stemWords") 3 .none (.str (Str.ofString "snowballstemmer.basestemmer") 194) (.ref 193) .none none), #[]⟩
noncomputable def o195_S6 (P : Params) : Obj := ⟨(.type "tuple"), none, .seq #[(.str (Str.ofString "bra") 410), (.str (Str.ofString "current") 411), (.str (Str.ofString "cursor") 412), (.str (Str.ofString "ket") 413), (.str (Str.ofString "limit") 414), (.str (Str.ofString "limit_backward") 415)] 0, #[]⟩
noncomputable def o196_S6 (P : Params) : Obj := ⟨(.type "dict"), none, .dict [de P "__module__" 203 (.str (Str.ofString "snowballstemmer.basestemmer") 194), de P "__firstlineno__" 207 (.int 5 206), de P "__init__" 214 (.ref 35), de P "set_current" 222 (.ref 42), de P "get_current" 229 (.ref 49), de P "copy_from" 237 (.ref 56), de P "in_grouping" 245 (.ref 63), de P "go_in_grouping" 253 (.ref 70), de P "in_grouping_b" 261 (.ref 77), de P "go_in_grouping_b" 269 (.ref 84), de P "out_grouping" 277 (.ref 91), de P "go_out_grouping" 285 (.ref 98), de P "out_grouping_b" 293 (.ref 105), de P "go_out_grouping_b" 301 (.ref 112), de P "eq_s" 309 (.ref 119), de P "eq_s_b" 317 (.ref 126), de P "find_among" 325 (.ref 133), de P "find_among_b" 345 (.ref 140), de P "replace_s" 356 (.ref 147), de P "slice_from" 364 (.ref 154), de P "slice_del" 371 (.ref 161), de P "insert" 381 (.ref 168), de P "slice_to" 388 (.ref 175), de P "assign_to" 395 (.ref 182), de P "stemWord" 403 (.ref 189), de P "stemWords" 409 (.ref 194), de P "__static_attributes__" 416 (.ref 195), de P "__dict__" 418 (.ref 198), de P "__weakref__" 420 (.ref 199), de P "__doc__" 421 .none].toArray 4, #[]⟩
noncomputable def o197_S6 (P : Params) : Obj := ⟨(.type "type"), none, .cls ⟨(Str.ofString "BaseStemmer"), [(.type "object")], [(.ref 197), (.type "object")], 196, (Str.ofString "BaseStemmer"), true, [], [], false, none, false⟩, #[none, none, (some (.str (Str.ofString "BaseStemmer") 196)), (some (.str (Str.ofString "BaseStemmer") 204)), (some (.builtin "object.__new__")), (some (.bool true))]⟩
noncomputable def o198_S6 (P : Params) : Obj := ⟨(.type "getset_descriptor"), none, .fields #[(.str (Str.ofString "__dict__") 417), (.ref 197), (.builtin "function.__dict__"), (.builtin "function.__dict__#set")], #[]⟩
noncomputable def o199_S6 (P : Params) : Obj := ⟨(.type "getset_descriptor"), none, .fields #[(.str (Str.ofString "__weakref__") 419), (.ref 197), (.builtin "ExceptionGroup.__weakref__"), .none], #[]⟩
noncomputable def o200_S6 (P : Params) : Obj := ⟨(.type "super"), none, .fields #[(.ref 197), (.ref 197), (.ref 197)], #[]⟩
noncomputable def o201_S6 (P : Params) : Obj := ⟨(.type "builtin_function_or_method"), none, .fields #[(.builtin "object.__init_subclass__"), (.ref 197)], #[]⟩
noncomputable def o202_S6 (P : Params) : Obj := ⟨(.type "tuple"), none, .seq #[] 0, #[]⟩
noncomputable def o203_S6 (P : Params) : Obj := ⟨(.type "builtin_function_or_method"), none, .fields #[(.builtin "type.__prepare__"), (.type "type")], #[]⟩
noncomputable def o204_S6 (P : Params) : Obj := ⟨(.type "dict"), none, .dict [de P "__module__" 433 (.str (Str.ofString "snowballstemmer.among") 424), de P "__qualname__" 435 (.str (Str.ofString "Among") 434), de P "__firstlineno__" 437 (.int 148 436), de P "__init__" 447 (.ref 215), de P "__static_attributes__" 451 (.ref 216)].toArray 5, #[]⟩
noncomputable def o205_S6 (P : Params) : Obj := ⟨(.type "tuple"), none, .seq #[] 0, #[]⟩
noncomputable def o206_S6 (P : Params) : Obj := ⟨.none, none, .fields #[(.int 150 0), (.int 4 0), (.ref 214)], #[]⟩
noncomputable def o207_S6 (P : Params) : Obj := ⟨(.type "code"), none, .fields #[(.str (Str.ofString "Among") 428), (.str (Str.ofString "Among") 429), (.str (Str.ofString "/claim/cut.py") 430), (.int 148 0), (.int 0 0), (.int 0 0), (.int 0 0), (.int 0 0), (.ref 205), (.bool false), (.int 181 0), (.ref 206), .none, .none, .none, .none, (.int 431 0), (.int 148 0), (.str (Str.ofString "/claim/cut.py") 432)], #[]⟩
noncomputable def o208_S6 (P : Params) : Obj := ⟨(.type "frame"), none, .plain, #[(some (.ref 207)), (some (.ref 3)), (some (.ref 204)), none, (some (.str (Str.ofString "snowballstemmer.among") 424)), none, (some (.ref 0))]⟩
noncomputable def o209_S6 (P : Params) : Obj := ⟨(.type "tuple"), none, .seq #[] 0, #[]⟩
noncomputable def o210_S6 (P : Params) : Obj := ⟨.none, none, .fields #[], #[]⟩
noncomputable def o211_S6 (P : Params) : Obj := ⟨(.type "tuple"), none, .seq #[(.str (Str.ofString "self") 441), (.str (Str.ofString "s") 442), (.str (Str.ofString "substring_i") 443), (.str (Str.ofString "result") 444)] 0, #[]⟩
noncomputable def o212_S6 (P : Params) : Obj := ⟨(.type "tuple"), none, .seq #[] 0, #[]⟩
noncomputable def o213_S6 (P : Params) : Obj := ⟨.none, none, .func (fnD (st2 4 0) (Str.ofString "Among.__init__") 0 .none .none .none .none none), #[]⟩
noncomputable def o214_S6 (P : Params) : Obj := ⟨(.type "code"), none, .fields #[(.str (Str.ofString "__init__") 438), (.str (Str.ofString "Among.__init__") 439), (.str (Str.ofString "/claim/cut.py") 440), (.int 150 0), (.int 4 0), (.int 0 0), (.int 0 0), (.int 3 0), (.ref 209), (.bool true), (.int 181 0), (.ref 210), .none, (.ref 211), (.ref 212), (.ref 213), (.int 445 0), (.int 150 0), (.str (Str.ofString "/claim/cut.py") 446)], #[]⟩
noncomputable def o215_S6 (P : Params) : Obj := ⟨(.type "function"), none, .func (fnD (st2 4 0) (Str.ofString "Among.__init__") 3 .none (.str (Str.ofString "snowballstemmer.among") 424) (.ref 214) .none none), #[]⟩
noncomputable def o216_S6 (P : Params) : Obj := ⟨(.type "tuple"), none, .seq #[(.str (Str.ofString "result") 448), (.str (Str.ofString "s") 449), (.str (Str.ofString "substring_i") 450)] 0, #[]⟩
noncomputable def o217_S6 (P : Params) : Obj := ⟨(.type "dict"), none, .dict [de P "__module__" 433 (.str (Str.ofString "snowballstemmer.among") 424), de P "__firstlineno__" 437 (.int 148 436), de P "__init__" 447 (.ref 215), de P "__static_attributes__" 451 (.ref 216), de P "__dict__" 453 (.ref 219), de P "__weakref__" 455 (.ref 220), de P "__doc__" 456 .none].toArray 4, #[]⟩
noncomputable def o218_S6 (P : Params) : Obj := ⟨(.type "type"), none, .cls ⟨(Str.ofString "Among"), [(.type "object")], [(.ref 218), (.type "object")], 217, (Str.ofString "Among"), true, [], [], false, none, false⟩, #[none, none, (some (.str (Str.ofString "Among") 426)), (some (.str (Str.ofString "Among") 434)), (some (.builtin "object.__new__")), (some (.bool true))]⟩
noncomputable def o219_S6 (P : Params) : Obj := ⟨(.type "getset_descriptor"), none, .fields #[(.str (Str.ofString "__dict__") 452), (.ref 218), (.builtin "function.__dict__"), (.builtin "function.__dict__#set")], #[]⟩
noncomputable def o220_S6 (P : Params) : Obj := ⟨(.type "getset_descriptor"), none, .fields #[(.str (Str.ofString "__weakref__") 454), (.ref 218), (.builtin "ExceptionGroup.__weakref__"), .none], #[]⟩
noncomputable def o221_S6 (P : Params) : Obj := ⟨(.type "super"), none, .fields #[(.ref 218), (.ref 218), (.ref 218)], #[]⟩
noncomputable def o222_S6 (P : Params) : Obj := ⟨(.type "builtin_function_or_method"), none, .fields #[(.builtin "object.__init_subclass__"), (.ref 218)], #[]⟩
noncomputable def L6 (P : Params) : List Obj := [boot_o_0 P, boot_o_1 P, boot_o_2 P, o3_S6 P, boot_o_4 P, boot_o_5 P, boot_o_6 P, boot_o_7 P, boot_o_8 P, boot_o_9 P, boot_o_10 P, o11_S6 P, o12_S6 P, o13_S6 P, o14_S6 P, o15_S6 P, o16_S6 P, o17_S6 P, o18_S6 P, o19_S6 P, o20_S6 P, o21_S6 P, o22_S6 P, o23_S6 P, o24_S6 P, o25_S6 P, o26_S6 P, o27_S6 P, o28_S6 P, o29_S6 P, o30_S6 P, o31_S6 P, o32_S6 P, o33_S6 P, o34_S6 P, o35_S6 P, o36_S6 P, o37_S6 P, o38_S6 P, o39_S6 P, o40_S6 P, o41_S6 P, o42_S6 P, o43_S6 P, o44_S6 P, o45_S6 P, o46_S6 P, o47_S6 P, o48_S6 P, o49_S6 P, o50_S6 P, o51_S6 P, o52_S6 P, o53_S6 P, o54_S6 P, o55_S6 P, o56_S6 P, o57_S6 P, o58_S6 P, o59_S6 P, o60_S6 P, o61_S6 P, o62_S6 P, o63_S6 P, o64_S6 P, o65_S6 P, o66_S6 P, o67_S6 P, o68_S6 P, o69_S6 P, o70_S6 P, o71_S6 P, o72_S6 P, o73_S6 P, o74_S6 P, o75_S6 P, o76_S6 P, o77_S6 P, o78_S6 P, o79_S6 P, o80_S6 P, o81_S6 P, o82_S6 P, o83_S6 P, o84_S6 P, o85_S6 P, o86_S6 P, o87_S6 P, o88_S6 P, o89_S6 P, o90_S6 P, o91_S6 P, o92_S6 P, o93_S6 P, o94_S6 P, o95_S6 P, o96_S6 P, o97_S6 P, o98_S6 P, o99_S6 P, o100_S6 P, o101_S6 P, o102_S6 P, o103_S6 P, o104_S6 P, o105_S6 P, o106_S6 P, o107_S6 P, o108_S6 P, o109_S6 P, o110_S6 P, o111_S6 P, o112_S6 P, o113_S6 P, o114_S6 P, o115_S6 P, o116_S6 P, o117_S6 P, o118_S6 P, o119_S6 P, o120_S6 P, o121_S6 P, o122_S6 P, o123_S6 P, o124_S6 P, o125_S6 P, o126_S6 P, o127_S6 P, o128_S6 P, o129_S6 P, o130_S6 P, o131_S6 P, o132_S6 P, o133_S6 P, o134_S6 P, o135_S6 P, o136_S6 P, o137_S6 P, o138_S6 P, o139_S6 P, o140_S6 P, o141_S6 P, o142_S6 P, o143_S6 P, o144_S6 P, o145_S6 P, o146_S6 P, o147_S6 P, o148_S6 P, o149_S6 P, o150_S6 P, o151_S6 P, o152_S6 P, o153_S6 P, o154_S6 P, o155_S6 P, o156_S6 P, o157_S6 P, o158_S6 P, o159_S6 P, o160_S6 P, o161_S6 P, o162_S6 P, o163_S6 P, o164_S6 P, o165_S6 P, o166_S6 P, o167_S6 P, o168_S6 P, o169_S6 P, o170_S6 P, o171_S6 P, o172_S6 P, o173_S6 P, o174_S6 P, o175_S6 P, o176_S6 P, o177_S6 P, o178_S6 P, o179_S6 P, o180_S6 P, o181_S6 P, o182_S6 P, o183_S6 P, o184_S6 P, o185_S6 P, o186_S6 P, o187_S6 P, o188_S6 P, o189_S6 P, o190_S6 P, o191_S6 P, o192_S6 P, o193_S6 P, o194_S6 P, o195_S6 P, o196_S6 P, o197_S6 P, o198_S6 P, o199_S6 P, o200_S6 P, o201_S6 P, o202_S6 P, o203_S6 P, o204_S6 P, o205_S6 P, o206_S6 P, o207_S6 P, o208_S6 P, o209_S6 P, o210_S6 P, o211_S6 P, o212_S6 P, o213_S6 P, o214_S6 P, o215_S6 P, o216_S6 P, o217_S6 P, o218_S6 P, o219_S6 P, o220_S6 P, o221_S6 P, o222_S6 P]
noncomputable def o12_SA (P : Params) : Obj := ⟨.none, none, .fields #[(.int 1 0), (.int 0 0), (.ref 20), (.int 5 0), (.int 0 0), (.ref 27), (.int 148 0), (.int 0 0), (.ref 207), (.int 155 0), (.int 0 0), (.ref 228)], #[]⟩
noncomputable def o223 (P : Params) : Obj := ⟨(.type "tuple"), none, .seq #[(.ref 197)] 0, #[]⟩
noncomputable def o224 (P : Params) : Obj := ⟨(.type "builtin_function_or_method"), none, .fields #[(.builtin "type.__prepare__"), (.type "type")], #[]⟩
noncomputable def o225 (P : Params) : Obj := ⟨(.type "dict"), none, .dict [de P "__module__" 468 (.str (Str.ofString "snowballstemmer.armenian_stemmer") 459), de P "__qualname__" 470 (.str (Str.ofString "ArmenianStemmer") 469), de P "__firstlineno__" 472 (.int 155 471)].toArray 3, #[]⟩
noncomputable def o226 (P : Params) : Obj := ⟨(.type "tuple"), none, .seq #[] 0, #[]⟩
noncomputable def o227 (P : Params) : Obj := ⟨.none, none, .fields #[], #[]⟩
noncomputable def o228 (P : Params) : Obj := ⟨(.type "code"), none, .fields #[(.str (Str.ofString "ArmenianStemmer") 463), (.str (Str.ofString "ArmenianStemmer") 464), (.str (Str.ofString "/claim/cut.py") 465), (.int 155 0), (.int 0 0), (.int 0 0), (.int 0 0), (.int 0 0), (.ref 226), (.bool false), (.int 181 0), (.ref 227), .none, .none, .none, .none, (.int 466 0), (.int 155 0), (.str (Str.ofString "/claim/cut.py") 467)], #[]⟩
noncomputable def o229 (P : Params) : Obj := ⟨(.type "frame"), none, .plain, #[(some (.ref 228)), (some (.ref 3)), (some (.ref 225)), none, (some (.str (Str.ofString "snowballstemmer.armenian_stemmer") 459)), none, (some (.ref 0))]⟩
noncomputable def LSA (P : Params) : List Obj := ((L6 P).set 12 (o12_SA P)) ++ [o223 P, o224 P, o225 P, o226 P, o227 P, o228 P, o229 P]
noncomputable def o225_SB (P : Params) : Obj := ⟨(.type "dict"), none, .dict [de P "__module__" 468 (.str (Str.ofString "snowballstemmer.armenian_stemmer") 459), de P "__qualname__" 470 (.str (Str.ofString "ArmenianStemmer") 469), de P "__firstlineno__" 472 (.int 155 471), de P "g_v" 489 (.ref 230)].toArray 4, #[]⟩
noncomputable def LSB (P : Params) (es : Array (Int × Value)) (n : Nat) (t : SetTable) : List Obj := ((LSA P).set 225 (o225_SB P)) ++ [setO es n t]
noncomputable def o225_SC (P : Params) : Obj := ⟨(.type "dict"), none, .dict [de P "__module__" 468 (.str (Str.ofString "snowballstemmer.armenian_stemmer") 459), de P "__qualname__" 470 (.str (Str.ofString "ArmenianStemmer") 469), de P "__firstlineno__" 472 (.int 155 471), de P "g_v" 489 (.ref 230), de P "I_p2" 491 (.int 0 490), de P "I_pV" 493 (.int 0 492), de P "r_mark_regions" 501 (.ref 237), de P "r_adjective" 508 (.ref 244), de P "r_verb" 515 (.ref 251), de P "r_noun" 522 (.ref 258), de P "r_ending" 529 (.ref 265), de P "_stem" 541 (.ref 272)].toArray 12, #[]⟩
noncomputable def o227_SC (P : Params) : Obj := ⟨.none, none, .fields #[(.int 160 0), (.int 4 0), (.ref 236), (.int 184 0), (.int 4 0), (.ref 243), (.int 192 0), (.int 4 0), (.ref 250), (.int 200 0), (.int 4 0), (.ref 257), (.int 208 0), (.int 4 0), (.ref 264), (.int 218 0), (.int 4 0), (.ref 271)], #[]⟩
noncomputable def o231 (P : Params) : Obj := ⟨(.type "tuple"), none, .seq #[] 0, #[]⟩
noncomputable def o232 (P : Params) : Obj := ⟨.none, none, .fields #[], #[]⟩
noncomputable def o233 (P : Params) : Obj := ⟨(.type "tuple"), none, .seq #[(.str (Str.ofString "self") 497), (.str (Str.ofString "v_1") 498)] 0, #[]⟩
noncomputable def o234 (P : Params) : Obj := ⟨(.type "tuple"), none, .seq #[] 0, #[]⟩
noncomputable def o235 (P : Params) : Obj := ⟨.none, none, .func (fnD (st2 6 3) (Str.ofString "ArmenianStemmer.r_mark_regions") 0 .none .none .none .none none), #[]⟩
noncomputable def o236 (P : Params) : Obj := ⟨(.type "code"), none, .fields #[(.str (Str.ofString "r_mark_regions") 494), (.str (Str.ofString "ArmenianStemmer.r_mark_regions") 495), (.str (Str.ofString "/claim/cut.py") 496), (.int 160 0), (.int 1 0), (.int 0 0), (.int 0 0), (.int 3 0), (.ref 231), (.bool true), (.int 181 0), (.ref 232), .none, (.ref 233), (.ref 234), (.ref 235), (.int 499 0), (.int 160 0), (.str (Str.ofString "/claim/cut.py") 500)], #[]⟩
noncomputable def o237 (P : Params) : Obj := ⟨(.type "function"), none, .func (fnD (st2 6 3) (Str.ofString "ArmenianStemmer.r_mark_regions") 3 .none (.str (Str.ofString "snowballstemmer.armenian_stemmer") 459) (.ref 236) .none none), #[]⟩
noncomputable def o238 (P : Params) : Obj := ⟨(.type "tuple"), none, .seq #[] 0, #[]⟩
noncomputable def o239 (P : Params) : Obj := ⟨.none, none, .fields #[], #[]⟩
noncomputable def o240 (P : Params) : Obj := ⟨(.type "tuple"), none, .seq #[(.str (Str.ofString "self") 505)] 0, #[]⟩
noncomputable def o241 (P : Params) : Obj := ⟨(.type "tuple"), none, .seq #[] 0, #[]⟩
noncomputable def o242 (P : Params) : Obj := ⟨.none, none, .func (fnD (st2 6 4) (Str.ofString "ArmenianStemmer.r_adjective") 0 .none .none .none .none none), #[]⟩
noncomputable def o243 (P : Params) : Obj := ⟨(.type "code"), none, .fields #[(.str (Str.ofString "r_adjective") 502), (.str (Str.ofString "ArmenianStemmer.r_adjective") 503), (.str (Str.ofString "/claim/cut.py") 504), (.int 184 0), (.int 1 0), (.int 0 0), (.int 0 0), (.int 3 0), (.ref 238), (.bool true), (.int 181 0), (.ref 239), .none, (.ref 240), (.ref 241), (.ref 242), (.int 506 0), (.int 184 0), (.str (Str.ofString "/claim/cut.py") 507)], #[]⟩
noncomputable def o244 (P : Params) : Obj := ⟨(.type "function"), none, .func (fnD (st2 6 4) (Str.ofString "ArmenianStemmer.r_adjective") 3 .none (.str (Str.ofString "snowballstemmer.armenian_stemmer") 459) (.ref 243) .none none), #[]⟩
noncomputable def o245 (P : Params) : Obj := ⟨(.type "tuple"), none, .seq #[] 0, #[]⟩
noncomputable def o246 (P : Params) : Obj := ⟨.none, none, .fields #[], #[]⟩
noncomputable def o247 (P : Params) : Obj := ⟨(.type "tuple"), none, .seq #[(.str (Str.ofString "self") 512)] 0, #[]⟩
noncomputable def o248 (P : Params) : Obj := ⟨(.type "tuple"), none, .seq #[] 0, #[]⟩
noncomputable def o249 (P : Params) : Obj := ⟨.none, none, .func (fnD (st2 6 5) (Str.ofString "ArmenianStemmer.r_verb") 0 .none .none .none .none none), #[]⟩
noncomputable def o250 (P : Params) : Obj := ⟨(.type "code"), none, .fields #[(.str (Str.ofString "r_verb") 509), (.str (Str.ofString "ArmenianStemmer.r_verb") 510), (.str (Str.ofString "/claim/cut.py") 511), (.int 192 0), (.int 1 0), (.int 0 0), (.int 0 0), (.int 3 0), (.ref 245), (.bool true), (.int 181 0), (.ref 246), .none, (.ref 247), (.ref 248), (.ref 249), (.int 513 0), (.int 192 0), (.str (Str.ofString "/claim/cut.py") 514)], #[]⟩
noncomputable def o251 (P : Params) : Obj := ⟨(.type "function"), none, .func (fnD (st2 6 5) (Str.ofString "ArmenianStemmer.r_verb") 3 .none (.str (Str.ofString "snowballstemmer.armenian_stemmer") 459) (.ref 250) .none none), #[]⟩
noncomputable def o252 (P : Params) : Obj := ⟨(.type "tuple"), none, .seq #[] 0, #[]⟩
noncomputable def o253 (P : Params) : Obj := ⟨.none, none, .fields #[], #[]⟩
noncomputable def o254 (P : Params) : Obj := ⟨(.type "tuple"), none, .seq #[(.str (Str.ofString "self") 519)] 0, #[]⟩
noncomputable def o255 (P : Params) : Obj := ⟨(.type "tuple"), none, .seq #[] 0, #[]⟩
noncomputable def o256 (P : Params) : Obj := ⟨.none, none, .func (fnD (st2 6 6) (Str.ofString "ArmenianStemmer.r_noun") 0 .none .none .none .none none), #[]⟩
noncomputable def o257 (P : Params) : Obj := ⟨(.type "code"), none, .fields #[(.str (Str.ofString "r_noun") 516), (.str (Str.ofString "ArmenianStemmer.r_noun") 517), (.str (Str.ofString "/claim/cut.py") 518), (.int 200 0), (.int 1 0), (.int 0 0), (.int 0 0), (.int 3 0), (.ref 252), (.bool true), (.int 181 0), (.ref 253), .none, (.ref 254), (.ref 255), (.ref 256), (.int 520 0), (.int 200 0), (.str (Str.ofString "/claim/cut.py") 521)], #[]⟩
noncomputable def o258 (P : Params) : Obj := ⟨(.type "function"), none, .func (fnD (st2 6 6) (Str.ofString "ArmenianStemmer.r_noun") 3 .none (.str (Str.ofString "snowballstemmer.armenian_stemmer") 459) (.ref 257) .none none), #[]⟩
noncomputable def o259 (P : Params) : Obj := ⟨(.type "tuple"), none, .seq #[] 0, #[]⟩
noncomputable def o260 (P : Params) : Obj := ⟨.none, none, .fields #[], #[]⟩
noncomputable def o261 (P : Params) : Obj := ⟨(.type "tuple"), none, .seq #[(.str (Str.ofString "self") 526)] 0, #[]⟩
noncomputable def o262 (P : Params) : Obj := ⟨(.type "tuple"), none, .seq #[] 0, #[]⟩
noncomputable def o263 (P : Params) : Obj := ⟨.none, none, .func (fnD (st2 6 7) (Str.ofString "ArmenianStemmer.r_ending") 0 .none .none .none .none none), #[]⟩
noncomputable def o264 (P : Params) : Obj := ⟨(.type "code"), none, .fields #[(.str (Str.ofString "r_ending") 523), (.str (Str.ofString "ArmenianStemmer.r_ending") 524), (.str (Str.ofString "/claim/cut.py") 525), (.int 208 0), (.int 1 0), (.int 0 0), (.int 0 0), (.int 3 0), (.ref 259), (.bool true), (.int 181 0), (.ref 260), .none, (.ref 261), (.ref 262), (.ref 263), (.int 527 0), (.int 208 0), (.str (Str.ofString "/claim/cut.py") 528)], #[]⟩
noncomputable def o265 (P : Params) : Obj := ⟨(.type "function"), none, .func (fnD (st2 6 7) (Str.ofString "ArmenianStemmer.r_ending") 3 .none (.str (Str.ofString "snowballstemmer.armenian_stemmer") 459) (.ref 264) .none none), #[]⟩
noncomputable def o266 (P : Params) : Obj := ⟨(.type "tuple"), none, .seq #[] 0, #[]⟩
noncomputable def o267 (P : Params) : Obj := ⟨.none, none, .fields #[], #[]⟩
noncomputable def o268 (P : Params) : Obj := ⟨(.type "tuple"), none, .seq #[(.str (Str.ofString "self") 533), (.str (Str.ofString "v_2") 534), (.str (Str.ofString "v_3") 535), (.str (Str.ofString "v_4") 536), (.str (Str.ofString "v_5") 537), (.str (Str.ofString "v_6") 538)] 0, #[]⟩
noncomputable def o269 (P : Params) : Obj := ⟨(.type "tuple"), none, .seq #[] 0, #[]⟩
noncomputable def o270 (P : Params) : Obj := ⟨.none, none, .func (fnD (st2 6 8) (Str.ofString "ArmenianStemmer._stem") 0 .none .none .none .none none), #[]⟩
noncomputable def o271 (P : Params) : Obj := ⟨(.type "code"), none, .fields #[(.str (Str.ofString "_stem") 530), (.str (Str.ofString "ArmenianStemmer._stem") 531), (.str (Str.ofString "/claim/cut.py") 532), (.int 218 0), (.int 1 0), (.int 0 0), (.int 0 0), (.int 3 0), (.ref 266), (.bool true), (.int 181 0), (.ref 267), .none, (.ref 268), (.ref 269), (.ref 270), (.int 539 0), (.int 218 0), (.str (Str.ofString "/claim/cut.py") 540)], #[]⟩
noncomputable def o272 (P : Params) : Obj := ⟨(.type "function"), none, .func (fnD (st2 6 8) (Str.ofString "ArmenianStemmer._stem") 3 .none (.str (Str.ofString "snowballstemmer.armenian_stemmer") 459) (.ref 271) .none none), #[]⟩
noncomputable def LSC (P : Params) (es : Array (Int × Value)) (n : Nat) (t : SetTable) : List Obj := (((LSB P es n t).set 225 (o225_SC P)).set 227 (o227_SC P)) ++ [o231 P, o232 P, o233 P, o234 P, o235 P, o236 P, o237 P, o238 P, o239 P, o240 P, o241 P, o242 P, o243 P, o244 P, o245 P, o246 P, o247 P, o248 P, o249 P, o250 P, o251 P, o252 P, o253 P, o254 P, o255 P, o256 P, o257 P, o258 P, o259 P, o260 P, o261 P, o262 P, o263 P, o264 P, o265 P, o266 P, o267 P, o268 P, o269 P, o270 P, o271 P, o272 P]
/-- the rows of a table as the text writes them: the ending, the place of its longest tail -/
noncomputable def rowOf : PySem.Expr → Str × Int
  | .Call _ [.Constant (.str s) _ _, .Constant (.int i) _ _, _] _ _ => (s, i)
  | .Call _ [.Constant (.str s) _ _, .UnaryOp _ (.Constant (.int i) _ _) _, _] _ _ => (s, -i)
  | _ => (Str.ofString "", 0)
noncomputable def eltsOf : Stmt → List PySem.Expr
  | .Assign _ (.List es _) _ => es
  | _ => []
noncomputable def rows (k : Nat) : List (Str × Int) := (eltsOf (st2 6 (9 + k))).map rowOf
noncomputable def amF (P : Params) (s : Str) (i : Int) (x ts ti tr k : Nat) : Obj := ⟨.type "frame", none, .dict [de P "self" k (.ref x), de P "s" (k + 1) (.str s ts), de P "substring_i" (k + 2) (.int i ti), de P "result" (k + 3) (.int 1 tr)].toArray 4, #[]⟩
/-- the tokens that a row's call takes: (its int's, its result's, the dict's first, how many) -/
noncomputable def tokOf (i : Int) : Nat × Nat × Nat × Nat := match i with
  | .ofNat _ => (1, 2, 8, 13)
  | .negSucc _ => (2, 3, 9, 14)
noncomputable def rowObjs (P : Params) (n tk : Nat) (r : Str × Int) : List Obj := match tokOf r.2 with
  | (ti, tr, k, _) => [amD P r.1 r.2 tk (tk + ti) (tk + tr) (tk + k), amI n, amF P r.1 r.2 (n + 1) tk (tk + ti) (tk + tr) (tk + k - 5)]
noncomputable def tabObjs (P : Params) : Nat → Nat → List (Str × Int) → List Obj
  | _, _, [] => []
  | n, tk, r :: rs => rowObjs P n tk r ++ tabObjs P (n + 3) (tk + (tokOf r.2).2.2.2) rs
noncomputable def refsFrom : Nat → Nat → List Value
  | _, 0 => []
  | n, k + 1 => .ref (n + 1) :: refsFrom (n + 3) k
noncomputable def tabList (n len : Nat) : Obj := ⟨.type "list", none, .seq (refsFrom n len).toArray 0, #[]⟩
noncomputable def o225_SD0 (P : Params) : Obj := ⟨(.type "dict"), none, .dict [de P "__module__" 468 (.str (Str.ofString "snowballstemmer.armenian_stemmer") 459), de P "__qualname__" 470 (.str (Str.ofString "ArmenianStemmer") 469), de P "__firstlineno__" 472 (.int 155 471), de P "g_v" 489 (.ref 230), de P "I_p2" 491 (.int 0 490), de P "I_pV" 493 (.int 0 492), de P "r_mark_regions" 501 (.ref 237), de P "r_adjective" 508 (.ref 244), de P "r_verb" 515 (.ref 251), de P "r_noun" 522 (.ref 258), de P "r_ending" 529 (.ref 265), de P "_stem" 541 (.ref 272), de P "a_0" 859 (.ref 342)].toArray 13, #[]⟩
noncomputable def LSD0 (P : Params) (es : Array (Int × Value)) (n : Nat) (t : SetTable) : List Obj := ((LSC P es n t).set 225 (o225_SD0 P)) ++ (tabObjs P 273 542 (rows 0) ++ [tabList 273 (rows 0).length])
noncomputable def o225_SD1 (P : Params) : Obj := ⟨(.type "dict"), none, .dict [de P "__module__" 468 (.str (Str.ofString "snowballstemmer.armenian_stemmer") 459), de P "__qualname__" 470 (.str (Str.ofString "ArmenianStemmer") 469), de P "__firstlineno__" 472 (.int 155 471), de P "g_v" 489 (.ref 230), de P "I_p2" 491 (.int 0 490), de P "I_pV" 493 (.int 0 492), de P "r_mark_regions" 501 (.ref 237), de P "r_adjective" 508 (.ref 244), de P "r_verb" 515 (.ref 251), de P "r_noun" 522 (.ref 258), de P "r_ending" 529 (.ref 265), de P "_stem" 541 (.ref 272), de P "a_0" 859 (.ref 342), de P "a_1" 1819 (.ref 556)].toArray 14, #[]⟩
noncomputable def LSD1 (P : Params) (es : Array (Int × Value)) (n : Nat) (t : SetTable) : List Obj := ((LSD0 P es n t).set 225 (o225_SD1 P)) ++ (tabObjs P 343 860 (rows 1) ++ [tabList 343 (rows 1).length])
noncomputable def o225_SD2 (P : Params) : Obj := ⟨(.type "dict"), none, .dict [de P "__module__" 468 (.str (Str.ofString "snowballstemmer.armenian_stemmer") 459), de P "__qualname__" 470 (.str (Str.ofString "ArmenianStemmer") 469), de P "__firstlineno__" 472 (.int 155 471), de P "g_v" 489 (.ref 230), de P "I_p2" 491 (.int 0 490), de P "I_pV" 493 (.int 0 492), de P "r_mark_regions" 501 (.ref 237), de P "r_adjective" 508 (.ref 244), de P "r_verb" 515 (.ref 251), de P "r_noun" 522 (.ref 258), de P "r_ending" 529 (.ref 265), de P "_stem" 541 (.ref 272), de P "a_0" 859 (.ref 342), de P "a_1" 1819 (.ref 556), de P "a_2" 2361 (.ref 677)].toArray 15, #[]⟩
noncomputable def LSD2 (P : Params) (es : Array (Int × Value)) (n : Nat) (t : SetTable) : List Obj := ((LSD1 P es n t).set 225 (o225_SD2 P)) ++ (tabObjs P 557 1820 (rows 2) ++ [tabList 557 (rows 2).length])
noncomputable def o225_SD3 (P : Params) : Obj := ⟨(.type "dict"), none, .dict [de P "__module__" 468 (.str (Str.ofString "snowballstemmer.armenian_stemmer") 459), de P "__qualname__" 470 (.str (Str.ofString "ArmenianStemmer") 469), de P "__firstlineno__" 472 (.int 155 471), de P "g_v" 489 (.ref 230), de P "I_p2" 491 (.int 0 490), de P "I_pV" 493 (.int 0 492), de P "r_mark_regions" 501 (.ref 237), de P "r_adjective" 508 (.ref 244), de P "r_verb" 515 (.ref 251), de P "r_noun" 522 (.ref 258), de P "r_ending" 529 (.ref 265), de P "_stem" 541 (.ref 272), de P "a_0" 859 (.ref 342), de P "a_1" 1819 (.ref 556), de P "a_2" 2361 (.ref 677), de P "a_3" 3119 (.ref 849)].toArray 16, #[]⟩
noncomputable def LSD3 (P : Params) (es : Array (Int × Value)) (n : Nat) (t : SetTable) : List Obj := ((LSD2 P es n t).set 225 (o225_SD3 P)) ++ (tabObjs P 678 2362 (rows 3) ++ [tabList 678 (rows 3).length])
noncomputable def o3_S7 (P : Params) : Obj := ⟨(.type "dict"), none, .dict [de P "__name__" 165 (.str (Str.ofString "snowballstemmer.armenian_stemmer") 459), de P "__doc__" 166 .none, de P "__package__" 167 .none, de P "__loader__" 168 (.builtin "__main__.__loader__#opaque"), de P "__spec__" 169 .none, de P "__annotations__" 170 (.ref 6), de P "__builtins__" 171 (.ref 4), de P "__file__" 173 (.str (Str.ofString "/claim/cut.py") 172), de P "__cached__" 174 .none, de P "_wall" 193 (.ref 21), de P "BaseStemmer" 423 (.ref 197), de P "Among" 458 (.ref 218), de P "ArmenianStemmer" 3129 (.ref 852)].toArray 13, #[]⟩
noncomputable def o197_S7 (P : Params) : Obj := ⟨(.type "type"), none, .cls ⟨(Str.ofString "BaseStemmer"), [(.type "object")], [(.ref 197), (.type "object")], 196, (Str.ofString "BaseStemmer"), true, [], [(.ref 852)], false, none, false⟩, #[none, none, (some (.str (Str.ofString "BaseStemmer") 196)), (some (.str (Str.ofString "BaseStemmer") 204)), (some (.builtin "object.__new__")), (some (.bool true))]⟩
noncomputable def o225_S7 (P : Params) : Obj := ⟨(.type "dict"), none, .dict [de P "__module__" 468 (.str (Str.ofString "snowballstemmer.armenian_stemmer") 459), de P "__qualname__" 470 (.str (Str.ofString "ArmenianStemmer") 469), de P "__firstlineno__" 472 (.int 155 471), de P "g_v" 489 (.ref 230), de P "I_p2" 491 (.int 0 490), de P "I_pV" 493 (.int 0 492), de P "r_mark_regions" 501 (.ref 237), de P "r_adjective" 508 (.ref 244), de P "r_verb" 515 (.ref 251), de P "r_noun" 522 (.ref 258), de P "r_ending" 529 (.ref 265), de P "_stem" 541 (.ref 272), de P "a_0" 859 (.ref 342), de P "a_1" 1819 (.ref 556), de P "a_2" 2361 (.ref 677), de P "a_3" 3119 (.ref 849), de P "__static_attributes__" 3126 (.ref 850)].toArray 17, #[]⟩
noncomputable def o850 (P : Params) : Obj := ⟨(.type "tuple"), none, .seq #[(.str (Str.ofString "I_p2") 3120), (.str (Str.ofString "I_pV") 3121), (.str (Str.ofString "bra") 3122), (.str (Str.ofString "cursor") 3123), (.str (Str.ofString "ket") 3124), (.str (Str.ofString "limit_backward") 3125)] 0, #[]⟩
noncomputable def o851 (P : Params) : Obj := ⟨(.type "dict"), none, .dict [de P "__module__" 468 (.str (Str.ofString "snowballstemmer.armenian_stemmer") 459), de P "__firstlineno__" 472 (.int 155 471), de P "g_v" 489 (.ref 230), de P "I_p2" 491 (.int 0 490), de P "I_pV" 493 (.int 0 492), de P "r_mark_regions" 501 (.ref 237), de P "r_adjective" 508 (.ref 244), de P "r_verb" 515 (.ref 251), de P "r_noun" 522 (.ref 258), de P "r_ending" 529 (.ref 265), de P "_stem" 541 (.ref 272), de P "a_0" 859 (.ref 342), de P "a_1" 1819 (.ref 556), de P "a_2" 2361 (.ref 677), de P "a_3" 3119 (.ref 849), de P "__static_attributes__" 3126 (.ref 850), de P "__doc__" 3127 .none].toArray 2, #[]⟩
noncomputable def o852 (P : Params) : Obj := ⟨(.type "type"), none, .cls ⟨(Str.ofString "ArmenianStemmer"), [(.ref 197)], [(.ref 852), (.ref 197), (.type "object")], 851, (Str.ofString "ArmenianStemmer"), true, [], [], false, none, false⟩, #[(some (.ref 223)), none, (some (.str (Str.ofString "ArmenianStemmer") 461)), (some (.str (Str.ofString "ArmenianStemmer") 469)), (some (.builtin "object.__new__")), (some (.bool true))]⟩
noncomputable def o853 (P : Params) : Obj := ⟨(.type "super"), none, .fields #[(.ref 852), (.ref 852), (.ref 852)], #[]⟩
noncomputable def o854 (P : Params) : Obj := ⟨(.type "builtin_function_or_method"), none, .fields #[(.builtin "object.__init_subclass__"), (.ref 852)], #[]⟩
noncomputable def LS7 (P : Params) (es : Array (Int × Value)) (n : Nat) (t : SetTable) : List Obj := ((((LSD3 P es n t).set 3 (o3_S7 P)).set 197 (o197_S7 P)).set 225 (o225_S7 P)) ++ [o850 P, o851 P, o852 P, o853 P, o854 P]
noncomputable def o2_S8 (P : Params) : Obj := ⟨.none, none, .dict [de P "type.__subclasses__.Exception.0" 3146 (.int 864 0), de P "type.__subclasses__.Exception.n" 3147 (.int 1 0)].toArray 2, #[]⟩
noncomputable def o3_S8 (P : Params) : Obj := ⟨(.type "dict"), none, .dict [de P "__name__" 165 (.str (Str.ofString "snowballstemmer.armenian_stemmer") 459), de P "__doc__" 166 .none, de P "__package__" 167 .none, de P "__loader__" 168 (.builtin "__main__.__loader__#opaque"), de P "__spec__" 169 .none, de P "__annotations__" 170 (.ref 6), de P "__builtins__" 171 (.ref 4), de P "__file__" 173 (.str (Str.ofString "/claim/cut.py") 172), de P "__cached__" 174 .none, de P "_wall" 193 (.ref 21), de P "BaseStemmer" 423 (.ref 197), de P "Among" 458 (.ref 218), de P "ArmenianStemmer" 3129 (.ref 852), de P "lab0" 3149 (.ref 864)].toArray 14, #[]⟩
noncomputable def o12_S8 (P : Params) : Obj := ⟨.none, none, .fields #[(.int 1 0), (.int 0 0), (.ref 20), (.int 5 0), (.int 0 0), (.ref 27), (.int 148 0), (.int 0 0), (.ref 207), (.int 155 0), (.int 0 0), (.ref 228), (.int 245 0), (.int 0 0), (.ref 860)], #[]⟩
noncomputable def o855 (P : Params) : Obj := ⟨(.type "tuple"), none, .seq #[(.type "Exception")] 0, #[]⟩
noncomputable def o856 (P : Params) : Obj := ⟨(.type "builtin_function_or_method"), none, .fields #[(.builtin "type.__prepare__"), (.type "type")], #[]⟩
noncomputable def o857 (P : Params) : Obj := ⟨(.type "dict"), none, .dict [de P "__module__" 3137 (.str (Str.ofString "snowballstemmer.armenian_stemmer") 459), de P "__qualname__" 3139 (.str (Str.ofString "lab0") 3138), de P "__firstlineno__" 3141 (.int 245 3140), de P "__static_attributes__" 3142 (.ref 862)].toArray 4, #[]⟩
noncomputable def o858 (P : Params) : Obj := ⟨(.type "tuple"), none, .seq #[] 0, #[]⟩
noncomputable def o859 (P : Params) : Obj := ⟨.none, none, .fields #[], #[]⟩
noncomputable def o860 (P : Params) : Obj := ⟨(.type "code"), none, .fields #[(.str (Str.ofString "lab0") 3132), (.str (Str.ofString "lab0") 3133), (.str (Str.ofString "/claim/cut.py") 3134), (.int 245 0), (.int 0 0), (.int 0 0), (.int 0 0), (.int 0 0), (.ref 858), (.bool false), (.int 181 0), (.ref 859), .none, .none, .none, .none, (.int 3135 0), (.int 245 0), (.str (Str.ofString "/claim/cut.py") 3136)], #[]⟩
noncomputable def o861 (P : Params) : Obj := ⟨(.type "frame"), none, .plain, #[(some (.ref 860)), (some (.ref 3)), (some (.ref 857)), none, (some (.str (Str.ofString "snowballstemmer.armenian_stemmer") 459)), none, (some (.ref 0))]⟩
noncomputable def o862 (P : Params) : Obj := ⟨(.type "tuple"), none, .seq #[] 0, #[]⟩
noncomputable def o863 (P : Params) : Obj := ⟨(.type "dict"), none, .dict [de P "__module__" 3137 (.str (Str.ofString "snowballstemmer.armenian_stemmer") 459), de P "__firstlineno__" 3141 (.int 245 3140), de P "__static_attributes__" 3142 (.ref 862), de P "__weakref__" 3144 (.ref 865), de P "__doc__" 3145 .none].toArray 3, #[]⟩
noncomputable def o864 (P : Params) : Obj := ⟨(.type "type"), none, .cls ⟨(Str.ofString "lab0"), [(.type "Exception")], [(.ref 864), (.type "Exception"), (.type "BaseException"), (.type "object")], 863, (Str.ofString "lab0"), true, [], [], false, none, false⟩, #[(some (.ref 855)), none, (some (.str (Str.ofString "lab0") 3130)), (some (.str (Str.ofString "lab0") 3138)), (some (.builtin "Exception.__new__")), (some (.bool true))]⟩
noncomputable def o865 (P : Params) : Obj := ⟨(.type "getset_descriptor"), none, .fields #[(.str (Str.ofString "__weakref__") 3143), (.ref 864), (.builtin "ExceptionGroup.__weakref__"), .none], #[]⟩
noncomputable def o866 (P : Params) : Obj := ⟨(.type "super"), none, .fields #[(.ref 864), (.ref 864), (.ref 864)], #[]⟩
noncomputable def o867 (P : Params) : Obj := ⟨(.type "builtin_function_or_method"), none, .fields #[(.builtin "object.__init_subclass__"), (.ref 864)], #[]⟩
noncomputable def LS8 (P : Params) (es : Array (Int × Value)) (n : Nat) (t : SetTable) : List Obj := ((((LS7 P es n t).set 2 (o2_S8 P)).set 3 (o3_S8 P)).set 12 (o12_S8 P)) ++ [o855 P, o856 P, o857 P, o858 P, o859 P, o860 P, o861 P, o862 P, o863 P, o864 P, o865 P, o866 P, o867 P]
noncomputable def o3_S9 (P : Params) : Obj := ⟨(.type "dict"), none, .dict [de P "__name__" 165 (.str (Str.ofString "law_ai0034_01") 3150), de P "__doc__" 166 .none, de P "__package__" 167 .none, de P "__loader__" 168 (.builtin "__main__.__loader__#opaque"), de P "__spec__" 169 .none, de P "__annotations__" 170 (.ref 6), de P "__builtins__" 171 (.ref 4), de P "__file__" 173 (.str (Str.ofString "/claim/cut.py") 172), de P "__cached__" 174 .none, de P "_wall" 193 (.ref 21), de P "BaseStemmer" 423 (.ref 197), de P "Among" 458 (.ref 218), de P "ArmenianStemmer" 3129 (.ref 852), de P "lab0" 3149 (.ref 864)].toArray 14, #[]⟩
noncomputable def LS9 (P : Params) (es : Array (Int × Value)) (n : Nat) (t : SetTable) : List Obj := ((LS8 P es n t).set 3 (o3_S9 P)) ++ []
noncomputable def o3_S10 (P : Params) : Obj := ⟨(.type "dict"), none, .dict [de P "__name__" 165 (.str (Str.ofString "law_ai0034_01") 3150), de P "__doc__" 166 .none, de P "__package__" 167 .none, de P "__loader__" 168 (.builtin "__main__.__loader__#opaque"), de P "__spec__" 169 .none, de P "__annotations__" 170 (.ref 6), de P "__builtins__" 171 (.ref 4), de P "__file__" 173 (.str (Str.ofString "/claim/cut.py") 172), de P "__cached__" 174 .none, de P "_wall" 193 (.ref 21), de P "BaseStemmer" 423 (.ref 197), de P "Among" 458 (.ref 218), de P "ArmenianStemmer" 3129 (.ref 852), de P "lab0" 3149 (.ref 864), de P "_law_vowels" 3157 (.ref 874)].toArray 15, #[]⟩
noncomputable def o12_S10 (P : Params) : Obj := ⟨.none, none, .fields #[(.int 1 0), (.int 0 0), (.ref 20), (.int 5 0), (.int 0 0), (.ref 27), (.int 148 0), (.int 0 0), (.ref 207), (.int 155 0), (.int 0 0), (.ref 228), (.int 245 0), (.int 0 0), (.ref 860), (.int 248 0), (.int 0 0), (.ref 873)], #[]⟩
noncomputable def o868 (P : Params) : Obj := ⟨(.type "tuple"), none, .seq #[] 0, #[]⟩
noncomputable def o869 (P : Params) : Obj := ⟨.none, none, .fields #[], #[]⟩
noncomputable def o870 (P : Params) : Obj := ⟨(.type "tuple"), none, .seq #[] 0, #[]⟩
noncomputable def o871 (P : Params) : Obj := ⟨(.type "tuple"), none, .seq #[] 0, #[]⟩
noncomputable def o872 (P : Params) : Obj := ⟨.none, none, .func (fnD (st 9) (Str.ofString "_law_vowels") 0 .none .none .none .none none), #[]⟩
noncomputable def o873 (P : Params) : Obj := ⟨(.type "code"), none, .fields #[(.str (Str.ofString "_law_vowels") 3152), (.str (Str.ofString "_law_vowels") 3153), (.str (Str.ofString "/claim/cut.py") 3154), (.int 248 0), (.int 0 0), (.int 0 0), (.int 0 0), (.int 3 0), (.ref 868), (.bool true), (.int 181 0), (.ref 869), .none, (.ref 870), (.ref 871), (.ref 872), (.int 3155 0), (.int 248 0), (.str (Str.ofString "/claim/cut.py") 3156)], #[]⟩
noncomputable def o874 (P : Params) : Obj := ⟨(.type "function"), none, .func (fnD (st 9) (Str.ofString "_law_vowels") 3 .none (.str (Str.ofString "law_ai0034_01") 3150) (.ref 873) .none none), #[]⟩
noncomputable def LS10 (P : Params) (es : Array (Int × Value)) (n : Nat) (t : SetTable) : List Obj := (((LS9 P es n t).set 3 (o3_S10 P)).set 12 (o12_S10 P)) ++ [o868 P, o869 P, o870 P, o871 P, o872 P, o873 P, o874 P]
noncomputable def o3_S11 (P : Params) : Obj := ⟨(.type "dict"), none, .dict [de P "__name__" 165 (.str (Str.ofString "law_ai0034_01") 3150), de P "__doc__" 166 .none, de P "__package__" 167 .none, de P "__loader__" 168 (.builtin "__main__.__loader__#opaque"), de P "__spec__" 169 .none, de P "__annotations__" 170 (.ref 6), de P "__builtins__" 171 (.ref 4), de P "__file__" 173 (.str (Str.ofString "/claim/cut.py") 172), de P "__cached__" 174 .none, de P "_wall" 193 (.ref 21), de P "BaseStemmer" 423 (.ref 197), de P "Among" 458 (.ref 218), de P "ArmenianStemmer" 3129 (.ref 852), de P "lab0" 3149 (.ref 864), de P "_law_vowels" 3157 (.ref 874), de P "_law_letters" 3163 (.ref 881)].toArray 16, #[]⟩
noncomputable def o12_S11 (P : Params) : Obj := ⟨.none, none, .fields #[(.int 1 0), (.int 0 0), (.ref 20), (.int 5 0), (.int 0 0), (.ref 27), (.int 148 0), (.int 0 0), (.ref 207), (.int 155 0), (.int 0 0), (.ref 228), (.int 245 0), (.int 0 0), (.ref 860), (.int 248 0), (.int 0 0), (.ref 873), (.int 250 0), (.int 0 0), (.ref 880)], #[]⟩
noncomputable def o875 (P : Params) : Obj := ⟨(.type "tuple"), none, .seq #[] 0, #[]⟩
noncomputable def o876 (P : Params) : Obj := ⟨.none, none, .fields #[], #[]⟩
noncomputable def o877 (P : Params) : Obj := ⟨(.type "tuple"), none, .seq #[] 0, #[]⟩
noncomputable def o878 (P : Params) : Obj := ⟨(.type "tuple"), none, .seq #[] 0, #[]⟩
noncomputable def o879 (P : Params) : Obj := ⟨.none, none, .func (fnD (st 10) (Str.ofString "_law_letters") 0 .none .none .none .none none), #[]⟩
noncomputable def o880 (P : Params) : Obj := ⟨(.type "code"), none, .fields #[(.str (Str.ofString "_law_letters") 3158), (.str (Str.ofString "_law_letters") 3159), (.str (Str.ofString "/claim/cut.py") 3160), (.int 250 0), (.int 0 0), (.int 0 0), (.int 0 0), (.int 3 0), (.ref 875), (.bool true), (.int 181 0), (.ref 876), .none, (.ref 877), (.ref 878), (.ref 879), (.int 3161 0), (.int 250 0), (.str (Str.ofString "/claim/cut.py") 3162)], #[]⟩
noncomputable def o881 (P : Params) : Obj := ⟨(.type "function"), none, .func (fnD (st 10) (Str.ofString "_law_letters") 3 .none (.str (Str.ofString "law_ai0034_01") 3150) (.ref 880) .none none), #[]⟩
noncomputable def LS11 (P : Params) (es : Array (Int × Value)) (n : Nat) (t : SetTable) : List Obj := (((LS10 P es n t).set 3 (o3_S11 P)).set 12 (o12_S11 P)) ++ [o875 P, o876 P, o877 P, o878 P, o879 P, o880 P, o881 P]
noncomputable def o3_S12 (P : Params) : Obj := ⟨(.type "dict"), none, .dict [de P "__name__" 165 (.str (Str.ofString "law_ai0034_01") 3150), de P "__doc__" 166 .none, de P "__package__" 167 .none, de P "__loader__" 168 (.builtin "__main__.__loader__#opaque"), de P "__spec__" 169 .none, de P "__annotations__" 170 (.ref 6), de P "__builtins__" 171 (.ref 4), de P "__file__" 173 (.str (Str.ofString "/claim/cut.py") 172), de P "__cached__" 174 .none, de P "_wall" 193 (.ref 21), de P "BaseStemmer" 423 (.ref 197), de P "Among" 458 (.ref 218), de P "ArmenianStemmer" 3129 (.ref 852), de P "lab0" 3149 (.ref 864), de P "_law_vowels" 3157 (.ref 874), de P "_law_letters" 3163 (.ref 881), de P "_law_parts" 3169 (.ref 888)].toArray 17, #[]⟩
noncomputable def o12_S12 (P : Params) : Obj := ⟨.none, none, .fields #[(.int 1 0), (.int 0 0), (.ref 20), (.int 5 0), (.int 0 0), (.ref 27), (.int 148 0), (.int 0 0), (.ref 207), (.int 155 0), (.int 0 0), (.ref 228), (.int 245 0), (.int 0 0), (.ref 860), (.int 248 0), (.int 0 0), (.ref 873), (.int 250 0), (.int 0 0), (.ref 880), (.int 252 0), (.int 0 0), (.ref 887)], #[]⟩
noncomputable def o882 (P : Params) : Obj := ⟨(.type "tuple"), none, .seq #[] 0, #[]⟩
noncomputable def o883 (P : Params) : Obj := ⟨.none, none, .fields #[], #[]⟩
noncomputable def o884 (P : Params) : Obj := ⟨(.type "tuple"), none, .seq #[] 0, #[]⟩
noncomputable def o885 (P : Params) : Obj := ⟨(.type "tuple"), none, .seq #[] 0, #[]⟩
noncomputable def o886 (P : Params) : Obj := ⟨.none, none, .func (fnD (st 11) (Str.ofString "_law_parts") 0 .none .none .none .none none), #[]⟩
noncomputable def o887 (P : Params) : Obj := ⟨(.type "code"), none, .fields #[(.str (Str.ofString "_law_parts") 3164), (.str (Str.ofString "_law_parts") 3165), (.str (Str.ofString "/claim/cut.py") 3166), (.int 252 0), (.int 0 0), (.int 0 0), (.int 0 0), (.int 3 0), (.ref 882), (.bool true), (.int 181 0), (.ref 883), .none, (.ref 884), (.ref 885), (.ref 886), (.int 3167 0), (.int 252 0), (.str (Str.ofString "/claim/cut.py") 3168)], #[]⟩
noncomputable def o888 (P : Params) : Obj := ⟨(.type "function"), none, .func (fnD (st 11) (Str.ofString "_law_parts") 3 .none (.str (Str.ofString "law_ai0034_01") 3150) (.ref 887) .none none), #[]⟩
noncomputable def LS12 (P : Params) (es : Array (Int × Value)) (n : Nat) (t : SetTable) : List Obj := (((LS11 P es n t).set 3 (o3_S12 P)).set 12 (o12_S12 P)) ++ [o882 P, o883 P, o884 P, o885 P, o886 P, o887 P, o888 P]
noncomputable def o3_S13 (P : Params) : Obj := ⟨(.type "dict"), none, .dict [de P "__name__" 165 (.str (Str.ofString "law_ai0034_01") 3150), de P "__doc__" 166 .none, de P "__package__" 167 .none, de P "__loader__" 168 (.builtin "__main__.__loader__#opaque"), de P "__spec__" 169 .none, de P "__annotations__" 170 (.ref 6), de P "__builtins__" 171 (.ref 4), de P "__file__" 173 (.str (Str.ofString "/claim/cut.py") 172), de P "__cached__" 174 .none, de P "_wall" 193 (.ref 21), de P "BaseStemmer" 423 (.ref 197), de P "Among" 458 (.ref 218), de P "ArmenianStemmer" 3129 (.ref 852), de P "lab0" 3149 (.ref 864), de P "_law_vowels" 3157 (.ref 874), de P "_law_letters" 3163 (.ref 881), de P "_law_parts" 3169 (.ref 888), de P "_law_cases" 3227 (.ref 889)].toArray 18, #[]⟩
noncomputable def o889 (P : Params) : Obj := ⟨(.type "list"), none, .seq #[(.str (Str.ofString "սա") 3170), (.str (Str.ofString "վա") 3171), (.str (Str.ofString "ամբ") 3172), (.str (Str.ofString "դ") 3173), (.str (Str.ofString "անդ") 3174), (.str (Str.ofString "ությանդ") 3175), (.str (Str.ofString "վանդ") 3176), (.str (Str.ofString "ոջդ") 3177), (.str (Str.ofString "երդ") 3178), (.str (Str.ofString "ներդ") 3179), (.str (Str.ofString "ուդ") 3180), (.str (Str.ofString "ը") 3181), (.str (Str.ofString "անը") 3182), (.str (Str.ofString "ությանը") 3183), (.str (Str.ofString "վանը") 3184), (.str (Str.ofString "ոջը") 3185), (.str (Str.ofString "երը") 3186), (.str (Str.ofString "ները") 3187), (.str (Str.ofString "ի") 3188), (.str (Str.ofString "վի") 3189), (.str (Str.ofString "երի") 3190), (.str (Str.ofString "ների") 3191), (.str (Str.ofString "անում") 3192), (.str (Str.ofString "երում") 3193), (.str (Str.ofString "ներում") 3194), (.str (Str.ofString "ն") 3195), (.str (Str.ofString "ան") 3196), (.str (Str.ofString "ության") 3197), (.str (Str.ofString "վան") 3198), (.str (Str.ofString "ին") 3199), (.str (Str.ofString "երին") 3200), (.str (Str.ofString "ներին") 3201), (.str (Str.ofString "ությանն") 3202), (.str (Str.ofString "երն") 3203), (.str (Str.ofString "ներն") 3204), (.str (Str.ofString "ուն") 3205), (.str (Str.ofString "ոջ") 3206), (.str (Str.ofString "ությանս") 3207), (.str (Str.ofString "վանս") 3208), (.str (Str.ofString "ոջս") 3209), (.str (Str.ofString "ով") 3210), (.str (Str.ofString "անով") 3211), (.str (Str.ofString "վով") 3212), (.str (Str.ofString "երով") 3213), (.str (Str.ofString "ներով") 3214), (.str (Str.ofString "եր") 3215), (.str (Str.ofString "ներ") 3216), (.str (Str.ofString "ց") 3217), (.str (Str.ofString "ից") 3218), (.str (Str.ofString "վանից") 3219), (.str (Str.ofString "ոջից") 3220), (.str (Str.ofString "վից") 3221), (.str (Str.ofString "երից") 3222), (.str (Str.ofString "ներից") 3223), (.str (Str.ofString "ցից") 3224), (.str (Str.ofString "ոց") 3225), (.str (Str.ofString "ուց") 3226)] 0, #[]⟩
noncomputable def LS13 (P : Params) (es : Array (Int × Value)) (n : Nat) (t : SetTable) : List Obj := ((LS12 P es n t).set 3 (o3_S13 P)) ++ [o889 P]
noncomputable def o3_S14 (P : Params) : Obj := ⟨(.type "dict"), none, .dict [de P "__name__" 165 (.str (Str.ofString "law_ai0034_01") 3150), de P "__doc__" 166 .none, de P "__package__" 167 .none, de P "__loader__" 168 (.builtin "__main__.__loader__#opaque"), de P "__spec__" 169 .none, de P "__annotations__" 170 (.ref 6), de P "__builtins__" 171 (.ref 4), de P "__file__" 173 (.str (Str.ofString "/claim/cut.py") 172), de P "__cached__" 174 .none, de P "_wall" 193 (.ref 21), de P "BaseStemmer" 423 (.ref 197), de P "Among" 458 (.ref 218), de P "ArmenianStemmer" 3129 (.ref 852), de P "lab0" 3149 (.ref 864), de P "_law_vowels" 3157 (.ref 874), de P "_law_letters" 3163 (.ref 881), de P "_law_parts" 3169 (.ref 888), de P "_law_cases" 3227 (.ref 889), de P "_law_verbs" 3299 (.ref 890)].toArray 19, #[]⟩
noncomputable def o890 (P : Params) : Obj := ⟨(.type "list"), none, .seq #[(.str (Str.ofString "ա") 3228), (.str (Str.ofString "ացա") 3229), (.str (Str.ofString "եցա") 3230), (.str (Str.ofString "վե") 3231), (.str (Str.ofString "ացրի") 3232), (.str (Str.ofString "ացի") 3233), (.str (Str.ofString "եցի") 3234), (.str (Str.ofString "վեցի") 3235), (.str (Str.ofString "ալ") 3236), (.str (Str.ofString "ըալ") 3237), (.str (Str.ofString "անալ") 3238), (.str (Str.ofString "ենալ") 3239), (.str (Str.ofString "ացնալ") 3240), (.str (Str.ofString "ել") 3241), (.str (Str.ofString "ըել") 3242), (.str (Str.ofString "նել") 3243), (.str (Str.ofString "ցնել") 3244), (.str (Str.ofString "եցնել") 3245), (.str (Str.ofString "չել") 3246), (.str (Str.ofString "վել") 3247), (.str (Str.ofString "ացվել") 3248), (.str (Str.ofString "եցվել") 3249), (.str (Str.ofString "տել") 3250), (.str (Str.ofString "ատել") 3251), (.str (Str.ofString "ոտել") 3252), (.str (Str.ofString "կոտել") 3253), (.str (Str.ofString "ված") 3254), (.str (Str.ofString "ում") 3255), (.str (Str.ofString "վում") 3256), (.str (Str.ofString "ան") 3257), (.str (Str.ofString "ցան") 3258), (.str (Str.ofString "ացան") 3259), (.str (Str.ofString "ացրին") 3260), (.str (Str.ofString "ացին") 3261), (.str (Str.ofString "եցին") 3262), (.str (Str.ofString "վեցին") 3263), (.str (Str.ofString "ալիս") 3264), (.str (Str.ofString "ելիս") 3265), (.str (Str.ofString "ավ") 3266), (.str (Str.ofString "ացավ") 3267), (.str (Str.ofString "եցավ") 3268), (.str (Str.ofString "ալով") 3269), (.str (Str.ofString "ելով") 3270), (.str (Str.ofString "ար") 3271), (.str (Str.ofString "ացար") 3272), (.str (Str.ofString "եցար") 3273), (.str (Str.ofString "ացրիր") 3274), (.str (Str.ofString "ացիր") 3275), (.str (Str.ofString "եցիր") 3276), (.str (Str.ofString "վեցիր") 3277), (.str (Str.ofString "աց") 3278), (.str (Str.ofString "եց") 3279), (.str (Str.ofString "ացրեց") 3280), (.str (Str.ofString "ալուց") 3281), (.str (Str.ofString "ելուց") 3282), (.str (Str.ofString "ալու") 3283), (.str (Str.ofString "ելու") 3284), (.str (Str.ofString "աք") 3285), (.str (Str.ofString "ցաք") 3286), (.str (Str.ofString "ացաք") 3287), (.str (Str.ofString "ացրիք") 3288), (.str (Str.ofString "ացիք") 3289), (.str (Str.ofString "եցիք") 3290), (.str (Str.ofString "վեցիք") 3291), (.str (Str.ofString "անք") 3292), (.str (Str.ofString "ցանք") 3293), (.str (Str.ofString "ացանք") 3294), (.str (Str.ofString "ացրինք") 3295), (.str (Str.ofString "ացինք") 3296), (.str (Str.ofString "եցինք") 3297), (.str (Str.ofString "վեցինք") 3298)] 0, #[]⟩
noncomputable def LS14 (P : Params) (es : Array (Int × Value)) (n : Nat) (t : SetTable) : List Obj := ((LS13 P es n t).set 3 (o3_S14 P)) ++ [o890 P]
noncomputable def o3_S15 (P : Params) : Obj := ⟨(.type "dict"), none, .dict [de P "__name__" 165 (.str (Str.ofString "law_ai0034_01") 3150), de P "__doc__" 166 .none, de P "__package__" 167 .none, de P "__loader__" 168 (.builtin "__main__.__loader__#opaque"), de P "__spec__" 169 .none, de P "__annotations__" 170 (.ref 6), de P "__builtins__" 171 (.ref 4), de P "__file__" 173 (.str (Str.ofString "/claim/cut.py") 172), de P "__cached__" 174 .none, de P "_wall" 193 (.ref 21), de P "BaseStemmer" 423 (.ref 197), de P "Among" 458 (.ref 218), de P "ArmenianStemmer" 3129 (.ref 852), de P "lab0" 3149 (.ref 864), de P "_law_vowels" 3157 (.ref 874), de P "_law_letters" 3163 (.ref 881), de P "_law_parts" 3169 (.ref 888), de P "_law_cases" 3227 (.ref 889), de P "_law_verbs" 3299 (.ref 890), de P "_law_adjectives" 3323 (.ref 891)].toArray 20, #[]⟩
noncomputable def o891 (P : Params) : Obj := ⟨(.type "list"), none, .seq #[(.str (Str.ofString "րորդ") 3300), (.str (Str.ofString "երորդ") 3301), (.str (Str.ofString "ալի") 3302), (.str (Str.ofString "ակի") 3303), (.str (Str.ofString "որակ") 3304), (.str (Str.ofString "եղ") 3305), (.str (Str.ofString "ական") 3306), (.str (Str.ofString "արան") 3307), (.str (Str.ofString "են") 3308), (.str (Str.ofString "եկեն") 3309), (.str (Str.ofString "երեն") 3310), (.str (Str.ofString "որէն") 3311), (.str (Str.ofString "ին") 3312), (.str (Str.ofString "գին") 3313), (.str (Str.ofString "ովին") 3314), (.str (Str.ofString "լայն") 3315), (.str (Str.ofString "վուն") 3316), (.str (Str.ofString "պես") 3317), (.str (Str.ofString "իվ") 3318), (.str (Str.ofString "ատ") 3319), (.str (Str.ofString "ավետ") 3320), (.str (Str.ofString "կոտ") 3321), (.str (Str.ofString "բար") 3322)] 0, #[]⟩
noncomputable def LS15 (P : Params) (es : Array (Int × Value)) (n : Nat) (t : SetTable) : List Obj := ((LS14 P es n t).set 3 (o3_S15 P)) ++ [o891 P]
noncomputable def o3_S16 (P : Params) : Obj := ⟨(.type "dict"), none, .dict [de P "__name__" 165 (.str (Str.ofString "law_ai0034_01") 3150), de P "__doc__" 166 .none, de P "__package__" 167 .none, de P "__loader__" 168 (.builtin "__main__.__loader__#opaque"), de P "__spec__" 169 .none, de P "__annotations__" 170 (.ref 6), de P "__builtins__" 171 (.ref 4), de P "__file__" 173 (.str (Str.ofString "/claim/cut.py") 172), de P "__cached__" 174 .none, de P "_wall" 193 (.ref 21), de P "BaseStemmer" 423 (.ref 197), de P "Among" 458 (.ref 218), de P "ArmenianStemmer" 3129 (.ref 852), de P "lab0" 3149 (.ref 864), de P "_law_vowels" 3157 (.ref 874), de P "_law_letters" 3163 (.ref 881), de P "_law_parts" 3169 (.ref 888), de P "_law_cases" 3227 (.ref 889), de P "_law_verbs" 3299 (.ref 890), de P "_law_adjectives" 3323 (.ref 891), de P "_law_nouns" 3364 (.ref 892)].toArray 21, #[]⟩
noncomputable def o892 (P : Params) : Obj := ⟨(.type "list"), none, .seq #[(.str (Str.ofString "որդ") 3324), (.str (Str.ofString "ույթ") 3325), (.str (Str.ofString "ուհի") 3326), (.str (Str.ofString "ցի") 3327), (.str (Str.ofString "իլ") 3328), (.str (Str.ofString "ակ") 3329), (.str (Str.ofString "յակ") 3330), (.str (Str.ofString "անակ") 3331), (.str (Str.ofString "իկ") 3332), (.str (Str.ofString "ուկ") 3333), (.str (Str.ofString "ան") 3334), (.str (Str.ofString "պան") 3335), (.str (Str.ofString "ստան") 3336), (.str (Str.ofString "արան") 3337), (.str (Str.ofString "եղէն") 3338), (.str (Str.ofString "յուն") 3339), (.str (Str.ofString "ություն") 3340), (.str (Str.ofString "ածո") 3341), (.str (Str.ofString "իչ") 3342), (.str (Str.ofString "ուս") 3343), (.str (Str.ofString "ուստ") 3344), (.str (Str.ofString "գար") 3345), (.str (Str.ofString "վոր") 3346), (.str (Str.ofString "ավոր") 3347), (.str (Str.ofString "ոց") 3348), (.str (Str.ofString "անօց") 3349), (.str (Str.ofString "ու") 3350), (.str (Str.ofString "ք") 3351), (.str (Str.ofString "չեք") 3352), (.str (Str.ofString "իք") 3353), (.str (Str.ofString "ալիք") 3354), (.str (Str.ofString "անիք") 3355), (.str (Str.ofString "վածք") 3356), (.str (Str.ofString "ույք") 3357), (.str (Str.ofString "ենք") 3358), (.str (Str.ofString "ոնք") 3359), (.str (Str.ofString "ունք") 3360), (.str (Str.ofString "մունք") 3361), (.str (Str.ofString "իչք") 3362), (.str (Str.ofString "արք") 3363)] 0, #[]⟩
noncomputable def LS16 (P : Params) (es : Array (Int × Value)) (n : Nat) (t : SetTable) : List Obj := ((LS15 P es n t).set 3 (o3_S16 P)) ++ [o892 P]
noncomputable def o3_S17 (P : Params) : Obj := ⟨(.type "dict"), none, .dict [de P "__name__" 165 (.str (Str.ofString "law_ai0034_01") 3150), de P "__doc__" 166 .none, de P "__package__" 167 .none, de P "__loader__" 168 (.builtin "__main__.__loader__#opaque"), de P "__spec__" 169 .none, de P "__annotations__" 170 (.ref 6), de P "__builtins__" 171 (.ref 4), de P "__file__" 173 (.str (Str.ofString "/claim/cut.py") 172), de P "__cached__" 174 .none, de P "_wall" 193 (.ref 21), de P "BaseStemmer" 423 (.ref 197), de P "Among" 458 (.ref 218), de P "ArmenianStemmer" 3129 (.ref 852), de P "lab0" 3149 (.ref 864), de P "_law_vowels" 3157 (.ref 874), de P "_law_letters" 3163 (.ref 881), de P "_law_parts" 3169 (.ref 888), de P "_law_cases" 3227 (.ref 889), de P "_law_verbs" 3299 (.ref 890), de P "_law_adjectives" 3323 (.ref 891), de P "_law_nouns" 3364 (.ref 892), de P "_law_ends" 3370 (.ref 899)].toArray 22, #[]⟩
noncomputable def o12_S17 (P : Params) : Obj := ⟨.none, none, .fields #[(.int 1 0), (.int 0 0), (.ref 20), (.int 5 0), (.int 0 0), (.ref 27), (.int 148 0), (.int 0 0), (.ref 207), (.int 155 0), (.int 0 0), (.ref 228), (.int 245 0), (.int 0 0), (.ref 860), (.int 248 0), (.int 0 0), (.ref 873), (.int 250 0), (.int 0 0), (.ref 880), (.int 252 0), (.int 0 0), (.ref 887), (.int 258 0), (.int 0 0), (.ref 898)], #[]⟩
noncomputable def o893 (P : Params) : Obj := ⟨(.type "tuple"), none, .seq #[] 0, #[]⟩
noncomputable def o894 (P : Params) : Obj := ⟨.none, none, .fields #[], #[]⟩
noncomputable def o895 (P : Params) : Obj := ⟨(.type "tuple"), none, .seq #[] 0, #[]⟩
noncomputable def o896 (P : Params) : Obj := ⟨(.type "tuple"), none, .seq #[] 0, #[]⟩
noncomputable def o897 (P : Params) : Obj := ⟨.none, none, .func (fnD (st 16) (Str.ofString "_law_ends") 0 .none .none .none .none none), #[]⟩
noncomputable def o898 (P : Params) : Obj := ⟨(.type "code"), none, .fields #[(.str (Str.ofString "_law_ends") 3365), (.str (Str.ofString "_law_ends") 3366), (.str (Str.ofString "/claim/cut.py") 3367), (.int 258 0), (.int 0 0), (.int 0 0), (.int 0 0), (.int 3 0), (.ref 893), (.bool true), (.int 181 0), (.ref 894), .none, (.ref 895), (.ref 896), (.ref 897), (.int 3368 0), (.int 258 0), (.str (Str.ofString "/claim/cut.py") 3369)], #[]⟩
noncomputable def o899 (P : Params) : Obj := ⟨(.type "function"), none, .func (fnD (st 16) (Str.ofString "_law_ends") 3 .none (.str (Str.ofString "law_ai0034_01") 3150) (.ref 898) .none none), #[]⟩
noncomputable def LS17 (P : Params) (es : Array (Int × Value)) (n : Nat) (t : SetTable) : List Obj := (((LS16 P es n t).set 3 (o3_S17 P)).set 12 (o12_S17 P)) ++ [o893 P, o894 P, o895 P, o896 P, o897 P, o898 P, o899 P]
noncomputable def o3_S18 (P : Params) : Obj := ⟨(.type "dict"), none, .dict [de P "__name__" 165 (.str (Str.ofString "law_ai0034_01") 3150), de P "__doc__" 166 .none, de P "__package__" 167 .none, de P "__loader__" 168 (.builtin "__main__.__loader__#opaque"), de P "__spec__" 169 .none, de P "__annotations__" 170 (.ref 6), de P "__builtins__" 171 (.ref 4), de P "__file__" 173 (.str (Str.ofString "/claim/cut.py") 172), de P "__cached__" 174 .none, de P "_wall" 193 (.ref 21), de P "BaseStemmer" 423 (.ref 197), de P "Among" 458 (.ref 218), de P "ArmenianStemmer" 3129 (.ref 852), de P "lab0" 3149 (.ref 864), de P "_law_vowels" 3157 (.ref 874), de P "_law_letters" 3163 (.ref 881), de P "_law_parts" 3169 (.ref 888), de P "_law_cases" 3227 (.ref 889), de P "_law_verbs" 3299 (.ref 890), de P "_law_adjectives" 3323 (.ref 891), de P "_law_nouns" 3364 (.ref 892), de P "_law_ends" 3370 (.ref 899), de P "_law_word" 3382 (.ref 906)].toArray 23, #[]⟩
noncomputable def o12_S18 (P : Params) : Obj := ⟨.none, none, .fields #[(.int 1 0), (.int 0 0), (.ref 20), (.int 5 0), (.int 0 0), (.ref 27), (.int 148 0), (.int 0 0), (.ref 207), (.int 155 0), (.int 0 0), (.ref 228), (.int 245 0), (.int 0 0), (.ref 860), (.int 248 0), (.int 0 0), (.ref 873), (.int 250 0), (.int 0 0), (.ref 880), (.int 252 0), (.int 0 0), (.ref 887), (.int 258 0), (.int 0 0), (.ref 898), (.int 260 0), (.int 0 0), (.ref 905)], #[]⟩
noncomputable def o900 (P : Params) : Obj := ⟨(.type "tuple"), none, .seq #[] 0, #[]⟩
noncomputable def o901 (P : Params) : Obj := ⟨.none, none, .fields #[], #[]⟩
noncomputable def o902 (P : Params) : Obj := ⟨(.type "tuple"), none, .seq #[(.str (Str.ofString "numbers") 3374), (.str (Str.ofString "ends") 3375), (.str (Str.ofString "word") 3376), (.str (Str.ofString "number") 3377), (.str (Str.ofString "free") 3378), (.str (Str.ofString "k") 3379)] 0, #[]⟩
noncomputable def o903 (P : Params) : Obj := ⟨(.type "tuple"), none, .seq #[] 0, #[]⟩
noncomputable def o904 (P : Params) : Obj := ⟨.none, none, .func (fnD (st 17) (Str.ofString "_law_word") 0 .none .none .none .none none), #[]⟩
noncomputable def o905 (P : Params) : Obj := ⟨(.type "code"), none, .fields #[(.str (Str.ofString "_law_word") 3371), (.str (Str.ofString "_law_word") 3372), (.str (Str.ofString "/claim/cut.py") 3373), (.int 260 0), (.int 2 0), (.int 0 0), (.int 0 0), (.int 3 0), (.ref 900), (.bool true), (.int 181 0), (.ref 901), .none, (.ref 902), (.ref 903), (.ref 904), (.int 3380 0), (.int 260 0), (.str (Str.ofString "/claim/cut.py") 3381)], #[]⟩
noncomputable def o906 (P : Params) : Obj := ⟨(.type "function"), none, .func (fnD (st 17) (Str.ofString "_law_word") 3 .none (.str (Str.ofString "law_ai0034_01") 3150) (.ref 905) .none none), #[]⟩
noncomputable def LS18 (P : Params) (es : Array (Int × Value)) (n : Nat) (t : SetTable) : List Obj := (((LS17 P es n t).set 3 (o3_S18 P)).set 12 (o12_S18 P)) ++ [o900 P, o901 P, o902 P, o903 P, o904 P, o905 P, o906 P]
noncomputable def o3_S19 (P : Params) : Obj := ⟨(.type "dict"), none, .dict [de P "__name__" 165 (.str (Str.ofString "law_ai0034_01") 3150), de P "__doc__" 166 .none, de P "__package__" 167 .none, de P "__loader__" 168 (.builtin "__main__.__loader__#opaque"), de P "__spec__" 169 .none, de P "__annotations__" 170 (.ref 6), de P "__builtins__" 171 (.ref 4), de P "__file__" 173 (.str (Str.ofString "/claim/cut.py") 172), de P "__cached__" 174 .none, de P "_wall" 193 (.ref 21), de P "BaseStemmer" 423 (.ref 197), de P "Among" 458 (.ref 218), de P "ArmenianStemmer" 3129 (.ref 852), de P "lab0" 3149 (.ref 864), de P "_law_vowels" 3157 (.ref 874), de P "_law_letters" 3163 (.ref 881), de P "_law_parts" 3169 (.ref 888), de P "_law_cases" 3227 (.ref 889), de P "_law_verbs" 3299 (.ref 890), de P "_law_adjectives" 3323 (.ref 891), de P "_law_nouns" 3364 (.ref 892), de P "_law_ends" 3370 (.ref 899), de P "_law_word" 3382 (.ref 906), de P "_law_end" 3393 (.ref 913)].toArray 24, #[]⟩
noncomputable def o12_S19 (P : Params) : Obj := ⟨.none, none, .fields #[(.int 1 0), (.int 0 0), (.ref 20), (.int 5 0), (.int 0 0), (.ref 27), (.int 148 0), (.int 0 0), (.ref 207), (.int 155 0), (.int 0 0), (.ref 228), (.int 245 0), (.int 0 0), (.ref 860), (.int 248 0), (.int 0 0), (.ref 873), (.int 250 0), (.int 0 0), (.ref 880), (.int 252 0), (.int 0 0), (.ref 887), (.int 258 0), (.int 0 0), (.ref 898), (.int 260 0), (.int 0 0), (.ref 905), (.int 272 0), (.int 0 0), (.ref 912)], #[]⟩
noncomputable def o907 (P : Params) : Obj := ⟨(.type "tuple"), none, .seq #[] 0, #[]⟩
noncomputable def o908 (P : Params) : Obj := ⟨.none, none, .fields #[], #[]⟩
noncomputable def o909 (P : Params) : Obj := ⟨(.type "tuple"), none, .seq #[(.str (Str.ofString "word") 3386), (.str (Str.ofString "ends") 3387), (.str (Str.ofString "low") 3388), (.str (Str.ofString "found") 3389), (.str (Str.ofString "end") 3390)] 0, #[]⟩
noncomputable def o910 (P : Params) : Obj := ⟨(.type "tuple"), none, .seq #[] 0, #[]⟩
noncomputable def o911 (P : Params) : Obj := ⟨.none, none, .func (fnD (st 18) (Str.ofString "_law_end") 0 .none .none .none .none none), #[]⟩
noncomputable def o912 (P : Params) : Obj := ⟨(.type "code"), none, .fields #[(.str (Str.ofString "_law_end") 3383), (.str (Str.ofString "_law_end") 3384), (.str (Str.ofString "/claim/cut.py") 3385), (.int 272 0), (.int 3 0), (.int 0 0), (.int 0 0), (.int 3 0), (.ref 907), (.bool true), (.int 181 0), (.ref 908), .none, (.ref 909), (.ref 910), (.ref 911), (.int 3391 0), (.int 272 0), (.str (Str.ofString "/claim/cut.py") 3392)], #[]⟩
noncomputable def o913 (P : Params) : Obj := ⟨(.type "function"), none, .func (fnD (st 18) (Str.ofString "_law_end") 3 .none (.str (Str.ofString "law_ai0034_01") 3150) (.ref 912) .none none), #[]⟩
noncomputable def LS19 (P : Params) (es : Array (Int × Value)) (n : Nat) (t : SetTable) : List Obj := (((LS18 P es n t).set 3 (o3_S19 P)).set 12 (o12_S19 P)) ++ [o907 P, o908 P, o909 P, o910 P, o911 P, o912 P, o913 P]
noncomputable def o3_S20 (P : Params) : Obj := ⟨(.type "dict"), none, .dict [de P "__name__" 165 (.str (Str.ofString "law_ai0034_01") 3150), de P "__doc__" 166 .none, de P "__package__" 167 .none, de P "__loader__" 168 (.builtin "__main__.__loader__#opaque"), de P "__spec__" 169 .none, de P "__annotations__" 170 (.ref 6), de P "__builtins__" 171 (.ref 4), de P "__file__" 173 (.str (Str.ofString "/claim/cut.py") 172), de P "__cached__" 174 .none, de P "_wall" 193 (.ref 21), de P "BaseStemmer" 423 (.ref 197), de P "Among" 458 (.ref 218), de P "ArmenianStemmer" 3129 (.ref 852), de P "lab0" 3149 (.ref 864), de P "_law_vowels" 3157 (.ref 874), de P "_law_letters" 3163 (.ref 881), de P "_law_parts" 3169 (.ref 888), de P "_law_cases" 3227 (.ref 889), de P "_law_verbs" 3299 (.ref 890), de P "_law_adjectives" 3323 (.ref 891), de P "_law_nouns" 3364 (.ref 892), de P "_law_ends" 3370 (.ref 899), de P "_law_word" 3382 (.ref 906), de P "_law_end" 3393 (.ref 913), de P "_law_cut" 3401 (.ref 920)].toArray 25, #[]⟩
noncomputable def o12_S20 (P : Params) : Obj := ⟨.none, none, .fields #[(.int 1 0), (.int 0 0), (.ref 20), (.int 5 0), (.int 0 0), (.ref 27), (.int 148 0), (.int 0 0), (.ref 207), (.int 155 0), (.int 0 0), (.ref 228), (.int 245 0), (.int 0 0), (.ref 860), (.int 248 0), (.int 0 0), (.ref 873), (.int 250 0), (.int 0 0), (.ref 880), (.int 252 0), (.int 0 0), (.ref 887), (.int 258 0), (.int 0 0), (.ref 898), (.int 260 0), (.int 0 0), (.ref 905), (.int 272 0), (.int 0 0), (.ref 912), (.int 278 0), (.int 0 0), (.ref 919)], #[]⟩
noncomputable def o914 (P : Params) : Obj := ⟨(.type "tuple"), none, .seq #[] 0, #[]⟩
noncomputable def o915 (P : Params) : Obj := ⟨.none, none, .fields #[], #[]⟩
noncomputable def o916 (P : Params) : Obj := ⟨(.type "tuple"), none, .seq #[(.str (Str.ofString "word") 3397), (.str (Str.ofString "end") 3398)] 0, #[]⟩
noncomputable def o917 (P : Params) : Obj := ⟨(.type "tuple"), none, .seq #[] 0, #[]⟩
noncomputable def o918 (P : Params) : Obj := ⟨.none, none, .func (fnD (st 19) (Str.ofString "_law_cut") 0 .none .none .none .none none), #[]⟩
noncomputable def o919 (P : Params) : Obj := ⟨(.type "code"), none, .fields #[(.str (Str.ofString "_law_cut") 3394), (.str (Str.ofString "_law_cut") 3395), (.str (Str.ofString "/claim/cut.py") 3396), (.int 278 0), (.int 2 0), (.int 0 0), (.int 0 0), (.int 3 0), (.ref 914), (.bool true), (.int 181 0), (.ref 915), .none, (.ref 916), (.ref 917), (.ref 918), (.int 3399 0), (.int 278 0), (.str (Str.ofString "/claim/cut.py") 3400)], #[]⟩
noncomputable def o920 (P : Params) : Obj := ⟨(.type "function"), none, .func (fnD (st 19) (Str.ofString "_law_cut") 3 .none (.str (Str.ofString "law_ai0034_01") 3150) (.ref 919) .none none), #[]⟩
noncomputable def LS20 (P : Params) (es : Array (Int × Value)) (n : Nat) (t : SetTable) : List Obj := (((LS19 P es n t).set 3 (o3_S20 P)).set 12 (o12_S20 P)) ++ [o914 P, o915 P, o916 P, o917 P, o918 P, o919 P, o920 P]
noncomputable def o3_S21 (P : Params) : Obj := ⟨(.type "dict"), none, .dict [de P "__name__" 165 (.str (Str.ofString "law_ai0034_01") 3150), de P "__doc__" 166 .none, de P "__package__" 167 .none, de P "__loader__" 168 (.builtin "__main__.__loader__#opaque"), de P "__spec__" 169 .none, de P "__annotations__" 170 (.ref 6), de P "__builtins__" 171 (.ref 4), de P "__file__" 173 (.str (Str.ofString "/claim/cut.py") 172), de P "__cached__" 174 .none, de P "_wall" 193 (.ref 21), de P "BaseStemmer" 423 (.ref 197), de P "Among" 458 (.ref 218), de P "ArmenianStemmer" 3129 (.ref 852), de P "lab0" 3149 (.ref 864), de P "_law_vowels" 3157 (.ref 874), de P "_law_letters" 3163 (.ref 881), de P "_law_parts" 3169 (.ref 888), de P "_law_cases" 3227 (.ref 889), de P "_law_verbs" 3299 (.ref 890), de P "_law_adjectives" 3323 (.ref 891), de P "_law_nouns" 3364 (.ref 892), de P "_law_ends" 3370 (.ref 899), de P "_law_word" 3382 (.ref 906), de P "_law_end" 3393 (.ref 913), de P "_law_cut" 3401 (.ref 920), de P "_law_behind" 3409 (.ref 927)].toArray 26, #[]⟩
noncomputable def o12_S21 (P : Params) : Obj := ⟨.none, none, .fields #[(.int 1 0), (.int 0 0), (.ref 20), (.int 5 0), (.int 0 0), (.ref 27), (.int 148 0), (.int 0 0), (.ref 207), (.int 155 0), (.int 0 0), (.ref 228), (.int 245 0), (.int 0 0), (.ref 860), (.int 248 0), (.int 0 0), (.ref 873), (.int 250 0), (.int 0 0), (.ref 880), (.int 252 0), (.int 0 0), (.ref 887), (.int 258 0), (.int 0 0), (.ref 898), (.int 260 0), (.int 0 0), (.ref 905), (.int 272 0), (.int 0 0), (.ref 912), (.int 278 0), (.int 0 0), (.ref 919), (.int 280 0), (.int 0 0), (.ref 926)], #[]⟩
noncomputable def o921 (P : Params) : Obj := ⟨(.type "tuple"), none, .seq #[] 0, #[]⟩
noncomputable def o922 (P : Params) : Obj := ⟨.none, none, .fields #[], #[]⟩
noncomputable def o923 (P : Params) : Obj := ⟨(.type "tuple"), none, .seq #[(.str (Str.ofString "word") 3405), (.str (Str.ofString "at") 3406)] 0, #[]⟩
noncomputable def o924 (P : Params) : Obj := ⟨(.type "tuple"), none, .seq #[] 0, #[]⟩
noncomputable def o925 (P : Params) : Obj := ⟨.none, none, .func (fnD (st 20) (Str.ofString "_law_behind") 0 .none .none .none .none none), #[]⟩
noncomputable def o926 (P : Params) : Obj := ⟨(.type "code"), none, .fields #[(.str (Str.ofString "_law_behind") 3402), (.str (Str.ofString "_law_behind") 3403), (.str (Str.ofString "/claim/cut.py") 3404), (.int 280 0), (.int 2 0), (.int 0 0), (.int 0 0), (.int 3 0), (.ref 921), (.bool true), (.int 181 0), (.ref 922), .none, (.ref 923), (.ref 924), (.ref 925), (.int 3407 0), (.int 280 0), (.str (Str.ofString "/claim/cut.py") 3408)], #[]⟩
noncomputable def o927 (P : Params) : Obj := ⟨(.type "function"), none, .func (fnD (st 20) (Str.ofString "_law_behind") 3 .none (.str (Str.ofString "law_ai0034_01") 3150) (.ref 926) .none none), #[]⟩
noncomputable def LS21 (P : Params) (es : Array (Int × Value)) (n : Nat) (t : SetTable) : List Obj := (((LS20 P es n t).set 3 (o3_S21 P)).set 12 (o12_S21 P)) ++ [o921 P, o922 P, o923 P, o924 P, o925 P, o926 P, o927 P]
noncomputable def o3_S22 (P : Params) : Obj := ⟨(.type "dict"), none, .dict [de P "__name__" 165 (.str (Str.ofString "law_ai0034_01") 3150), de P "__doc__" 166 .none, de P "__package__" 167 .none, de P "__loader__" 168 (.builtin "__main__.__loader__#opaque"), de P "__spec__" 169 .none, de P "__annotations__" 170 (.ref 6), de P "__builtins__" 171 (.ref 4), de P "__file__" 173 (.str (Str.ofString "/claim/cut.py") 172), de P "__cached__" 174 .none, de P "_wall" 193 (.ref 21), de P "BaseStemmer" 423 (.ref 197), de P "Among" 458 (.ref 218), de P "ArmenianStemmer" 3129 (.ref 852), de P "lab0" 3149 (.ref 864), de P "_law_vowels" 3157 (.ref 874), de P "_law_letters" 3163 (.ref 881), de P "_law_parts" 3169 (.ref 888), de P "_law_cases" 3227 (.ref 889), de P "_law_verbs" 3299 (.ref 890), de P "_law_adjectives" 3323 (.ref 891), de P "_law_nouns" 3364 (.ref 892), de P "_law_ends" 3370 (.ref 899), de P "_law_word" 3382 (.ref 906), de P "_law_end" 3393 (.ref 913), de P "_law_cut" 3401 (.ref 920), de P "_law_behind" 3409 (.ref 927), de P "_law_stem" 3420 (.ref 934)].toArray 27, #[]⟩
noncomputable def o12_S22 (P : Params) : Obj := ⟨.none, none, .fields #[(.int 1 0), (.int 0 0), (.ref 20), (.int 5 0), (.int 0 0), (.ref 27), (.int 148 0), (.int 0 0), (.ref 207), (.int 155 0), (.int 0 0), (.ref 228), (.int 245 0), (.int 0 0), (.ref 860), (.int 248 0), (.int 0 0), (.ref 873), (.int 250 0), (.int 0 0), (.ref 880), (.int 252 0), (.int 0 0), (.ref 887), (.int 258 0), (.int 0 0), (.ref 898), (.int 260 0), (.int 0 0), (.ref 905), (.int 272 0), (.int 0 0), (.ref 912), (.int 278 0), (.int 0 0), (.ref 919), (.int 280 0), (.int 0 0), (.ref 926), (.int 286 0), (.int 0 0), (.ref 933)], #[]⟩
noncomputable def o928 (P : Params) : Obj := ⟨(.type "tuple"), none, .seq #[] 0, #[]⟩
noncomputable def o929 (P : Params) : Obj := ⟨.none, none, .fields #[], #[]⟩
noncomputable def o930 (P : Params) : Obj := ⟨(.type "tuple"), none, .seq #[(.str (Str.ofString "word") 3413), (.str (Str.ofString "first") 3414), (.str (Str.ofString "two") 3415), (.str (Str.ofString "head") 3416), (.str (Str.ofString "ends") 3417)] 0, #[]⟩
noncomputable def o931 (P : Params) : Obj := ⟨(.type "tuple"), none, .seq #[] 0, #[]⟩
noncomputable def o932 (P : Params) : Obj := ⟨.none, none, .func (fnD (st 21) (Str.ofString "_law_stem") 0 .none .none .none .none none), #[]⟩
noncomputable def o933 (P : Params) : Obj := ⟨(.type "code"), none, .fields #[(.str (Str.ofString "_law_stem") 3410), (.str (Str.ofString "_law_stem") 3411), (.str (Str.ofString "/claim/cut.py") 3412), (.int 286 0), (.int 1 0), (.int 0 0), (.int 0 0), (.int 3 0), (.ref 928), (.bool true), (.int 181 0), (.ref 929), .none, (.ref 930), (.ref 931), (.ref 932), (.int 3418 0), (.int 286 0), (.str (Str.ofString "/claim/cut.py") 3419)], #[]⟩
noncomputable def o934 (P : Params) : Obj := ⟨(.type "function"), none, .func (fnD (st 21) (Str.ofString "_law_stem") 3 .none (.str (Str.ofString "law_ai0034_01") 3150) (.ref 933) .none none), #[]⟩
noncomputable def LS22 (P : Params) (es : Array (Int × Value)) (n : Nat) (t : SetTable) : List Obj := (((LS21 P es n t).set 3 (o3_S22 P)).set 12 (o12_S22 P)) ++ [o928 P, o929 P, o930 P, o931 P, o932 P, o933 P, o934 P]
noncomputable def o3_S23 (P : Params) : Obj := ⟨(.type "dict"), none, .dict [de P "__name__" 165 (.str (Str.ofString "law_ai0034_01") 3150), de P "__doc__" 166 .none, de P "__package__" 167 .none, de P "__loader__" 168 (.builtin "__main__.__loader__#opaque"), de P "__spec__" 169 .none, de P "__annotations__" 170 (.ref 6), de P "__builtins__" 171 (.ref 4), de P "__file__" 173 (.str (Str.ofString "/claim/cut.py") 172), de P "__cached__" 174 .none, de P "_wall" 193 (.ref 21), de P "BaseStemmer" 423 (.ref 197), de P "Among" 458 (.ref 218), de P "ArmenianStemmer" 3129 (.ref 852), de P "lab0" 3149 (.ref 864), de P "_law_vowels" 3157 (.ref 874), de P "_law_letters" 3163 (.ref 881), de P "_law_parts" 3169 (.ref 888), de P "_law_cases" 3227 (.ref 889), de P "_law_verbs" 3299 (.ref 890), de P "_law_adjectives" 3323 (.ref 891), de P "_law_nouns" 3364 (.ref 892), de P "_law_ends" 3370 (.ref 899), de P "_law_word" 3382 (.ref 906), de P "_law_end" 3393 (.ref 913), de P "_law_cut" 3401 (.ref 920), de P "_law_behind" 3409 (.ref 927), de P "_law_stem" 3420 (.ref 934), de P "law" 3426 (.ref 939)].toArray 28, #[]⟩
noncomputable def o12_S23 (P : Params) : Obj := ⟨.none, none, .fields #[(.int 1 0), (.int 0 0), (.ref 20), (.int 5 0), (.int 0 0), (.ref 27), (.int 148 0), (.int 0 0), (.ref 207), (.int 155 0), (.int 0 0), (.ref 228), (.int 245 0), (.int 0 0), (.ref 860), (.int 248 0), (.int 0 0), (.ref 873), (.int 250 0), (.int 0 0), (.ref 880), (.int 252 0), (.int 0 0), (.ref 887), (.int 258 0), (.int 0 0), (.ref 898), (.int 260 0), (.int 0 0), (.ref 905), (.int 272 0), (.int 0 0), (.ref 912), (.int 278 0), (.int 0 0), (.ref 919), (.int 280 0), (.int 0 0), (.ref 926), (.int 286 0), (.int 0 0), (.ref 933), (.int 298 0), (.int 0 0), (.ref 938)], #[]⟩
noncomputable def o935 (P : Params) : Obj := ⟨(.type "tuple"), none, .seq #[] 0, #[]⟩
noncomputable def o936 (P : Params) : Obj := ⟨.none, none, .fields #[], #[]⟩
noncomputable def o937 (P : Params) : Obj := ⟨.none, none, .func (fnD (st 22) (Str.ofString "law") 0 .none .none .none .none none), #[]⟩
noncomputable def o938 (P : Params) : Obj := ⟨(.type "code"), none, .fields #[(.str (Str.ofString "law") 3421), (.str (Str.ofString "law") 3422), (.str (Str.ofString "/claim/cut.py") 3423), (.int 298 0), (.int 1 0), (.int 0 0), (.int 0 0), (.int 3 0), (.ref 935), (.bool true), (.int 181 0), (.ref 936), .none, .none, .none, (.ref 937), (.int 3424 0), (.int 298 0), (.str (Str.ofString "/claim/cut.py") 3425)], #[]⟩
noncomputable def o939 (P : Params) : Obj := ⟨(.type "function"), none, .func (fnD (st 22) (Str.ofString "law") 3 .none (.str (Str.ofString "law_ai0034_01") 3150) (.ref 938) .none none), #[]⟩
noncomputable def LS23 (P : Params) (es : Array (Int × Value)) (n : Nat) (t : SetTable) : List Obj := (((LS22 P es n t).set 3 (o3_S23 P)).set 12 (o12_S23 P)) ++ [o935 P, o936 P, o937 P, o938 P, o939 P]
end Mine
end
section
open PySem PySem.W PyProof.Rows
namespace Mine
/-- a list as the tree of its places -/
noncomputable def halves : List Obj → List Obj × List Obj
  | [] => ([], [])
  | [a] => ([a], [])
  | a :: b :: r => match halves r with
    | (x, y) => (a :: x, b :: y)
noncomputable def ofL : Nat → List Obj → BT
  | 0, _ => .nil
  | _ + 1, [] => .nil
  | f + 1, o :: r => match halves r with
    | (x, y) => .node o (ofL f x) (ofL f y)
theorem halves_at : ∀ (l : List Obj) (i : Nat), (halves l).1[i]? = l[2 * i]? ∧ (halves l).2[i]? = l[2 * i + 1]?
  | [], i => by simp [halves]
  | [a], i => by
    cases i with
    | zero => simp [halves]
    | succ i =>
      simp only [halves]
      constructor
      · rw [List.getElem?_eq_none (by simp), List.getElem?_eq_none (by simp; omega)]
      · rw [List.getElem?_eq_none (by simp), List.getElem?_eq_none (by simp)]
  | a :: b :: r, i => by
    have ih := halves_at r
    unfold halves
    cases hh : halves r with
    | mk x y =>
      rw [hh] at ih
      dsimp only at ih ⊢
      cases i with
      | zero => simp
      | succ i =>
        have := ih i
        constructor
        · rw [List.getElem?_cons_succ, this.1, show 2 * (i + 1) = 2 * i + 1 + 1 by omega, List.getElem?_cons_succ, List.getElem?_cons_succ]
        · rw [List.getElem?_cons_succ, this.2, show 2 * (i + 1) + 1 = 2 * i + 1 + 1 + 1 by omega, List.getElem?_cons_succ, List.getElem?_cons_succ]
theorem halves_len : ∀ (l : List Obj), (halves l).1.length = (l.length + 1) / 2 ∧ (halves l).2.length = l.length / 2
  | [] => ⟨rfl, rfl⟩
  | [a] => by simp [halves]
  | a :: b :: r => by
    have ih := halves_len r
    unfold halves
    cases hh : halves r with
    | mk x y =>
      rw [hh] at ih
      dsimp only at ih ⊢
      simp only [List.length_cons]
      omega
theorem ofL_get : ∀ (f : Nat) (l : List Obj) (i : Nat), l.length < 2 ^ f → (ofL f l).get i = l[i]?
  | 0, l, i, h => by
    have : l = [] := List.eq_nil_of_length_eq_zero (by simpa using h)
    subst this
    simp [ofL, BT.get]
  | f + 1, [], i, h => by simp [ofL, BT.get]
  | f + 1, o :: r, i, h => by
    have a := halves_at r
    have b := halves_len r
    unfold ofL
    cases hh : halves r with
    | mk x y =>
      rw [hh] at a b
      dsimp only at a b ⊢
      rw [BT.get_node]
      have hl : r.length + 1 < 2 ^ f * 2 := by rw [← Nat.pow_succ]; simpa using h
      by_cases h0 : i = 0
      · subst h0; simp
      · rw [if_neg h0]
        obtain ⟨j, rfl⟩ : ∃ j, i = j + 1 := ⟨i - 1, by omega⟩
        rw [List.getElem?_cons_succ]
        by_cases h1 : (j + 1) % 2 = 1
        · rw [if_pos h1, ofL_get f x _ (by omega), (a ((j + 1) / 2)).1, show 2 * ((j + 1) / 2) = j by omega]
        · rw [if_neg h1, ofL_get f y _ (by omega), (a ((j + 1) / 2 - 1)).2, show 2 * ((j + 1) / 2 - 1) + 1 = j by omega]
theorem ofL_heap (l : List Obj) (h : l.length < 2 ^ 12) : absHeap (ofL 12 l) l.length {} = ⟨l.toArray, {}⟩ := by
  unfold absHeap BT.list
  congr 2
  apply List.ext_getElem?
  intro i
  rw [List.getElem?_map]
  by_cases hi : i < l.length
  · rw [List.getElem?_range hi, Option.map_some, ofL_get 12 l i h]
    rw [List.getElem?_eq_getElem hi]
    rfl
  · rw [List.getElem?_eq_none (by rw [List.length_range]; omega), List.getElem?_eq_none (by omega)]
    rfl
noncomputable def stT (l : List Obj) (n toks : Nat) (os : OsState) : SharedT := ⟨ofL 12 l, n, {}, #[], {}, toks, os⟩
noncomputable def stL (l : List Obj) (toks : Nat) (os : OsState) : Shared := ⟨⟨l.toArray, {}⟩, #[], {}, toks, os⟩
theorem stT_abs {l : List Obj} {n toks : Nat} {os : OsState} (h : l.length = n) (hn : n < 4096) : (stT l n toks os).abs = stL l toks os := by
  subst h
  unfold stT SharedT.abs stL
  dsimp only
  rw [ofL_heap l hn]
noncomputable def S6T (w : World) (os : OsState) : SharedT := stT (L6 w.params) 223 461 os
/-- the frame of the top -/
noncomputable def envTop : Env := { scope := pw.main.scope, locals := mainNs, globals := mainNs, cells := [], code := Value.ref 13, frame := some 14 }
noncomputable abbrev q0 : Pos := { line := 0, col := 0, endLine := 0, endCol := 0 }
noncomputable abbrev cM (b : List Stmt) : Code := Code.body b envTop
noncomputable abbrev annM : Option Value := some (Value.ref 6)
noncomputable def envC : Env := { scope := scopeOfC default (st 6), locals := 225, globals := 3, cells := [], qual := Str.ofString "ArmenianStemmer.", func := none, code := .ref 228, frame := some 229, builtins := 0 }
noncomputable def cC : Code := .body (blockOfC (st 6)) envC
noncomputable abbrev posC : Pos := ⟨155, 0, 244, 1423⟩
noncomputable def startC (rest b : List Stmt) : Thread := restOf (st 6 :: rest) envTop (cM b) { line := 154, col := 0, endLine := 154, endCol := 8 } [topFrame q0]
noncomputable def runA (p : Program) (w : World) (os : OsState) (rest b : List Stmt) : Option (SharedT × Thread) := goT treeTable p w 11 annM 64 (S6T w os) (startC rest b)
noncomputable def kA (p : Program) (w : World) (os : OsState) (rest b : List Stmt) : Result → Sem Fin := match runA p w os rest b with
  | some (_, ⟨_, _, _, .ret k _ _ _ _ _ _ :: _⟩) => k
  | _ => fun _ => .unsupported ""
noncomputable abbrev frA (k : Result → Sem Fin) (b : List Stmt) : List Frame := [.ret k none false [.ref 197, .ref 223, .ref 223, .ref 225, .ref 229] (cM b) posC [], topFrame q0]
theorem runA_is (p : Program) (w : World) (os : OsState) (rest b : List Stmt) : runA p w os rest b = some (stT (LSA w.params) 230 473 os, ⟨denote treeTable cC, cC, posC, frA (kA p w os rest b) b⟩) := by
  kernel_rfl
end Mine
end
section
open PySem PySem.W PyProof.Rows
namespace Mine
noncomputable def hintsN : List Hint := [.no, .old 0, .old 0, .old 1, .no, .no, .no, .no, .no, .no, .no, .no, .no, .old 2, .old 2, .no, .old 2, .old 2, .no, .old 2, .no, .old 2, .old 2, .old 2, .no, .old 2, .old 2, .old 2, .old 2, .old 2, .old 2, .old 2, .no, .old 2, .old 2, .old 2, .old 2, .old 2, .old 2, .old 2, .old 2, .old 2, .old 2, .old 3, .old 2, .no, .no, .old 2, .no, .new 1, .old 2, .new 1, .old 2, .old 2, .old 3, .old 4, .no, .old 4, .old 5, .no, .no, .no, .new 2, .new 2, .no, .no, .new 2, .new 2, .no, .no, .new 2, .new 2, .no, .no, .new 2, .new 2, .no, .old 6, .no, .no, .no, .no, .new 2, .no, .new 2, .no, .no, .new 1, .old 2, .old 2, .old 3, .no, .new 1, .old 2, .no, .new 1, .old 2, .new 1, .old 2, .old 2, .old 3, .new 1, .old 2, .no, .no, .new 0, .new 0, .new 0, .no, .no, .no, .new 2, .no, .new 2, .no, .no, .new 1, .old 2, .old 2, .old 3, .no, .new 1, .old 2, .no, .new 1, .old 2, .new 1, .old 2, .old 2, .old 3, .new 1, .old 2, .no, .no, .new 0, .new 0, .new 0, .no, .no, .no, .new 2, .no, .new 2, .no, .no, .new 1, .old 2, .old 2, .old 3, .no, .new 1, .old 2, .no, .new 1, .old 2, .new 1, .old 2, .old 2, .old 3, .new 1, .old 2, .no, .no, .new 0, .new 0, .new 0, .no, .no, .no, .no]
noncomputable def hintsP : List Hint := [.no, .old 0, .old 0, .old 1, .no, .no, .no, .no, .old 2, .old 2, .no, .old 2, .old 2, .no, .old 2, .no, .old 2, .old 2, .old 2, .no, .old 2, .old 2, .old 2, .old 2, .old 2, .old 2, .old 2, .no, .old 2, .old 2, .old 2, .old 2, .old 2, .old 2, .old 2, .old 2, .old 2, .old 2, .old 3, .old 2, .no, .no, .old 2, .no, .new 1, .old 2, .new 1, .old 2, .old 2, .old 3, .old 4, .no, .old 4, .old 5, .no, .no, .no, .new 2, .new 2, .no, .no, .new 2, .new 2, .no, .no, .new 2, .new 2, .no, .no, .new 2, .new 2, .no, .old 6, .no, .no, .no, .no, .new 2, .no, .new 2, .no, .no, .new 1, .old 2, .old 2, .old 3, .no, .new 1, .old 2, .no, .new 1, .old 2, .new 1, .old 2, .old 2, .old 3, .new 1, .old 2, .no, .no, .new 0, .new 0, .new 0, .no, .no, .no, .new 2, .no, .new 2, .no, .no, .new 1, .old 2, .old 2, .old 3, .no, .new 1, .old 2, .no, .new 1, .old 2, .new 1, .old 2, .old 2, .old 3, .new 1, .old 2, .no, .no, .new 0, .new 0, .new 0, .no, .no, .no, .new 2, .no, .new 2, .no, .no, .new 1, .old 2, .old 2, .old 3, .no, .new 1, .old 2, .no, .new 1, .old 2, .new 1, .old 2, .old 2, .old 3, .new 1, .old 2, .no, .no, .new 0, .new 0, .new 0, .no, .no, .no, .no]
noncomputable def objAt (P : Params) (a : Nat) : Obj := ((ofL 12 (L6 P)).get a).getD default
noncomputable def known (P : Params) (o225 : Obj) : List (Nat × Obj) := [(225, o225), (3, objAt P 3), (218, objAt P 218), (217, objAt P 217), (215, objAt P 215), (214, objAt P 214), (2, objAt P 2)]
noncomputable abbrev frB (k : Result → Sem Fin) (g : Bool) (l : List Value) (b : List Stmt) (q : Pos) (kp : List Value) : List Frame := [.ret k none g l (cM b) q kp, topFrame q0]
noncomputable def callN (s : Str) (p0 p1 p2 p3 p4 p5 : Pos) : PySem.Expr := .Call (.Name (Str.ofString "Among") p0) [.Constant (.str s) 0 p1, .UnaryOp .USub (.Constant (.int 1) 0 p2) p3, .Constant (.int 1) 0 p4] [] p5
noncomputable def callP (s : Str) (i : Nat) (p0 p1 p2 p4 p5 : Pos) : PySem.Expr := .Call (.Name (Str.ofString "Among") p0) [.Constant (.str s) 0 p1, .Constant (.int (.ofNat i)) 0 p2, .Constant (.int 1) 0 p4] [] p5
/-- what the run of a row's call is to give, with the class's block at o -/
noncomputable def GoesN (p : Program) (w : World) (o : Obj) : Prop := ∀ (n tk : Nat) (os : OsState) (gens : Array GenState) (drawn : Drawn) (s : Str) (p0 p1 p2 p3 p4 p5 pos q : Pos) (gd : Bool → Bool) (lv : List Value → List Value) (k : Result → Sem Fin) (g : Bool) (l : List Value) (b bc : List Stmt) (kp : List Value),
    xRun treeTable p w (known w.params o) n 2 hintsN ⟨[], gens, drawn, tk, os⟩ ⟨(eval (callN s p0 p1 p2 p3 p4 p5) envC).wrap (fun v => .pure (.done (.ret v))) deadEnd gd lv, .body bc envC, pos, frB k g l b q kp⟩ =
      some (.ret (.ref (n + 1)), ⟨[amD w.params s (-1) tk (tk + 2) (tk + 3) (tk + 9), amI n, amF w.params s (-1) (n + 1) tk (tk + 2) (tk + 3) (tk + 4)], gens, drawn, tk + 14, os⟩, .body bc envC, p5, expect n hintsN)
noncomputable def GoesP (p : Program) (w : World) (o : Obj) : Prop := ∀ (n tk : Nat) (os : OsState) (gens : Array GenState) (drawn : Drawn) (s : Str) (i : Nat) (p0 p1 p2 p4 p5 pos q : Pos) (gd : Bool → Bool) (lv : List Value → List Value) (k : Result → Sem Fin) (g : Bool) (l : List Value) (b bc : List Stmt) (kp : List Value),
    xRun treeTable p w (known w.params o) n 2 hintsP ⟨[], gens, drawn, tk, os⟩ ⟨(eval (callP s i p0 p1 p2 p4 p5) envC).wrap (fun v => .pure (.done (.ret v))) deadEnd gd lv, .body bc envC, pos, frB k g l b q kp⟩ =
      some (.ret (.ref (n + 1)), ⟨[amD w.params s (.ofNat i) tk (tk + 1) (tk + 2) (tk + 8), amI n, amF w.params s (.ofNat i) (n + 1) tk (tk + 1) (tk + 2) (tk + 3)], gens, drawn, tk + 13, os⟩, .body bc envC, p5, expect n hintsP)
theorem goes_all (p : Program) (w : World) : (GoesN p w (o225_SC w.params) ∧ GoesN p w (o225_SD0 w.params) ∧ GoesN p w (o225_SD1 w.params) ∧ GoesN p w (o225_SD2 w.params)) ∧ GoesP p w (o225_SC w.params) ∧ GoesP p w (o225_SD0 w.params) ∧ GoesP p w (o225_SD1 w.params) ∧ GoesP p w (o225_SD2 w.params) := by
  refine ⟨⟨?_, ?_, ?_, ?_⟩, ?_, ?_, ?_, ?_⟩
  · intro n tk os gens drawn s p0 p1 p2 p3 p4 p5 pos q gd lv k g l b bc kp
    kernel_rfl
  · intro n tk os gens drawn s p0 p1 p2 p3 p4 p5 pos q gd lv k g l b bc kp
    kernel_rfl
  · intro n tk os gens drawn s p0 p1 p2 p3 p4 p5 pos q gd lv k g l b bc kp
    kernel_rfl
  · intro n tk os gens drawn s p0 p1 p2 p3 p4 p5 pos q gd lv k g l b bc kp
    kernel_rfl
  · intro n tk os gens drawn s i p0 p1 p2 p4 p5 pos q gd lv k g l b bc kp
    kernel_rfl
  · intro n tk os gens drawn s i p0 p1 p2 p4 p5 pos q gd lv k g l b bc kp
    kernel_rfl
  · intro n tk os gens drawn s i p0 p1 p2 p4 p5 pos q gd lv k g l b bc kp
    kernel_rfl
  · intro n tk os gens drawn s i p0 p1 p2 p4 p5 pos q gd lv k g l b bc kp
    kernel_rfl
theorem goesN_SC (p : Program) (w : World) : GoesN p w (o225_SC w.params) := (goes_all p w).1.1
theorem goesP_SC (p : Program) (w : World) : GoesP p w (o225_SC w.params) := (goes_all p w).2.1
theorem goesN_SD0 (p : Program) (w : World) : GoesN p w (o225_SD0 w.params) := (goes_all p w).1.2.1
theorem goesP_SD0 (p : Program) (w : World) : GoesP p w (o225_SD0 w.params) := (goes_all p w).2.2.1
theorem goesN_SD1 (p : Program) (w : World) : GoesN p w (o225_SD1 w.params) := (goes_all p w).1.2.2.1
theorem goesP_SD1 (p : Program) (w : World) : GoesP p w (o225_SD1 w.params) := (goes_all p w).2.2.2.1
theorem goesN_SD2 (p : Program) (w : World) : GoesN p w (o225_SD2 w.params) := (goes_all p w).1.2.2.2
theorem goesP_SD2 (p : Program) (w : World) : GoesP p w (o225_SD2 w.params) := (goes_all p w).2.2.2.2
inductive IsRow : PySem.Expr → Str × Int → Prop
  | neg (s : Str) (p0 p1 p2 p3 p4 p5 : Pos) : IsRow (callN s p0 p1 p2 p3 p4 p5) (s, -1)
  | pos (s : Str) (i : Nat) (p0 p1 p2 p4 p5 : Pos) : IsRow (callP s i p0 p1 p2 p4 p5) (s, .ofNat i)
noncomputable def nameOf : PySem.Expr → Option (Str × Pos)
  | .Name x p => some (x, p)
  | _ => none
noncomputable def conOf : PySem.Expr → Option (Const × Nat × Pos)
  | .Constant c k p => some (c, k, p)
  | _ => none
noncomputable def negOf : PySem.Expr → Option (UnaryOp × PySem.Expr × Pos)
  | .UnaryOp o x p => some (o, x, p)
  | _ => none
noncomputable def callOf : PySem.Expr → Option (PySem.Expr × List PySem.Expr × List Keyword × Pos)
  | .Call f as ks p => some (f, as, ks, p)
  | _ => none
noncomputable def strC : Const → Option Str
  | .str s => some s
  | _ => none
noncomputable def natC : Const → Option Nat
  | .int (.ofNat i) => some i
  | _ => none
noncomputable def isSub : UnaryOp → Bool
  | .USub => true
  | _ => false
noncomputable def three : List PySem.Expr → Option (PySem.Expr × PySem.Expr × PySem.Expr)
  | [a, b, c] => some (a, b, c)
  | _ => none
theorem nameOf_is {e : PySem.Expr} {q : Str × Pos} (h : nameOf e = some q) : e = .Name q.1 q.2 := by
  unfold nameOf at h
  split at h <;> cases h
  rfl
theorem conOf_is {e : PySem.Expr} {q : Const × Nat × Pos} (h : conOf e = some q) : e = .Constant q.1 q.2.1 q.2.2 := by
  unfold conOf at h
  split at h <;> cases h
  rfl
theorem negOf_is {e : PySem.Expr} {q : UnaryOp × PySem.Expr × Pos} (h : negOf e = some q) : e = .UnaryOp q.1 q.2.1 q.2.2 := by
  unfold negOf at h
  split at h <;> cases h
  rfl
theorem callOf_is {e : PySem.Expr} {q : PySem.Expr × List PySem.Expr × List Keyword × Pos} (h : callOf e = some q) : e = .Call q.1 q.2.1 q.2.2.1 q.2.2.2 := by
  unfold callOf at h
  split at h <;> cases h
  rfl
theorem strC_is {c : Const} {s : Str} (h : strC c = some s) : c = .str s := by
  unfold strC at h
  split at h <;> cases h
  rfl
theorem natC_is {c : Const} {i : Nat} (h : natC c = some i) : c = .int (.ofNat i) := by
  unfold natC at h
  split at h <;> cases h
  rfl
theorem isSub_is {o : UnaryOp} (h : isSub o = true) : o = .USub := by
  cases o <;> first | rfl | cases h
theorem three_is {l : List PySem.Expr} {q : PySem.Expr × PySem.Expr × PySem.Expr} (h : three l = some q) : l = [q.1, q.2.1, q.2.2] := by
  unfold three at h
  split at h <;> cases h
  rfl
noncomputable def isRow2 (b : PySem.Expr) : Bool := (conOf b).any (fun c => c.2.1 == 0 && (natC c.1).isSome) || (negOf b).any fun u => isSub u.1 && (conOf u.2.1).any fun c => c.2.1 == 0 && natC c.1 == some 1
noncomputable def isRow (e : PySem.Expr) : Bool := (callOf e).any fun q => (nameOf q.1).any fun n => (three q.2.1).any fun t =>
  (n.1 == Str.ofString "Among") && q.2.2.1.isEmpty && ((conOf t.1).any fun a => a.2.1 == 0 && (strC a.1).isSome) && ((conOf t.2.2).any fun c => c.2.1 == 0 && natC c.1 == some 1) && isRow2 t.2.1
theorem isRow_is {e : PySem.Expr} (h : isRow e = true) : IsRow e (rowOf e) := by
  simp only [isRow, Option.any_eq_true, Bool.and_eq_true, beq_iff_eq, List.isEmpty_iff, Option.isSome_iff_exists] at h
  obtain ⟨⟨f, as, ks, p5⟩, h0, ⟨nm, p0⟩, h1, ⟨a, b, c⟩, h2, ⟨⟨⟨h3, h4⟩, ⟨ca, ka, p1⟩, h5, h6, s, h7⟩, ⟨cc, kc, p4⟩, h8, h9, h10⟩, h11⟩ := h
  have e0 := callOf_is h0
  have e1 := nameOf_is h1
  have e2 := three_is h2
  have e5 := conOf_is h5
  have e7 := strC_is h7
  have e8 := conOf_is h8
  have e10 := natC_is h10
  dsimp only at e0 e1 e2 e5 e7 e8 e10 h3 h4 h6 h9 h11
  subst e0 e1 e2 e5 e7 e8 e10 h3 h4 h6 h9
  simp only [isRow2, Bool.or_eq_true, Option.any_eq_true, Bool.and_eq_true, beq_iff_eq, Option.isSome_iff_exists] at h11
  rcases h11 with ⟨⟨cb, kb, p2⟩, g0, g1, i, g2⟩ | ⟨⟨o, x, p3⟩, g0, g1, ⟨cb, kb, p2⟩, g2, g3, g4⟩
  · have f0 := conOf_is g0
    have f2 := natC_is g2
    dsimp only at f0 f2 g1
    subst f0 f2 g1
    exact .pos _ _ _ _ _ _ _
  · have f0 := negOf_is g0
    have f1 := isSub_is g1
    have f2 := conOf_is g2
    have f4 := natC_is g4
    dsimp only at f0 f1 f2 f4 g3
    subst f0 f1 f2 f4 g3
    exact .neg _ _ _ _ _ _ _
theorem isRow_star {e : PySem.Expr} {r : Str × Int} (h : IsRow e r) (es : List PySem.Expr) (env : Env) : starEach (e :: es) env = (false, eval e env) :: starEach es env := by
  cases h <;> rfl
section
variable {p : Program} {w : World} {o : Obj} {k : Result → Sem Fin} {g : Bool} {l : List Value} {b bc : List Stmt} {q : Pos} {kp : List Value} {os : OsState} {gens : Array GenState} {drawn : Drawn}
theorem ev_row (gn : GoesN p w o) (gp : GoesP p w o) {base : Heap} {tk : Nat} (hk : ∀ x ∈ known w.params o, base.get? x.1 = some x.2) (hn : 11 ≤ base.objs.size) {e : PySem.Expr} {r : Str × Int} (h : IsRow e r) :
    Ev treeTable p w 11 annM (.body bc envC) (frB k g l b q kp) 171 ⟨base, gens, drawn, tk, os⟩ (eval e envC) (.ref (base.objs.size + 1)) ⟨pushes base (rowObjs w.params base.objs.size tk r), gens, drawn, tk + (tokOf r.2).2.2.2, os⟩ := by
  cases h with
  | neg s p0 p1 p2 p3 p4 p5 =>
    refine (Ev.of_seg (k := 171) (res := Flow.ret) rfl (fun a b e => by cases e; rfl) fun gd lv pos => ⟨p5, ?_⟩)
    exact xRun_spec (n₀ := 11) (ann := annM) (S := ⟨[], gens, drawn, tk, os⟩) hk hn (gn base.objs.size tk os gens drawn s p0 p1 p2 p3 p4 p5 pos q gd lv k g l b bc kp) (expect_same _ _)
  | pos s i p0 p1 p2 p4 p5 =>
    refine (Ev.of_seg (k := 166) (res := Flow.ret) rfl (fun a b e => by cases e; rfl) fun gd lv pos => ⟨p5, ?_⟩).mono (by omega)
    exact xRun_spec (n₀ := 11) (ann := annM) (S := ⟨[], gens, drawn, tk, os⟩) hk hn (gp base.objs.size tk os gens drawn s i p0 p1 p2 p4 p5 pos q gd lv k g l b bc kp) (expect_same _ _)
theorem rowObjs_len (P : Params) (n tk : Nat) (r : Str × Int) : (rowObjs P n tk r).length = 3 := rfl
noncomputable def tokSum : List (Str × Int) → Nat
  | [] => 0
  | r :: rs => (tokOf r.2).2.2.2 + tokSum rs
theorem ev_rows (gn : GoesN p w o) (gp : GoesP p w o) (pos : Pos) : ∀ (es : List PySem.Expr) (base : Heap) (tk : Nat), (∀ x ∈ known w.params o, base.get? x.1 = some x.2) → 11 ≤ base.objs.size → (∀ e ∈ es, isRow e = true) →
    Ev treeTable p w 11 annM (.body bc envC) (frB k g l b q kp) (171 * es.length) ⟨base, gens, drawn, tk, os⟩ (spliced (backTo pos (starEach es envC))) (refsFrom base.objs.size es.length)
      ⟨pushes base (tabObjs w.params base.objs.size tk (es.map rowOf)), gens, drawn, tk + tokSum (es.map rowOf), os⟩
  | [], base, tk, hk, hn, he => Ev.pure
  | e :: es, base, tk, hk, hn, he => by
    have hr := isRow_is (he e (.head _))
    rw [isRow_star hr]
    have sz : (pushes base (rowObjs w.params base.objs.size tk (rowOf e))).objs.size = base.objs.size + 3 := by rw [pushes_size]; rfl
    have ih := ev_rows gn gp pos es (pushes base (rowObjs w.params base.objs.size tk (rowOf e))) (tk + (tokOf (rowOf e).2).2.2.2) (fun x hx => pushes_old (hk x hx)) (by omega) (fun e' h' => he e' (.tail _ h'))
    rw [sz] at ih
    have step := (ev_row (k := k) (g := g) (l := l) (b := b) (bc := bc) (q := q) (kp := kp) (os := os) (gens := gens) (drawn := drawn) gn gp hk hn hr).bind
      (f := fun v => (Pure.pure [v] : Sem (List Value)) >>= fun here => PySem.holding here (spliced (backTo pos (starEach es envC))) >>= fun r => Pure.pure (here ++ r))
      (Ev.bind (Ev.pure' (a := [Value.ref (base.objs.size + 1)])) (Ev.bind (ih.holding) Ev.pure'))
    have e1 : 171 + (0 + (171 * es.length + 0)) = 171 * (e :: es).length := by rw [List.length_cons]; omega
    rw [e1] at step
    have e2 : pushes (pushes base (rowObjs w.params base.objs.size tk (rowOf e))) (tabObjs w.params (base.objs.size + 3) (tk + (tokOf (rowOf e).2).2.2.2) (es.map rowOf)) = pushes base (tabObjs w.params base.objs.size tk ((e :: es).map rowOf)) := by
      rw [← pushes_app2]; rfl
    rw [e2] at step
    have e3 : tk + (tokOf (rowOf e).2).2.2.2 + tokSum (es.map rowOf) = tk + tokSum ((e :: es).map rowOf) := by
      rw [List.map_cons, tokSum]; omega
    rw [e3] at step
    exact step
end
/-- what follows the items in a table's statement -/
noncomputable def tailTab (id : Str) (tpos : Pos) (elts : List PySem.Expr) (lpos pos : Pos) (vs : List Value) : Sem Flow := do
  let v ← newList vs
  assignStores envC v (← swappedStores [.Name id tpos] (.List elts lpos) envC) ((assignEach [.Name id tpos] envC).map (·.2))
theorem exec_tab (id : Str) (tpos : Pos) (elts : List PySem.Expr) (lpos pos : Pos) : exec (.Assign [.Name id tpos] (.List elts lpos) pos) envC =
    (standAt pos >>= fun _ => standAt lpos >>= fun _ => spliced (backTo lpos (starEach elts envC)) >>= fun vs => tailTab id tpos elts lpos pos vs) := by
  rw [arm_exec_Assign]
  show Sem.bind _ _ = _
  rw [arm_eval_List]
  show Sem.bind (standAt pos) (fun _ => Sem.bind (Sem.bind (standAt lpos) fun _ => Sem.bind (spliced (backTo lpos (starEach elts envC))) fun vs => newList vs) _) = _
  simp only [Sem.bind_eq_wrap, Sem.bind_eq_wrap', Sem.wrap_wrap, tailTab]
  rfl
end Mine
end
section
open PySem PySem.W PyProof.Rows
namespace Mine
/-- the set holds the texts xs, each once, under the world's hashes -/
structure SetInv (P : Params) (xs : List Str) (es : Array (Int × Value)) (t : SetTable) : Prop where
  fits : t.fits es.size = true
  elems : ∀ e ∈ es.toList, ∃ x tk, x ∈ xs ∧ e = (PyData.keyHash P x, Value.str x tk)
  all : ∀ x ∈ xs, ∃ tk, (PyData.keyHash P x, Value.str x tk) ∈ es.toList
  size : es.size = xs.length
theorem SetInv.perm {P : Params} {xs : List Str} {es es' : Array (Int × Value)} {t t' : SetTable} (h : SetInv P xs es t) (hp : List.Perm es'.toList es.toList) (hf : t'.fits es'.size = true) : SetInv P xs es' t' :=
  ⟨hf, fun e he => h.elems e (hp.mem_iff.mp he), fun x hx => let ⟨tk, q⟩ := h.all x hx; ⟨tk, hp.mem_iff.mpr q⟩, by have := hp.length_eq; simp only [Array.length_toList] at this; rw [this, h.size]⟩
theorem SetInv.add {P : Params} {xs : List Str} {es es' : Array (Int × Value)} {t t' : SetTable} {x : Str} {tk : Tok} (h : SetInv P xs es t) (hp : List.Perm es'.toList (es.push (PyData.keyHash P x, .str x tk)).toList) (hf : t'.fits es'.size = true) : SetInv P (x :: xs) es' t' := by
  refine ⟨hf, fun e he => ?_, fun y hy => ?_, ?_⟩
  · have := hp.mem_iff.mp he
    rw [Array.toList_push, List.mem_append] at this
    rcases this with q | q
    · obtain ⟨y, tk', hy, e1⟩ := h.elems e q
      exact ⟨y, tk', .tail _ hy, e1⟩
    · rw [List.mem_singleton] at q
      exact ⟨x, tk, .head _, q⟩
  · rcases List.mem_cons.mp hy with rfl | hy
    · exact ⟨tk, hp.mem_iff.mpr (by rw [Array.toList_push]; exact List.mem_append_right _ (.head _))⟩
    · obtain ⟨tk', q⟩ := h.all y hy
      exact ⟨tk', hp.mem_iff.mpr (by rw [Array.toList_push]; exact List.mem_append_left _ q)⟩
  · have := hp.length_eq
    simp only [Array.length_toList, Array.size_push] at this
    rw [this, h.size, List.length_cons]
section
variable {p : Program} {w : World} {c : Code} {k : Result → Sem Fin} {g : Bool} {l : List Value} {b bc : List Stmt} {q : Pos} {kp : List Value} {os : OsState}
noncomputable abbrev hint7 : List Hint := [.no, .no, .no, .no, .no, .no, .no]
theorem hash_run (bb : Bool) (p : Program) (w : World) (n tk : Nat) (os : OsState) (x : Str) (t : Tok) (pos q : Pos) (gd : Bool → Bool) (lv : List Value → List Value) (k : Result → Sem Fin) (g : Bool) (l : List Value) (b bc : List Stmt) (kp : List Value) :
    xRun treeTable p (w.withFollow "special-get-raises" bb) [] n 2 hint7 ⟨[], #[], {}, tk, os⟩ ⟨(pyHash (.str x t)).wrap (fun i => .pure (.done (.ret (.int i 0)))) deadEnd gd lv, .body bc envC, pos, frB k g l b q kp⟩ =
      some (.ret (.int (PyData.keyHash w.params x) 0), ⟨[], #[], {}, tk + 1, os⟩, .body bc envC, pos, []) := by
  cases bb <;> kernel_rfl
theorem ev_hash {base : Heap} {tk : Nat} {x : Str} {t : Tok} (hn : 11 ≤ base.objs.size) : Ev treeTable p w 11 annM (.body bc envC) (frB k g l b q kp) 8 ⟨base, #[], {}, tk, os⟩ (pyHash (.str x t)) (PyData.keyHash w.params x) ⟨base, #[], {}, tk + 1, os⟩ := by
  have h := fun bb => fun gd lv pos => hash_run bb p w base.objs.size tk os x t pos q gd lv k g l b bc kp
  have e := World.withFollow_self w "special-get-raises"
  refine Ev.of_seg (k := 8) (res := fun i => Flow.ret (.int i 0)) rfl (fun a b e => by cases e; rfl) fun gd lv pos => ⟨pos, ?_⟩
  have hh := h (w.params.followText "special-get-raises") gd lv pos
  rw [e] at hh
  exact xRun_spec (n₀ := 11) (ann := annM) (S := ⟨[], #[], {}, tk, os⟩) (fun _ h => by cases h) hn hh (fun _ h => by cases h)
noncomputable abbrev stS (lA : List Obj) (es : Array (Int × Value)) (n : Nat) (t : SetTable) (tk : Nat) (os : OsState) : Shared := stL (lA ++ [setO es n t]) tk os
theorem stS_get (lA : List Obj) (es : Array (Int × Value)) (n : Nat) (t : SetTable) (tk : Nat) (os : OsState) : (stS lA es n t tk os).heap.get? lA.length = some (setO es n t) := by
  unfold stS stL Heap.get?
  simp [setO]
theorem stS_upd (lA : List Obj) (es es' : Array (Int × Value)) (n : Nat) (t t' : SetTable) (tk : Nat) (os : OsState) : { stS lA es n t tk os with heap := (stS lA es n t tk os).heap.update lA.length (Obj.putSet es' t') } = stS lA es' (n + 1) t' tk os := by
  show Shared.mk (Heap.mk ((lA ++ [setO es n t]).toArray.modify lA.length _) {}) _ _ _ _ = Shared.mk (Heap.mk _ {}) _ _ _ _
  congr 2
  apply Array.ext_getElem?
  intro i
  rw [Array.getElem?_modify]
  simp only [List.getElem?_toArray]
  by_cases h : lA.length = i
  · subst h
    simp [setO, Obj.putSet]
  · rw [if_neg h]
    by_cases hi : i < lA.length
    · rw [List.getElem?_append_left hi, List.getElem?_append_left hi]
    · rw [List.getElem?_eq_none (by simp; omega), List.getElem?_eq_none (by simp; omega)]
variable {lA : List Obj} {es : Array (Int × Value)} {n : Nat} {t : SetTable} {tk : Nat}
theorem ev_setState (hf : t.fits es.size = true) : Ev treeTable p w 11 annM c (frB k g l b q kp) 1 (stS lA es n t tk os) (setState lA.length) (es, n, t) (stS lA es n t tk os) := by
  unfold setState
  refine (Ev.bind (Ev.load (by simp) (stS_get ..)) (k := 0) (b := (es, n, t)) ?_)
  have hc : (t.place.size != es.size || decide (t.fill > t.mask)) = false := by
    simp only [SetTable.fits, Bool.and_eq_true, beq_iff_eq, decide_eq_true_eq] at hf
    simp [hf.1, Nat.not_lt.mpr hf.2]
  show Ev _ _ _ _ _ _ _ _ _ (if (t.place.size != es.size || decide (t.fill > t.mask)) = true then (unsupported _ : Sem _) else (Pure.pure (es, n, t) : Sem _)) _ _
  rw [hc]
  exact Ev.pure'
theorem ev_storeSet {es' : Array (Int × Value)} {t' : SetTable} (hA : 11 ≤ lA.length) (hz : es'.size ≤ sizeLine) : Ev treeTable p w 11 annM c (frB k g l b q kp) 2 (stS lA es n t tk os) (storeSet lA.length es' t') () (stS lA es' (n + 1) t' tk os) := by
  unfold storeSet
  refine (Ev.bind (Ev.load (by simp) (stS_get ..)) (k := 1) (b := ()) ?_)
  show Ev _ _ _ _ _ _ _ _ _ (if es'.size > sizeLine then (unsupported _ : Sem _) else PySem.update _ _) _ _
  rw [if_neg (Nat.not_lt.mpr hz), ← stS_upd (es := es) (n := n) (t := t)]
  exact Ev.update (by simp) (stS_get ..) hA
theorem ev_scan {x : Str} {tk' : Tok} {h : Int} {a : Addr} {s : Shared} (hs : ∀ e ∈ es.toList, ∃ y t, y ≠ x ∧ e.2 = Value.str y t) : setScan a (.str x tk') h true es = pure .absent := by
  have h1 : es.all (fun e => isExactStrKey e.2) = true := by
    rw [← Array.all_toList]
    refine List.all_eq_true.mpr fun e he => ?_
    obtain ⟨y, t, _, q⟩ := hs e he
    rw [q]; rfl
  have h2 : es.findIdx? (fun e => e.2.isStr x) = none := by
    rw [Array.findIdx?_eq_none_iff]
    intro e he
    obtain ⟨y, t, ne, q⟩ := hs e (Array.mem_toList_iff.mpr he)
    rw [q]
    show (y == x) = false
    exact beq_eq_false_iff_ne.mpr ne
  unfold setScan
  dsimp only
  rw [if_pos h1]
  unfold setScanStrs
  rw [h2]
theorem ev_addByScan {P : Params} {xs : List Str} {x : Str} {tk' : Tok} (hA : 11 ≤ lA.length) (I : SetInv P xs es t) (hx : x ∉ xs) (hl : xs.length < 100) :
    ∃ es' n' t', SetInv P (x :: xs) es' t' ∧ Ev treeTable p w 11 annM c (frB k g l b q kp) 12 (stS lA es n t tk os) (setAddByScan lA.length (.str x tk') (PyData.keyHash P x) es t) (some true) (stS lA es' n' t' tk os) := by
  have hs : ∀ e ∈ es.toList, ∃ y t, y ≠ x ∧ e.2 = Value.str y t := fun e he => by
    obtain ⟨y, t, hy, q⟩ := I.elems e he
    exact ⟨y, t, fun e => hx (e ▸ hy), by rw [q]⟩
  unfold setAddByScan
  rw [ev_scan (s := stS lA es n t tk os) hs]
  have hp := layNew_perm t es (PyData.keyHash P x) (.str x tk')
  have hf := layNew_fits t es (PyData.keyHash P x) (.str x tk')
  cases hn : layNew t es (PyData.keyHash P x) (.str x tk') with
  | mk es₁ r =>
    obtain ⟨t₁, wd, gv⟩ := r
    rw [hn] at hp hf
    dsimp only at hp hf
    have I₁ := I.add hp hf
    have hz : es₁.size ≤ sizeLine := by rw [I₁.size, List.length_cons, sizeLine_eq]; omega
    have gave : ∀ (gv : Bool) {s : Shared} {X : Bool → Sem Unit}, X true = PySem.rule "set.scan.the-table-gave-way" → X false = Pure.pure () → Ev treeTable p w 11 annM c (frB k g l b q kp) 1 s (X gv) () s := by
      intro gv s X h1 h2
      cases gv with
      | true => rw [h1]; exact Ev.rule (by simp)
      | false => rw [h2]; exact Ev.mono Ev.pure' (by omega)
    -- the table as it is stored
    have tail : ∀ t₂ : SetTable, t₂.fits es₁.size = true → ∃ es' n' t', SetInv P (x :: xs) es' t' ∧ ∀ X : Bool → Sem Unit, X true = PySem.rule "set.scan.the-table-gave-way" → X false = Pure.pure () → Ev treeTable p w 11 annM c (frB k g l b q kp) 5 (stS lA es n t tk os)
        (storeSet lA.length es₁ t₂ >>= fun _ =>
          if (!wd && t₂.tooFull) = true then
            X (relayAll t₂ es₁ (SetTable.grown es₁.size)).2.2 >>= fun _ => storeSet lA.length (relayAll t₂ es₁ (SetTable.grown es₁.size)).1 (relayAll t₂ es₁ (SetTable.grown es₁.size)).2.1 >>= fun _ => (pure (some true) : Sem (Option Bool))
          else pure (some true)) (some true) (stS lA es' n' t' tk os) := by
      intro t₂ f₂
      have I₂ : SetInv P (x :: xs) es₁ t₂ := ⟨f₂, I₁.elems, I₁.all, I₁.size⟩
      cases hq : (!wd && t₂.tooFull) with
      | false =>
        refine ⟨es₁, n + 1, t₂, I₂, fun X _ _ => Ev.bind (j := 2) (k := 3) (ev_storeSet hA hz) ?_⟩
        exact Ev.mono Ev.pure' (by omega)
      | true =>
        have rp := relayAll_perm t₂ es₁ (SetTable.grown es₁.size)
        have rf := relayAll_fits t₂ es₁ (SetTable.grown es₁.size)
        have I₃ := I₂.perm rp rf
        have hz₃ : (relayAll t₂ es₁ (SetTable.grown es₁.size)).1.size ≤ sizeLine := by rw [I₃.size, List.length_cons, sizeLine_eq]; omega
        refine ⟨_, n + 1 + 1, _, I₃, fun X h1 h2 => Ev.bind (j := 2) (k := 3) (ev_storeSet hA hz) ?_⟩
        rw [if_pos rfl]
        refine Ev.bind (j := 1) (k := 2) (gave _ h1 h2) ?_
        exact Ev.bind (j := 2) (k := 0) (ev_storeSet hA hz₃) Ev.pure'
    cases hpl : t₁.plain with
    | false =>
      obtain ⟨es', n', t', I', e⟩ := tail t₁ hf
      refine ⟨es', n', t', I', ?_⟩
      refine Ev.bind (j := 1) (k := 11) (Ev.rule (by simp)) ?_
      refine Ev.bind (j := 0) (k := 11) Ev.pure' ?_
      (try dsimp only)
      refine Ev.bind (j := 1) (k := 10) (gave gv rfl rfl) ?_
      rw [if_neg (by rw [hpl]; exact Bool.false_ne_true)]
      refine Ev.bind (j := 0) (k := 10) Ev.pure' ?_
      (try dsimp only)
      rw [if_pos rfl]
      exact Ev.mono (j := 5) (k := 10) (e _ rfl rfl) (by omega)
    | true =>
      obtain ⟨es', n', t', I', e⟩ := tail { t₁ with plain := false } hf
      refine ⟨es', n', t', I', ?_⟩
      refine Ev.bind (j := 1) (k := 11) (Ev.rule (by simp)) ?_
      refine Ev.bind (j := 0) (k := 11) Ev.pure' ?_
      (try dsimp only)
      refine Ev.bind (j := 1) (k := 10) (gave gv rfl rfl) ?_
      rw [if_pos hpl]
      refine Ev.bind (j := 0) (k := 10) (a := false) Ev.pure' ?_
      (try dsimp only)
      rw [if_neg Bool.false_ne_true]
      exact Ev.mono (j := 5) (k := 10) (e _ rfl rfl) (by omega)
theorem ev_setAdd {xs : List Str} {x : Str} {tk' : Tok} (hA : 11 ≤ lA.length) (I : SetInv w.params xs es t) (hx : x ∉ xs) (hl : xs.length < 100) :
    ∃ es' n' t', SetInv w.params (x :: xs) es' t' ∧ Ev treeTable p w 11 annM (.body bc envC) (frB k g l b q kp) 21 (stS lA es n t tk os) (setAdd lA.length (.str x tk')) true (stS lA es' n' t' (tk + 1) os) := by
  obtain ⟨es', n', t', I', e⟩ := ev_addByScan (p := p) (w := w) (c := .body bc envC) (k := k) (g := g) (l := l) (b := b) (q := q) (kp := kp) (os := os) (n := n) (tk := tk + 1) (tk' := tk') hA I hx hl
  refine ⟨es', n', t', I', ?_⟩
  unfold setAdd
  refine Ev.holding ?_
  refine Ev.bind (j := 8) (k := 13) (ev_hash (by show 11 ≤ (lA ++ [setO es n t]).toArray.size; simp; omega)) ?_
  unfold setAddHashed
  refine Ev.holding ?_
  rw [show (100000 : Nat) = 99999 + 1 from rfl]
  unfold setAddHashedIn
  refine Ev.bind (j := 1) (k := 12) (ev_setState I.fits) ?_
  have hb : byScan (.str x tk') es = true := by
    unfold byScan
    have h1 : es.size < scanBound := by rw [I.size]; show xs.length < 4096; omega
    have h2 : es.all (fun e => e.2.scannable) = true := by
      rw [← Array.all_toList]
      refine List.all_eq_true.mpr fun e he => ?_
      obtain ⟨y, t, _, q⟩ := I.elems e he
      rw [q]; rfl
    rw [h2, decide_eq_true h1]; rfl
  dsimp only
  rw [if_pos hb]
  exact Ev.bind (j := 12) (k := 0) e Ev.pure'
/-- the texts of a display one after another -/
theorem ev_fill (hA : 11 ≤ lA.length) : ∀ (ys : List (Str × Tok)) (xs : List Str) (es : Array (Int × Value)) (n : Nat) (t : SetTable) (tk : Nat), SetInv w.params xs es t → (ys.map (·.1)).Nodup → (∀ y ∈ ys, y.1 ∉ xs) → xs.length + ys.length < 100 →
    ∃ es' n' t', SetInv w.params ((ys.map (·.1)).reverse ++ xs) es' t' ∧ Ev treeTable p w 11 annM (.body bc envC) (frB k g l b q kp) (21 * ys.length) (stS lA es n t tk os)
      (forIn (ys.map fun y => Value.str y.1 y.2) PUnit.unit fun x (r : PUnit) => do let _ ← setAdd lA.length x; pure (ForInStep.yield PUnit.unit)) PUnit.unit (stS lA es' n' t' (tk + ys.length) os)
  | [], xs, es, n, t, tk, I, nd, hy, hl => ⟨es, n, t, I, by rw [List.map_nil, List.forIn_nil]; exact Ev.pure'⟩
  | y :: ys, xs, es, n, t, tk, I, nd, hy, hl => by
    rw [List.map_cons, List.nodup_cons] at nd
    rw [List.length_cons] at hl
    obtain ⟨es₁, n₁, t₁, I₁, e₁⟩ := ev_setAdd (p := p) (k := k) (g := g) (l := l) (b := b) (bc := bc) (q := q) (kp := kp) (os := os) (n := n) (tk := tk) (tk' := y.2) hA I (hy y (.head _)) (by omega)
    obtain ⟨es₂, n₂, t₂, I₂, e₂⟩ := ev_fill hA ys (y.1 :: xs) es₁ n₁ t₁ (tk + 1) I₁ nd.2 (fun z hz => by
      rw [List.mem_cons, not_or]
      exact ⟨fun e => nd.1 (e ▸ List.mem_map_of_mem hz), hy z (.tail _ hz)⟩) (by rw [List.length_cons]; omega)
    refine ⟨es₂, n₂, t₂, by rw [List.map_cons, List.reverse_cons, List.append_assoc]; exact I₂, ?_⟩
    rw [List.map_cons, List.forIn_cons]
    have e3 : tk + (y :: ys).length = tk + 1 + ys.length := by rw [List.length_cons]; omega
    have e4 : 21 * (y :: ys).length = (21 + 0) + 21 * ys.length := by rw [List.length_cons]; omega
    rw [e3, e4]
    exact Ev.bind (Ev.bind e₁ Ev.pure') e₂
end
end Mine
end
section
open PySem PySem.W PyProof.Rows
namespace Mine
noncomputable def eltsS : Stmt → List PySem.Expr
  | .Assign _ (.Set es _ _) _ => es
  | _ => []
noncomputable def strOf : PySem.Expr → Str × Pos
  | .Constant (.str s) _ p => (s, p)
  | _ => (Str.ofString "", q0)
noncomputable def gvRows : List (Str × Pos) := (eltsS (st2 6 0)).map strOf
noncomputable def gvNames : List Str := gvRows.map (·.1)
noncomputable abbrev mkC (y : Str × Pos) : PySem.Expr := .Constant (.str y.1) 0 y.2
theorem gv_elts : eltsS (st2 6 0) = gvRows.map mkC := by kernel_rfl
theorem eval_C (y : Str × Pos) : eval (mkC y) envC = (PySem.fresh >>= fun t => pure (Value.str y.1 t)) := by kernel_rfl
section
variable {p : Program} {w : World} {c : Code} {k : Result → Sem Fin} {g : Bool} {l : List Value} {b bc : List Stmt} {q : Pos} {kp : List Value} {os : OsState} {lA : List Obj} {es : Array (Int × Value)} {n : Nat} {t : SetTable} {tk : Nat}
noncomputable def tksFrom (tk : Nat) : List (Str × Pos) → List (Str × Tok)
  | [] => []
  | y :: r => (y.1, tk) :: tksFrom (tk + 1) r
theorem tks_len (ys : List (Str × Pos)) : ∀ tk, (tksFrom tk ys).length = ys.length := by
  induction ys with
  | nil => intro; rfl
  | cons y r ih => intro tk; rw [tksFrom, List.length_cons, List.length_cons, ih]
theorem tks_names (ys : List (Str × Pos)) : ∀ tk, (tksFrom tk ys).map (·.1) = ys.map (·.1) := by
  induction ys with
  | nil => intro; rfl
  | cons y r ih => intro tk; rw [tksFrom, List.map_cons, List.map_cons, ih]
theorem star_C (ys : List (Str × Pos)) : starEach (ys.map mkC) envC = ys.map fun y => (false, eval (mkC y) envC) := by
  induction ys with
  | nil => rfl
  | cons y r ih =>
    rw [List.map_cons, List.map_cons, ← ih]
    rfl
theorem ev_consts (pos : Pos) : ∀ (ys : List (Str × Pos)) (tk : Nat), Ev treeTable p w 11 annM c (frB k g l b q kp) (2 * ys.length) (stS lA es n t tk os)
    (evalAll (ys.map fun y => do let v ← eval (mkC y) envC; standAt pos; pure v)) ((tksFrom tk ys).map fun y => Value.str y.1 y.2) (stS lA es n t (tk + ys.length) os)
  | [], tk => Ev.pure
  | y :: ys, tk => by
    rw [List.map_cons, evalAll, tksFrom, List.map_cons, List.length_cons, eval_C]
    have e1 : 2 * (ys.length + 1) = ((1 + 0) + (1 + 0)) + (2 * ys.length + 0) := by omega
    have e2 : tk + (ys.length + 1) = tk + 1 + ys.length := by omega
    rw [e1, e2]
    refine Ev.bind (a := Value.str y.1 tk) (s' := stS lA es n t (tk + 1) os) (Ev.bind (Ev.bind (Ev.fresh (by simp)) Ev.pure') (Ev.bind (Ev.standAt (by simp)) Ev.pure')) ?_
    exact Ev.bind (Ev.holding (ev_consts pos ys (tk + 1))) Ev.pure'
theorem ev_unled {xs : List Str} {P : Params} (hA : 11 ≤ lA.length) (I : SetInv P xs es t) (hl : xs.length < 100) : Ev treeTable p w 11 annM c (frB k g l b q kp) 3 (stS lA es n t tk os) (setUnled lA.length) () (stS lA es (n + 1) { t with led := false } tk os) := by
  unfold setUnled
  refine Ev.bind (j := 1) (k := 2) (ev_setState I.fits) ?_
  exact ev_storeSet hA (by rw [I.size, sizeLine_eq]; omega)
/-- a display of eight texts or so, none twice -/
theorem ev_display (hA : 11 ≤ lA.length) (bb : Bool) (pos : Pos) (ys : List (Str × Pos)) (nd : (ys.map (·.1)).Nodup) (hl : ys.length ≤ 30) :
    ∃ es n t, SetInv w.params (ys.map (·.1)).reverse es t ∧ Ev treeTable p w 11 annM (.body bc envC) (frB k g l b q kp) (6 + 23 * ys.length) (stL lA tk os)
      (setDisplay .unsure bb ((starEach (ys.map mkC) envC).map fun (star, t) => (star, do let v ← t; standAt pos; pure v))) (.ref lA.length) (stS lA es n t (tk + 2 * ys.length) os) := by
  have I0 : SetInv w.params [] #[] (SetTable.fresh 0 0 (!w.params.followText "set-order")) := ⟨rfl, fun e he => (by simp at he), fun x hx => (by cases hx), rfl⟩
  obtain ⟨es₁, n₁, t₁, I₁, e₁⟩ := ev_fill (p := p) (w := w) (k := k) (g := g) (l := l) (b := b) (bc := bc) (q := q) (kp := kp) (os := os) (lA := lA) hA (tksFrom tk ys) [] #[] 0 _ (tk + ys.length) I0 (by rw [tks_names]; exact nd) (fun _ _ h => by cases h) (by rw [tks_len, List.length_nil]; omega)
  rw [tks_names, List.append_nil] at I₁
  rw [tks_len] at e₁
  have hl₁ : (ys.map (·.1)).reverse.length < 100 := by rw [List.length_reverse, List.length_map]; omega
  refine ⟨es₁, n₁ + 1, { t₁ with led := false }, ⟨I₁.fits, I₁.elems, I₁.all, I₁.size⟩, ?_⟩
  unfold setDisplay
  rw [if_neg (by decide)]
  have hnew : Ev treeTable p w 11 annM (.body bc envC) (frB k g l b q kp) 2 (stL lA tk os) (newSet (.type "set")) (.ref lA.length) (stS lA #[] 0 (SetTable.fresh 0 0 (!w.params.followText "set-order")) tk os) := by
    unfold newSet setsByText
    refine Ev.bind (j := 1) (k := 1) (a := w.params.followText "set-order") (Ev.bind (j := 1) (k := 0) (Ev.ask (by simp)) Ev.pure') ?_
    have := Ev.alloc (tb := treeTable) (p := p) (w := w) (n₀ := 11) (ann := annM) (c := .body bc envC) (B := frB k g l b q kp) (s := stL lA tk os) (by simp) (o := setO #[] 0 (SetTable.fresh 0 0 (!w.params.followText "set-order")))
    have e : { stL lA tk os with heap := (stL lA tk os).heap.push (setO #[] 0 (SetTable.fresh 0 0 (!w.params.followText "set-order"))) } = stS lA #[] 0 (SetTable.fresh 0 0 (!w.params.followText "set-order")) tk os := by
      show Shared.mk (Heap.mk (lA.toArray.push _) {}) _ _ _ _ = Shared.mk (Heap.mk (lA ++ [_]).toArray {}) _ _ _ _
      congr 2
      simp
    rw [e, show (stL lA tk os).heap.objs.size = lA.length from List.size_toArray ..] at this
    exact Ev.bind (j := 1) (k := 0) this Ev.pure'
  refine Ev.mono (j := 2 + (2 * ys.length + ((21 * ys.length + (1 + 3)) + 0))) ?_ (by omega)
  refine Ev.bind hnew ?_
  have hE : (starEach (ys.map mkC) envC).map (fun (x : Bool × Sem Value) => match x with | (star, t) => (star, (do let v ← t; standAt pos; pure v : Sem Value))) = ys.map fun y => (false, (do let v ← eval (mkC y) envC; standAt pos; pure v : Sem Value)) := by
    rw [star_C, List.map_map]
    rfl
  rw [hE]
  have hN : (if (ys.map fun y => (false, (do let v ← eval (mkC y) envC; standAt pos; pure v : Sem Value))).length > 30 then 0 else (List.findIdx? (fun x => x.1) (ys.map fun y => (false, (do let v ← eval (mkC y) envC; standAt pos; pure v : Sem Value)))).getD (ys.map fun y => (false, (do let v ← eval (mkC y) envC; standAt pos; pure v : Sem Value))).length) = ys.length := by
    rw [List.length_map, if_neg (by omega)]
    have : List.findIdx? (fun x => x.1) (ys.map fun y => (false, (do let v ← eval (mkC y) envC; standAt pos; pure v : Sem Value))) = none := by
      rw [List.findIdx?_eq_none_iff]
      intro x hx
      obtain ⟨y, _, rfl⟩ := List.mem_map.mp hx
      rfl
    rw [this]; rfl
  dsimp only
  rw [hN, List.take_of_length_le (by rw [List.length_map]; omega), List.drop_eq_nil_of_le (by rw [List.length_map]; omega), List.map_map]
  refine Ev.bind (j := 2 * ys.length + ((21 * ys.length + (1 + 3)) + 0)) (k := 0) (a := ()) (s' := stS lA es₁ (n₁ + 1) { t₁ with led := false } (tk + 2 * ys.length) os) (Ev.holding ?_) Ev.pure'
  refine Ev.bind (ev_consts pos ys tk) ?_
  refine Ev.bind (j := 21 * ys.length + (1 + 3)) (k := 0) (a := ()) (s' := stS lA es₁ (n₁ + 1) { t₁ with led := false } (tk + 2 * ys.length) os) (Ev.holding ?_) (Ev.bind (j := 0) (k := 0) (a := PUnit.unit) (by rw [List.forIn_nil]; exact Ev.pure') Ev.pure')
  have e2 : tk + ys.length + ys.length = tk + 2 * ys.length := by omega
  rw [e2] at e₁
  refine Ev.bind e₁ ?_
  rw [if_pos (by decide)]
  exact Ev.bind (Ev.rule (by simp)) (ev_unled hA I₁ hl₁)
end
end Mine
end
section
open PySem PySem.W PyProof.Rows
namespace Mine
noncomputable def resB : Bool → Flow := fun b => .ret (.bool b)
noncomputable def mainRun0 (p : Program) (w : World) (os : OsState) (tk : Nat) : Option (Flow × SharedT × Code × Pos) :=
  segRunT treeTable p w 11 annM 2 3 (stT (LSA w.params) 230 tk os) ⟨(inMainModule envC).wrap (fun b => .pure (.done (resB b))) deadEnd id id, cC, posC, frB (fun _ => .unsupported "") false [] [] q0 []⟩
noncomputable def mainB (p : Program) (w : World) (os : OsState) (tk : Nat) : Bool := match mainRun0 p w os tk with
  | some (.ret (.bool b), _) => b
  | _ => false
theorem main_run (p : Program) (w : World) (os : OsState) (tk : Nat) (gd : Bool → Bool) (lv : List Value → List Value) (pos q : Pos) (k : Result → Sem Fin) (g : Bool) (l : List Value) (b bc : List Stmt) (kp : List Value) :
    segRunT treeTable p w 11 annM 2 3 (stT (LSA w.params) 230 tk os) ⟨(inMainModule envC).wrap (fun b => .pure (.done (resB b))) deadEnd gd lv, .body bc envC, pos, frB k g l b q kp⟩ =
      some (resB (mainB p w os tk), stT (LSA w.params) 230 tk os, .body bc envC, pos) := by kernel_rfl
theorem lenSA (P : Params) : (LSA P).length = 230 := by kernel_rfl
theorem ev_main {p : Program} {w : World} {os : OsState} {tk : Nat} {q : Pos} {k : Result → Sem Fin} {g : Bool} {l : List Value} {b bc : List Stmt} {kp : List Value} :
    Ev treeTable p w 11 annM (.body bc envC) (frB k g l b q kp) 3 (stL (LSA w.params) tk os) (inMainModule envC) (mainB p w os tk) (stL (LSA w.params) tk os) := by
  refine Ev.of_seg (res := resB) rfl (fun a b e => by cases e; rfl) fun gd lv pos => ⟨pos, ?_⟩
  have := segRun_of (main_run p w os tk gd lv pos q k g l b bc kp)
  rwa [stT_abs (lenSA _) (by omega)] at this
theorem gv_nodup : (gvRows.map (·.1)).Nodup := by
  have : decide ((gvRows.map (·.1)).Nodup) = true := by kernel_rfl
  exact of_decide_eq_true this
theorem gv_len : gvRows.length = 8 := by kernel_rfl
theorem gv_road : displayRoad 0 (gvRows.map mkC) = .unsure := by kernel_rfl
/-- what follows the display -/
noncomputable def tailG (id : Str) (tpos : Pos) (e : PySem.Expr) (v : Value) : Sem Flow := do
  assignStores envC v (← swappedStores [.Name id tpos] e envC) ((assignEach [.Name id tpos] envC).map (·.2))
theorem exec_set (id : Str) (tpos : Pos) (elts : List PySem.Expr) (k : Nat) (lpos pos : Pos) : exec (.Assign [.Name id tpos] (.Set elts k lpos) pos) envC =
    (standAt pos >>= fun _ => eval (.Set elts k lpos) envC >>= fun v => tailG id tpos (.Set elts k lpos) v) := by
  rw [arm_exec_Assign]
  rfl
theorem st60 : st2 6 0 = .Assign [.Name (Str.ofString "g_v") ⟨156, 4, 156, 7⟩] (.Set (gvRows.map mkC) 0 ⟨156, 10, 156, 58⟩) ⟨156, 4, 156, 58⟩ := by kernel_rfl
theorem tail_set (p : Program) (w : World) (os : OsState) (es : Array (Int × Value)) (n : Nat) (t : SetTable) (gd : Bool → Bool) (lv : List Value → List Value) (pos q : Pos) (k : Result → Sem Fin) (g : Bool) (l : List Value) (b bc : List Stmt) (kp : List Value) :
    segRunT treeTable p w 11 annM 2 9 (stT (LSA w.params ++ [setO es n t]) 231 489 os) ⟨(tailG (Str.ofString "g_v") ⟨156, 4, 156, 7⟩ (.Set (gvRows.map mkC) 0 ⟨156, 10, 156, 58⟩) (.ref 230)).wrap doneF deadEnd gd lv, .body bc envC, pos, frB k g l b q kp⟩ =
      some (.next, stT (LSB w.params es n t) 231 490 os, .body bc envC, ⟨156, 4, 156, 7⟩) := by kernel_rfl
section
variable {p : Program} {w : World} {os : OsState} {q : Pos} {k : Result → Sem Fin} {g : Bool} {l : List Value} {b bc : List Stmt} {kp : List Value}
theorem ev_set : ∃ es n t, SetInv w.params gvNames.reverse es t ∧
    Ev treeTable p w 11 annM (.body bc envC) (frB k g l b q kp) 214 (stL (LSA w.params) 473 os) (exec (st2 6 0) envC) .next (stL (LSB w.params es n t) 490 os) := by
  obtain ⟨es, n, t, I, e⟩ := ev_display (p := p) (w := w) (k := k) (g := g) (l := l) (b := b) (bc := bc) (q := q) (kp := kp) (os := os) (lA := LSA w.params) (tk := 473) (by rw [lenSA]; omega) (mainB p w os 473) ⟨156, 10, 156, 58⟩ gvRows gv_nodup (by rw [gv_len]; omega)
  refine ⟨es, n, t, I, ?_⟩
  rw [st60, exec_set, arm_eval_Set, gv_road]
  rw [gv_len, lenSA] at e
  refine Ev.bind (j := 1) (k := 213) (Ev.standAt (by simp)) ?_
  refine Ev.bind (j := 204) (k := 9) (a := .ref 230) (s' := stS (LSA w.params) es n t 489 os) ?_ ?_
  · refine Ev.mono (j := 1 + (3 + (6 + 23 * 8))) ?_ (by omega)
    exact Ev.bind (Ev.standAt (by simp)) (Ev.bind ev_main e)
  · refine Ev.of_seg (res := id) rfl (fun a b e => e) fun gd lv pos => ⟨⟨156, 4, 156, 7⟩, ?_⟩
    have := segRun_of (tail_set p w os es n t gd lv pos q k g l b bc kp)
    rw [stT_abs (by rw [List.length_append, lenSA]; rfl) (by omega)] at this
    have hB : (LSB w.params es n t).length = 231 := by
      show (((LSA w.params).set 225 _) ++ [_]).length = 231
      rw [List.length_append, List.length_set, lenSA]; rfl
    rw [stT_abs hB (by omega)] at this
    exact this
end
end Mine
end
section
open PySem PySem.W PyProof.Rows
namespace Mine
noncomputable def midC : List Stmt := ((blockOfC (st 6)).drop 1).take 8
theorem block_is : blockOfC (st 6) = st2 6 0 :: (midC ++ [st2 6 9, st2 6 10, st2 6 11, st2 6 12]) := by kernel_rfl
theorem mid_run (p : Program) (w : World) (os : OsState) (es : Array (Int × Value)) (n : Nat) (t : SetTable) (gd : Bool → Bool) (lv : List Value → List Value) (pos q : Pos) (k : Result → Sem Fin) (g : Bool) (l : List Value) (b bc : List Stmt) (kp : List Value) :
    segRunT treeTable p w 11 annM 2 207 (stT (LSB w.params es n t) 231 490 os) ⟨(execs midC envC).wrap doneF deadEnd gd lv, .body bc envC, pos, frB k g l b q kp⟩ =
      some (.next, stT (LSC w.params es n t) 273 542 os, .body bc envC, ⟨218, 4, 240, 19⟩) := by kernel_rfl
theorem lenSB (P : Params) (es : Array (Int × Value)) (n : Nat) (t : SetTable) : (LSB P es n t).length = 231 := by kernel_rfl
theorem lenSC (P : Params) (es : Array (Int × Value)) (n : Nat) (t : SetTable) : (LSC P es n t).length = 273 := by kernel_rfl
theorem lenSD0 (P : Params) (es : Array (Int × Value)) (n : Nat) (t : SetTable) : (LSD0 P es n t).length = 343 := by kernel_rfl
theorem lenSD1 (P : Params) (es : Array (Int × Value)) (n : Nat) (t : SetTable) : (LSD1 P es n t).length = 557 := by kernel_rfl
theorem lenSD2 (P : Params) (es : Array (Int × Value)) (n : Nat) (t : SetTable) : (LSD2 P es n t).length = 678 := by kernel_rfl
theorem lenSD3 (P : Params) (es : Array (Int × Value)) (n : Nat) (t : SetTable) : (LSD3 P es n t).length = 850 := by kernel_rfl
theorem get_list {l : List Obj} {a : Nat} {o : Obj} (h : l[a]? = some o) (al : alive o = some o) : (⟨l.toArray, {}⟩ : Heap).get? a = some o := by
  unfold Heap.get?
  rw [List.getElem?_toArray, h]
  obtain ⟨c, d, dt, sl⟩ := o
  cases dt <;> first | rfl | cases al
theorem pushes_list (l r : List Obj) : pushes ⟨l.toArray, {}⟩ r = ⟨(l ++ r).toArray, {}⟩ := by
  have e1 := pushes_objs r ⟨l.toArray, {}⟩
  have e2 := pushes_life r ⟨l.toArray, {}⟩
  generalize pushes ⟨l.toArray, {}⟩ r = H at *
  obtain ⟨o, li⟩ := H
  dsimp only at e1 e2
  subst e2
  rw [e1]
  simp
theorem known_in {l : List Obj} {kn : List (Nat × Obj)} (h1 : kn.map (fun x => l[x.1]?) = kn.map (fun x => some x.2)) (h2 : kn.map (fun x => alive x.2) = kn.map (fun x => some x.2)) : ∀ x ∈ kn, (⟨l.toArray, {}⟩ : Heap).get? x.1 = some x.2 :=
  fun x hx => get_list (List.map_inj_left.mp h1 x hx) (List.map_inj_left.mp h2 x hx)
section
variable {tb : String → Option Builtin} {p : Program} {w : World} {n₀ : Nat} {ann : Option Value} {c : Code} {B : List Frame} {j k : Nat} {s s' s'' : Shared} {env : Env}
theorem Ev.execs_nil : Ev tb p w n₀ ann c B 0 s (execs [] env) .next s := Ev.pure'
theorem Ev.execs_cons {st : Stmt} {rest : List Stmt} (h : Ev tb p w n₀ ann c B j s (exec st env) .next s') (r : Ev tb p w n₀ ann c B k s' (execs rest env) .next s'') : Ev tb p w n₀ ann c B (j + k) s (execs (st :: rest) env) .next s'' := fun K H gd lv pos => by
  rw [execs_cons_wrap]
  obtain ⟨pos', q⟩ := h (fun f => match f with | .next => (execs rest env).wrap K H gd lv | f => K f) H gd lv pos
  obtain ⟨pos'', q'⟩ := r K H gd lv pos'
  exact ⟨pos'', q.trans q'⟩
theorem Ev.execs_app {a rest : List Stmt} (h : Ev tb p w n₀ ann c B j s (execs a env) .next s') (r : Ev tb p w n₀ ann c B k s' (execs rest env) .next s'') : Ev tb p w n₀ ann c B (j + k) s (execs (a ++ rest) env) .next s'' := fun K H gd lv pos => by
  rw [execs_app_wrap]
  obtain ⟨pos', q⟩ := h (fun f => match f with | .next => (execs rest env).wrap K H gd lv | f => K f) H gd lv pos
  obtain ⟨pos'', q'⟩ := r K H gd lv pos'
  exact ⟨pos'', q.trans q'⟩
end
theorem st69 : st2 6 9 = .Assign [.Name (Str.ofString "a_0") ⟨241, 4, 241, 7⟩] (.List (eltsOf (st2 6 (9 + 0))) ⟨241, 10, 241, 575⟩) ⟨241, 4, 241, 575⟩ := by kernel_rfl
theorem elts0_rows : (eltsOf (st2 6 (9 + 0))).all isRow = true := by kernel_rfl
theorem elts0_len : (eltsOf (st2 6 (9 + 0))).length = 23 := by kernel_rfl
theorem toks0 : tokSum (rows 0) = 317 := by kernel_rfl
theorem known0 (P : Params) (es : Array (Int × Value)) (n : Nat) (t : SetTable) : (known P (o225_SC P)).map (fun x => (LSC P es n t)[x.1]?) = (known P (o225_SC P)).map (fun x => some x.2) := by kernel_rfl
theorem knownA0 (P : Params) : (known P (o225_SC P)).map (fun x => alive x.2) = (known P (o225_SC P)).map (fun x => some x.2) := by kernel_rfl
theorem tail0 (p : Program) (w : World) (os : OsState) (es : Array (Int × Value)) (n : Nat) (t : SetTable) (gd : Bool → Bool) (lv : List Value → List Value) (pos q : Pos) (k : Result → Sem Fin) (g : Bool) (l : List Value) (b bc : List Stmt) (kp : List Value) :
    segRunT treeTable p w 11 annM 2 10 (stT (LSC w.params es n t ++ tabObjs w.params 273 542 (rows 0)) 342 859 os) ⟨(tailTab (Str.ofString "a_0") ⟨241, 4, 241, 7⟩ (eltsOf (st2 6 (9 + 0))) ⟨241, 10, 241, 575⟩ ⟨241, 4, 241, 575⟩ (refsFrom 273 23)).wrap doneF deadEnd gd lv, .body bc envC, pos, frB k g l b q kp⟩ =
      some (.next, stT (LSD0 w.params es n t) 343 860 os, .body bc envC, ⟨241, 4, 241, 7⟩) := by kernel_rfl
theorem tabLen0 (P : Params) : (tabObjs P 273 542 (rows 0)).length = 342 - 273 := by kernel_rfl
theorem ev_tab0 {p : Program} {w : World} {os : OsState} {es : Array (Int × Value)} {n : Nat} {t : SetTable} {q : Pos} {k : Result → Sem Fin} {g : Bool} {l : List Value} {b bc : List Stmt} {kp : List Value} :
    Ev treeTable p w 11 annM (.body bc envC) (frB k g l b q kp) (2 + (171 * 23 + 10)) (stL (LSC w.params es n t) 542 os) (exec (st2 6 9) envC) .next (stL (LSD0 w.params es n t) 860 os) := by
  rw [st69, exec_tab]
  have e := ev_rows (p := p) (w := w) (o := o225_SC w.params) (k := k) (g := g) (l := l) (b := b) (bc := bc) (q := q) (kp := kp) (os := os) (gens := #[]) (drawn := {}) (goesN_SC p w) (goesP_SC p w) ⟨241, 10, 241, 575⟩ (eltsOf (st2 6 (9 + 0))) ⟨(LSC w.params es n t).toArray, {}⟩ 542
    (known_in (known0 w.params es n t) (knownA0 w.params)) (by show 11 ≤ (LSC w.params es n t).toArray.size; rw [List.size_toArray, lenSC]; omega) (fun e he => List.all_eq_true.mp elts0_rows e he)
  have e0 : (⟨(LSC w.params es n t).toArray, {}⟩ : Heap).objs.size = 273 := by show (LSC w.params es n t).toArray.size = _; rw [List.size_toArray, lenSC]
  rw [e0, elts0_len, pushes_list] at e
  rw [show (eltsOf (st2 6 (9 + 0))).map rowOf = rows 0 from rfl, toks0] at e
  refine Ev.mono (j := 1 + (1 + (171 * 23 + 10))) ?_ (by omega)
  refine Ev.bind (Ev.standAt (by simp)) (Ev.bind (Ev.standAt (by simp)) (Ev.bind e ?_))
  refine Ev.of_seg (res := _root_.id) rfl (fun a b e => e) fun gd lv pos => ⟨⟨241, 4, 241, 7⟩, ?_⟩
  have r := segRun_of (tail0 p w os es n t gd lv pos q k g l b bc kp)
  rw [stT_abs (by rw [List.length_append, lenSC, tabLen0]) (by omega), stT_abs (lenSD0 _ _ _ _) (by omega)] at r
  exact r
theorem st610 : st2 6 10 = .Assign [.Name (Str.ofString "a_1") ⟨242, 4, 242, 7⟩] (.List (eltsOf (st2 6 (9 + 1))) ⟨242, 10, 242, 1819⟩) ⟨242, 4, 242, 1819⟩ := by kernel_rfl
theorem elts1_rows : (eltsOf (st2 6 (9 + 1))).all isRow = true := by kernel_rfl
theorem elts1_len : (eltsOf (st2 6 (9 + 1))).length = 71 := by kernel_rfl
theorem toks1 : tokSum (rows 1) = 959 := by kernel_rfl
theorem known1 (P : Params) (es : Array (Int × Value)) (n : Nat) (t : SetTable) : (known P (o225_SD0 P)).map (fun x => (LSD0 P es n t)[x.1]?) = (known P (o225_SD0 P)).map (fun x => some x.2) := by kernel_rfl
theorem knownA1 (P : Params) : (known P (o225_SD0 P)).map (fun x => alive x.2) = (known P (o225_SD0 P)).map (fun x => some x.2) := by kernel_rfl
theorem tail1 (p : Program) (w : World) (os : OsState) (es : Array (Int × Value)) (n : Nat) (t : SetTable) (gd : Bool → Bool) (lv : List Value → List Value) (pos q : Pos) (k : Result → Sem Fin) (g : Bool) (l : List Value) (b bc : List Stmt) (kp : List Value) :
    segRunT treeTable p w 11 annM 2 10 (stT (LSD0 w.params es n t ++ tabObjs w.params 343 860 (rows 1)) 556 1819 os) ⟨(tailTab (Str.ofString "a_1") ⟨242, 4, 242, 7⟩ (eltsOf (st2 6 (9 + 1))) ⟨242, 10, 242, 1819⟩ ⟨242, 4, 242, 1819⟩ (refsFrom 343 71)).wrap doneF deadEnd gd lv, .body bc envC, pos, frB k g l b q kp⟩ =
      some (.next, stT (LSD1 w.params es n t) 557 1820 os, .body bc envC, ⟨242, 4, 242, 7⟩) := by kernel_rfl
theorem tabLen1 (P : Params) : (tabObjs P 343 860 (rows 1)).length = 556 - 343 := by kernel_rfl
theorem ev_tab1 {p : Program} {w : World} {os : OsState} {es : Array (Int × Value)} {n : Nat} {t : SetTable} {q : Pos} {k : Result → Sem Fin} {g : Bool} {l : List Value} {b bc : List Stmt} {kp : List Value} :
    Ev treeTable p w 11 annM (.body bc envC) (frB k g l b q kp) (2 + (171 * 71 + 10)) (stL (LSD0 w.params es n t) 860 os) (exec (st2 6 10) envC) .next (stL (LSD1 w.params es n t) 1820 os) := by
  rw [st610, exec_tab]
  have e := ev_rows (p := p) (w := w) (o := o225_SD0 w.params) (k := k) (g := g) (l := l) (b := b) (bc := bc) (q := q) (kp := kp) (os := os) (gens := #[]) (drawn := {}) (goesN_SD0 p w) (goesP_SD0 p w) ⟨242, 10, 242, 1819⟩ (eltsOf (st2 6 (9 + 1))) ⟨(LSD0 w.params es n t).toArray, {}⟩ 860
    (known_in (known1 w.params es n t) (knownA1 w.params)) (by show 11 ≤ (LSD0 w.params es n t).toArray.size; rw [List.size_toArray, lenSD0]; omega) (fun e he => List.all_eq_true.mp elts1_rows e he)
  have e0 : (⟨(LSD0 w.params es n t).toArray, {}⟩ : Heap).objs.size = 343 := by show (LSD0 w.params es n t).toArray.size = _; rw [List.size_toArray, lenSD0]
  rw [e0, elts1_len, pushes_list] at e
  rw [show (eltsOf (st2 6 (9 + 1))).map rowOf = rows 1 from rfl, toks1] at e
  refine Ev.mono (j := 1 + (1 + (171 * 71 + 10))) ?_ (by omega)
  refine Ev.bind (Ev.standAt (by simp)) (Ev.bind (Ev.standAt (by simp)) (Ev.bind e ?_))
  refine Ev.of_seg (res := _root_.id) rfl (fun a b e => e) fun gd lv pos => ⟨⟨242, 4, 242, 7⟩, ?_⟩
  have r := segRun_of (tail1 p w os es n t gd lv pos q k g l b bc kp)
  rw [stT_abs (by rw [List.length_append, lenSD0, tabLen1]) (by omega), stT_abs (lenSD1 _ _ _ _) (by omega)] at r
  exact r
theorem st611 : st2 6 11 = .Assign [.Name (Str.ofString "a_2") ⟨243, 4, 243, 7⟩] (.List (eltsOf (st2 6 (9 + 2))) ⟨243, 10, 243, 988⟩) ⟨243, 4, 243, 988⟩ := by kernel_rfl
theorem elts2_rows : (eltsOf (st2 6 (9 + 2))).all isRow = true := by kernel_rfl
theorem elts2_len : (eltsOf (st2 6 (9 + 2))).length = 40 := by kernel_rfl
theorem toks2 : tokSum (rows 2) = 541 := by kernel_rfl
theorem known2 (P : Params) (es : Array (Int × Value)) (n : Nat) (t : SetTable) : (known P (o225_SD1 P)).map (fun x => (LSD1 P es n t)[x.1]?) = (known P (o225_SD1 P)).map (fun x => some x.2) := by kernel_rfl
theorem knownA2 (P : Params) : (known P (o225_SD1 P)).map (fun x => alive x.2) = (known P (o225_SD1 P)).map (fun x => some x.2) := by kernel_rfl
theorem tail2 (p : Program) (w : World) (os : OsState) (es : Array (Int × Value)) (n : Nat) (t : SetTable) (gd : Bool → Bool) (lv : List Value → List Value) (pos q : Pos) (k : Result → Sem Fin) (g : Bool) (l : List Value) (b bc : List Stmt) (kp : List Value) :
    segRunT treeTable p w 11 annM 2 10 (stT (LSD1 w.params es n t ++ tabObjs w.params 557 1820 (rows 2)) 677 2361 os) ⟨(tailTab (Str.ofString "a_2") ⟨243, 4, 243, 7⟩ (eltsOf (st2 6 (9 + 2))) ⟨243, 10, 243, 988⟩ ⟨243, 4, 243, 988⟩ (refsFrom 557 40)).wrap doneF deadEnd gd lv, .body bc envC, pos, frB k g l b q kp⟩ =
      some (.next, stT (LSD2 w.params es n t) 678 2362 os, .body bc envC, ⟨243, 4, 243, 7⟩) := by kernel_rfl
theorem tabLen2 (P : Params) : (tabObjs P 557 1820 (rows 2)).length = 677 - 557 := by kernel_rfl
theorem ev_tab2 {p : Program} {w : World} {os : OsState} {es : Array (Int × Value)} {n : Nat} {t : SetTable} {q : Pos} {k : Result → Sem Fin} {g : Bool} {l : List Value} {b bc : List Stmt} {kp : List Value} :
    Ev treeTable p w 11 annM (.body bc envC) (frB k g l b q kp) (2 + (171 * 40 + 10)) (stL (LSD1 w.params es n t) 1820 os) (exec (st2 6 11) envC) .next (stL (LSD2 w.params es n t) 2362 os) := by
  rw [st611, exec_tab]
  have e := ev_rows (p := p) (w := w) (o := o225_SD1 w.params) (k := k) (g := g) (l := l) (b := b) (bc := bc) (q := q) (kp := kp) (os := os) (gens := #[]) (drawn := {}) (goesN_SD1 p w) (goesP_SD1 p w) ⟨243, 10, 243, 988⟩ (eltsOf (st2 6 (9 + 2))) ⟨(LSD1 w.params es n t).toArray, {}⟩ 1820
    (known_in (known2 w.params es n t) (knownA2 w.params)) (by show 11 ≤ (LSD1 w.params es n t).toArray.size; rw [List.size_toArray, lenSD1]; omega) (fun e he => List.all_eq_true.mp elts2_rows e he)
  have e0 : (⟨(LSD1 w.params es n t).toArray, {}⟩ : Heap).objs.size = 557 := by show (LSD1 w.params es n t).toArray.size = _; rw [List.size_toArray, lenSD1]
  rw [e0, elts2_len, pushes_list] at e
  rw [show (eltsOf (st2 6 (9 + 2))).map rowOf = rows 2 from rfl, toks2] at e
  refine Ev.mono (j := 1 + (1 + (171 * 40 + 10))) ?_ (by omega)
  refine Ev.bind (Ev.standAt (by simp)) (Ev.bind (Ev.standAt (by simp)) (Ev.bind e ?_))
  refine Ev.of_seg (res := _root_.id) rfl (fun a b e => e) fun gd lv pos => ⟨⟨243, 4, 243, 7⟩, ?_⟩
  have r := segRun_of (tail2 p w os es n t gd lv pos q k g l b bc kp)
  rw [stT_abs (by rw [List.length_append, lenSD1, tabLen2]) (by omega), stT_abs (lenSD2 _ _ _ _) (by omega)] at r
  exact r
theorem st612 : st2 6 12 = .Assign [.Name (Str.ofString "a_3") ⟨244, 4, 244, 7⟩] (.List (eltsOf (st2 6 (9 + 3))) ⟨244, 10, 244, 1423⟩) ⟨244, 4, 244, 1423⟩ := by kernel_rfl
theorem elts3_rows : (eltsOf (st2 6 (9 + 3))).all isRow = true := by kernel_rfl
theorem elts3_len : (eltsOf (st2 6 (9 + 3))).length = 57 := by kernel_rfl
theorem toks3 : tokSum (rows 3) = 757 := by kernel_rfl
theorem known3 (P : Params) (es : Array (Int × Value)) (n : Nat) (t : SetTable) : (known P (o225_SD2 P)).map (fun x => (LSD2 P es n t)[x.1]?) = (known P (o225_SD2 P)).map (fun x => some x.2) := by kernel_rfl
theorem knownA3 (P : Params) : (known P (o225_SD2 P)).map (fun x => alive x.2) = (known P (o225_SD2 P)).map (fun x => some x.2) := by kernel_rfl
theorem tail3 (p : Program) (w : World) (os : OsState) (es : Array (Int × Value)) (n : Nat) (t : SetTable) (gd : Bool → Bool) (lv : List Value → List Value) (pos q : Pos) (k : Result → Sem Fin) (g : Bool) (l : List Value) (b bc : List Stmt) (kp : List Value) :
    segRunT treeTable p w 11 annM 2 10 (stT (LSD2 w.params es n t ++ tabObjs w.params 678 2362 (rows 3)) 849 3119 os) ⟨(tailTab (Str.ofString "a_3") ⟨244, 4, 244, 7⟩ (eltsOf (st2 6 (9 + 3))) ⟨244, 10, 244, 1423⟩ ⟨244, 4, 244, 1423⟩ (refsFrom 678 57)).wrap doneF deadEnd gd lv, .body bc envC, pos, frB k g l b q kp⟩ =
      some (.next, stT (LSD3 w.params es n t) 850 3120 os, .body bc envC, ⟨244, 4, 244, 7⟩) := by kernel_rfl
theorem tabLen3 (P : Params) : (tabObjs P 678 2362 (rows 3)).length = 849 - 678 := by kernel_rfl
theorem ev_tab3 {p : Program} {w : World} {os : OsState} {es : Array (Int × Value)} {n : Nat} {t : SetTable} {q : Pos} {k : Result → Sem Fin} {g : Bool} {l : List Value} {b bc : List Stmt} {kp : List Value} :
    Ev treeTable p w 11 annM (.body bc envC) (frB k g l b q kp) (2 + (171 * 57 + 10)) (stL (LSD2 w.params es n t) 2362 os) (exec (st2 6 12) envC) .next (stL (LSD3 w.params es n t) 3120 os) := by
  rw [st612, exec_tab]
  have e := ev_rows (p := p) (w := w) (o := o225_SD2 w.params) (k := k) (g := g) (l := l) (b := b) (bc := bc) (q := q) (kp := kp) (os := os) (gens := #[]) (drawn := {}) (goesN_SD2 p w) (goesP_SD2 p w) ⟨244, 10, 244, 1423⟩ (eltsOf (st2 6 (9 + 3))) ⟨(LSD2 w.params es n t).toArray, {}⟩ 2362
    (known_in (known3 w.params es n t) (knownA3 w.params)) (by show 11 ≤ (LSD2 w.params es n t).toArray.size; rw [List.size_toArray, lenSD2]; omega) (fun e he => List.all_eq_true.mp elts3_rows e he)
  have e0 : (⟨(LSD2 w.params es n t).toArray, {}⟩ : Heap).objs.size = 678 := by show (LSD2 w.params es n t).toArray.size = _; rw [List.size_toArray, lenSD2]
  rw [e0, elts3_len, pushes_list] at e
  rw [show (eltsOf (st2 6 (9 + 3))).map rowOf = rows 3 from rfl, toks3] at e
  refine Ev.mono (j := 1 + (1 + (171 * 57 + 10))) ?_ (by omega)
  refine Ev.bind (Ev.standAt (by simp)) (Ev.bind (Ev.standAt (by simp)) (Ev.bind e ?_))
  refine Ev.of_seg (res := _root_.id) rfl (fun a b e => e) fun gd lv pos => ⟨⟨244, 4, 244, 7⟩, ?_⟩
  have r := segRun_of (tail3 p w os es n t gd lv pos q k g l b bc kp)
  rw [stT_abs (by rw [List.length_append, lenSD2, tabLen3]) (by omega), stT_abs (lenSD3 _ _ _ _) (by omega)] at r
  exact r
theorem ev_block {p : Program} {w : World} {os : OsState} {q : Pos} {k : Result → Sem Fin} {g : Bool} {l : List Value} {b bc : List Stmt} {kp : List Value} : ∃ es n t, SetInv w.params gvNames.reverse es t ∧
    Ev treeTable p w 11 annM (.body bc envC) (frB k g l b q kp) 40000 (stL (LSA w.params) 473 os) (execs (blockOfC (st 6)) envC) .next (stL (LSD3 w.params es n t) 3120 os) := by
  obtain ⟨es, n, t, I, e⟩ := ev_set (p := p) (w := w) (k := k) (g := g) (l := l) (b := b) (bc := bc) (q := q) (kp := kp) (os := os)
  refine ⟨es, n, t, I, ?_⟩
  rw [block_is]
  have mid : Ev treeTable p w 11 annM (.body bc envC) (frB k g l b q kp) 207 (stL (LSB w.params es n t) 490 os) (execs midC envC) .next (stL (LSC w.params es n t) 542 os) := by
    refine Ev.of_seg (res := _root_.id) rfl (fun a b e => e) fun gd lv pos => ⟨⟨218, 4, 240, 19⟩, ?_⟩
    have r := segRun_of (mid_run p w os es n t gd lv pos q k g l b bc kp)
    rw [stT_abs (lenSB _ _ _ _) (by omega), stT_abs (lenSC _ _ _ _) (by omega)] at r
    exact r
  have all := e.execs_cons (mid.execs_app (ev_tab0.execs_cons (ev_tab1.execs_cons (ev_tab2.execs_cons (ev_tab3.execs_cons Ev.execs_nil)))))
  exact Ev.mono all (by omega)
end Mine
end
section
open PySem PySem.W PyProof.Rows
namespace Mine
theorem lenS7 (P : Params) (es : Array (Int × Value)) (n : Nat) (t : SetTable) : (LS7 P es n t).length = 855 := by kernel_rfl
/-- the last steps of the class's statement -/
noncomputable def Suffix (p : Program) (w : World) : Prop := ∀ (os : OsState) (es : Array (Int × Value)) (n : Nat) (t : SetTable) (rest b : List Stmt),
    goT treeTable p w 11 annM 164 (stT (LSD3 w.params es n t) 850 3120 os) ⟨kA p w os rest b (.ok .next), cM b, posC, [topFrame q0]⟩ =
      some (stT (LS7 w.params es n t) 855 3130 os, restOf rest envTop (cM b) posC [topFrame q0])
theorem start_C : blockStart (blockOfC (st 6)) envC = Sem.pure () := by kernel_rfl
theorem cls_reach (p : Program) (w : World) (hs : Suffix p w) (os : OsState) (rest b : List Stmt) : ∃ es n t, SetInv w.params gvNames.reverse es t ∧
    Reach treeTable p w 11 annM (64 + (40000 + (1 + 164))) (S6T w os).abs (startC rest b) (stL (LS7 w.params es n t) 3130 os) (restOf rest envTop (cM b) posC [topFrame q0]) := by
  obtain ⟨es, n, t, I, e⟩ := ev_block (p := p) (w := w) (os := os) (q := posC) (k := kA p w os rest b) (g := false) (l := [.ref 197, .ref 223, .ref 223, .ref 225, .ref 229]) (b := b) (bc := blockOfC (st 6)) (kp := [])
  refine ⟨es, n, t, I, ?_⟩
  have a := goT_reach (n₀ := 11) (ann := annM) (show goT treeTable p w 11 annM 64 (S6T w os) (startC rest b) = _ from runA_is p w os rest b)
  rw [stT_abs (lenSA _) (by omega)] at a
  refine a.trans ?_
  obtain ⟨pos', r⟩ := e doneF (leaveH envC) _root_.id _root_.id posC
  have hd : denote treeTable cC = (execs (blockOfC (st 6)) envC).wrap doneF (leaveH envC) _root_.id _root_.id := by
    show denote treeTable (.body (blockOfC (st 6)) envC) = _
    rw [body_wrap, start_C]
    rfl
  rw [hd]
  refine r.trans ?_
  have z := goT_reach (n₀ := 11) (ann := annM) (hs os es n t rest b)
  rw [stT_abs (lenSD3 _ _ _ _) (by omega), stT_abs (lenS7 _ _ _ _) (by omega)] at z
  refine Reach.trans (Reach.step (s' := stL (LSD3 w.params es n t) 3120 os) (t' := ⟨kA p w os rest b (.ok .next), cM b, posC, [topFrame q0]⟩) rfl rfl rfl) z
end Mine
end
section
open PySem PySem.W PyProof.Rows
namespace Mine
noncomputable abbrev bM : List Stmt := behindTheImports pw
noncomputable def dropM (i : Nat) : List Stmt := pw.main.body.drop i
noncomputable def thM (i : Nat) (pos : Pos) : Thread := restOf (dropM i) envTop (cM bM) pos [topFrame q0]
section
variable (w : World) (os : OsState) (es : Array (Int × Value)) (n : Nat) (t : SetTable)
theorem runEnd : topRun treeTable pw w 11 annM 3 (stL (LS23 w.params es n t) 3427 os) (thM 23 ⟨298, 0, 309, 57⟩) = some (stL (LS23 w.params es n t) 3427 os) := by kernel_rfl
end
theorem lenS9 (P : Params) (es : Array (Int × Value)) (n : Nat) (t : SetTable) : (LS9 P es n t).length = 868 := by kernel_rfl
theorem lenS13 (P : Params) (es : Array (Int × Value)) (n : Nat) (t : SetTable) : (LS13 P es n t).length = 890 := by kernel_rfl
theorem lenS17 (P : Params) (es : Array (Int × Value)) (n : Nat) (t : SetTable) : (LS17 P es n t).length = 900 := by kernel_rfl
theorem lenS23 (P : Params) (es : Array (Int × Value)) (n : Nat) (t : SetTable) : (LS23 P es n t).length = 940 := by kernel_rfl
/-- the objects of the boot -/
noncomputable def LB (P : Params) : List Obj := (L6 P).take 2 ++ [boot_o_2 P, boot_o_3 P, boot_o_4 P, boot_o_5 P, boot_o_6 P, boot_o_7 P, boot_o_8 P, boot_o_9 P, boot_o_10 P]
theorem lenB (P : Params) : (LB P).length = 11 := by kernel_rfl
noncomputable def o3_B0 (P : Params) : Obj := ⟨(.type "dict"), none, .dict [de P "__name__" 165 (.str (Str.ofString "__main__") 164), de P "__doc__" 166 .none, de P "__package__" 167 .none, de P "__loader__" 168 (.builtin "__main__.__loader__#opaque"), de P "__spec__" 169 .none, de P "__annotations__" 170 (.ref 6), de P "__builtins__" 171 (.ref 4), de P "__file__" 173 (.str (Str.ofString "/claim/cut.py") 172), de P "__cached__" 174 .none].toArray 9, #[]⟩
noncomputable def o12_B0 (P : Params) : Obj := ⟨.none, none, .fields #[], #[]⟩
noncomputable def LT0 (P : Params) : List Obj := [boot_o_0 P, boot_o_1 P, boot_o_2 P, o3_B0 P, boot_o_4 P, boot_o_5 P, boot_o_6 P, boot_o_7 P, boot_o_8 P, boot_o_9 P, boot_o_10 P, o11_S6 P, o12_B0 P, o13_S6 P, o14_S6 P]
noncomputable def o3_P0 (P : Params) : Obj := ⟨(.type "dict"), none, .dict [de P "__name__" 165 (.str (Str.ofString "__main__") 164), de P "__doc__" 166 .none, de P "__package__" 167 .none, de P "__loader__" 168 (.builtin "__main__.__loader__#opaque"), de P "__spec__" 169 .none, de P "__annotations__" 170 (.ref 6), de P "__builtins__" 171 (.ref 4), de P "__file__" 173 (.str (Str.ofString "/claim/cut.py") 172), de P "__cached__" 174 .none, de P "_wall" 193 (.ref 21)].toArray 10, #[]⟩
noncomputable def o12_P0 (P : Params) : Obj := ⟨.none, none, .fields #[(.int 1 0), (.int 0 0), (.ref 20)], #[]⟩
noncomputable def LT1 (P : Params) : List Obj := (((LT0 P).set 3 (o3_P0 P)).set 12 (o12_P0 P)) ++ [o15_S6 P, o16_S6 P, o17_S6 P, o18_S6 P, o19_S6 P, o20_S6 P, o21_S6 P]
noncomputable def o3_P1 (P : Params) : Obj := ⟨(.type "dict"), none, .dict [de P "__name__" 165 (.str (Str.ofString "snowballstemmer.basestemmer") 194), de P "__doc__" 166 .none, de P "__package__" 167 .none, de P "__loader__" 168 (.builtin "__main__.__loader__#opaque"), de P "__spec__" 169 .none, de P "__annotations__" 170 (.ref 6), de P "__builtins__" 171 (.ref 4), de P "__file__" 173 (.str (Str.ofString "/claim/cut.py") 172), de P "__cached__" 174 .none, de P "_wall" 193 (.ref 21)].toArray 10, #[]⟩
noncomputable def LT2 (P : Params) : List Obj := ((LT1 P).set 3 (o3_P1 P)) ++ []
noncomputable def o3_P2 (P : Params) : Obj := ⟨(.type "dict"), none, .dict [de P "__name__" 165 (.str (Str.ofString "snowballstemmer.basestemmer") 194), de P "__doc__" 166 .none, de P "__package__" 167 .none, de P "__loader__" 168 (.builtin "__main__.__loader__#opaque"), de P "__spec__" 169 .none, de P "__annotations__" 170 (.ref 6), de P "__builtins__" 171 (.ref 4), de P "__file__" 173 (.str (Str.ofString "/claim/cut.py") 172), de P "__cached__" 174 .none, de P "_wall" 193 (.ref 21), de P "BaseStemmer" 423 (.ref 197)].toArray 11, #[]⟩
noncomputable def o12_P2 (P : Params) : Obj := ⟨.none, none, .fields #[(.int 1 0), (.int 0 0), (.ref 20), (.int 5 0), (.int 0 0), (.ref 27)], #[]⟩
noncomputable def LT3 (P : Params) : List Obj := (((LT2 P).set 3 (o3_P2 P)).set 12 (o12_P2 P)) ++ [o22_S6 P, o23_S6 P, o24_S6 P, o25_S6 P, o26_S6 P, o27_S6 P, o28_S6 P, o29_S6 P, o30_S6 P, o31_S6 P, o32_S6 P, o33_S6 P, o34_S6 P, o35_S6 P, o36_S6 P, o37_S6 P, o38_S6 P, o39_S6 P, o40_S6 P, o41_S6 P, o42_S6 P, o43_S6 P, o44_S6 P, o45_S6 P, o46_S6 P, o47_S6 P, o48_S6 P, o49_S6 P, o50_S6 P, o51_S6 P, o52_S6 P, o53_S6 P, o54_S6 P, o55_S6 P, o56_S6 P, o57_S6 P, o58_S6 P, o59_S6 P, o60_S6 P, o61_S6 P, o62_S6 P, o63_S6 P, o64_S6 P, o65_S6 P, o66_S6 P, o67_S6 P, o68_S6 P, o69_S6 P, o70_S6 P, o71_S6 P, o72_S6 P, o73_S6 P, o74_S6 P, o75_S6 P, o76_S6 P, o77_S6 P, o78_S6 P, o79_S6 P, o80_S6 P, o81_S6 P, o82_S6 P, o83_S6 P, o84_S6 P, o85_S6 P, o86_S6 P, o87_S6 P, o88_S6 P, o89_S6 P, o90_S6 P, o91_S6 P, o92_S6 P, o93_S6 P, o94_S6 P, o95_S6 P, o96_S6 P, o97_S6 P, o98_S6 P, o99_S6 P, o100_S6 P, o101_S6 P, o102_S6 P, o103_S6 P, o104_S6 P, o105_S6 P, o106_S6 P, o107_S6 P, o108_S6 P, o109_S6 P, o110_S6 P, o111_S6 P, o112_S6 P, o113_S6 P, o114_S6 P, o115_S6 P, o116_S6 P, o117_S6 P, o118_S6 P, o119_S6 P, o120_S6 P, o121_S6 P, o122_S6 P, o123_S6 P, o124_S6 P, o125_S6 P, o126_S6 P, o127_S6 P, o128_S6 P, o129_S6 P, o130_S6 P, o131_S6 P, o132_S6 P, o133_S6 P, o134_S6 P, o135_S6 P, o136_S6 P, o137_S6 P, o138_S6 P, o139_S6 P, o140_S6 P, o141_S6 P, o142_S6 P, o143_S6 P, o144_S6 P, o145_S6 P, o146_S6 P, o147_S6 P, o148_S6 P, o149_S6 P, o150_S6 P, o151_S6 P, o152_S6 P, o153_S6 P, o154_S6 P, o155_S6 P, o156_S6 P, o157_S6 P, o158_S6 P, o159_S6 P, o160_S6 P, o161_S6 P, o162_S6 P, o163_S6 P, o164_S6 P, o165_S6 P, o166_S6 P, o167_S6 P, o168_S6 P, o169_S6 P, o170_S6 P, o171_S6 P, o172_S6 P, o173_S6 P, o174_S6 P, o175_S6 P, o176_S6 P, o177_S6 P, o178_S6 P, o179_S6 P, o180_S6 P, o181_S6 P, o182_S6 P, o183_S6 P, o184_S6 P, o185_S6 P, o186_S6 P, o187_S6 P, o188_S6 P, o189_S6 P, o190_S6 P, o191_S6 P, o192_S6 P, o193_S6 P, o194_S6 P, o195_S6 P, o196_S6 P, o197_S6 P, o198_S6 P, o199_S6 P, o200_S6 P, o201_S6 P]
noncomputable def o3_P3 (P : Params) : Obj := ⟨(.type "dict"), none, .dict [de P "__name__" 165 (.str (Str.ofString "snowballstemmer.among") 424), de P "__doc__" 166 .none, de P "__package__" 167 .none, de P "__loader__" 168 (.builtin "__main__.__loader__#opaque"), de P "__spec__" 169 .none, de P "__annotations__" 170 (.ref 6), de P "__builtins__" 171 (.ref 4), de P "__file__" 173 (.str (Str.ofString "/claim/cut.py") 172), de P "__cached__" 174 .none, de P "_wall" 193 (.ref 21), de P "BaseStemmer" 423 (.ref 197)].toArray 11, #[]⟩
noncomputable def LT4 (P : Params) : List Obj := ((LT3 P).set 3 (o3_P3 P)) ++ []
noncomputable def o3_P4 (P : Params) : Obj := ⟨(.type "dict"), none, .dict [de P "__name__" 165 (.str (Str.ofString "snowballstemmer.among") 424), de P "__doc__" 166 .none, de P "__package__" 167 .none, de P "__loader__" 168 (.builtin "__main__.__loader__#opaque"), de P "__spec__" 169 .none, de P "__annotations__" 170 (.ref 6), de P "__builtins__" 171 (.ref 4), de P "__file__" 173 (.str (Str.ofString "/claim/cut.py") 172), de P "__cached__" 174 .none, de P "_wall" 193 (.ref 21), de P "BaseStemmer" 423 (.ref 197), de P "Among" 458 (.ref 218)].toArray 12, #[]⟩
noncomputable def LT5 (P : Params) : List Obj := (((LT4 P).set 3 (o3_P4 P)).set 12 (o12_S6 P)) ++ [o202_S6 P, o203_S6 P, o204_S6 P, o205_S6 P, o206_S6 P, o207_S6 P, o208_S6 P, o209_S6 P, o210_S6 P, o211_S6 P, o212_S6 P, o213_S6 P, o214_S6 P, o215_S6 P, o216_S6 P, o217_S6 P, o218_S6 P, o219_S6 P, o220_S6 P, o221_S6 P, o222_S6 P]
theorem lenT0 (P : Params) : (LT0 P).length = 15 := by kernel_rfl
theorem lenT1 (P : Params) : (LT1 P).length = 22 := by kernel_rfl
theorem lenT2 (P : Params) : (LT2 P).length = 22 := by kernel_rfl
theorem lenT3 (P : Params) : (LT3 P).length = 202 := by kernel_rfl
theorem lenT4 (P : Params) : (LT4 P).length = 202 := by kernel_rfl
theorem lenT5 (P : Params) : (LT5 P).length = 223 := by kernel_rfl
theorem len6 (P : Params) : (L6 P).length = 223 := by kernel_rfl
theorem pre_run (w : World) (os : OsState) : goT treeTable pw w 11 annM 12 (stT (LB w.params) 11 boot_toks os) (topStub pw) = some (stT (LT0 w.params) 15 187 os, ⟨denote treeTable (cM bM), cM bM, q0, [topFrame q0]⟩) := by kernel_rfl
theorem start_M : blockStart bM envTop = Sem.pure () := by kernel_rfl
theorem body_M : bM = dropM 0 := by kernel_rfl
theorem runT0 (w : World) (os : OsState) : goT treeTable pw w 11 annM 29 (stT (LT0 w.params) 15 187 os) (thM 0 q0) = some (stT (LT1 w.params) 22 194 os, thM 1 ⟨1, 0, 3, 12⟩) := by kernel_rfl
theorem runT1 (w : World) (os : OsState) : goT treeTable pw w 11 annM 9 (stT (LT1 w.params) 22 194 os) (thM 1 ⟨1, 0, 3, 12⟩) = some (stT (LT2 w.params) 22 196 os, thM 2 ⟨4, 0, 4, 8⟩) := by kernel_rfl
theorem runT3 (w : World) (os : OsState) : goT treeTable pw w 11 annM 9 (stT (LT3 w.params) 202 424 os) (thM 3 ⟨5, 0, 146, 54⟩) = some (stT (LT4 w.params) 202 426 os, thM 4 ⟨147, 0, 147, 8⟩) := by kernel_rfl
theorem runT5 (w : World) (os : OsState) : goT treeTable pw w 11 annM 9 (stT (LT5 w.params) 223 459 os) (thM 5 ⟨148, 0, 153, 28⟩) = some (stT (L6 w.params) 223 461 os, startC (dropM 7) bM) := by kernel_rfl
/-- the longer runs, at one go: what they share is evaluated once -/
theorem runs_a (w : World) (os : OsState) : (∀ (es : Array (Int × Value)) (n : Nat) (t : SetTable),
    (goT treeTable pw w 11 annM 205 (stT (LS7 w.params es n t) 855 3130 os) (thM 7 posC) = some (stT (LS9 w.params es n t) 868 3152 os, thM 9 ⟨247, 0, 247, 8⟩)) ∧
    (goT treeTable pw w 11 annM 151 (stT (LS9 w.params es n t) 868 3152 os) (thM 9 ⟨247, 0, 247, 8⟩) = some (stT (LS13 w.params es n t) 890 3228 os, thM 13 ⟨254, 0, 254, 10⟩)) ∧
    (goT treeTable pw w 11 annM 192 (stT (LS13 w.params es n t) 890 3228 os) (thM 13 ⟨254, 0, 254, 10⟩) = some (stT (LS17 w.params es n t) 900 3371 os, thM 17 ⟨258, 0, 259, 65⟩)) ∧
    (goT treeTable pw w 11 annM 186 (stT (LS17 w.params es n t) 900 3371 os) (thM 17 ⟨258, 0, 259, 65⟩) = some (stT (LS23 w.params es n t) 940 3427 os, thM 23 ⟨298, 0, 309, 57⟩))) ∧
    Suffix pw w := by
  refine ⟨fun es n t => ⟨?_, ?_, ?_, ?_⟩, fun os es n t rest b => ?_⟩
  all_goals kernel_rfl
theorem runs_b (w : World) (os : OsState) : (goT treeTable pw w 11 annM 971 (stT (LT2 w.params) 22 196 os) (thM 2 ⟨4, 0, 4, 8⟩) = some (stT (LT3 w.params) 202 424 os, thM 3 ⟨5, 0, 146, 54⟩)) ∧
    (goT treeTable pw w 11 annM 226 (stT (LT4 w.params) 202 426 os) (thM 4 ⟨147, 0, 147, 8⟩) = some (stT (LT5 w.params) 223 459 os, thM 5 ⟨148, 0, 153, 28⟩)) := by
  refine ⟨?_, ?_⟩
  all_goals kernel_rfl
theorem run79 (w : World) (os : OsState) (es : Array (Int × Value)) (n : Nat) (t : SetTable) : goT treeTable pw w 11 annM 205 (stT (LS7 w.params es n t) 855 3130 os) (thM 7 posC) = some (stT (LS9 w.params es n t) 868 3152 os, thM 9 ⟨247, 0, 247, 8⟩) := ((runs_a w os).1 es n t).1
theorem run913 (w : World) (os : OsState) (es : Array (Int × Value)) (n : Nat) (t : SetTable) : goT treeTable pw w 11 annM 151 (stT (LS9 w.params es n t) 868 3152 os) (thM 9 ⟨247, 0, 247, 8⟩) = some (stT (LS13 w.params es n t) 890 3228 os, thM 13 ⟨254, 0, 254, 10⟩) := ((runs_a w os).1 es n t).2.1
theorem run1317 (w : World) (os : OsState) (es : Array (Int × Value)) (n : Nat) (t : SetTable) : goT treeTable pw w 11 annM 192 (stT (LS13 w.params es n t) 890 3228 os) (thM 13 ⟨254, 0, 254, 10⟩) = some (stT (LS17 w.params es n t) 900 3371 os, thM 17 ⟨258, 0, 259, 65⟩) := ((runs_a w os).1 es n t).2.2.1
theorem run1723 (w : World) (os : OsState) (es : Array (Int × Value)) (n : Nat) (t : SetTable) : goT treeTable pw w 11 annM 186 (stT (LS17 w.params es n t) 900 3371 os) (thM 17 ⟨258, 0, 259, 65⟩) = some (stT (LS23 w.params es n t) 940 3427 os, thM 23 ⟨298, 0, 309, 57⟩) := ((runs_a w os).1 es n t).2.2.2
theorem suffix_run (w : World) : Suffix pw w := fun os => (runs_a w os).2 os
theorem runT2 (w : World) (os : OsState) : goT treeTable pw w 11 annM 971 (stT (LT2 w.params) 22 196 os) (thM 2 ⟨4, 0, 4, 8⟩) = some (stT (LT3 w.params) 202 424 os, thM 3 ⟨5, 0, 146, 54⟩) := (runs_b w os).1
theorem runT4 (w : World) (os : OsState) : goT treeTable pw w 11 annM 226 (stT (LT4 w.params) 202 426 os) (thM 4 ⟨147, 0, 147, 8⟩) = some (stT (LT5 w.params) 223 459 os, thM 5 ⟨148, 0, 153, 28⟩) := (runs_b w os).2
theorem run_tail (w : World) (os : OsState) (es : Array (Int × Value)) (n : Nat) (t : SetTable) : topRun treeTable pw w 11 annM (205 + (151 + (192 + (186 + 3)))) (stL (LS7 w.params es n t) 3130 os) (thM 7 posC) = some (stL (LS23 w.params es n t) 3427 os) := by
  have a := goT_reach (run79 w os es n t)
  have b := goT_reach (run913 w os es n t)
  have c := goT_reach (run1317 w os es n t)
  have d := goT_reach (run1723 w os es n t)
  rw [stT_abs (lenS7 _ _ _ _) (by omega), stT_abs (lenS9 _ _ _ _) (by omega)] at a
  rw [stT_abs (lenS9 _ _ _ _) (by omega), stT_abs (lenS13 _ _ _ _) (by omega)] at b
  rw [stT_abs (lenS13 _ _ _ _) (by omega), stT_abs (lenS17 _ _ _ _) (by omega)] at c
  rw [stT_abs (lenS17 _ _ _ _) (by omega), stT_abs (lenS23 _ _ _ _) (by omega)] at d
  exact a _ _ (b _ _ (c _ _ (d _ _ (runEnd w os es n t))))
theorem boot_is (P : Params) : boot_heap P = ⟨(LB P).toArray, {}⟩ := by kernel_rfl
/-- the whole run of the top -/
theorem top_ran (w : World) (os : OsState) : ∃ es n t, SetInv w.params gvNames.reverse es t ∧
    topRun treeTable pw w 11 annM 43000 ⟨boot_heap w.params, Array.mk [], boot_drawn, boot_toks, os⟩ (topStub pw) = some (stL (LS23 w.params es n t) 3427 os) := by
  obtain ⟨es, n, t, I, r⟩ := cls_reach pw w (suffix_run w) os (dropM 7) bM
  refine ⟨es, n, t, I, ?_⟩
  have z := r _ _ (run_tail w os es n t)
  have a := goT_reach (n₀ := 11) (ann := annM) (pre_run w os)
  rw [stT_abs (lenB _) (by omega), stT_abs (lenT0 _) (by omega)] at a
  have hd : (⟨denote treeTable (cM bM), cM bM, q0, [topFrame q0]⟩ : Thread) = thM 0 q0 := by
    unfold thM
    rw [← body_M]
    show (⟨denote treeTable (.body bM envTop), _, _, _⟩ : Thread) = _
    rw [body_wrap, start_M]
    rfl
  rw [hd] at a
  have r0 := goT_reach (n₀ := 11) (ann := annM) (runT0 w os)
  rw [stT_abs (lenT0 _) (by omega), stT_abs (lenT1 _) (by omega)] at r0
  have r1 := goT_reach (n₀ := 11) (ann := annM) (runT1 w os)
  rw [stT_abs (lenT1 _) (by omega), stT_abs (lenT2 _) (by omega)] at r1
  have r2 := goT_reach (n₀ := 11) (ann := annM) (runT2 w os)
  rw [stT_abs (lenT2 _) (by omega), stT_abs (lenT3 _) (by omega)] at r2
  have r3 := goT_reach (n₀ := 11) (ann := annM) (runT3 w os)
  rw [stT_abs (lenT3 _) (by omega), stT_abs (lenT4 _) (by omega)] at r3
  have r4 := goT_reach (n₀ := 11) (ann := annM) (runT4 w os)
  rw [stT_abs (lenT4 _) (by omega), stT_abs (lenT5 _) (by omega)] at r4
  have r5 := goT_reach (n₀ := 11) (ann := annM) (runT5 w os)
  rw [stT_abs (lenT5 _) (by omega), stT_abs (len6 _) (by omega)] at r5
  rw [show (S6T w os).abs = stL (L6 w.params) 461 os from stT_abs (len6 _) (by omega)] at z
  have x := a _ _ (r0 _ _ (r1 _ _ (r2 _ _ (r3 _ _ (r4 _ _ (r5 _ _ z))))))
  have e : (⟨boot_heap w.params, Array.mk [], boot_drawn, boot_toks, os⟩ : Shared) = stL (LB w.params) boot_toks os := by
    rw [boot_is]; rfl
  rw [e]
  have m := topRun_mono (43000 - (12 + (29 + (9 + (971 + (9 + (226 + (9 + (64 + (40000 + (1 + 164)) + (205 + (151 + (192 + (186 + 3))))))))))))) _ _ _ _ x
  exact m
end Mine
end
section
open PySem PySem.W PyProof.Rows
namespace Mine
noncomputable def qV : Program := view pw [7, 22]
noncomputable def looseV : List Str := [Str.ofString "_wall", Str.ofString "BaseStemmer", Str.ofString "Among", Str.ofString "ArmenianStemmer", Str.ofString "_law_vowels", Str.ofString "_law_letters", Str.ofString "_law_parts", Str.ofString "_law_cases", Str.ofString "_law_verbs", Str.ofString "_law_adjectives", Str.ofString "_law_nouns", Str.ofString "_law_ends", Str.ofString "_law_word", Str.ofString "_law_end", Str.ofString "_law_cut", Str.ofString "_law_behind", Str.ofString "_law_stem"]
noncomputable def XtV : Shared → Bool := fun s => xlAt qV [] s && recOk (RowW.records (PySem.Challenge.rw_ai0034_01.row.toRowW)) s
section
variable (w : World) (os : OsState) (es : Array (Int × Value)) (n : Nat) (t : SetTable)
theorem looks1 : (staticsOk (importedModules pw.main.body) (boot_heap w.params) (stL (LS23 w.params es n t) 3427 os).heap && namesBound pw (stL (LS23 w.params es n t) 3427 os).heap && gensDone (stL (LS23 w.params es n t) 3427 os) && laidKept (boot_heap w.params) (stL (LS23 w.params es n t) 3427 os).heap) = true := by kernel_rfl
theorem looks2 : openSeen qV looseV (importedModules pw.main.body) XtV true (stL (LS23 w.params es n t) 3427 os) = openGood qV looseV := by kernel_rfl
end
theorem size_ok (w : World) : ((boot_heap w.params).isNs mainGlobals && (Array.mk [] : Array GenState).size == 0, (boot_heap w.params).objs.size, (boot_heap w.params).nsMap mainGlobals "__annotations__") = (true, 11, annM) := by kernel_rfl
noncomputable def NV : Nat := 43000
theorem opens_V : opening pw = plainProg pw.main.scope.names := by kernel_rfl
theorem fence_V : ∀ s, fenceModules? pw s = some s := by intro s; kernel_rfl
theorem topFrom_is {tb : String → Option Builtin} {p : Program} {w : World} {N n₀ : Nat} {ann : Option Value} {s₀ s₁ : Shared} (h1 : (s₀.heap.isNs mainGlobals && s₀.gens.size == 0) = true) (h2 : s₀.heap.objs.size = n₀) (h3 : s₀.heap.nsMap mainGlobals "__annotations__" = ann)
    (r : topRun tb p w n₀ ann N s₀ (topStub p) = some s₁) (l : (staticsOk (importedModules p.main.body) s₀.heap s₁.heap && namesBound p s₁.heap && gensDone s₁ && laidKept s₀.heap s₁.heap) = true) : topFrom tb p w N s₀ = some s₁ := by
  subst h2 h3
  delta topFrom
  rw [h1, r]
  dsimp only [Option.bind]
  rw [l]
theorem openEnds_is {tb : String → Option Builtin} {p : Program} {w : World} {N : Nat} {s₀ s₁ : Shared} (e : fencedOpening tb p w N = some s₀) (h : topFrom tb p w N s₀ = some s₁) : openEnds tb p w N = some s₁ := by
  delta openEnds
  rw [e]
  exact h
theorem ends_V (w : World) : ∃ os es n t, SetInv w.params gvNames.reverse es t ∧ openEnds treeTable pw w 43000 = some (stL (LS23 w.params es n t) 3427 os) := by
  obtain ⟨⟨h, gs, d, k, os⟩, e, e'⟩ := Option.map_eq_some_iff.mp (boot_open (N := 43000) opens_V (by decide) fence_V w)
  obtain ⟨rfl, rfl, rfl, rfl⟩ : h = boot_heap w.params ∧ gs = Array.mk [] ∧ d = boot_drawn ∧ k = boot_toks := by simpa using e'
  obtain ⟨z1, z2, z3⟩ : _ ∧ _ ∧ _ := by simpa only [Prod.mk.injEq] using size_ok w
  obtain ⟨es, n, t, I, r⟩ := top_ran w os
  exact ⟨os, es, n, t, I, openEnds_is e (topFrom_is z1 z2 z3 r (looks1 w os es n t))⟩
noncomputable def heapW (w : World) : Heap := ((openEnds treeTable pw w 43000).map (fun s => s.heap)).getD {}
theorem heapW_is (w : World) : ∃ es n t, SetInv w.params gvNames.reverse es t ∧ heapW w = ⟨(LS23 w.params es n t).toArray, {}⟩ := by
  obtain ⟨os, es, n, t, I, e⟩ := ends_V w
  exact ⟨es, n, t, I, by unfold heapW; rw [e]; rfl⟩
theorem leftV : LeftO pw qV looseV XtV (fun s => s.heap) heapW 43000 := fun w => by
  obtain ⟨os, es, n, t, I, e⟩ := ends_V w
  rw [e]
  show some (openSeen qV looseV (importedModules pw.main.body) XtV true (stL (LS23 w.params es n t) 3427 os), (stL (LS23 w.params es n t) 3427 os).heap) = _
  rw [looks2]
  unfold heapW
  rw [e]
  rfl
/-- what stands behind the top stands -/
structure SaysV (w : World) (h : Heap) : Prop where
  says : ∀ b o, (heapW w).get? b = some o → h.get? b = some o
noncomputable abbrev LW : OpenLaw := PySem.Challenge.rw_ai0034_01
theorem said_1 : (importedModules LW.row.prog.main.body).all cThrough.contains = true := by kernel_rfl
theorem said_2 : List.filter (readsOut LW.row.prog LW.row.prog.main.body) [Str.ofString "vars", Str.ofString "dir", Str.ofString "locals"] = [] := by kernel_rfl
theorem said_3 : noRoadLSs { strict := false, foot := none, bare := [] } (LW.row.prog.main.body.take 7) = true := by kernel_rfl
theorem said_4 : noRoadLSs { strict := false, foot := none, bare := [] } (LW.row.prog.main.body.drop 7) = true := by kernel_rfl
theorem road_app (k : Look) : ∀ a b : List Stmt, noRoadLSs k a = true → noRoadLSs k b = true → noRoadLSs k (a ++ b) = true
  | [], _, _, h => h
  | x :: a, b, h, h' => by
    rw [List.cons_append]
    show (noRoadLS k x && noRoadLSs k (a ++ b)) = true
    have h0 : (noRoadLS k x && noRoadLSs k a) = true := h
    exact look_both (Bool.and_eq_true_iff.mp h0).1 (road_app k a b (Bool.and_eq_true_iff.mp h0).2 h')
theorem said_5 : noRoadLSs { strict := !(importedModules LW.row.prog.main.body).all cThrough.contains, foot := none, bare := List.filter (readsOut LW.row.prog LW.row.prog.main.body) [Str.ofString "vars", Str.ofString "dir", Str.ofString "locals"] } LW.row.prog.main.body = true := by
  rw [said_1, said_2]
  have h := road_app _ _ _ said_3 said_4
  rw [List.take_append_drop] at h
  exact h
theorem said_6 : (namesMeet LW.row.prog LW.row.prog.main.body fun x n => attrL n) = true := by kernel_rfl
theorem said_7 : namesResolve LW.row.prog = true := by kernel_rfl
theorem said_8 : LW.namesIt = true := by kernel_rfl
theorem said_9 : noRoadLSs { strict := true, foot := some LW.bound', writes := LW.writes, may := LW.may } LW.footing = true := by kernel_rfl
theorem said_10 : (namesMeet LW.prog LW.above fun x n => !LW.own.contains n) = true := by kernel_rfl
theorem said_11 : (LW.own.all fun n => !builtinNamed n) = true := by kernel_rfl
theorem said_all : LW.wellSaid = true := by
  delta OpenLaw.wellSaid OpenRow.wellSaid OpenRow.partSaid looksOpen
  repeat' (with_reducible refine look_both ?_ ?_)
  all_goals first
    | with_reducible exact said_5
    | with_reducible exact said_6
    | with_reducible exact said_7
    | with_reducible exact said_8
    | with_reducible exact said_9
    | with_reducible exact said_10
    | with_reducible exact said_11
    | kernel_rfl
theorem mine_2 : (chainsOk qV && opensWell pw && (frees LW.row.toRowW && LW.row.within.isEmpty)) = true := by decide +kernel
theorem mine_3 : PySem.Challenge.rw_ai0034_01.row.toRowW.promised := by w_witness2
theorem head (call : ∀ d kwd, defOf qV (Str.ofString "law") = some (d, kwd) → pw.theDef (Str.ofString "law") = some (d.params, d.body, d.scope) →
    WalkO qV looseV (XL qV []) SaysV (PySem.Challenge.rw_ai0034_01.row.toRowW) d kwd fun f vs => PySem.call f vs) : PySem.Challenge.rw_ai0034_01.Holds := by
  refine holds_law said_all fun said => ?_
  refine holds_open (q := qV) (loose := looseV) (Xt := XtV) (XP := XL qV []) (Yf := fun s => s.heap) (Ya := heapW) (YP := SaysV) (N := 43000) leftV (fun w s e => ⟨fun b o h => by rw [show s.heap = heapW w from e]; exact h⟩) (fun w h h' x k => ⟨fun b o e => k b o (x.says b o e)⟩)
    (fun s e => xl_of s (Bool.and_eq_true_iff.mp e).1) XL.keeps (by rfl) (by rfl) (by rfl) (fun s e => recFacts_of (Bool.and_eq_true_iff.mp e).2) (by rfl) said mine_2 ⟨rfl, rfl, rfl, rfl, rfl, by decide +kernel⟩ ?hw ?hc
  case hw => exact mine_3
  case hc => exact call _ _ (by rfl) (by rfl)
end Mine
end
open PySem PySem.W PyProof.Rows PySem.Spec PySem.Calls
namespace Mine
local macro_rules | `(tactic| walk_at $s:str) => `(tactic| k_extra $s)
noncomputable def KV (P : Params) : Frag := (nat_lit 2, o2_S8 P) :: (nat_lit 3, o3_S23 P) :: (nat_lit 15, o15_S6 P) :: (nat_lit 17, o17_S6 P) :: (nat_lit 18, o18_S6 P) :: (nat_lit 20, o20_S6 P) :: (nat_lit 21, o21_S6 P) :: (nat_lit 29, o29_S6 P) :: (nat_lit 31, o31_S6 P) :: (nat_lit 32, o32_S6 P) :: (nat_lit 34, o34_S6 P) :: (nat_lit 35, o35_S6 P) :: (nat_lit 36, o36_S6 P) :: (nat_lit 38, o38_S6 P) :: (nat_lit 39, o39_S6 P) :: (nat_lit 41, o41_S6 P) :: (nat_lit 42, o42_S6 P) :: (nat_lit 43, o43_S6 P) :: (nat_lit 45, o45_S6 P) :: (nat_lit 46, o46_S6 P) :: (nat_lit 48, o48_S6 P) :: (nat_lit 49, o49_S6 P) :: (nat_lit 50, o50_S6 P) :: (nat_lit 52, o52_S6 P) :: (nat_lit 53, o53_S6 P) :: (nat_lit 55, o55_S6 P) :: (nat_lit 56, o56_S6 P) :: (nat_lit 57, o57_S6 P) :: (nat_lit 59, o59_S6 P) :: (nat_lit 60, o60_S6 P) :: (nat_lit 62, o62_S6 P) :: (nat_lit 63, o63_S6 P) :: (nat_lit 64, o64_S6 P) :: (nat_lit 66, o66_S6 P) :: (nat_lit 67, o67_S6 P) :: (nat_lit 69, o69_S6 P) :: (nat_lit 70, o70_S6 P) :: (nat_lit 71, o71_S6 P) :: (nat_lit 73, o73_S6 P) :: (nat_lit 74, o74_S6 P) :: (nat_lit 76, o76_S6 P) :: (nat_lit 77, o77_S6 P) :: (nat_lit 78, o78_S6 P) :: (nat_lit 80, o80_S6 P) :: (nat_lit 81, o81_S6 P) :: (nat_lit 83, o83_S6 P) :: (nat_lit 84, o84_S6 P) :: (nat_lit 85, o85_S6 P) :: (nat_lit 87, o87_S6 P) :: (nat_lit 88, o88_S6 P) :: (nat_lit 90, o90_S6 P) :: (nat_lit 91, o91_S6 P) :: (nat_lit 92, o92_S6 P) :: (nat_lit 94, o94_S6 P) :: (nat_lit 95, o95_S6 P) :: (nat_lit 97, o97_S6 P) :: (nat_lit 98, o98_S6 P) :: (nat_lit 99, o99_S6 P) :: (nat_lit 101, o101_S6 P) :: (nat_lit 102, o102_S6 P) :: (nat_lit 104, o104_S6 P) :: (nat_lit 105, o105_S6 P) :: (nat_lit 106, o106_S6 P) :: (nat_lit 108, o108_S6 P) :: (nat_lit 109, o109_S6 P) :: (nat_lit 111, o111_S6 P) :: (nat_lit 112, o112_S6 P) :: (nat_lit 113, o113_S6 P) :: (nat_lit 115, o115_S6 P) :: (nat_lit 116, o116_S6 P) :: (nat_lit 118, o118_S6 P) :: (nat_lit 119, o119_S6 P) :: (nat_lit 120, o120_S6 P) :: (nat_lit 122, o122_S6 P) :: (nat_lit 123, o123_S6 P) :: (nat_lit 125, o125_S6 P) :: (nat_lit 126, o126_S6 P) :: (nat_lit 127, o127_S6 P) :: (nat_lit 129, o129_S6 P) :: (nat_lit 130, o130_S6 P) :: (nat_lit 132, o132_S6 P) :: (nat_lit 133, o133_S6 P) :: (nat_lit 134, o134_S6 P) :: (nat_lit 136, o136_S6 P) :: (nat_lit 137, o137_S6 P) :: (nat_lit 139, o139_S6 P) :: (nat_lit 140, o140_S6 P) :: (nat_lit 141, o141_S6 P) :: (nat_lit 143, o143_S6 P) :: (nat_lit 144, o144_S6 P) :: (nat_lit 146, o146_S6 P) :: (nat_lit 147, o147_S6 P) :: (nat_lit 148, o148_S6 P) :: (nat_lit 150, o150_S6 P) :: (nat_lit 151, o151_S6 P) :: (nat_lit 153, o153_S6 P) :: (nat_lit 154, o154_S6 P) :: (nat_lit 155, o155_S6 P) :: (nat_lit 157, o157_S6 P) :: (nat_lit 158, o158_S6 P) :: (nat_lit 160, o160_S6 P) :: (nat_lit 161, o161_S6 P) :: (nat_lit 162, o162_S6 P) :: (nat_lit 164, o164_S6 P) :: (nat_lit 165, o165_S6 P) :: (nat_lit 167, o167_S6 P) :: (nat_lit 168, o168_S6 P) :: (nat_lit 169, o169_S6 P) :: (nat_lit 171, o171_S6 P) :: (nat_lit 172, o172_S6 P) :: (nat_lit 174, o174_S6 P) :: (nat_lit 175, o175_S6 P) :: (nat_lit 176, o176_S6 P) :: (nat_lit 178, o178_S6 P) :: (nat_lit 179, o179_S6 P) :: (nat_lit 181, o181_S6 P) :: (nat_lit 182, o182_S6 P) :: (nat_lit 183, o183_S6 P) :: (nat_lit 185, o185_S6 P) :: (nat_lit 186, o186_S6 P) :: (nat_lit 188, o188_S6 P) :: (nat_lit 189, o189_S6 P) :: (nat_lit 190, o190_S6 P) :: (nat_lit 193, o193_S6 P) :: (nat_lit 194, o194_S6 P) :: (nat_lit 195, o195_S6 P) :: (nat_lit 196, o196_S6 P) :: (nat_lit 197, o197_S7 P) :: (nat_lit 198, o198_S6 P) :: (nat_lit 199, o199_S6 P) :: (nat_lit 209, o209_S6 P) :: (nat_lit 211, o211_S6 P) :: (nat_lit 212, o212_S6 P) :: (nat_lit 214, o214_S6 P) :: (nat_lit 215, o215_S6 P) :: (nat_lit 216, o216_S6 P) :: (nat_lit 217, o217_S6 P) :: (nat_lit 218, o218_S6 P) :: (nat_lit 219, o219_S6 P) :: (nat_lit 220, o220_S6 P) :: (nat_lit 223, o223 P) :: (nat_lit 231, o231 P) :: (nat_lit 233, o233 P) :: (nat_lit 234, o234 P) :: (nat_lit 236, o236 P) :: (nat_lit 237, o237 P) :: (nat_lit 238, o238 P) :: (nat_lit 240, o240 P) :: (nat_lit 241, o241 P) :: (nat_lit 243, o243 P) :: (nat_lit 244, o244 P) :: (nat_lit 245, o245 P) :: (nat_lit 247, o247 P) :: (nat_lit 248, o248 P) :: (nat_lit 250, o250 P) :: (nat_lit 251, o251 P) :: (nat_lit 252, o252 P) :: (nat_lit 254, o254 P) :: (nat_lit 255, o255 P) :: (nat_lit 257, o257 P) :: (nat_lit 258, o258 P) :: (nat_lit 259, o259 P) :: (nat_lit 261, o261 P) :: (nat_lit 262, o262 P) :: (nat_lit 264, o264 P) :: (nat_lit 265, o265 P) :: (nat_lit 266, o266 P) :: (nat_lit 268, o268 P) :: (nat_lit 269, o269 P) :: (nat_lit 271, o271 P) :: (nat_lit 272, o272 P) :: (nat_lit 342, ⟨.type "list", none, .seq (refsFrom 273 23).toArray 0, #[]⟩) :: (nat_lit 556, ⟨.type "list", none, .seq (refsFrom 343 71).toArray 0, #[]⟩) :: (nat_lit 677, ⟨.type "list", none, .seq (refsFrom 557 40).toArray 0, #[]⟩) :: (nat_lit 849, ⟨.type "list", none, .seq (refsFrom 678 57).toArray 0, #[]⟩) :: (nat_lit 850, o850 P) :: (nat_lit 851, o851 P) :: (nat_lit 852, o852 P) :: (nat_lit 855, o855 P) :: (nat_lit 862, o862 P) :: (nat_lit 863, o863 P) :: (nat_lit 864, o864 P) :: (nat_lit 865, o865 P) :: (nat_lit 868, o868 P) :: (nat_lit 870, o870 P) :: (nat_lit 871, o871 P) :: (nat_lit 873, o873 P) :: (nat_lit 874, o874 P) :: (nat_lit 875, o875 P) :: (nat_lit 877, o877 P) :: (nat_lit 878, o878 P) :: (nat_lit 880, o880 P) :: (nat_lit 881, o881 P) :: (nat_lit 882, o882 P) :: (nat_lit 884, o884 P) :: (nat_lit 885, o885 P) :: (nat_lit 887, o887 P) :: (nat_lit 888, o888 P) :: (nat_lit 889, o889 P) :: (nat_lit 890, o890 P) :: (nat_lit 891, o891 P) :: (nat_lit 892, o892 P) :: (nat_lit 893, o893 P) :: (nat_lit 895, o895 P) :: (nat_lit 896, o896 P) :: (nat_lit 898, o898 P) :: (nat_lit 899, o899 P) :: (nat_lit 900, o900 P) :: (nat_lit 902, o902 P) :: (nat_lit 903, o903 P) :: (nat_lit 905, o905 P) :: (nat_lit 906, o906 P) :: (nat_lit 907, o907 P) :: (nat_lit 909, o909 P) :: (nat_lit 910, o910 P) :: (nat_lit 912, o912 P) :: (nat_lit 913, o913 P) :: (nat_lit 914, o914 P) :: (nat_lit 916, o916 P) :: (nat_lit 917, o917 P) :: (nat_lit 919, o919 P) :: (nat_lit 920, o920 P) :: (nat_lit 921, o921 P) :: (nat_lit 923, o923 P) :: (nat_lit 924, o924 P) :: (nat_lit 926, o926 P) :: (nat_lit 927, o927 P) :: (nat_lit 928, o928 P) :: (nat_lit 930, o930 P) :: (nat_lit 931, o931 P) :: (nat_lit 933, o933 P) :: (nat_lit 934, o934 P) :: (nat_lit 935, o935 P) :: (nat_lit 938, o938 P) :: (nat_lit 939, o939 P) :: []
theorem kv_in (P : Params) (es : Array (Int × Value)) (n : Nat) (t : SetTable) : (KV P).map (fun x => (LS23 P es n t)[x.1]?) = (KV P).map (fun x => some x.2) := by kernel_rfl
theorem kv_alive (P : Params) : (KV P).map (fun x => alive x.2) = (KV P).map (fun x => some x.2) := by kernel_rfl
theorem lookup_mem {a : Nat} {o : Obj} : ∀ {l : List (Nat × Obj)}, l.lookup a = some o → (a, o) ∈ l
  | [], h => by cases h
  | (b, x) :: r, h => by
    rw [List.lookup_cons] at h
    by_cases e : (a == b) = true
    · rw [e] at h
      cases h
      obtain rfl := eq_of_beq e
      exact .head _
    · rw [Bool.eq_false_iff.mpr e] at h
      exact .tail _ (lookup_mem h)
theorem kv_says {w : World} {h : Heap} (Y : SaysV w h) : (KV w.params).In h := by
  obtain ⟨es, n, t, I, e⟩ := heapW_is w
  intro a o hl
  refine Y.says a o ?_
  rw [e]
  exact known_in (kv_in w.params es n t) (kv_alive w.params) (a, o) (lookup_mem hl)
noncomputable abbrev LS : List Str := looseW qV looseV
/-- what a call of a def gives: its value and the ledger behind it, whatever frame calls -/
abbrev Cl (w : World) (mean : ExcName → Option Value) (mg mb : Str → Option Value) (f : Addr) (args : List Value) (news : List (Addr × Obj)) (D U : Nat) (Post : Value → List (Addr × Obj) → Prop) : Prop :=
  ∀ (dp un : Nat) (gd : Option (List Code)) (cn : Str) (cs : Scope) (a : Addr) (ccd : Value) (cl : List (Str × Addr)) (outer : List Env) (A₀ : Around) (base h₀ : Heap) (L : Addr) (m : Str → Option Value) (s : Shared) (Q E : Value → Shared → Prop),
    SaysV w base → Below A₀ base outer h₀ → Fr h₀ L s.heap m → (KV w.params).In h₀ → News h₀ L s.heap news → Top qV LS mean mg mb h₀ → cs.kind = .function → dp + D < recursionLimit → un + U < cLine →
    (∀ v news' h' tk', Post v news' → Fr h₀ L h' m → News h₀ L h' news' → Q v { s with heap := h', toks := tk' }) →
    wpAny (model PySem.Challenge.rw_ai0034_01.row.prog w) (ktrTop dp un gd cn cs L a ccd cl outer) (call (.ref f) args) Q E s
theorem Cl.use {w : World} {mean : ExcName → Option Value} {mg mb : Str → Option Value} {f : Addr} {args : List Value} {news news₀ : List (Addr × Obj)} {D U : Nat} {Post : Value → List (Addr × Obj) → Prop} (C : Cl w mean mg mb f args news D U Post)
    {dp un : Nat} {gd : Option (List Code)} {cn : Str} {cs : Scope} {a : Addr} {ccd : Value} {cl : List (Str × Addr)} {outer : List Env} {A₀ : Around} {base h₀ : Heap} {L : Addr} {m : Str → Option Value} {s : Shared} {Q E : Value → Shared → Prop}
    (Y : SaysV w base) (B : Below A₀ base outer h₀) (F : Fr h₀ L s.heap m) (X : (KV w.params).In h₀) (N : News h₀ L s.heap news₀) (hs : ∀ p ∈ news, p ∈ news₀) (T : Top qV LS mean mg mb h₀) (hk : cs.kind = .function) (hd : dp + D < recursionLimit) (hu : un + U < cLine)
    (h : ∀ v news' h' tk', Post v news' → Fr h₀ L h' m → News h₀ L h' news' → Q v { s with heap := h', toks := tk' }) :
    wpAny (model PySem.Challenge.rw_ai0034_01.row.prog w) (ktrTop dp un gd cn cs L a ccd cl outer) (call (.ref f) args) Q E s :=
  C _ _ _ _ _ _ _ _ _ _ _ _ _ _ _ _ _ Y B F X (fun p hp => N p (hs p hp)) T hk hd hu h
noncomputable abbrev en (P : Params) (x : String) (k : Tok) (v : Value) : DictEntry := ⟨PyData.keyHash P (Str.ofString x), .str (Str.ofString x) k, v⟩
/-- a stemmer's dict, as set_current lays it -/
noncomputable abbrev d6 (P : Params) (k1 k2 k3 k4 k5 k6 : Tok) (v1 v2 v3 v4 v5 v6 : Value) : Obj :=
  dictOf [en P "current" k1 v1, en P "cursor" k2 v2, en P "limit" k3 v3, en P "limit_backward" k4 v4, en P "bra" k5 v5, en P "ket" k6 v6] 6
/-- .. and with its two marks -/
noncomputable abbrev d8 (P : Params) (k1 k2 k3 k4 k5 k6 k7 k8 : Tok) (v1 v2 v3 v4 v5 v6 v7 v8 : Value) : Obj :=
  dictOf [en P "current" k1 v1, en P "cursor" k2 v2, en P "limit" k3 v3, en P "limit_backward" k4 v4, en P "bra" k5 v5, en P "ket" k6 v6, en P "I_pV" k7 v7, en P "I_p2" k8 v8] 8
local macro_rules | `(tactic| k_all) => `(tactic| assumption)
section
variable {w : World} {mean : ExcName → Option Value} {mg mb : Str → Option Value}
theorem setcur0 (wd : Str) (t1 : Tok) (x d : Addr) (rest : List (Addr × Obj)) (hw1 : wd.length ≤ 1000) (hxd : x ≠ d) (hr : ∀ p ∈ rest, p.1 ≠ d) :
    Cl w mean mg mb 42 [.ref x, .str wd t1] ((x, instObj 852 d) :: (d, dictOf [] 0) :: rest) 1 8 fun v news' => v = .none ∧ ∃ k1 k2 k3 k4 k5 k6 c1 c2 c3 c4 c5 c6,
      news' = ((x, instObj 852 d) :: (d, d6 w.params k1 k2 k3 k4 k5 k6 (.str wd c1) (.int 0 c2) (.int (wd.length : Int) c3) (.int 0 c4) (.int 0 c5) (.int (wd.length : Int) c6)) :: rest) := by
  dsimp only [Cl]
  k_fill
  intro dp un gd cn cs a ccd cl outer A₀ base h₀ L m s Q E Y B F X N T hk hd1 hu hret
  refine wpAny_call ?_
  k_dflt cell_enter
  k_steps
  exact hret _ _ _ _ ⟨rfl, _, _, _, _, _, _, _, _, _, _, _, _, rfl⟩ (by k_asm) (by k_asm)
theorem setcur6 (wd : Str) (t1 : Tok) (x d : Addr) (rest : List (Addr × Obj)) (k1 k2 k3 k4 k5 k6 : Tok) (v1 v2 v3 v4 v5 v6 : Value) (hw1 : wd.length ≤ 1000) (hxd : x ≠ d) (hr : ∀ p ∈ rest, p.1 ≠ d) :
    Cl w mean mg mb 42 [.ref x, .str wd t1] ((x, instObj 852 d) :: (d, d6 w.params k1 k2 k3 k4 k5 k6 v1 v2 v3 v4 v5 v6) :: rest) 1 8 fun v news' => v = .none ∧ ∃ c1 c2 c3 c4 c5 c6,
      news' = ((x, instObj 852 d) :: (d, d6 w.params k1 k2 k3 k4 k5 k6 (.str wd c1) (.int 0 c2) (.int (wd.length : Int) c3) (.int 0 c4) (.int 0 c5) (.int (wd.length : Int) c6)) :: rest) := by
  dsimp only [Cl]
  k_fill
  intro dp un gd cn cs a ccd cl outer A₀ base h₀ L m s Q E Y B F X N T hk hd1 hu hret
  refine wpAny_call ?_
  k_dflt cell_enter
  k_steps
  exact hret _ _ _ _ ⟨rfl, _, _, _, _, _, _, rfl⟩ (by k_asm) (by k_asm)
theorem setcur8 (wd : Str) (t1 : Tok) (x d : Addr) (rest : List (Addr × Obj)) (k1 k2 k3 k4 k5 k6 k7 k8 : Tok) (v1 v2 v3 v4 v5 v6 v7 v8 : Value) (hw1 : wd.length ≤ 1000) (hxd : x ≠ d) (hr : ∀ p ∈ rest, p.1 ≠ d) :
    Cl w mean mg mb 42 [.ref x, .str wd t1] ((x, instObj 852 d) :: (d, d8 w.params k1 k2 k3 k4 k5 k6 k7 k8 v1 v2 v3 v4 v5 v6 v7 v8) :: rest) 1 8 fun v news' => v = .none ∧ ∃ c1 c2 c3 c4 c5 c6,
      news' = ((x, instObj 852 d) :: (d, d8 w.params k1 k2 k3 k4 k5 k6 k7 k8 (.str wd c1) (.int 0 c2) (.int (wd.length : Int) c3) (.int 0 c4) (.int 0 c5) (.int (wd.length : Int) c6) v7 v8) :: rest) := by
  dsimp only [Cl]
  k_fill
  intro dp un gd cn cs a ccd cl outer A₀ base h₀ L m s Q E Y B F X N T hk hd1 hu hret
  refine wpAny_call ?_
  k_dflt cell_enter
  k_steps
  exact hret _ _ _ _ ⟨rfl, _, _, _, _, _, _, rfl⟩ (by k_asm) (by k_asm)
end
noncomputable abbrev prg : Program := PySem.Challenge.rw_ai0034_01.row.prog
noncomputable def isVS (x : Str) : Bool := decide (x ∈ gvNames)
theorem gv_setOf {w : World} {base h : Heap} (Y : SaysV w base) (st : ∀ b o, base.get? b = some o → h.get? b = some o) : h.SetOf (strKind prg w) 230 isVS 8 := by
  obtain ⟨es, n, t, I, e⟩ := heapW_is w
  have hg : h.get? 230 = some (setO es n t) := by
    refine st _ _ (Y.says 230 _ ?_)
    rw [e]
    refine get_list ?_ rfl
    show (LS23 w.params es n t)[230]? = some (setO es n t)
    kernel_rfl
  have hn : gvNames.reverse.length = 8 := by rw [List.length_reverse]; show (gvRows.map (·.1)).length = 8; rw [List.length_map, gv_len]
  refine ⟨_, es, n, t, hg, ⟨rfl, rfl, rfl⟩, rfl, fun x hx => ?_, fun k => ?_, ?_, I.fits, by rw [I.size, hn]⟩
  · obtain ⟨y, tk, _, rfl⟩ := I.elems x hx
    exact ⟨⟨y, by show (y == y) = true; exact beq_self_eq_true y, rfl⟩, rfl⟩
  · unfold isVS
    rw [decide_eq_true_eq]
    constructor
    · intro hk
      obtain ⟨tk, q⟩ := I.all k (List.mem_reverse.mpr hk)
      exact ⟨_, q, by show (k == k) = true; exact beq_self_eq_true k⟩
    · rintro ⟨x, hx, hk⟩
      obtain ⟨y, tk, hy, rfl⟩ := I.elems x hx
      have : y = k := eq_of_beq (show (y == k) = true from hk)
      rw [← this]
      exact List.mem_reverse.mp hy
  · rw [I.size, hn]; show 8 < 4096; omega
section
variable {prog : Program} {w : World} {A : Around} {E : Value → Shared → Prop} {Q : Flow → Shared → Prop} {s : Shared} {env : Env} {h₀ : Heap} {L : Addr}
/-- a while over states σ: its ledger, its locals, what holds, what falls -/
noncomputable def WEnd {σ : Type} (h₀ : Heap) (L : Addr) (s : Shared) (Led : σ → List (Addr × Obj)) (Mp : σ → Str → Option Value) (P : σ → Prop) (μ : σ → Nat) (c : σ) (s₂ : Shared) : Prop :=
  ∃ (c' : σ) (h' : Heap) (tk : Nat), s₂ = { s with heap := h', toks := tk } ∧ Fr h₀ L h' (Mp c') ∧ News h₀ L h' (Led c') ∧ P c' ∧ μ c' < μ c
noncomputable def WPost {σ : Type} (h₀ : Heap) (L : Addr) (s : Shared) (Led : σ → List (Addr × Obj)) (Mp : σ → Str → Option Value) (P : σ → Prop) (μ : σ → Nat) (Q : Flow → Shared → Prop) (c : σ) (f : Flow) (s₂ : Shared) : Prop :=
  match f with
  | .ret v => Q (.ret v) s₂
  | .brk => Q .next s₂
  | _ => WEnd h₀ L s Led Mp P μ c s₂
theorem while_by {σ : Type} {test : Expr} {body : List Stmt} {pos : Pos} {m₀ : Str → Option Value} {news : List (Addr × Obj)} (Led : σ → List (Addr × Obj)) (Mp : σ → Str → Option Value) (P : σ → Prop) (μ : σ → Nat) (c₀ : σ)
    (F : Fr h₀ L s.heap m₀) (N : News h₀ L s.heap news) (hm : m₀ = Mp c₀) (hn : ∀ p ∈ Led c₀, p ∈ news) (hp : P c₀)
    (turn : ∀ (c : σ) h tk, P c → Fr h₀ L h (Mp c) → News h₀ L h (Led c) →
      wpAny (model prog w) A (isTrue test env (eval test env)) (fun b s₂ =>
        if b = true then wpAny (model prog w) A (execs body env) (WPost h₀ L s Led Mp P μ Q c) E s₂ else Q .next s₂) E { s with heap := h, toks := tk })
    (hE : PassesOwn (model prog w) A env E := by passes_own) :
    wpAny (model prog w) A (exec (.While test body [] pos) env) Q E s := by
  subst hm
  refine While_inv2 (fun n m nx => ∃ c : σ, nx = Led c ∧ m = Mp c ∧ μ c = n ∧ P c) F (fun p hp => N p (hn p hp)) ⟨c₀, rfl, rfl, rfl, hp⟩ ?_ hE
  rintro n m₁ nx h tk F₁ N₁ ⟨c, rfl, rfl, rfl, hp'⟩
  refine wpAny_mono (turn c h tk hp' F₁ N₁) (fun b s₂ p => ?_) fun _ _ x => x
  cases b with
  | false => simpa using p
  | true =>
    simp only [if_true] at p ⊢
    refine wpAny_mono p (fun f s₃ q => ?_) fun _ _ x => x
    cases f with
    | ret v => exact q
    | brk => exact q
    | next =>
      obtain ⟨c', h', tk', rfl, F', N', hp9, hm9⟩ := q
      exact ⟨h', tk', _, _, μ c', rfl, F', N', hm9, c', rfl, rfl, rfl, hp9⟩
    | cont =>
      obtain ⟨c', h', tk', rfl, F', N', hp9, hm9⟩ := q
      exact ⟨h', tk', _, _, μ c', rfl, F', N', hm9, c', rfl, rfl, rfl, hp9⟩
end
section
variable {w : World} {A A₀ : Around} {E : Value → Shared → Prop} {s : Shared} {h₀ base : Heap} {outer : List Env} {L : Addr} {m : Str → Option Value}
/-- the sign at a place -/
noncomputable def ch (x : Str) (i : Int) : Nat := x.cps.getD i.toNat 0
theorem item_str {prog : Program} {value slice : PySem.Expr} {x : Str} {t u : Tok} {i : Int} {Q : Value → Shared → Prop} (h0 : 0 ≤ i) (h1 : i < x.length) (hl : x.length ≤ 1000) (h : Q (.str ⟨#[ch x i]⟩ s.toks) { s with toks := s.toks + 1 })
    (hs : subscripted slice false (.str x t) (.int i u) = operate [.str x t, .int i u] (getItem (.str x t) (.int i u)) := by first | with_reducible rfl | rfl) :
    wpAny (model prog w) A (subscriptTail value slice (.str x t) (.int i u)) Q E s := by
  have hi : i.toNat < x.cps.size := by
    have : i.toNat < x.length := by omega
    exact this
  have hq : seqIndex? i x.length = some i.toNat := by
    unfold seqIndex?
    have hn : ¬ i < 0 := by omega
    simp [hn, h0, h1]
  have hc : Txt.charAt x i = some (ch x i) := by
    unfold Txt.charAt ch
    rw [hq]
    show x.cps[i.toNat]? = _
    rw [Array.getD_eq_getD_getElem?, Array.getElem?_eq_getElem hi]
    rfl
  refine tail_any (PySem.typeIs_str _ _ _) F.slot_str_getitem.lookup (SB.getItem ?_ (by rw [hc]; rfl) ?_) hs
  · exact fitsSsize_of (N := 9223372036854775808) (by omega) (by omega) (Int.le_refl _)
  · unfold Txt.item
    rw [hc]
    exact h
theorem in_gv {y : Str} {u : Tok} {Q : Value → Shared → Prop} (Y : SaysV w base) (B : Below A₀ base outer h₀) (F : Fr h₀ L s.heap m) (h : Q (.bool (isVS y)) { s with toks := s.toks + 1 }) :
    wpAny (model PySem.Challenge.rw_ai0034_01.row.prog w) A (compareOp .In (.str y u) (.ref 230)) Q E s :=
  wpAny_inSet_of (knd := strKind prg w) (k := y) (by show (y == y) = true; exact beq_self_eq_true y) rfl (gv_setOf Y fun b o e => F.keep b o (B.stays b o e)) h
theorem notin_gv {y : Str} {u : Tok} {Q : Value → Shared → Prop} (Y : SaysV w base) (B : Below A₀ base outer h₀) (F : Fr h₀ L s.heap m) (h : Q (.bool (!isVS y)) { s with toks := s.toks + 1 }) :
    wpAny (model PySem.Challenge.rw_ai0034_01.row.prog w) A (compareOp .NotIn (.str y u) (.ref 230)) Q E s :=
  wpAny_notInSet_of (knd := strKind prg w) (k := y) (by show (y == y) = true; exact beq_self_eq_true y) rfl (gv_setOf Y fun b o e => F.keep b o (B.stays b o e)) h
end
section
/-- the first place from i whose sign has p; the length if there is none -/
noncomputable def sk (p : Nat → Bool) (x : Str) (i : Int) : Int :=
  if h : i < x.length then (if p (ch x i) then i else sk p x (i + 1)) else i
termination_by ((x.length : Int) - i).toNat
decreasing_by omega
theorem sk_stop {p : Nat → Bool} {x : Str} {i : Int} (h : i < x.length) (hp : p (ch x i) = true) : sk p x i = i := by rw [sk, dif_pos h, if_pos hp]
theorem sk_go {p : Nat → Bool} {x : Str} {i : Int} (h : i < x.length) (hp : p (ch x i) = false) : sk p x (i + 1) = sk p x i := by rw [sk.eq_1 p x i, dif_pos h, if_neg (by rw [hp]; decide)]
theorem sk_end {p : Nat → Bool} {x : Str} {i : Int} (h : ¬ i < x.length) : sk p x i = i := by rw [sk, dif_neg h]
theorem sk_bounds {p : Nat → Bool} {x : Str} : ∀ (n : Nat) (i : Int), ((x.length : Int) - i).toNat = n → i ≤ sk p x i ∧ (i ≤ x.length → sk p x i ≤ x.length) ∧ (sk p x i < x.length → p (ch x (sk p x i)) = true)
  | 0, i, h => by
    have : ¬ i < x.length := by omega
    rw [sk_end this]
    exact ⟨Int.le_refl _, id, fun h => absurd h this⟩
  | n + 1, i, h => by
    have hi : i < x.length := by omega
    cases hp : p (ch x i) with
    | true => rw [sk_stop hi hp]; exact ⟨Int.le_refl _, id, fun _ => hp⟩
    | false =>
      rw [← sk_go hi hp]
      obtain ⟨a, b, c⟩ := sk_bounds (p := p) (x := x) n (i + 1) (by omega)
      exact ⟨by omega, fun _ => b (by omega), c⟩
theorem sk_ge (p : Nat → Bool) (x : Str) (i : Int) : i ≤ sk p x i := (sk_bounds _ i rfl).1
theorem sk_le (p : Nat → Bool) {x : Str} {i : Int} (h : i ≤ x.length) : sk p x i ≤ x.length := (sk_bounds _ i rfl).2.1 h
theorem sk_has {p : Nat → Bool} {x : Str} {i : Int} (h : sk p x i < x.length) : p (ch x (sk p x i)) = true := (sk_bounds _ i rfl).2.2 h
noncomputable def vo (y : Nat) : Bool := isVS ⟨#[y]⟩
noncomputable def nv (y : Nat) : Bool := !isVS ⟨#[y]⟩
end
theorem kw_1 : True := by
  k_with "subscriptTail" => (k_here; (with_reducible show wpAny _ _ (subscriptTail _ _ (Value.str _ _) (Value.int _ _)) _ _ _); (refine' item_str ?i1 ?i2 ?i3 ?_; (case i1 => omega); (case i2 => omega); (case i3 => omega); k_whole))
  trivial
theorem kw_2 : True := by
  k_with "compareOp In str ref" => (k_here; k_dflt (refine' in_gv ?i1 ?i2 ?i3 ?_; (case i1 => with_reducible assumption); (case i2 => k_asm); (case i3 => k_asm); k_whole))
  trivial
theorem kw_3 : True := by
  k_with "compareOp NotIn str ref" => (k_here; k_dflt (refine' notin_gv ?i1 ?i2 ?i3 ?_; (case i1 => with_reducible assumption); (case i2 => k_asm); (case i3 => k_asm); k_whole))
  trivial
theorem kw_4 : True := by
  k_with "WPost" => ((with_reducible show WPost _ _ _ _ _ _ _ _ _ (Flow.ret _) _); dsimp only [WPost])
  trivial
theorem kw_5 : True := by
  k_with "WPost" => ((with_reducible show WPost _ _ _ _ _ _ _ _ _ Flow.brk _); dsimp only [WPost])
  trivial
section
variable {w : World} {mean : ExcName → Option Value} {mg mb : Str → Option Value}
theorem goout (wd : Str) (x d : Addr) (rest : List (Addr × Obj)) (k1 k2 k3 k4 k5 k6 k7 k8 c1 c2 c3 : Tok) (i : Int) (v4 v5 v6 v7 v8 : Value) (hw1 : wd.length ≤ 1000) (hi : 0 ≤ i) (hi' : i ≤ wd.length) (hxd : x ≠ d) (hr : ∀ p ∈ rest, p.1 ≠ d) :
    Cl w mean mg mb 98 [.ref x, .ref 230] ((x, instObj 852 d) :: (d, d8 w.params k1 k2 k3 k4 k5 k6 k7 k8 (.str wd c1) (.int i c2) (.int (wd.length : Int) c3) v4 v5 v6 v7 v8) :: rest) 1 8 fun v news' =>
      v = .bool (decide (sk vo wd i < wd.length)) ∧ ∃ c2', news' = ((x, instObj 852 d) :: (d, d8 w.params k1 k2 k3 k4 k5 k6 k7 k8 (.str wd c1) (.int (sk vo wd i) c2') (.int (wd.length : Int) c3) v4 v5 v6 v7 v8) :: rest) := by
  dsimp only [Cl]
  k_fill
  intro dp un gd cn cs a ccd cl outer A₀ base h₀ L m s Q E Y B F X N T hk hd1 hu hret
  refine wpAny_call ?_
  k_dflt cell_enter
  refine wpAny_execs_cons ?_
  refine' while_by (σ := Int × Tok) (fun c => (x, instObj 852 d) :: (d, d8 w.params k1 k2 k3 k4 k5 k6 k7 k8 (.str wd c1) (.int c.1 c.2) (.int (wd.length : Int) c3) v4 v5 v6 v7 v8) :: rest) (fun _ => _) (fun c => (i ≤ c.1 ∧ c.1 ≤ wd.length) ∧ sk vo wd c.1 = sk vo wd i) (fun c => (wd.length - c.1).toNat) (i, c2) ?kF ?kN ?km ?kn ?kp ?kt
  case kF => k_asm
  case kN => k_asm
  case km => exact rfl
  case kn => exact fun p hp => hp
  case kp => exact ⟨⟨Int.le_refl _, hi'⟩, rfl⟩
  intro c hW tkW pW FW NW
  obtain ⟨ci, ct⟩ := c
  dsimp only at pW FW NW ⊢
  obtain ⟨⟨pW1, pW2⟩, pW3⟩ := pW
  have hS : ci < wd.length → isVS ⟨#[ch wd ci]⟩ = true → Value.bool true = .bool (decide (sk vo wd i < wd.length)) ∧ sk vo wd i = ci := fun a b => by
    have e : sk vo wd i = ci := pW3 ▸ sk_stop a (by show vo (ch wd ci) = true; unfold vo; simp [b])
    exact ⟨by rw [e, decide_eq_true a], e⟩
  have hG : ci < wd.length → isVS ⟨#[ch wd ci]⟩ = false → ci + 1 ≤ wd.length ∧ sk vo wd (ci + 1) = sk vo wd i ∧ ((wd.length : Int) - (ci + 1)).toNat < ((wd.length : Int) - ci).toNat := fun a b =>
    ⟨by omega, (sk_go a (by show vo (ch wd ci) = false; unfold vo; simp [b])).trans pW3, by omega⟩
  have hE : ¬ ci < wd.length → Value.bool false = .bool (decide (sk vo wd i < wd.length)) ∧ sk vo wd i = ci := fun a => by
    have e : sk vo wd i = ci := pW3 ▸ sk_end a
    exact ⟨by rw [e, decide_eq_false a], e⟩
  k_steps
  all_goals first
    | (have h9 := hS (by assumption) (by assumption); refine hret _ _ _ _ ⟨h9.1, ct, rfl⟩ (by k_asm) ?_; rw [h9.2]; k_asm)
    | (have h9 := hE (by assumption); refine hret _ _ _ _ ⟨h9.1, ct, rfl⟩ (by k_asm) ?_; rw [h9.2]; k_asm)
    | (have h9 := hG (by assumption) (by assumption); exact ⟨(ci + 1, _), _, _, rfl, by k_asm, by k_asm, ⟨⟨by omega, h9.1⟩, h9.2.1⟩, h9.2.2⟩)
theorem goin (wd : Str) (x d : Addr) (rest : List (Addr × Obj)) (k1 k2 k3 k4 k5 k6 k7 k8 c1 c2 c3 : Tok) (i : Int) (v4 v5 v6 v7 v8 : Value) (hw1 : wd.length ≤ 1000) (hi : 0 ≤ i) (hi' : i ≤ wd.length) (hxd : x ≠ d) (hr : ∀ p ∈ rest, p.1 ≠ d) :
    Cl w mean mg mb 70 [.ref x, .ref 230] ((x, instObj 852 d) :: (d, d8 w.params k1 k2 k3 k4 k5 k6 k7 k8 (.str wd c1) (.int i c2) (.int (wd.length : Int) c3) v4 v5 v6 v7 v8) :: rest) 1 8 fun v news' =>
      v = .bool (decide (sk nv wd i < wd.length)) ∧ ∃ c2', news' = ((x, instObj 852 d) :: (d, d8 w.params k1 k2 k3 k4 k5 k6 k7 k8 (.str wd c1) (.int (sk nv wd i) c2') (.int (wd.length : Int) c3) v4 v5 v6 v7 v8) :: rest) := by
  dsimp only [Cl]
  k_fill
  intro dp un gd cn cs a ccd cl outer A₀ base h₀ L m s Q E Y B F X N T hk hd1 hu hret
  refine wpAny_call ?_
  k_dflt cell_enter
  refine wpAny_execs_cons ?_
  refine' while_by (σ := Int × Tok) (fun c => (x, instObj 852 d) :: (d, d8 w.params k1 k2 k3 k4 k5 k6 k7 k8 (.str wd c1) (.int c.1 c.2) (.int (wd.length : Int) c3) v4 v5 v6 v7 v8) :: rest) (fun _ => _) (fun c => (i ≤ c.1 ∧ c.1 ≤ wd.length) ∧ sk nv wd c.1 = sk nv wd i) (fun c => (wd.length - c.1).toNat) (i, c2) ?kF ?kN ?km ?kn ?kp ?kt
  case kF => k_asm
  case kN => k_asm
  case km => exact rfl
  case kn => exact fun p hp => hp
  case kp => exact ⟨⟨Int.le_refl _, hi'⟩, rfl⟩
  intro c hW tkW pW FW NW
  obtain ⟨ci, ct⟩ := c
  dsimp only at pW FW NW ⊢
  obtain ⟨⟨pW1, pW2⟩, pW3⟩ := pW
  have hS : ci < wd.length → isVS ⟨#[ch wd ci]⟩ = false → Value.bool true = .bool (decide (sk nv wd i < wd.length)) ∧ sk nv wd i = ci := fun a b => by
    have e : sk nv wd i = ci := pW3 ▸ sk_stop a (by show nv (ch wd ci) = true; unfold nv; simp [b])
    exact ⟨by rw [e, decide_eq_true a], e⟩
  have hG : ci < wd.length → isVS ⟨#[ch wd ci]⟩ = true → ci + 1 ≤ wd.length ∧ sk nv wd (ci + 1) = sk nv wd i ∧ ((wd.length : Int) - (ci + 1)).toNat < ((wd.length : Int) - ci).toNat := fun a b =>
    ⟨by omega, (sk_go a (by show nv (ch wd ci) = false; unfold nv; simp [b])).trans pW3, by omega⟩
  have hE : ¬ ci < wd.length → Value.bool false = .bool (decide (sk nv wd i < wd.length)) ∧ sk nv wd i = ci := fun a => by
    have e : sk nv wd i = ci := pW3 ▸ sk_end a
    exact ⟨by rw [e, decide_eq_false a], e⟩
  k_steps
  all_goals first
    | (have h9 := hS (by assumption) (by assumption); refine hret _ _ _ _ ⟨h9.1, ct, rfl⟩ (by k_asm) ?_; rw [h9.2]; k_asm)
    | (have h9 := hE (by assumption); refine hret _ _ _ _ ⟨h9.1, ct, rfl⟩ (by k_asm) ?_; rw [h9.2]; k_asm)
    | (have h9 := hG (by assumption) (by assumption); exact ⟨(ci + 1, _), _, _, rfl, by k_asm, by k_asm, ⟨⟨by omega, h9.1⟩, h9.2.1⟩, h9.2.2⟩)
end
/-- a table of the language, as the heap holds it -/
structure TabAt (P : Params) (h : Heap) (l n0 : Addr) (tab : List (Str × Int)) : Prop where
  lst : h.IsList l (refsFrom n0 tab.length).toArray
  row : ∀ j r, tab[j]? = some r → ∃ k1 k2 k3 t1 t2 t3, InstAt h (n0 + 3 * j + 1) (instObj 218 (n0 + 3 * j)) 218 (some (dictOf [en P "s" k1 (.str r.1 t1), en P "substring_i" k2 (.int r.2 t2), en P "result" k3 (.int 1 t3)] 3))
theorem TabAt.keeps {P : Params} {h h' : Heap} {l n0 : Addr} {tab : List (Str × Int)} (T : TabAt P h l n0 tab) (st : ∀ b o, h.get? b = some o → h'.get? b = some o) : TabAt P h' l n0 tab := by
  refine ⟨T.lst.at fun o e => st _ _ e, fun j r hr => ?_⟩
  obtain ⟨k1, k2, k3, t1, t2, t3, I⟩ := T.row j r hr
  exact ⟨k1, k2, k3, t1, t2, t3, st _ _ I.at_, I.cls, I.no, st _ _ I.dict⟩
theorem refsFrom_len : ∀ (n k : Nat), (refsFrom n k).length = k
  | _, 0 => rfl
  | n, k + 1 => by show (refsFrom (n + 3) k).length + 1 = k + 1; rw [refsFrom_len]
theorem refsFrom_at : ∀ (n k j : Nat), j < k → (refsFrom n k)[j]? = some (.ref (n + 3 * j + 1))
  | n, k + 1, 0, _ => rfl
  | n, k + 1, j + 1, h => by
    show (refsFrom (n + 3) k)[j]? = _
    rw [refsFrom_at (n + 3) k j (by omega)]
    have e : n + 3 + 3 * j + 1 = n + 3 * (j + 1) + 1 := by omega
    rw [e]
theorem tabObjs_at (P : Params) : ∀ (rs : List (Str × Int)) (n tk j : Nat) (r : Str × Int), rs[j]? = some r → ∃ tk', (tabObjs P n tk rs)[3 * j]? = (rowObjs P (n + 3 * j) tk' r)[0]? ∧ (tabObjs P n tk rs)[3 * j + 1]? = (rowObjs P (n + 3 * j) tk' r)[1]?
  | [], _, _, _, _, h => by cases h
  | r :: rs, n, tk, 0, _, h => by
    cases h
    exact ⟨tk, rfl, rfl⟩
  | r :: rs, n, tk, j + 1, r', h => by
    obtain ⟨tk', a, b⟩ := tabObjs_at P rs (n + 3) (tk + (tokOf r.2).2.2.2) j r' h
    have e : n + 3 * (j + 1) = n + 3 + 3 * j := by omega
    refine ⟨tk', ?_, ?_⟩
    · rw [e, ← a]; rfl
    · rw [e, ← b]; rfl
theorem tab_of {P : Params} {h : Heap} {l n0 tk : Addr} {tab : List (Str × Int)} (hl : h.get? l = some (tabList n0 tab.length)) (ho : ∀ (i : Nat) o, (tabObjs P n0 tk tab)[i]? = some o → alive o = some o → h.get? (n0 + i) = some o) : TabAt P h l n0 tab := by
  refine ⟨⟨_, hl, rfl, ⟨_, rfl⟩⟩, fun j r hr => ?_⟩
  obtain ⟨tk', a, b⟩ := tabObjs_at P tab n0 tk j r hr
  refine ⟨_, _, _, _, _, _, ho (3 * j + 1) _ b rfl, rfl, rfl, ho (3 * j) _ a rfl⟩
noncomputable abbrev T0 : List (Str × Int) := rows 0
theorem tabs_at {w : World} {h : Heap} (Y : SaysV w h) : TabAt w.params h 342 273 (rows 0) ∧ TabAt w.params h 556 343 (rows 1) ∧ TabAt w.params h 677 557 (rows 2) ∧ TabAt w.params h 849 678 (rows 3) := by
  obtain ⟨es, n, t, I, e⟩ := heapW_is w
  have at_ : ∀ (a : Nat) o, (LS23 w.params es n t)[a]? = some o → alive o = some o → h.get? a = some o := fun a o h1 h2 => by
    refine Y.says a o ?_
    rw [e]
    exact get_list h1 h2
  have seg : ∀ (n0 tk : Nat) (tab : List (Str × Int)), (((LS23 w.params es n t).drop n0).take (3 * tab.length)) = tabObjs w.params n0 tk tab → ∀ (i : Nat) o, (tabObjs w.params n0 tk tab)[i]? = some o → alive o = some o → h.get? (n0 + i) = some o := fun n0 tk tab hs i o h1 h2 => by
    refine at_ _ _ ?_ h2
    rw [← hs, List.getElem?_take, List.getElem?_drop] at h1
    split at h1
    · exact h1
    · cases h1
  refine ⟨tab_of (tk := 542) (at_ _ _ ?_ ?_) (seg 273 542 _ ?_), tab_of (tk := 860) (at_ _ _ ?_ ?_) (seg 343 860 _ ?_), tab_of (tk := 1820) (at_ _ _ ?_ ?_) (seg 557 1820 _ ?_), tab_of (tk := 2362) (at_ _ _ ?_ ?_) (seg 678 2362 _ ?_)⟩
  all_goals kernel_rfl
section
/-- the order of the tables: of texts from their ends -/
noncomputable def lle : List Nat → List Nat → Bool
  | [], _ => true
  | _ :: _, [] => false
  | a :: as, b :: bs => decide (a < b) || (a == b && lle as bs)
noncomputable def lcp : List Nat → List Nat → Nat
  | a :: as, b :: bs => if a = b then lcp as bs + 1 else 0
  | _, _ => 0
theorem lle_refl : ∀ a : List Nat, lle a a = true
  | [] => rfl
  | a :: as => by simp [lle, lle_refl as]
theorem lle_total : ∀ a b : List Nat, lle a b = false → lle b a = true
  | [], _, h => by simp [lle] at h
  | a :: as, [], _ => rfl
  | a :: as, b :: bs, h => by
    simp only [lle, Bool.or_eq_false_iff, decide_eq_false_iff_not, Bool.and_eq_false_iff, beq_eq_false_iff_ne] at h
    simp only [lle, Bool.or_eq_true, decide_eq_true_eq, Bool.and_eq_true, beq_iff_eq]
    rcases h.2 with h2 | h2
    · exact .inl (by omega)
    · by_cases e : a = b
      · exact .inr ⟨e.symm, lle_total as bs h2⟩
      · exact .inl (by omega)
theorem lle_trans : ∀ a b c : List Nat, lle a b = true → lle b c = true → lle a c = true
  | [], _, _, _, _ => rfl
  | a :: as, [], _, h, _ => by simp [lle] at h
  | a :: as, b :: bs, [], _, h => by simp [lle] at h
  | a :: as, b :: bs, c :: cs, h1, h2 => by
    simp only [lle, Bool.or_eq_true, decide_eq_true_eq, Bool.and_eq_true, beq_iff_eq] at h1 h2 ⊢
    rcases h1 with h1 | ⟨rfl, h1⟩
    · rcases h2 with h2 | ⟨rfl, h2⟩
      · exact .inl (by omega)
      · exact .inl h1
    · rcases h2 with h2 | ⟨rfl, h2⟩
      · exact .inl h2
      · exact .inr ⟨rfl, lle_trans as bs cs h1 h2⟩
theorem lcp_le : ∀ a b : List Nat, lcp a b ≤ a.length ∧ lcp a b ≤ b.length
  | [], _ => by simp [lcp]
  | a :: as, [] => by simp [lcp]
  | a :: as, b :: bs => by
    have := lcp_le as bs
    simp only [lcp, List.length_cons]
    split <;> omega
theorem lcp_comm : ∀ a b : List Nat, lcp a b = lcp b a
  | [], [] => rfl
  | [], _ :: _ => rfl
  | _ :: _, [] => rfl
  | a :: as, b :: bs => by
    simp only [lcp, lcp_comm as bs, eq_comm]
theorem pre_lcp : ∀ a b : List Nat, a <+: b ↔ lcp a b = a.length
  | [], b => by simp [lcp]
  | a :: as, [] => by simp [lcp]
  | a :: as, b :: bs => by
    rw [List.cons_prefix_cons, pre_lcp as bs]
    simp only [lcp, List.length_cons]
    split
    · constructor
      · rintro ⟨_, h⟩; omega
      · intro h; exact ⟨‹_›, by omega⟩
    · constructor
      · rintro ⟨h, _⟩; exact absurd h ‹_›
      · intro h; omega
theorem pre_lle {a b : List Nat} (h : a <+: b) : lle a b = true := by
  obtain ⟨t, rfl⟩ := h
  induction a with
  | nil => rfl
  | cons x xs ih => simp [lle, ih]
theorem sandwich : ∀ (m : Nat) (A W B X : List Nat), lle A W = true → lle W B = true → m ≤ lcp A X → m ≤ lcp B X → m ≤ lcp W X
  | 0, _, _, _, _, _, _, _, _ => Nat.zero_le _
  | m + 1, A, W, B, X, h1, h2, h3, h4 => by
    match A, B, X, h1, h2, h3, h4 with
    | [], _, _, _, _, h3, _ => simp [lcp] at h3
    | _ :: _, [], _, _, _, _, h4 => simp [lcp] at h4
    | _ :: _, _ :: _, [], _, _, h3, _ => simp [lcp] at h3
    | a :: as, b :: bs, x :: xs, h1, h2, h3, h4 =>
      simp only [lcp] at h3 h4
      split at h3
      case isFalse => omega
      split at h4
      case isFalse => omega
      subst a b
      match W, h1, h2 with
      | [], h1, _ => simp [lle] at h1
      | y :: ys, h1, h2 =>
        simp only [lle, Bool.or_eq_true, decide_eq_true_eq, Bool.and_eq_true, beq_iff_eq] at h1 h2
        have e : y = x := by
          rcases h1 with h1 | ⟨h1, _⟩
          · rcases h2 with h2 | ⟨h2, _⟩
            · omega
            · exact h2
          · exact h1.symm
        subst e
        have h1' : lle as ys = true := by rcases h1 with h1 | ⟨_, h1⟩; omega; exact h1
        have h2' : lle ys bs = true := by rcases h2 with h2 | ⟨_, h2⟩; omega; exact h2
        have := sandwich m as ys bs xs h1' h2' (by omega) (by omega)
        simp only [lcp, if_true]
        omega
theorem between {W Y X : List Nat} (hp : W <+: X) (h1 : lle W Y = true) (h2 : lle Y X = true) : W <+: Y := by
  have e := (pre_lcp W X).mp hp
  have e2 := (pre_lcp X X).mp (List.prefix_refl X)
  have l1 := (lcp_le W X).2
  have := sandwich W.length W Y X W h1 h2 (by rw [(pre_lcp W W).mp (List.prefix_refl W)]; exact Nat.le_refl _) (by rw [lcp_comm X W, e]; exact Nat.le_refl _)
  have l2 := (lcp_le Y W).2
  rw [pre_lcp, lcp_comm]
  omega
/-- c signs agree -/
noncomputable def Agree (c : Nat) (X W : List Nat) : Prop := c ≤ lcp X W
theorem agree_next : ∀ {c : Nat} {X W : List Nat}, Agree c X W → c < X.length → c < W.length → X.getD c 0 = W.getD c 0 → Agree (c + 1) X W
  | _, [], _, _, h1, _, _ => by simp at h1
  | _, _ :: _, [], _, _, h2, _ => by simp at h2
  | 0, x :: xs, y :: ys, _, _, _, h4 => by
    have e : x = y := by simpa using h4
    unfold Agree
    simp [lcp, e]
  | c + 1, x :: xs, y :: ys, h, h1, h2, h4 => by
    unfold Agree at h ⊢
    simp only [lcp] at h ⊢
    split at h
    case isFalse => omega
    rename_i e
    have := agree_next (c := c) (X := xs) (W := ys) (by unfold Agree; omega) (by simpa using h1) (by simpa using h2) (by simpa using h4)
    unfold Agree at this
    rw [if_pos e]
    omega
theorem agree_at : ∀ {c : Nat} {X W : List Nat}, Agree c X W → ∀ q, q < c → X.getD q 0 = W.getD q 0
  | 0, _, _, _, _, h => by omega
  | c + 1, [], _, h, _, _ => by unfold Agree at h; simp [lcp] at h
  | c + 1, _ :: _, [], h, _, _ => by unfold Agree at h; simp [lcp] at h
  | c + 1, x :: xs, y :: ys, h, q, hq => by
    unfold Agree at h
    simp only [lcp] at h
    split at h
    case isFalse => omega
    rename_i e
    match q, hq with
    | 0, _ => simpa using e
    | q + 1, hq => simpa using agree_at (c := c) (X := xs) (W := ys) (by unfold Agree; omega) q (by omega)
/-- the text is out before the entry -/
theorem cmp_out : ∀ {c : Nat} {X W : List Nat}, Agree c X W → c = X.length → c < W.length → lle W X = false ∧ lcp X W = c
  | 0, [], [], _, _, h => by simp at h
  | 0, [], y :: ys, _, _, _ => by simp [lle, lcp]
  | 0, x :: xs, _, _, h, _ => by simp at h
  | c + 1, [], _, _, h, _ => by simp at h
  | c + 1, x :: xs, [], _, _, h => by simp at h
  | c + 1, x :: xs, y :: ys, h, h1, h2 => by
    unfold Agree at h
    simp only [lcp] at h
    split at h
    case isFalse => omega
    rename_i e
    have := cmp_out (c := c) (X := xs) (W := ys) (by unfold Agree; omega) (by simpa using h1) (by simpa using h2)
    subst e
    simp [lle, lcp, this.1, this.2]
/-- two signs differ -/
theorem cmp_at : ∀ {c : Nat} {X W : List Nat}, Agree c X W → c < X.length → c < W.length → X.getD c 0 ≠ W.getD c 0 → lle W X = decide (W.getD c 0 < X.getD c 0) ∧ lcp X W = c
  | _, [], _, _, h, _, _ => by simp at h
  | _, _ :: _, [], _, _, h, _ => by simp at h
  | 0, x :: xs, y :: ys, _, _, _, h => by
    have : x ≠ y := by simpa using h
    simp [lle, lcp, this, this.symm]
  | c + 1, x :: xs, y :: ys, h, h1, h2, h4 => by
    unfold Agree at h
    simp only [lcp] at h
    split at h
    case isFalse => omega
    rename_i e
    have := cmp_at (c := c) (X := xs) (W := ys) (by unfold Agree; omega) (by simpa using h1) (by simpa using h2) (by simpa using h4)
    subst e
    refine ⟨?_, by simp [lcp, this.2]⟩
    simp only [lle, this.1, beq_self_eq_true, Bool.true_and, Nat.lt_irrefl, decide_false, Bool.false_or]
    simp
/-- the entry is out -/
theorem cmp_all {c : Nat} {X W : List Nat} (h : Agree c X W) (e : c = W.length) : lle W X = true ∧ lcp X W = c := by
  have l := (lcp_le X W).2
  have e' : lcp X W = c := by unfold Agree at h; omega
  refine ⟨pre_lle ((pre_lcp W X).mpr ?_), e'⟩
  rw [lcp_comm, e', e]
end
section
noncomputable def rv (s : Str) : List Nat := s.cps.toList.reverse
/-- the longest entry that ends the text -/
noncomputable def bl : List Str → List Nat → Nat → Nat
  | [], _, b => b
  | e :: es, X, b => bl es X (if b < e.length ∧ (rv e).isPrefixOf X = true then e.length else b)
theorem bl_is : ∀ (l : List Str) (X : List Nat) (b₀ : Nat), b₀ ≤ bl l X b₀ ∧ (bl l X b₀ = b₀ ∨ ∃ e ∈ l, rv e <+: X ∧ e.length = bl l X b₀) ∧ ∀ e ∈ l, rv e <+: X → e.length ≤ bl l X b₀
  | [], X, b₀ => ⟨Nat.le_refl _, .inl rfl, fun e h => nomatch h⟩
  | e :: es, X, b₀ => by
    obtain ⟨h1, h2, h3⟩ := bl_is es X (if b₀ < e.length ∧ (rv e).isPrefixOf X = true then e.length else b₀)
    simp only [bl]
    split at h1
    · rename_i hc
      rw [if_pos hc] at h2 h3 ⊢
      refine ⟨by omega, ?_, fun e' he' hp => ?_⟩
      · rcases h2 with h2 | ⟨e', he', hp⟩
        · exact .inr ⟨e, .head _, List.isPrefixOf_iff_prefix.mp hc.2, h2.symm⟩
        · exact .inr ⟨e', .tail _ he', hp⟩
      · rcases List.mem_cons.mp he' with rfl | he'
        · exact h1
        · exact h3 e' he' hp
    · rename_i hc
      rw [if_neg hc] at h2 h3 ⊢
      refine ⟨by omega, ?_, fun e' he' hp => ?_⟩
      · rcases h2 with h2 | ⟨e', he', hp⟩
        · exact .inl h2
        · exact .inr ⟨e', .tail _ he', hp⟩
      · rcases List.mem_cons.mp he' with rfl | he'
        · have : ¬ b₀ < e'.length := fun h => hc ⟨h, List.isPrefixOf_iff_prefix.mpr hp⟩
          omega
        · exact h3 e' he' hp
theorem bl_found {l : List Str} {X : List Nat} {e : Str} (he : e ∈ l) (hp : rv e <+: X) (hm : ∀ e' ∈ l, rv e' <+: X → e'.length ≤ e.length) : bl l X 0 = e.length := by
  obtain ⟨_, h2, h3⟩ := bl_is l X 0
  have := h3 e he hp
  rcases h2 with h2 | ⟨e', he', hp', h2⟩
  · omega
  · have := hm e' he' hp'
    omega
theorem bl_none {l : List Str} {X : List Nat} (hm : ∀ e' ∈ l, ¬ rv e' <+: X) : bl l X 0 = 0 := by
  obtain ⟨_, h2, h3⟩ := bl_is l X 0
  rcases h2 with h2 | ⟨e', he', hp', h2⟩
  · exact h2
  · exact absurd hp' (hm e' he')
theorem bl_le {l : List Str} {X : List Nat} : bl l X 0 ≤ X.length := by
  obtain ⟨_, h2, h3⟩ := bl_is l X 0
  rcases h2 with h2 | ⟨e', he', hp', h2⟩
  · omega
  · have := hp'.length_le
    rw [← h2]
    simpa [rv, Str.length] using this
/-- the reversed entry at a place -/
noncomputable def Wk (tab : List (Str × Int)) (k : Nat) : List Nat := rv (tab.getD k (⟨#[]⟩, 0)).1
noncomputable def Lk (tab : List (Str × Int)) (k : Nat) : Int := (tab.getD k (⟨#[]⟩, 0)).2
noncomputable def sortedB : List (List Nat) → Bool
  | [] => true
  | a :: r => r.all (lle a ·) && sortedB r
noncomputable def linkB (ws : List (List Nat)) (w : List Nat) (i : Nat) : Int → Bool
  | .negSucc _ => ws.all fun t => !(t.isPrefixOf w) || decide (w.length ≤ t.length)
  | .ofNat l => decide (l < i) && decide (l < ws.length) && (ws.getD l []).isPrefixOf w && ws.all fun t => !(t.isPrefixOf w) || decide (w.length ≤ t.length) || t.isPrefixOf (ws.getD l [])
noncomputable def linksB (ws : List (List Nat)) : Nat → List (List Nat × Int) → Bool
  | _, [] => true
  | i, r :: rs => linkB ws r.1 i r.2 && linksB ws (i + 1) rs
noncomputable def tabB (tab : List (Str × Int)) : Bool :=
  let rs := tab.map fun r => (rv r.1, r.2)
  let ws := rs.map (·.1)
  decide (2 ≤ tab.length) && decide (tab.length ≤ 1000) && ws.all (fun w => decide (1 ≤ w.length) && decide (w.length ≤ 100)) && sortedB ws && linksB ws 0 rs
structure TabOk (tab : List (Str × Int)) : Prop where
  two : 2 ≤ tab.length
  small : tab.length ≤ 1000
  ne : ∀ k, k < tab.length → 1 ≤ (Wk tab k).length ∧ (Wk tab k).length ≤ 100
  sorted : ∀ i j, i < j → j < tab.length → lle (Wk tab i) (Wk tab j) = true
  none : ∀ k, k < tab.length → Lk tab k < 0 → ∀ t, t < tab.length → Wk tab t <+: Wk tab k → (Wk tab k).length ≤ (Wk tab t).length
  link : ∀ k, k < tab.length → 0 ≤ Lk tab k → (Lk tab k).toNat < k ∧ (Lk tab k).toNat < tab.length ∧ Wk tab (Lk tab k).toNat <+: Wk tab k ∧ ∀ t, t < tab.length → Wk tab t <+: Wk tab k → (Wk tab k).length ≤ (Wk tab t).length ∨ Wk tab t <+: Wk tab (Lk tab k).toNat
theorem sortedB_is : ∀ {l : List (List Nat)}, sortedB l = true → ∀ i j, i < j → j < l.length → lle (l.getD i []) (l.getD j []) = true
  | [], _, _, _, _, h => by simp at h
  | a :: r, h, i, j, hij, hj => by
    simp only [sortedB, Bool.and_eq_true] at h
    match i, j, hij with
    | 0, j + 1, _ =>
      have hj : j < r.length := by simpa using hj
      have := List.all_eq_true.mp h.1 (r[j]) (List.getElem_mem hj)
      simpa [List.getElem?_eq_getElem hj] using this
    | i + 1, j + 1, hij => simpa using sortedB_is h.2 i j (by omega) (by simpa using hj)
theorem linksB_is {ws : List (List Nat)} : ∀ {rs : List (List Nat × Int)} {i₀ : Nat}, linksB ws i₀ rs = true → ∀ k, k < rs.length → linkB ws (rs.getD k ([], 0)).1 (i₀ + k) (rs.getD k ([], 0)).2 = true
  | [], _, _, _, h => by simp at h
  | r :: rs, i₀, h, k, hk => by
    simp only [linksB, Bool.and_eq_true] at h
    match k with
    | 0 => simpa using h.1
    | k + 1 =>
      have := linksB_is h.2 k (by simpa using hk)
      have e : i₀ + (k + 1) = i₀ + 1 + k := by omega
      rw [e]
      simpa using this
theorem tabB_is {tab : List (Str × Int)} (h : tabB tab = true) : TabOk tab := by
  simp only [tabB, Bool.and_eq_true, decide_eq_true_eq, List.map_map] at h
  obtain ⟨⟨⟨⟨h1, h0⟩, h2⟩, h3⟩, h4⟩ := h
  have ew : ∀ k, k < tab.length → (tab.map ((·.1) ∘ fun r => (rv r.1, r.2))).getD k [] = Wk tab k := fun k hk => by
    simp [Wk, List.getElem?_eq_getElem hk]
  have er : ∀ k, k < tab.length → (tab.map fun r => (rv r.1, r.2)).getD k ([], 0) = (Wk tab k, Lk tab k) := fun k hk => by
    simp [Wk, Lk, List.getElem?_eq_getElem hk]
  have hmem : ∀ t, t < tab.length → Wk tab t ∈ tab.map ((·.1) ∘ fun r => (rv r.1, r.2)) := fun t ht => by
    rw [← ew t ht]
    have ht' : t < (tab.map ((·.1) ∘ fun r => (rv r.1, r.2))).length := by simpa using ht
    rw [List.getD_eq_getElem?_getD, List.getElem?_eq_getElem ht']
    exact List.getElem_mem ht'
  have lk : ∀ k, k < tab.length → linkB (tab.map ((·.1) ∘ fun r => (rv r.1, r.2))) (Wk tab k) k (Lk tab k) = true := fun k hk => by
    have := linksB_is h4 k (by simpa using hk)
    rw [er k hk, Nat.zero_add] at this
    exact this
  refine ⟨h1, h0, fun k hk => ?_, fun i j hij hj => ?_, fun k hk hn t ht hp => ?_, fun k hk hn => ?_⟩
  · have := List.all_eq_true.mp h2 _ (hmem k hk)
    simpa using this
  · have := sortedB_is h3 i j hij (by simpa using hj)
    rw [ew i (by omega), ew j hj] at this
    exact this
  · have := lk k hk
    cases hL : Lk tab k with
    | ofNat l => rw [hL] at hn; exact absurd hn (by simp)
    | negSucc l =>
      rw [hL] at this
      have := List.all_eq_true.mp this _ (hmem t ht)
      simp only [Bool.or_eq_true, Bool.not_eq_true', decide_eq_true_eq] at this
      rcases this with this | this
      · rw [← Bool.not_eq_true] at this
        exact absurd (List.isPrefixOf_iff_prefix.mpr hp) this
      · exact this
  · have := lk k hk
    cases hL : Lk tab k with
    | negSucc l => rw [hL] at hn; exact absurd hn (by simp)
    | ofNat l =>
      rw [hL] at this
      simp only [linkB, Bool.and_eq_true, decide_eq_true_eq] at this
      obtain ⟨⟨⟨a, b⟩, c⟩, d⟩ := this
      have b' : l < tab.length := by simpa using b
      rw [ew l b'] at c d
      have el : (Int.ofNat l).toNat = l := rfl
      rw [el]
      refine ⟨a, b', List.isPrefixOf_iff_prefix.mp c, fun t ht hp => ?_⟩
      have := List.all_eq_true.mp d _ (hmem t ht)
      simp only [Bool.or_eq_true, Bool.not_eq_true', decide_eq_true_eq] at this
      rcases this with (this | this) | this
      · rw [← Bool.not_eq_true] at this
        exact absurd (List.isPrefixOf_iff_prefix.mpr hp) this
      · exact .inl this
      · exact .inr (List.isPrefixOf_iff_prefix.mp this)
theorem tabs_ok : TabOk (rows 0) ∧ TabOk (rows 1) ∧ TabOk (rows 2) ∧ TabOk (rows 3) := by
  refine ⟨tabB_is ?_, tabB_is ?_, tabB_is ?_, tabB_is ?_⟩
  all_goals kernel_rfl
end
section
structure Srch (tab : List (Str × Int)) (X : List Nat) (i j ci cj : Nat) (first : Bool) : Prop where
  lt : i < j
  le : j ≤ tab.length
  i0 : i = 0 → ci = 0
  i1 : 0 < i → lle (Wk tab i) X = true ∧ lcp X (Wk tab i) = ci
  jn : j = tab.length → cj = 0
  jl : j < tab.length → lle (Wk tab j) X = false ∧ lcp X (Wk tab j) = cj
  f0 : first = false → i + 2 ≤ j
  f1 : first = true → i = 0 ∧ j = 1
structure Fin (tab : List (Str × Int)) (X : List Nat) (i ci : Nat) : Prop where
  lt : i < tab.length
  all : ∀ t, t < tab.length → Wk tab t <+: X → Wk tab t <+: Wk tab i
  ends : ∀ t, t < tab.length → Wk tab t <+: Wk tab i → ((Wk tab t).length ≤ ci ↔ Wk tab t <+: X)
variable {tab : List (Str × Int)} {X : List Nat}
theorem srch_start (O : TabOk tab) : Srch tab X 0 tab.length 0 0 false :=
  ⟨by have := O.two; omega, Nat.le_refl _, fun _ => rfl, fun h => absurd h (Nat.lt_irrefl _), fun _ => rfl, fun h => absurd h (Nat.lt_irrefl _), fun _ => by have := O.two; omega, fun h => by cases h⟩
theorem srch_mid (O : TabOk tab) {i j ci cj : Nat} {first : Bool} (S : Srch tab X i j ci cj first) : i ≤ i + (j - i) / 2 ∧ i + (j - i) / 2 < j ∧ i + (j - i) / 2 < tab.length ∧ (first = false → i < i + (j - i) / 2) ∧ Agree (min ci cj) X (Wk tab (i + (j - i) / 2)) := by
  have h1 := S.lt
  have h2 := S.le
  refine ⟨by omega, by omega, by omega, fun h => by have := S.f0 h; omega, ?_⟩
  unfold Agree
  by_cases hi : i = 0
  · rw [S.i0 hi]; simp
  by_cases hj : j = tab.length
  · rw [S.jn hj]; simp
  obtain ⟨a1, a2⟩ := S.i1 (by omega)
  obtain ⟨b1, b2⟩ := S.jl (by omega)
  have hk : lle (Wk tab (i + (j - i) / 2)) (Wk tab j) = true := O.sorted _ _ (by omega) (by omega)
  have hk' : lle (Wk tab i) (Wk tab (i + (j - i) / 2)) = true := by
    by_cases e : i = i + (j - i) / 2
    · rw [← e]; exact lle_refl _
    · exact O.sorted _ _ (by omega) (by omega)
  rw [lcp_comm]
  refine sandwich _ _ _ _ _ hk' hk ?_ ?_
  · rw [lcp_comm, a2]; exact Nat.min_le_left _ _
  · rw [lcp_comm, b2]; exact Nat.min_le_right _ _
theorem pre_agree : ∀ (A B Y : List Nat), A <+: B → A.length ≤ lcp Y B → A.length ≤ lcp A Y
  | [], _, _, _, _ => by simp
  | a :: as, [], _, hp, _ => by simp at hp
  | a :: as, b :: bs, [], _, hl => by simp [lcp] at hl
  | a :: as, b :: bs, y :: ys, hp, hl => by
    rw [List.cons_prefix_cons] at hp
    simp only [lcp, List.length_cons] at hl ⊢
    split at hl
    case isFalse => omega
    rename_i e
    rw [if_pos (hp.1.trans e.symm)]
    have := pre_agree as bs ys hp.2 (by omega)
    omega
theorem fin_of (O : TabOk tab) {i ci : Nat} (hi : i < tab.length) (h1 : lle (Wk tab i) X = true) (h2 : lcp X (Wk tab i) = ci) (h3 : i + 1 < tab.length → lle (Wk tab (i + 1)) X = false) : Fin tab X i ci := by
  refine ⟨hi, fun t ht hp => ?_, fun t ht hp => ⟨fun hl => ?_, fun hp' => ?_⟩⟩
  · by_cases e : t ≤ i
    · by_cases e' : t = i
      · rw [e']; exact List.prefix_refl _
      · exact between hp (O.sorted t i (by omega) hi) h1
    · have hf := h3 (by omega)
      have : lle (Wk tab (i + 1)) X = true := by
        by_cases e' : t = i + 1
        · rw [← e']; exact pre_lle hp
        · exact lle_trans _ _ _ (O.sorted (i + 1) t (by omega) ht) (pre_lle hp)
      rw [hf] at this
      cases this
  · rw [pre_lcp]
    have l1 := (lcp_le (Wk tab t) X).1
    have l2 := pre_agree _ _ X hp (by rw [h2]; exact hl)
    omega
  · have e1 := (pre_lcp _ _).mp hp'
    rw [← h2]
    have := sandwich (Wk tab t).length (Wk tab t) (Wk tab i) X X (pre_lle hp) h1 (by rw [e1]; exact Nat.le_refl _) (by
      rw [(pre_lcp X X).mp (List.prefix_refl X)]; exact hp'.length_le)
    rw [lcp_comm]
    exact this
theorem fin_none (O : TabOk tab) (h1 : lle (Wk tab 0) X = false) : Fin tab X 0 0 := by
  have hn : ∀ t, t < tab.length → ¬ Wk tab t <+: X := fun t ht hp => by
    have : lle (Wk tab 0) X = true := by
      by_cases e : t = 0
      · rw [← e]; exact pre_lle hp
      · exact lle_trans _ _ _ (O.sorted 0 t (by omega) ht) (pre_lle hp)
    rw [h1] at this
    cases this
  refine ⟨by have := O.two; omega, fun t ht hp => absurd hp (hn t ht), fun t ht _ => ⟨fun hl => ?_, fun hp => absurd hp (hn t ht)⟩⟩
  have := (O.ne t ht).1
  omega
/-- one step of the search: neg, the text comes before the entry; c, what they share -/
theorem srch_step (O : TabOk tab) {i j ci cj k c : Nat} {first neg : Bool} (S : Srch tab X i j ci cj first) (hk : k = i + (j - i) / 2) (h1 : lle (Wk tab k) X = !neg) (h2 : lcp X (Wk tab k) = c) :
    ∀ i' j' ci' cj' : Nat, i' = (if neg then i else k) → j' = (if neg then k else j) → ci' = (if neg then ci else c) → cj' = (if neg then c else cj) →
      (2 ≤ j' - i' → Srch tab X i' j' ci' cj' first ∧ j' - i' < j - i) ∧
      (j' - i' ≤ 1 → (0 < i' ∨ j' = i' ∨ first = true → Fin tab X i' ci') ∧ (i' = 0 → j' ≠ i' → first = false → Srch tab X i' j' ci' cj' true)) := by
  obtain ⟨m1, m2, m3, m4, _⟩ := srch_mid O S
  rw [← hk] at m1 m2 m3 m4
  have s1 := S.lt
  have s2 := S.le
  rintro i' j' ci' cj' rfl rfl rfl rfl
  cases neg with
  | true =>
    simp only [if_true]
    have h1 : lle (Wk tab k) X = false := h1
    refine ⟨fun h => ⟨⟨by omega, by omega, S.i0, S.i1, fun e => absurd e (by omega), fun _ => ⟨h1, h2⟩, fun _ => by omega, fun hf => ?_⟩, by omega⟩, fun h => ⟨fun hc => ?_, fun hi hj hf => ?_⟩⟩
    · have := S.f1 hf; omega
    · cases hf : first with
      | false =>
        rw [hf] at hc m4
        have := m4 rfl
        rcases hc with hc | hc | hc
        · obtain ⟨a, b⟩ := S.i1 hc
          have e : i + 1 = k := by omega
          exact fin_of O (by omega) a b fun _ => by rw [e]; exact h1
        · omega
        · cases hc
      | true =>
        obtain ⟨rfl, rfl⟩ := S.f1 hf
        have e : k = 0 := by omega
        rw [e] at h1
        rw [S.i0 rfl]
        exact fin_none O h1
    · subst hi
      have := m4 hf
      refine ⟨by omega, by omega, S.i0, S.i1, fun e => absurd e (by omega), fun _ => ⟨h1, h2⟩, fun h => (by cases h), fun _ => ⟨rfl, by omega⟩⟩
  | false =>
    simp only [Bool.false_eq_true, if_false]
    have h1 : lle (Wk tab k) X = true := h1
    refine ⟨fun h => ⟨⟨by omega, by omega, fun e => ?_, fun _ => ⟨h1, h2⟩, S.jn, S.jl, fun _ => by omega, fun hf => ?_⟩, ?_⟩, fun h => ⟨fun _ => ?_, fun hi hj hf => ?_⟩⟩
    · cases hf : first with
      | false => have := m4 hf; omega
      | true => have := S.f1 hf; omega
    · have := S.f1 hf; omega
    · cases hf : first with
      | false => have := m4 hf; omega
      | true => have := S.f1 hf; omega
    · refine fin_of O m3 h1 h2 fun hl => ?_
      have e : k + 1 = j := by omega
      rw [e]
      exact (S.jl (by omega)).1
    · have := m4 hf; omega
theorem wk_mem {t : Nat} (ht : t < tab.length) : (tab.getD t (⟨#[]⟩, 0)).1 ∈ tab.map (·.1) := by
  rw [List.getD_eq_getElem?_getD, List.getElem?_eq_getElem ht]
  exact List.mem_map.mpr ⟨_, List.getElem_mem ht, rfl⟩
theorem mem_wk {e : Str} (he : e ∈ tab.map (·.1)) : ∃ t, t < tab.length ∧ e = (tab.getD t (⟨#[]⟩, 0)).1 := by
  obtain ⟨r, hr, rfl⟩ := List.mem_map.mp he
  obtain ⟨t, ht, rfl⟩ := List.getElem_of_mem hr
  exact ⟨t, ht, by rw [List.getD_eq_getElem?_getD, List.getElem?_eq_getElem ht]; rfl⟩
theorem wk_len (t : Nat) : (Wk tab t).length = (tab.getD t (⟨#[]⟩, 0)).1.length := by simp [Wk, rv, Str.length]
theorem fin_hit {i ci : Nat} (G : Fin tab X i ci) (h : (Wk tab i).length ≤ ci) : bl (tab.map (·.1)) X 0 = (Wk tab i).length := by
  rw [wk_len]
  refine bl_found (wk_mem G.lt) ((G.ends i G.lt (List.prefix_refl _)).mp h) fun e he hp => ?_
  obtain ⟨t, ht, rfl⟩ := mem_wk he
  have := (G.all t ht hp).length_le
  rw [wk_len, wk_len] at this
  exact this
theorem fin_miss (O : TabOk tab) {i ci : Nat} (G : Fin tab X i ci) (h : ¬ (Wk tab i).length ≤ ci) (hl : Lk tab i < 0) : bl (tab.map (·.1)) X 0 = 0 := by
  refine bl_none fun e he hp => ?_
  obtain ⟨t, ht, rfl⟩ := mem_wk he
  have a := G.all t ht hp
  have b := O.none i G.lt hl t ht a
  have e : Wk tab t = Wk tab i := a.eq_of_length (by have := a.length_le; omega)
  have hp : Wk tab t <+: X := hp
  exact h ((G.ends i G.lt (List.prefix_refl _)).mpr (e ▸ hp))
theorem fin_link (O : TabOk tab) {i ci : Nat} (G : Fin tab X i ci) (h : ¬ (Wk tab i).length ≤ ci) (hl : 0 ≤ Lk tab i) : Fin tab X (Lk tab i).toNat ci ∧ (Lk tab i).toNat < i := by
  obtain ⟨l1, l2, l3, l4⟩ := O.link i G.lt hl
  refine ⟨⟨l2, fun t ht hp => ?_, fun t ht hp => G.ends t ht (hp.trans l3)⟩, l1⟩
  have a := G.all t ht hp
  rcases l4 t ht a with b | b
  · have e : Wk tab t = Wk tab i := a.eq_of_length (by have := a.length_le; omega)
    exact absurd ((G.ends i G.lt (List.prefix_refl _)).mpr (e ▸ hp)) h
  · exact b
end
noncomputable def Stop (p : Prop) : Prop := p
theorem Stop.mk {p : Prop} (h : Stop p) : p := h
theorem Stop.un {p : Prop} (h : p) : Stop p := h
theorem kstB_self {m : Str → Option Value} : ∀ {ps : List (Str × Value)}, (∀ p ∈ ps, m p.1 = some p.2) → kstB m ps = m
  | [], _ => rfl
  | p :: r, h => by
    funext z
    show (if z = p.1 then some p.2 else kstB m r z) = m z
    rw [kstB_self fun q hq => h q (.tail _ hq)]
    split
    · rename_i e; rw [e]; exact (h p (.head _)).symm
    · rfl
section
variable {prog : Program} {w : World} {A : Around} {E : Value → Shared → Prop} {Q : Flow → Shared → Prop} {s : Shared} {env : Env} {h₀ : Heap} {L : Addr}
noncomputable def SEnd {σ : Type} (h₀ : Heap) (L : Addr) (s : Shared) (Led : σ → List (Addr × Obj)) (ps : σ → List (Str × Value)) (P : σ → Prop) (μ : σ → Nat) (c : σ) (s₂ : Shared) : Prop :=
  ∃ (c' : σ) (h' : Heap) (tk : Nat) (m' : Str → Option Value), s₂ = { s with heap := h', toks := tk } ∧ Fr h₀ L h' m' ∧ (∀ p ∈ ps c', m' p.1 = some p.2) ∧ News h₀ L h' (Led c') ∧ P c' ∧ μ c' < μ c
noncomputable def SPost {σ : Type} (h₀ : Heap) (L : Addr) (s : Shared) (Led : σ → List (Addr × Obj)) (ps : σ → List (Str × Value)) (P : σ → Prop) (μ : σ → Nat) (Q : Flow → Shared → Prop) (c : σ) (f : Flow) (s₂ : Shared) : Prop :=
  match f with
  | .ret v => Q (.ret v) s₂
  | .brk => Q .next s₂
  | _ => SEnd h₀ L s Led ps P μ c s₂
/-- a while over states whose locals are given by name, the others whatever they are -/
theorem while_st {σ : Type} {test : Expr} {body : List Stmt} {pos : Pos} {m₀ : Str → Option Value} {news : List (Addr × Obj)} (Led : σ → List (Addr × Obj)) (ps : σ → List (Str × Value)) (P : σ → Prop) (μ : σ → Nat) (c₀ : σ)
    (F : Fr h₀ L s.heap m₀) (N : News h₀ L s.heap news) (hm : ∀ p ∈ ps c₀, m₀ p.1 = some p.2) (hn : ∀ p ∈ Led c₀, p ∈ news) (hp : P c₀)
    (turn : ∀ (c : σ) (u : Str → Option Value) h tk, P c → Fr h₀ L h (kstB u (ps c)) → News h₀ L h (Led c) →
      wpAny (model prog w) A (isTrue test env (eval test env)) (fun b s₂ =>
        if b = true then wpAny (model prog w) A (execs body env) (SPost h₀ L s Led ps P μ Q c) E s₂ else Q .next s₂) E { s with heap := h, toks := tk })
    (hE : PassesOwn (model prog w) A env E := by passes_own) :
    wpAny (model prog w) A (exec (.While test body [] pos) env) Q E s := by
  refine while_by (σ := σ × (Str → Option Value)) (fun c => Led c.1) (fun c => kstB c.2 (ps c.1)) (fun c => P c.1) (fun c => μ c.1) (c₀, m₀) F N (kstB_self hm).symm hn hp ?_ hE
  rintro ⟨c, u⟩ h tk hp' F₁ N₁
  refine wpAny_mono (turn c u h tk hp' F₁ N₁) (fun b s₂ p => ?_) fun _ _ x => x
  cases b with
  | false => simpa using p
  | true =>
    simp only [if_true] at p ⊢
    refine wpAny_mono p (fun f s₃ q => ?_) fun _ _ x => x
    cases f with
    | ret v => exact q
    | brk => exact q
    | next =>
      obtain ⟨c', h', tk', m', e, F', hm', N', hp9, hm9⟩ := q
      exact ⟨(c', m'), h', tk', e, by show Fr h₀ L h' (kstB m' (ps c')); rw [kstB_self hm']; exact F', N', hp9, hm9⟩
    | cont =>
      obtain ⟨c', h', tk', m', e, F', hm', N', hp9, hm9⟩ := q
      exact ⟨(c', m'), h', tk', e, by show Fr h₀ L h' (kstB m' (ps c')); rw [kstB_self hm']; exact F', N', hp9, hm9⟩
end
section
variable {w : World} {A A₀ : Around} {E : Value → Shared → Prop} {s : Shared} {h₀ base : Heap} {outer : List Env} {L : Addr} {m : Str → Option Value} {l n0 : Addr} {tab : List (Str × Int)}
theorem len_tab {Q : Value → Shared → Prop} (TT : TabAt w.params base l n0 tab) (O : TabOk tab) (B : Below A₀ base outer h₀) (F : Fr h₀ L s.heap m) (h : Q (.int tab.length (s.toks + 1)) { s with toks := s.toks + 1 + 1 }) :
    wpAny (model PySem.Challenge.rw_ai0034_01.row.prog w) A (call (.builtin "len") [.ref l]) Q E s := by
  refine len_list (TT.lst.at fun o e => F.keep _ _ (B.stays _ _ e)) ?_ ?_
  · rw [List.size_toArray, refsFrom_len]; have := O.small; omega
  · rw [List.size_toArray, refsFrom_len]; exact h
theorem item_tab {value slice : PySem.Expr} {k : Nat} {u : Tok} {Q : Value → Shared → Prop} (TT : TabAt w.params base l n0 tab) (O : TabOk tab) (B : Below A₀ base outer h₀) (F : Fr h₀ L s.heap m) (h1 : k < tab.length)
    (h : Q (.ref (n0 + 3 * k + 1)) s)
    (hs : subscripted slice false (.ref l) (.int (k : Int) u) = operate [.ref l, .int (k : Int) u] (getItem (.ref l) (.int (k : Int) u)) := by first | with_reducible rfl | rfl) :
    wpAny (model PySem.Challenge.rw_ai0034_01.row.prog w) A (subscriptTail value slice (.ref l) (.int (k : Int) u)) Q E s := by
  have hl : s.heap.IsList l (refsFrom n0 tab.length).toArray := TT.lst.at fun o e => F.keep _ _ (B.stays _ _ e)
  refine tail_any hl.typeIs slot_list_getitem.lookup (getItem_listL hl (by omega) ?_ (refsFrom_at _ _ _ ?_) h) hs
  · have := O.small; omega
  · omega
theorem am_at (TT : TabAt w.params base l n0 tab) (B : Below A₀ base outer h₀) (F : Fr h₀ L s.heap m) {j : Nat} (hj : j < tab.length) :
    ∃ k1 k2 k3 t1 t2 t3, InstAt s.heap (n0 + 3 * j + 1) (instObj 218 (n0 + 3 * j)) 218 (some (dictOf [en w.params "s" k1 (.str (tab.getD j (⟨#[]⟩, 0)).1 t1), en w.params "substring_i" k2 (.int (Lk tab j) t2), en w.params "result" k3 (.int 1 t3)] 3)) := by
  refine (TT.keeps fun b o e => F.keep _ _ (B.stays _ _ e)).row j _ ?_
  rw [List.getD_eq_getElem?_getD, List.getElem?_eq_getElem hj]; rfl
theorem am_s {j : Nat} {x : Bool} {Q : Value → Shared → Prop} (TT : TabAt w.params base l n0 tab) (B : Below A₀ base outer h₀) (F : Fr h₀ L s.heap m) (X : (KV w.params).In h₀) (hj : j < tab.length)
    (h : ∀ t, Q (.str (tab.getD j (⟨#[]⟩, 0)).1 t) { s with toks := s.toks + 1 }) :
    wpAny (model PySem.Challenge.rw_ai0034_01.row.prog w) A (getAttr (.ref (n0 + 3 * j + 1)) (Str.ofString "s") x) Q E s := by
  obtain ⟨k1, k2, k3, t1, t2, t3, I⟩ := am_at TT B F hj
  refine get_own (K := KV w.params) (attr := none) F X I ?_ ?_ ?_ ?_ ?_ rfl (h t1)
  all_goals first | (kernel_rfl; done) | exact rfl
theorem am_i {j : Nat} {x : Bool} {Q : Value → Shared → Prop} (TT : TabAt w.params base l n0 tab) (B : Below A₀ base outer h₀) (F : Fr h₀ L s.heap m) (X : (KV w.params).In h₀) (hj : j < tab.length)
    (h : ∀ t, Q (.int (Lk tab j) t) { s with toks := s.toks + 1 }) :
    wpAny (model PySem.Challenge.rw_ai0034_01.row.prog w) A (getAttr (.ref (n0 + 3 * j + 1)) (Str.ofString "substring_i") x) Q E s := by
  obtain ⟨k1, k2, k3, t1, t2, t3, I⟩ := am_at TT B F hj
  refine get_own (K := KV w.params) (attr := none) F X I ?_ ?_ ?_ ?_ ?_ rfl (h t2)
  all_goals first | (kernel_rfl; done) | exact rfl
theorem am_r {j : Nat} {x : Bool} {Q : Value → Shared → Prop} (TT : TabAt w.params base l n0 tab) (B : Below A₀ base outer h₀) (F : Fr h₀ L s.heap m) (X : (KV w.params).In h₀) (hj : j < tab.length)
    (h : ∀ t, Q (.int 1 t) { s with toks := s.toks + 1 }) :
    wpAny (model PySem.Challenge.rw_ai0034_01.row.prog w) A (getAttr (.ref (n0 + 3 * j + 1)) (Str.ofString "result") x) Q E s := by
  obtain ⟨k1, k2, k3, t1, t2, t3, I⟩ := am_at TT B F hj
  refine get_own (K := KV w.params) (attr := none) F X I ?_ ?_ ?_ ?_ ?_ rfl (h t3)
  all_goals first | (kernel_rfl; done) | exact rfl
end
section
variable {prog : Program} {w : World} {A : Around} {E : Value → Shared → Prop} {s : Shared}
theorem add_to {a b z : Int} {t u : Tok} {Q : Value → Shared → Prop} (e : a + b = z) (h : Q (.int z s.toks) { s with toks := s.toks + 1 }) : wpAny (model prog w) A (binaryOp .Add (.int a t) (.int b u)) Q E s := by
  subst e
  exact add_int h
end
section
variable {prog : Program} {w : World} {A : Around} {E : Value → Shared → Prop} {s : Shared} {env : Env} {h₀ : Heap} {x : Str} {body : List Stmt} {Q : Flow → Shared → Prop}
noncomputable def DEnd {σ : Type} (h₀ : Heap) (L : Addr) (s : Shared) (Led own : List (Addr × Obj)) (ps : σ → List (Str × Value)) (P : σ → Prop) (s₂ : Shared) : Prop :=
  ∃ (c' : σ) (h' : Heap) (tk : Nat) (m' : Str → Option Value) (news' : List (Addr × Obj)), s₂ = { s with heap := h', toks := tk } ∧ Fr h₀ L h' m' ∧ News h₀ L h' news' ∧ (∀ p ∈ Led, p ∈ news') ∧ (∀ p ∈ own, p ∈ news') ∧ (∀ p ∈ ps c', m' p.1 = some p.2) ∧ P c'
noncomputable def DPost {σ : Type} (h₀ : Heap) (L : Addr) (s : Shared) (Led own : List (Addr × Obj)) (ps : σ → List (Str × Value)) (P : σ → Prop) (Q : Flow → Shared → Prop) (f : Flow) (s₂ : Shared) : Prop :=
  match f with
  | .ret v => Q (.ret v) s₂
  | .brk => Q .next s₂
  | _ => DEnd h₀ L s Led own ps P s₂
theorem loop_st {σ : Type} {I : Addr} {fp wr : List Addr} {n : Nat} {Pv : Nat → Value → Prop} {St : Nat → Heap → Prop} {m₀ : Str → Option Value} {news : List (Addr × Obj)} (Led : List (Addr × Obj)) (ps : σ → List (Str × Value)) (P : Nat → σ → Prop) (c₀ : σ)
    (W : Walks prog w A I fp wr n Pv St) (hLf : env.locals ∉ fp) (hwr : ∀ b ∈ wr, h₀.get? b = none) (hnw : ∀ p ∈ Led, p.1 ∉ wr) (hfp : ∀ q ∈ Led, q.1 ∉ fp) (hst : St 0 s.heap) (F : Fr h₀ env.locals s.heap m₀) (N : News h₀ env.locals s.heap news)
    (hn : ∀ p ∈ Led, p ∈ news) (hm : ∀ p ∈ ps c₀, m₀ p.1 = some p.2) (hp : P 0 c₀)
    (turn : ∀ (c : σ) (i : Nat) (v : Value) (u : Str → Option Value) h tk own, i < n → Pv i v → P i c → OwnOff own (Led.map (·.1)) → Fr h₀ env.locals h (fun y => if y = x then some v else kstB u (ps c) y) → News h₀ env.locals h (Led ++ own) →
      wpAny (model prog w) A (execs body env) (DPost h₀ env.locals { s with heap := h, toks := tk } Led own ps (P (i + 1)) Q) E { s with heap := h, toks := tk })
    (done : ∀ (c : σ) (u : Str → Option Value) h tk, P n c → Fr h₀ env.locals h (kstB u (ps c)) → News h₀ env.locals h Led → Q .next { s with heap := h, toks := tk }) :
    LoopAtV prog w A h₀ env x body Q E (.ref I) s := by
  refine loop_invN (fun i m nx => nx = Led ∧ ∃ c : σ, (∀ p ∈ ps c, m p.1 = some p.2) ∧ P i c) W hLf hwr hnw hfp hst F (fun p hp => N p (hn p hp)) ⟨rfl, c₀, hm, hp⟩ ?_ ?_
  · rintro i v m₁ nx h tk own hi hv _ hoff ⟨rfl, c, hm', hp'⟩ F₁ N₁
    rw [← kstB_self hm'] at F₁
    refine wpAny_mono (turn c i v m₁ h tk own hi hv hp' hoff F₁ N₁) (fun f s₂ q => ?_) fun _ _ e => e
    have fin : DEnd h₀ env.locals { s with heap := h, toks := tk } nx own ps (P (i + 1)) s₂ → InvEndN h₀ env.locals (fun m nx' => nx' = nx ∧ ∃ c : σ, (∀ p ∈ ps c, m p.1 = some p.2) ∧ P (i + 1) c) own (nx.map (·.1)) { s with heap := h, toks := tk } s₂ := by
      rintro ⟨c', h', tk', m', news', e, F', N', a, b, hm9, hp9⟩
      exact ⟨h', tk', m', news', nx, e, F', N', a, b, rfl, rfl, c', hm9, hp9⟩
    cases f with
    | ret v => exact q
    | brk => exact q
    | next => exact fin q
    | cont => exact fin q
  · rintro m₁ nx h tk ⟨rfl, c, hm', hp'⟩ F₁ N₁
    rw [← kstB_self hm'] at F₁
    exact done c m₁ h tk hp' F₁ N₁
theorem down_st {σ : Type} {r : Addr} {a₀ b₀ : Int} {t₀ u₀ v₀ : Tok} {n : Nat} {m₀ : Str → Option Value} {news : List (Addr × Obj)} (Led : List (Addr × Obj)) (ps : σ → List (Str × Value)) (P : Nat → σ → Prop) (c₀ : σ)
    (hh : A.handled = none) (hr : IsRange s.heap r a₀ b₀ (-1) t₀ u₀ v₀) (hsmall : Builtin.Range.small a₀ b₀ (-1) = true) (hn : (a₀ - b₀).toNat = n) (F : Fr h₀ env.locals s.heap m₀) (N : News h₀ env.locals s.heap news)
    (hs : ∀ p ∈ Led, p ∈ news) (hm : ∀ p ∈ ps c₀, m₀ p.1 = some p.2) (hp : P 0 c₀)
    (turn : ∀ (c : σ) (i : Nat) (t : Tok) (u : Str → Option Value) h tk own, i < n → P i c → OwnOff own (Led.map (·.1)) → Fr h₀ env.locals h (fun y => if y = x then some (.int (a₀ - (i : Int)) t) else kstB u (ps c) y) → News h₀ env.locals h (Led ++ own) →
      wpAny (model prog w) A (execs body env) (DPost h₀ env.locals { s with heap := h, toks := tk } Led own ps (P (i + 1)) Q) E { s with heap := h, toks := tk })
    (done : ∀ (c : σ) (u : Str → Option Value) h tk, P n c → Fr h₀ env.locals h (kstB u (ps c)) → News h₀ env.locals h Led → Q .next { s with heap := h, toks := tk }) :
    wpAny (model prog w) A (pyIter (.ref r)) (fun it s₂ => LoopAtV prog w A h₀ env x body Q E it s₂) E s := by
  have hn : Builtin.Range.rangeSize a₀ b₀ (-1) = (n : Int) := by rw [rangeSize_downNat, hn]
  refine wpAny_pyIter_range hr hsmall ?_
  have W : Walks prog w A s.heap.objs.size [s.heap.objs.size] [s.heap.objs.size] n (fun i v => i < n ∧ ∃ t, v = .int (a₀ + i * (-1)) t)
      (fun i h => IsRangeIter h s.heap.objs.size (a₀ + (i : Nat) * (-1)) ((n : Int) - (i : Nat)) (-1)) := (Walks.range hh _ a₀ (-1) n).bound
  have off : ∀ p ∈ Led, p.1 ∉ [s.heap.objs.size] := fun p hp hI => absurd (Heap.lt_size (N p (hs p hp)).1) ((List.mem_singleton.mp hI) ▸ Nat.lt_irrefl _)
  refine loop_st Led ps P c₀ W ?_ ?_ off off (by show IsRangeIter _ _ _ _ _; rw [hn]; simpa using Heap.get?_push_size _ rfl) (F.push _) (fun p hp => ⟨Heap.get?_push_of_some _ (N p hp).1, (N p hp).2⟩) hs hm hp ?_ done
  · intro hm
    exact absurd F.ns.lt ((List.mem_singleton.mp hm) ▸ Nat.lt_irrefl _)
  · intro b hb
    rw [List.mem_singleton.mp hb]
    exact next_is_new F
  · rintro c i v u h tk own hi ⟨_, t, rfl⟩ hp' hoff F₁ N₁
    have e1 : a₀ + (i : Int) * (-1) = a₀ - (i : Int) := by omega
    rw [e1] at F₁
    exact turn c i t u h tk own hi hp' hoff F₁ N₁
noncomputable def JN (J : Shared → Prop) (f : Flow) (s : Shared) : Prop := f = Flow.next ∧ J s
theorem for_join {m : Str → Option Value} {px pos : Pos} {iter : PySem.Expr} (J : Shared → Prop) (F : Fr h₀ env.locals s.heap m) (hx : env.kindOf x = some .local)
    (hp : (env.scope.kind == .class || (env.scope.kind == .module && env.locals != env.globals)) = false)
    (h : wpAny (model prog w) A (eval iter env) (fun xv s₁ => wpAny (model prog w) A (pyIter xv) (fun it s₂ => LoopAtV prog w A h₀ env x body (JN J) E it s₂) E s₁) E s)
    (k : ∀ s₃, J s₃ → Q .next s₃)
    (hs : ∀ x, foldedSetIterable iter env x = pure x := by intro _; rfl)
    (hE : PassesOwn (model prog w) A env E := by passes_own) :
    wpAny (model prog w) A (exec (.For (.Name x px) iter body [] pos) env) Q E s :=
  wpAny_mono (For_invVF F hx hp h hs hE) (fun f s₂ q => by obtain ⟨rfl, q⟩ := q; exact k s₂ q) fun _ _ e => e
theorem while_join {σ : Type} {L : Addr} {test : PySem.Expr} {pos : Pos} {m₀ : Str → Option Value} {news : List (Addr × Obj)} (J : Shared → Prop) (Led : σ → List (Addr × Obj)) (ps : σ → List (Str × Value)) (P : σ → Prop) (μ : σ → Nat) (c₀ : σ)
    (F : Fr h₀ L s.heap m₀) (N : News h₀ L s.heap news) (hm : ∀ p ∈ ps c₀, m₀ p.1 = some p.2) (hn : ∀ p ∈ Led c₀, p ∈ news) (hp : P c₀)
    (turn : ∀ (c : σ) (u : Str → Option Value) h tk, P c → Fr h₀ L h (kstB u (ps c)) → News h₀ L h (Led c) →
      wpAny (model prog w) A (isTrue test env (eval test env)) (fun b s₂ =>
        if b = true then wpAny (model prog w) A (execs body env) (SPost h₀ L s Led ps P μ (JN J) c) E s₂ else JN J .next s₂) E { s with heap := h, toks := tk })
    (k : ∀ s₃, J s₃ → Q .next s₃)
    (hE : PassesOwn (model prog w) A env E := by passes_own) :
    wpAny (model prog w) A (exec (.While test body [] pos) env) Q E s :=
  wpAny_mono (while_st Led ps P μ c₀ F N hm hn hp turn hE) (fun f s₂ q => by obtain ⟨rfl, q⟩ := q; exact k s₂ q) fun _ _ e => e
end
theorem kw_6 : True := by
  k_with "SPost" => ((with_reducible show SPost _ _ _ _ _ _ _ _ _ (Flow.ret _) _); dsimp only [SPost])
  trivial
theorem kw_7 : True := by
  k_with "SPost" => ((with_reducible show SPost _ _ _ _ _ _ _ _ _ Flow.brk _); dsimp only [SPost])
  trivial
theorem kw_8 : True := by
  k_with "exec While" => (k_here; refine Stop.mk ?_)
  trivial
theorem kw_9 : True := by
  k_with "exec For" => (k_here; refine Stop.mk ?_)
  trivial
theorem kw_10 : True := by
  k_with "exec For Name Call cons nil" => (k_here; refine Stop.mk ?_)
  trivial
theorem kw_11 : True := by
  k_with "exec For Name Name cons nil" => (k_here; refine Stop.mk ?_)
  trivial
theorem kw_12 : True := by
  k_with "call builtin:len" => (k_here; (with_reducible show wpAny _ _ (call (Value.builtin _) [Value.ref _]) _ _ _); (refine' len_tab ?i1 ?i2 ?i3 ?i4 ?_; (case i1 => with_reducible assumption); (case i2 => with_reducible assumption); (case i3 => k_asm); (case i4 => k_asm); k_whole))
  trivial
theorem kw_13 : True := by
  k_with "subscriptTail" => (k_here; (with_reducible show wpAny _ _ (subscriptTail _ _ (Value.ref _) (Value.int _ _)) _ _ _); (refine' item_tab ?i1 ?i2 ?i3 ?i4 ?i5 ?_; (case i1 => with_reducible assumption); (case i2 => with_reducible assumption); (case i3 => k_asm); (case i4 => k_asm); (case i5 => omega); k_whole))
  trivial
theorem kw_14 : True := by
  k_with "getAttr ref" => (k_here; (with_reducible show wpAny _ _ (getAttr (Value.ref (_ + 3 * _ + 1)) _ _) _ _ _); ((first | refine' am_s ?i1 ?i2 ?i3 ?i4 ?i5 ?_ | refine' am_i ?i1 ?i2 ?i3 ?i4 ?i5 ?_ | refine' am_r ?i1 ?i2 ?i3 ?i4 ?i5 ?_); (case i1 => with_reducible assumption); (case i2 => k_asm); (case i3 => k_asm); (case i4 => k_asm); (case i5 => omega); k_whole; intro _))
  trivial
theorem kw_15 : True := by
  k_with "my_locs" => ((try dsimp only); repeat (first | exact List.forall_mem_nil _ | refine List.forall_mem_cons.mpr ⟨(by rfl), ?_⟩))
  trivial
theorem kw_16 : True := by
  k_with "pyIter ref" => (k_here; (with_reducible show wpAny _ _ (pyIter (Value.ref _)) (fun it s₂ => LoopAtV _ _ _ _ _ _ _ _ _ it s₂) _ _); refine Stop.mk ?_)
  trivial
theorem kw_17 : True := by
  k_with "binaryOp Add int int" => (k_here; (refine' add_to ?e ?_; (case e => with_reducible assumption); k_whole))
  trivial
theorem kw_18 : True := by
  k_with "DPost" => ((with_reducible show DPost _ _ _ _ _ _ _ _ (Flow.ret _) _); dsimp only [DPost])
  trivial
theorem kw_19 : True := by
  k_with "DPost" => ((with_reducible show DPost _ _ _ _ _ _ _ _ Flow.brk _); dsimp only [DPost])
  trivial
structure FS where
  i : Nat
  j : Nat
  ci : Nat
  cj : Nat
  f : Bool
  ti : Tok
  tj : Tok
  tci : Tok
  tcj : Tok
theorem agree_le {c : Nat} {X W : List Nat} (h : Agree c X W) : c ≤ X.length ∧ c ≤ W.length := by
  unfold Agree at h
  have := lcp_le X W
  omega
theorem wk_at {tab : List (Str × Int)} {k q : Nat} (h : q < (Wk tab k).length) : (Wk tab k).getD q 0 = ch (tab.getD k (⟨#[]⟩, 0)).1 (((tab.getD k (⟨#[]⟩, 0)).1.length : Int) - 1 - q) := by
  rw [wk_len] at h
  unfold Wk rv ch
  have hl : (tab.getD k (⟨#[]⟩, 0)).1.cps.toList.length = (tab.getD k (⟨#[]⟩, 0)).1.length := by simp [Str.length]
  rw [List.getD_eq_getElem?_getD, List.getElem?_reverse (by rw [hl]; exact h), hl, Array.getD_eq_getD_getElem?, Array.getElem?_toList]
  congr 2
  omega
theorem kstB_fr {h₀ h : Heap} {L : Addr} {m : Str → Option Value} {ps : List (Str × Value)} (F : Fr h₀ L h m) (hm : ∀ p ∈ ps, m p.1 = some p.2) : Fr h₀ L h (kstB m ps) := by
  rw [kstB_self hm]; exact F
theorem news_left {h₀ h : Heap} {L : Addr} {a b : List (Addr × Obj)} (N : News h₀ L h (a ++ b)) : News h₀ L h a := fun p hp => N p (List.mem_append_left _ hp)
theorem sp_mu1 {i j i' j' : Nat} {f : Bool} (h : i + 2 ≤ j) (h' : j' - i' ≤ 1) (hf : f = false) : 2 * (j' - i') + (if true = true then 0 else 1) < 2 * (j - i) + (if f = true then 0 else 1) := by
  subst hf; simp; omega
theorem sp_mu2 {i j i' j' : Nat} {f : Bool} (h : j' - i' < j - i) : 2 * (j' - i') + (if f = true then 0 else 1) < 2 * (j - i) + (if f = true then 0 else 1) := by omega
section
variable {w : World} {mean : ExcName → Option Value} {mg mb : Str → Option Value}
theorem fab (cu : Str) (x d l n0 : Addr) (tab : List (Str × Int)) (hT : ∀ base, SaysV w base → TabAt w.params base l n0 tab) (O : TabOk tab) (rest : List (Addr × Obj)) (k1 k2 k3 k4 k5 k6 k7 k8 c1 c2 c4 : Tok) (c lb : Int) (v3 v5 v6 v7 v8 : Value) (hw1 : cu.length ≤ 1000) (hlb : 0 ≤ lb) (hlc : lb ≤ c) (hc : c ≤ cu.length) (hxd : x ≠ d) (hr : ∀ p ∈ rest, p.1 ≠ d)
    (X' : List Nat) (hX1 : (X'.length : Int) = c - lb) (hX2 : ∀ q : Nat, q < X'.length → X'.getD q 0 = ch cu (c - 1 - q)) :
    Cl w mean mg mb 140 [.ref x, .ref l] ((x, instObj 852 d) :: (d, d8 w.params k1 k2 k3 k4 k5 k6 k7 k8 (.str cu c1) (.int c c2) v3 (.int lb c4) v5 v6 v7 v8) :: rest) 1 8 fun v news' => (∃ t, v = .int (if bl (tab.map (·.1)) X' 0 = 0 then 0 else 1) t) ∧
      ∃ c2', news' = ((x, instObj 852 d) :: (d, d8 w.params k1 k2 k3 k4 k5 k6 k7 k8 (.str cu c1) (.int (c - (bl (tab.map (·.1)) X' 0 : Nat)) c2') v3 (.int lb c4) v5 v6 v7 v8) :: rest) := by
  dsimp only [Cl]
  k_fill
  intro dp un gd cn cs a ccd cll outer A₀ base h₀ L m s Q E Y B F X N T hk hd1 hu hret
  have TT := hT base Y
  refine wpAny_call ?_
  k_dflt cell_enter
  rename_i g9 L9 h9 FG9 F9 N9 B9 X9 T9
  k_steps
  refine Stop.un ?_
  refine' while_join (σ := FS) (fun s₂ => ∃ (i ci : Nat) (ti tci : Tok) (u : Str → Option Value) (h : Heap) (tk : Nat), s₂ = { s with heap := h, toks := tk } ∧ Fr g9 L9 h u ∧ (∀ p ∈ [(Str.ofString "self", .ref x), (Str.ofString "v", .ref l), (Str.ofString "c", .int c c2), (Str.ofString "lb", .int lb c4), (Str.ofString "i", .int (i : Int) ti), (Str.ofString "common_i", .int (ci : Int) tci)], u p.1 = some p.2) ∧ News g9 L9 h ((x, instObj 852 d) :: (d, d8 w.params k1 k2 k3 k4 k5 k6 k7 k8 (.str cu c1) (.int c c2) v3 (.int lb c4) v5 v6 v7 v8) :: rest) ∧ Fin tab X' i ci)
    (fun _ => (x, instObj 852 d) :: (d, d8 w.params k1 k2 k3 k4 k5 k6 k7 k8 (.str cu c1) (.int c c2) v3 (.int lb c4) v5 v6 v7 v8) :: rest) (fun q => [(Str.ofString "self", .ref x), (Str.ofString "v", .ref l), (Str.ofString "c", .int c c2), (Str.ofString "lb", .int lb c4), (Str.ofString "i", .int (q.i : Int) q.ti), (Str.ofString "j", .int (q.j : Int) q.tj), (Str.ofString "common_i", .int (q.ci : Int) q.tci), (Str.ofString "common_j", .int (q.cj : Int) q.tcj), (Str.ofString "first_key_inspected", .bool q.f)])
    (fun q => Srch tab X' q.i q.j q.ci q.cj q.f) (fun q => 2 * (q.j - q.i) + (if q.f then 0 else 1)) ⟨0, tab.length, 0, 0, false, _, _, _, _⟩ ?kF ?kN ?km ?kn ?kp ?kt ?kj
  case kF => k_asm
  case kN => k_asm
  case km => walk_at "my_locs"
  case kn => exact fun p hp => hp
  case kp => exact srch_start O
  case kt =>
    intro q u hW tkW pW FW NW
    obtain ⟨i, j, ci, cj, f, ti, tj, tci, tcj⟩ := q
    dsimp only [kstB] at pW FW NW ⊢
    have hcl : (if (cj : Int) < (ci : Int) then (cj : Int) else (ci : Int)) = ((min ci cj : Nat) : Int) := by split <;> omega
    obtain ⟨m1, m2, m3, m4, m5⟩ := srch_mid O pW
    have hkk : (i : Int) + ((j : Int) - i).fdiv (2 ^ Int.toNat 1) = ((i + (j - i) / 2 : Nat) : Int) := by
      have : (2 : Int) ^ Int.toNat 1 = 2 := by decide
      rw [this, Int.fdiv_eq_ediv_of_nonneg _ (by decide)]
      omega
    have hsm := O.small
    generalize hK : i + (j - i) / 2 = k at m1 m2 m3 m4 m5 hkk
    have mn := O.ne _ m3
    rw [wk_len] at mn
    k_steps
    refine Stop.un ?_
    have hag := agree_le m5
    have hwl := wk_len (tab := tab) k
    refine' for_join (fun s₂ => ∃ (cm : Nat) (tk9 : Tok) (df : Int) (tc td : Tok) (u : Str → Option Value) (h : Heap) (tk : Nat), s₂ = { s with heap := h, toks := tk } ∧ Fr g9 L9 h u ∧ (∀ p ∈ [(Str.ofString "self", .ref x), (Str.ofString "v", .ref l), (Str.ofString "c", .int c c2), (Str.ofString "lb", .int lb c4), (Str.ofString "i", .int (i : Int) ti), (Str.ofString "j", .int (j : Int) tj), (Str.ofString "common_i", .int (ci : Int) tci), (Str.ofString "common_j", .int (cj : Int) tcj), (Str.ofString "first_key_inspected", .bool f), (Str.ofString "k", .int (k : Int) tk9), (Str.ofString "diff", .int df td), (Str.ofString "common", .int (cm : Int) tc)], u p.1 = some p.2) ∧ News g9 L9 h ((x, instObj 852 d) :: (d, d8 w.params k1 k2 k3 k4 k5 k6 k7 k8 (.str cu c1) (.int c c2) v3 (.int lb c4) v5 v6 v7 v8) :: rest) ∧ lle (Wk tab k) X' = !decide (df < 0) ∧ lcp X' (Wk tab k) = cm) ?F ?k1 ?k2 ?h ?k
    case F => k_asm
    case k1 => rfl
    case k2 => rfl
    case h =>
      k_steps
      refine Stop.un ?_
      refine' down_st (σ := Int × Int × Tok × Tok × Tok) (n := (Wk tab k).length - min ci cj) ((x, instObj 852 d) :: (d, d8 w.params k1 k2 k3 k4 k5 k6 k7 k8 (.str cu c1) (.int c c2) v3 (.int lb c4) v5 v6 v7 v8) :: rest) (fun q => [(Str.ofString "self", .ref x), (Str.ofString "v", .ref l), (Str.ofString "c", .int c c2), (Str.ofString "lb", .int lb c4), (Str.ofString "i", .int (i : Int) ti), (Str.ofString "j", .int (j : Int) tj), (Str.ofString "common_i", .int (ci : Int) tci), (Str.ofString "common_j", .int (cj : Int) tcj), (Str.ofString "first_key_inspected", .bool f), (Str.ofString "k", .int (k : Int) q.2.2.2.2), (Str.ofString "w", .ref (n0 + 3 * k + 1)), (Str.ofString "diff", .int q.2.1 q.2.2.1), (Str.ofString "common", .int q.1 q.2.2.2.1)]) (fun t q => (q.1 = ((min ci cj + t : Nat) : Int) ∧ q.2.1 = 0) ∧ Agree (min ci cj + t) X' (Wk tab k)) (_, _, _, _, _) ?hh ?hr ?hsmall ?hn ?F ?N ?hs ?hm ?hp ?turn ?done
      case hh => with_unfolding_all rfl
      case hr => assumption
      case hn => rw [hcl, hwl]; omega
      case hsmall => rw [hcl]; exact small_down (by omega) (by omega) (by omega) (by omega)
      case F => k_asm
      case N => k_asm
      case hs => first | exact fun p hp => hp | exact fun p hp => .tail _ hp
      case hm => walk_at "my_locs"
      case hp => exact ⟨⟨hcl, rfl⟩, m5⟩
      case turn =>
        rintro ⟨cmi, dfi, td, tc, tk9⟩ t t2 u hV tkV own hlt ⟨⟨rfl, rfl⟩, hagr⟩ hoff FV NV
        dsimp only [kstB] at FV NV ⊢
        rw [hcl] at FV
        have hidx : ((tab.getD k (⟨#[]⟩, 0)).1.length : Int) - 1 - ((min ci cj : Nat) : Int) - (t : Int) = ((tab.getD k (⟨#[]⟩, 0)).1.length : Int) - 1 - ((min ci cj + t : Nat) : Int) := by omega
        rw [hidx] at FV
        generalize hC : min ci cj + t = C at FV hagr hidx ⊢
        have hage := agree_le hagr
        have hCl : C < (Wk tab k).length := by omega
        have hw2 := wk_at hCl
        have hA : c - (C : Int) = lb → lle (Wk tab k) X' = !decide ((-1 : Int) < 0) ∧ lcp X' (Wk tab k) = C := fun e => cmp_out hagr (by omega) hCl
        have hB : c - (C : Int) ≠ lb → (ch cu (c - 1 - C) : Int) - (ch (tab.getD k (⟨#[]⟩, 0)).1 (((tab.getD k (⟨#[]⟩, 0)).1.length : Int) - 1 - C) : Int) ≠ 0 →
            lle (Wk tab k) X' = !decide ((ch cu (c - 1 - C) : Int) - (ch (tab.getD k (⟨#[]⟩, 0)).1 (((tab.getD k (⟨#[]⟩, 0)).1.length : Int) - 1 - C) : Int) < 0) ∧ lcp X' (Wk tab k) = C := fun e e' => by
          rw [← hw2, ← hX2 C (by omega)] at e' ⊢
          obtain ⟨p1, p2⟩ := cmp_at hagr (by omega) hCl (by omega)
          refine ⟨?_, p2⟩
          rw [p1]
          by_cases hh : (Wk tab k).getD C 0 < X'.getD C 0
          · rw [decide_eq_true hh, decide_eq_false (by omega)]; rfl
          · rw [decide_eq_false hh, decide_eq_true (by omega)]; rfl
        have hD : c - (C : Int) ≠ lb → (ch cu (c - 1 - C) : Int) - (ch (tab.getD k (⟨#[]⟩, 0)).1 (((tab.getD k (⟨#[]⟩, 0)).1.length : Int) - 1 - C) : Int) = 0 → Agree (C + 1) X' (Wk tab k) := fun e e' => by
          rw [← hw2, ← hX2 C (by omega)] at e'
          exact agree_next hagr (by omega) hCl (by omega)
        k_steps
        · exact ⟨rfl, C, _, _, _, _, _, _, _, rfl, by k_asm, by walk_at "my_locs", news_left (b := own) (by k_asm), hA (by assumption)⟩
        · exact ⟨rfl, C, _, _, _, _, _, _, _, rfl, by k_asm, by walk_at "my_locs", news_left (b := own) (by k_asm), hB (by assumption) (by assumption)⟩
        · exact ⟨(_, _, _, _, _), _, _, _, _, rfl, by k_asm, by k_asm, fun p hp => List.mem_append_left _ hp, fun p hp => List.mem_append_right _ hp, by walk_at "my_locs", ⟨by omega, by omega⟩, by have h9 := hD (by assumption) (by assumption); have e9 : min ci cj + (t + 1) = C + 1 := (by omega); rw [e9]; exact h9⟩
      case done =>
        rintro ⟨cmi, dfi, td, tc, tk9⟩ u hV tkV ⟨⟨rfl, rfl⟩, hagr⟩ FV NV
        dsimp only [kstB] at FV NV ⊢
        refine ⟨rfl, _, _, _, _, _, _, _, _, rfl, FV, by walk_at "my_locs", NV, ?_⟩
        exact cmp_all hagr (by omega)
    case k =>
      rintro _ ⟨cm, tk9, df, tc, td, u9, h9, tk, rfl, F9, hm9, N9, e9, e8⟩
      rw [← kstB_self hm9] at F9
      dsimp only [kstB] at F9
      have SN : df < 0 → (2 ≤ k - i → Srch tab X' i k ci cm f ∧ k - i < j - i) ∧ (k - i ≤ 1 → (0 < i ∨ k = i ∨ f = true → Fin tab X' i ci) ∧ (i = 0 → k ≠ i → f = false → Srch tab X' i k ci cm true)) := fun hd =>
        srch_step O pW hK.symm e9 e8 i k ci cm (by rw [decide_eq_true hd]; rfl) (by rw [decide_eq_true hd]; rfl) (by rw [decide_eq_true hd]; rfl) (by rw [decide_eq_true hd]; rfl)
      have SP : ¬ df < 0 → (2 ≤ j - k → Srch tab X' k j cm cj f ∧ j - k < j - i) ∧ (j - k ≤ 1 → (0 < k ∨ j = k ∨ f = true → Fin tab X' k cm) ∧ (k = 0 → j ≠ k → f = false → Srch tab X' k j cm cj true)) := fun hd =>
        srch_step O pW hK.symm e9 e8 k j cm cj (by rw [decide_eq_false hd]; rfl) (by rw [decide_eq_false hd]; rfl) (by rw [decide_eq_false hd]; rfl) (by rw [decide_eq_false hd]; rfl)
      have pf0 := pW.f0
      k_steps
      all_goals first
        | exact ⟨rfl, _, _, _, _, _, _, _, rfl, by k_asm, by walk_at "my_locs", by k_asm, ((SN (by assumption)).2 (by omega)).1 (by first | exact .inl (by omega) | exact .inr (.inl (by omega)) | exact .inr (.inr (by assumption)))⟩
        | exact ⟨rfl, _, _, _, _, _, _, _, rfl, by k_asm, by walk_at "my_locs", by k_asm, ((SP (by assumption)).2 (by omega)).1 (by first | exact .inl (by omega) | exact .inr (.inl (by omega)) | exact .inr (.inr (by assumption)))⟩
        | (have h9 := ((SN (by assumption)).2 (by omega)).2 (by omega) (by omega) (by assumption); exact ⟨⟨i, k, ci, cm, true, _, _, _, _⟩, _, _, _, rfl, by k_asm, by walk_at "my_locs", by k_asm, h9, sp_mu1 (i := i) (j := j) (i' := i) (j' := k) (pf0 (by assumption)) (by omega) (by assumption)⟩)
        | (have h9 := ((SP (by assumption)).2 (by omega)).2 (by omega) (by omega) (by assumption); exact ⟨⟨k, j, cm, cj, true, _, _, _, _⟩, _, _, _, rfl, by k_asm, by walk_at "my_locs", by k_asm, h9, sp_mu1 (i := i) (j := j) (i' := k) (j' := j) (pf0 (by assumption)) (by omega) (by assumption)⟩)
        | (have h9 := (SN (by assumption)).1 (by omega); exact ⟨⟨i, k, ci, cm, f, _, _, _, _⟩, _, _, _, rfl, by k_asm, by walk_at "my_locs", by k_asm, h9.1, sp_mu2 h9.2⟩)
        | (have h9 := (SP (by assumption)).1 (by omega); exact ⟨⟨k, j, cm, cj, f, _, _, _, _⟩, _, _, _, rfl, by k_asm, by walk_at "my_locs", by k_asm, h9.1, sp_mu2 h9.2⟩)
  case kj =>
    rintro _ ⟨i, ci, ti, tci, u, hW, tkW, rfl, FW, hmW, NW, G⟩
    rw [← kstB_self hmW] at FW
    dsimp only [kstB] at FW
    k_steps
    refine Stop.un ?_
    refine' while_st (σ := Int × Tok) (fun _ => (x, instObj 852 d) :: (d, d8 w.params k1 k2 k3 k4 k5 k6 k7 k8 (.str cu c1) (.int c c2) v3 (.int lb c4) v5 v6 v7 v8) :: rest) (fun q => [(Str.ofString "self", .ref x), (Str.ofString "v", .ref l), (Str.ofString "c", .int c c2), (Str.ofString "common_i", .int (ci : Int) tci), (Str.ofString "i", .int q.1 q.2)])
      (fun q => 0 ≤ q.1 ∧ Fin tab X' q.1.toNat ci) (fun q => q.1.toNat) (_, _) ?kF ?kN ?km ?kn ?kp ?kt
    case kF => k_asm
    case kN => k_asm
    case km => walk_at "my_locs"
    case kn => exact fun p hp => hp
    case kp => exact ⟨by omega, G⟩
    rintro ⟨z, tz⟩ u2 hV tkV ⟨hz, GV⟩ FV NV
    dsimp only at hz
    obtain ⟨n, rfl⟩ := Int.eq_ofNat_of_zero_le hz
    dsimp only [kstB, Int.toNat_natCast] at FV NV GV ⊢
    have hn := GV.lt
    have mn := O.ne _ hn
    have hwl := wk_len (tab := tab) n
    rw [wk_len] at mn
    have hH : (tab.getD n (⟨#[]⟩, 0)).1.length ≤ (ci : Int) → (1 : Int) = (if bl (tab.map (·.1)) X' 0 = 0 then 0 else 1) ∧ c - ((tab.getD n (⟨#[]⟩, 0)).1.length : Int) = c - (bl (tab.map (·.1)) X' 0 : Nat) := fun a => by
      have h9 := fin_hit GV (by omega)
      rw [h9, hwl, if_neg (by omega)]
      exact ⟨rfl, rfl⟩
    have hM : ¬ (tab.getD n (⟨#[]⟩, 0)).1.length ≤ (ci : Int) → Lk tab n < 0 → (0 : Int) = (if bl (tab.map (·.1)) X' 0 = 0 then 0 else 1) ∧ c = c - (bl (tab.map (·.1)) X' 0 : Nat) := fun a b => by
      have h9 := fin_miss O GV (by omega) b
      rw [h9]
      exact ⟨rfl, by simp⟩
    have hK : ¬ (tab.getD n (⟨#[]⟩, 0)).1.length ≤ (ci : Int) → ¬ Lk tab n < 0 → (0 ≤ Lk tab n ∧ Fin tab X' (Lk tab n).toNat ci) ∧ (Lk tab n).toNat < n := fun a b => by
      have h9 := fin_link O GV (by omega) (by omega)
      exact ⟨⟨by omega, h9.1⟩, h9.2⟩
    k_steps
    · have h9 := hH (by assumption)
      refine' hret _ _ _ _ ⟨⟨_, congrArg (fun z => Value.int z _) h9.1⟩, ?tt, rfl⟩ (by k_asm) ?nn
      case nn =>
        rw [← h9.2]
        k_asm
    · have h9 := hM (by assumption) (by assumption)
      refine' hret _ _ _ _ ⟨⟨_, congrArg (fun z => Value.int z _) h9.1⟩, ?tt2, rfl⟩ (by k_asm) ?nn2
      case nn2 =>
        rw [← h9.2]
        k_asm
    · have h9 := hK (by assumption) (by assumption)
      exact ⟨(_, _), _, _, _, rfl, by k_asm, by walk_at "my_locs", by k_asm, h9.1, h9.2⟩
end
section
noncomputable def cutS (x : Str) (b : Int) : Str := ⟨(x.cps.toList.take b.toNat).toArray⟩
theorem str_ext {x y : Str} (h : x.cps.toList = y.cps.toList) : x = y := by
  obtain ⟨⟨x⟩⟩ := x
  obtain ⟨⟨y⟩⟩ := y
  simp at h
  rw [h]
theorem cut_to {x : Str} {b : Int} (h0 : 0 ≤ b) (h1 : b ≤ x.length) : Txt.slice x none (some b) = cutS x b := by
  have := eq_of_beq (slice_closes_to (x := x) (j := b) ⟨h0, by simpa [Str.length] using h1⟩)
  rw [this]
  unfold cutS
  simp
theorem cut_rep {x : Str} {b : Int} (h0 : 0 ≤ b) (h1 : b ≤ x.length) : Txt.slice x (some 0) (some b) ++ Str.ofString "" ++ Txt.slice x (some (x.length : Int)) none = cutS x b := by
  have e1 := eq_of_beq (slice_closes (x := x) (i := 0) (j := b) ⟨by omega, h0, by simpa [Str.length] using h1⟩)
  have e2 : Txt.slice x (some (x.length : Int)) none = Str.empty := slice_beyond (Int.le_refl _)
  have e3 : Str.ofString "" = Str.empty := by kernel_rfl
  rw [e1, e2, e3]
  refine str_ext ?_
  unfold cutS
  show ((_ ++ _ : Array Nat) ++ _).toList = _
  simp [Str.empty]
theorem cut_len {x : Str} {b : Int} (h0 : 0 ≤ b) (h1 : b ≤ x.length) : ((cutS x b).length : Int) = b := by
  have : x.cps.toList.length = x.length := by simp [Str.length]
  have e : (cutS x b).length = min b.toNat x.cps.toList.length := by simp [cutS, Str.length]
  rw [e, this]
  omega
end
theorem kw_20 : True := by
  k_with "my_cl_go" => ((case Y => with_reducible assumption); (case B => k_asm); (case F => k_asm); (case X => k_asm); (case N => k_asm); (case hs => exact fun p hp => hp); (case T => k_asm); (case hk => first | exact rfl | assumption); (case hd => ktr_room); (case hu => ktr_units))
  trivial
section
variable {w : World} {mean : ExcName → Option Value} {mg mb : Str → Option Value}
theorem rep {cu : Str} {x d : Addr} {rest : List (Addr × Obj)} {k1 k2 k3 k4 k5 k6 k7 k8 c1 c2 c3 t1 t2 t3 : Tok} {b : Int} {v4 v5 v6 v7 v8 : Value} (hw1 : cu.length ≤ 1000) (hb : 0 ≤ b) (hbl : b ≤ cu.length) (hxd : x ≠ d) (hr : ∀ p ∈ rest, p.1 ≠ d) :
    Cl w mean mg mb 147 [.ref x, .int b t1, .int (cu.length : Int) t2, .str (Str.ofString "") t3] ((x, instObj 852 d) :: (d, d8 w.params k1 k2 k3 k4 k5 k6 k7 k8 (.str cu c1) (.int b c2) (.int (cu.length : Int) c3) v4 v5 v6 v7 v8) :: rest) 1 8 fun v news' => ∃ cu' z z', cutS cu b = cu' ∧ b = z ∧ ((cutS cu b).length : Int) = z' ∧ ∃ c1' c2' c3',
      news' = ((x, instObj 852 d) :: (d, d8 w.params k1 k2 k3 k4 k5 k6 k7 k8 (.str cu' c1') (.int z c2') (.int z' c3') v4 v5 v6 v7 v8) :: rest) := by
  dsimp only [Cl]
  k_fill
  intro dp un gd cn cs a ccd cl outer A₀ base h₀ L m s Q E Y B F X N T hk hd1 hu hret
  refine wpAny_call ?_
  k_dflt cell_enter
  k_steps
  all_goals
    refine' hret _ _ _ _ ⟨_, _, _, ?a1, ?a2, ?a3, _, _, _, rfl⟩ (by k_asm) (by k_asm)
    case a1 => exact (cut_rep hb hbl).symm
    case a2 => first | rfl | omega
    case a3 => rw [cut_len hb hbl]; omega
end
theorem kw_21 : True := by
  k_with "call ref" => (k_here; (with_reducible show wpAny _ _ (call (Value.ref 147) _) _ _ _); (refine' Cl.use (rep ?p1 ?p2 ?p3 ?p4 ?p5) ?Y ?B ?F ?X ?N ?hs ?T ?hk ?hd ?hu ?_; walk_at "my_cl_go"; (case p1 => omega); (case p2 => omega); (case p3 => omega); (case p4 => assumption); (case p5 => assumption)); rintro _ _ _ _ ⟨_, _, _, h1, h2, h3, _, _, _, h4⟩ _ _; subst h1 h2 h3 h4)
  trivial
section
variable {w : World} {mean : ExcName → Option Value} {mg mb : Str → Option Value}
theorem sfrom {cu : Str} {x d : Addr} {rest : List (Addr × Obj)} {k1 k2 k3 k4 k5 k6 k7 k8 c1 c2 c3 c5 c6 t1 : Tok} {b : Int} {v4 v7 v8 : Value} (hw1 : cu.length ≤ 1000) (hb : 0 ≤ b) (hbl : b ≤ cu.length) (hxd : x ≠ d) (hr : ∀ p ∈ rest, p.1 ≠ d) :
    Cl w mean mg mb 154 [.ref x, .str (Str.ofString "") t1] ((x, instObj 852 d) :: (d, d8 w.params k1 k2 k3 k4 k5 k6 k7 k8 (.str cu c1) (.int b c2) (.int (cu.length : Int) c3) v4 (.int b c5) (.int (cu.length : Int) c6) v7 v8) :: rest) 3 16 fun v news' => v = .none ∧ ∃ z, b = z ∧ ∃ c1' c2' c3' c5' c6',
      news' = ((x, instObj 852 d) :: (d, d8 w.params k1 k2 k3 k4 k5 k6 k7 k8 (.str (cutS cu b) c1') (.int b c2') (.int ((cutS cu b).length : Int) c3') v4 (.int b c5') (.int z c6') v7 v8) :: rest) := by
  dsimp only [Cl]
  k_fill
  intro dp un gd cn cs a ccd cl outer A₀ base h₀ L m s Q E Y B F X N T hk hd1 hu hret
  refine wpAny_call ?_
  k_dflt cell_enter
  k_steps
  refine' hret _ _ _ _ ⟨rfl, _, ?a1, _, _, _, _, _, rfl⟩ (by k_asm) (by k_asm)
  case a1 => show b = b + ((0 : Nat) : Int); omega
end
noncomputable def revX (x : Str) (lb : Int) : List Nat := (x.cps.toList.drop lb.toNat).reverse
theorem revX_len {x : Str} {lb : Int} (h0 : 0 ≤ lb) (h1 : lb ≤ x.length) : ((revX x lb).length : Int) = x.length - lb := by
  have e : x.cps.toList.length = x.length := by simp [Str.length]
  unfold revX
  rw [List.length_reverse, List.length_drop, e]
  omega
theorem revX_at {x : Str} {lb : Int} (h0 : 0 ≤ lb) (h1 : lb ≤ x.length) {q : Nat} (hq : q < (revX x lb).length) : (revX x lb).getD q 0 = ch x ((x.length : Int) - 1 - q) := by
  have e : x.cps.toList.length = x.length := by simp [Str.length]
  have e2 := revX_len h0 h1
  unfold revX ch at *
  have hl : (x.cps.toList.drop lb.toNat).length = x.length - lb.toNat := by rw [List.length_drop, e]
  rw [List.length_reverse, hl] at hq e2
  rw [List.getD_eq_getElem?_getD, List.getElem?_reverse (by rw [hl]; exact hq), hl, List.getElem?_drop, Array.getD_eq_getD_getElem?, Array.getElem?_toList]
  congr 2
  omega
theorem Cl.mono {w : World} {mean : ExcName → Option Value} {mg mb : Str → Option Value} {f : Addr} {args : List Value} {news : List (Addr × Obj)} {D U : Nat} {Post Post' : Value → List (Addr × Obj) → Prop} (C : Cl w mean mg mb f args news D U Post) (h : ∀ v n, Post v n → Post' v n) : Cl w mean mg mb f args news D U Post' :=
  fun dp un gd cn cs a ccd cl outer A₀ base h₀ L m s Q E Y B F X N T hk hd hu hret => C dp un gd cn cs a ccd cl outer A₀ base h₀ L m s Q E Y B F X N T hk hd hu fun v n h' tk p F' N' => hret v n h' tk (h v n p) F' N'
section
variable {w : World} {mean : ExcName → Option Value} {mg mb : Str → Option Value}
theorem fabW {cu : Str} {x d l : Addr} {rest : List (Addr × Obj)} {k1 k2 k3 k4 k5 k6 k7 k8 c1 c2 c4 : Tok} {lb : Int} {v3 v5 v6 v7 v8 : Value} (n0 : Addr) (tab : List (Str × Int)) (hT : ∀ base, SaysV w base → TabAt w.params base l n0 tab) (O : TabOk tab) (hw1 : cu.length ≤ 1000) (hlb : 0 ≤ lb) (hlc : lb ≤ cu.length) (hxd : x ≠ d) (hr : ∀ p ∈ rest, p.1 ≠ d) :
    Cl w mean mg mb 140 [.ref x, .ref l] ((x, instObj 852 d) :: (d, d8 w.params k1 k2 k3 k4 k5 k6 k7 k8 (.str cu c1) (.int (cu.length : Int) c2) v3 (.int lb c4) v5 v6 v7 v8) :: rest) 1 8 fun v news' =>
      ∃ r t z c2', v = .int r t ∧ (r = 0 ↔ bl (tab.map (·.1)) (revX cu lb) 0 = 0) ∧ ((cu.length : Int) - (bl (tab.map (·.1)) (revX cu lb) 0 : Nat)) = z ∧ news' = ((x, instObj 852 d) :: (d, d8 w.params k1 k2 k3 k4 k5 k6 k7 k8 (.str cu c1) (.int z c2') v3 (.int lb c4) v5 v6 v7 v8) :: rest) := by
  refine (fab cu x d l n0 tab hT O rest k1 k2 k3 k4 k5 k6 k7 k8 c1 c2 c4 cu.length lb v3 v5 v6 v7 v8 hw1 hlb hlc (Int.le_refl _) hxd hr (revX cu lb) (revX_len hlb hlc) fun q hq => revX_at hlb hlc hq).mono ?_
  rintro v n ⟨⟨t, hv⟩, c2', hn⟩
  refine ⟨_, t, _, c2', hv, ?_, rfl, hn⟩
  split <;> simp [*]
end
theorem kw_22 : True := by
  k_with "call ref" => (k_here; (with_reducible show wpAny _ _ (call (Value.ref 154) _) _ _ _); (refine' Cl.use (sfrom ?p1 ?p2 ?p3 ?p4 ?p5) ?Y ?B ?F ?X ?N ?hs ?T ?hk ?hd ?hu ?_; walk_at "my_cl_go"; (case p1 => omega); (case p2 => omega); (case p3 => omega); (case p4 => assumption); (case p5 => assumption)); rintro _ _ _ _ ⟨h0, _, h1, _, _, _, _, _, h2⟩ _ _; subst h0 h1 h2)
  trivial
section
variable {w : World} {mean : ExcName → Option Value} {mg mb : Str → Option Value}
theorem sdel {cu : Str} {x d : Addr} {rest : List (Addr × Obj)} {k1 k2 k3 k4 k5 k6 k7 k8 c1 c2 c3 c5 c6 : Tok} {b : Int} {v4 v7 v8 : Value} (hw1 : cu.length ≤ 1000) (hb : 0 ≤ b) (hbl : b ≤ cu.length) (hxd : x ≠ d) (hr : ∀ p ∈ rest, p.1 ≠ d) :
    Cl w mean mg mb 161 [.ref x] ((x, instObj 852 d) :: (d, d8 w.params k1 k2 k3 k4 k5 k6 k7 k8 (.str cu c1) (.int b c2) (.int (cu.length : Int) c3) v4 (.int b c5) (.int (cu.length : Int) c6) v7 v8) :: rest) 5 24 fun v news' => v = .none ∧ ∃ c1' c2' c3' c5' c6',
      news' = ((x, instObj 852 d) :: (d, d8 w.params k1 k2 k3 k4 k5 k6 k7 k8 (.str (cutS cu b) c1') (.int b c2') (.int ((cutS cu b).length : Int) c3') v4 (.int b c5') (.int b c6') v7 v8) :: rest) := by
  dsimp only [Cl]
  k_fill
  intro dp un gd cn cs a ccd cl outer A₀ base h₀ L m s Q E Y B F X N T hk hd1 hu hret
  refine wpAny_call ?_
  k_dflt cell_enter
  k_steps
  exact hret _ _ _ _ ⟨rfl, _, _, _, _, _, rfl⟩ (by k_asm) (by k_asm)
end
theorem cutS_all {x : Str} {z : Int} (h : z = x.length) : cutS x z = x := by
  subst h
  refine str_ext ?_
  have e : x.cps.toList.length = x.length := by simp [Str.length]
  unfold cutS
  show (List.toArray (x.cps.toList.take (x.length : Int).toNat)).toList = _
  rw [List.take_of_length_le (by rw [e]; omega)]
theorem bl_rev {x : Str} {lb : Int} {l : List Str} (h0 : 0 ≤ lb) (h1 : lb ≤ x.length) : (bl l (revX x lb) 0 : Int) ≤ x.length - lb := by
  have := bl_le (l := l) (X := revX x lb)
  have e := revX_len h0 h1
  omega
/-- how long the longest ending of a table is, behind lb -/
noncomputable def be (k : Nat) (x : Str) (lb : Int) : Nat := bl ((rows k).map (·.1)) (revX x lb) 0
/-- a text without it -/
@[irreducible] noncomputable def stp (k : Nat) (x : Str) (lb : Int) : Str := cutS x (x.length - (be k x lb : Nat))
theorem be_le {k : Nat} {x : Str} {lb : Int} (h0 : 0 ≤ lb) (h1 : lb ≤ x.length) : (be k x lb : Int) ≤ x.length - lb := bl_rev h0 h1
theorem stp_cut {k : Nat} {x : Str} {lb z : Int} (e : (x.length : Int) - (be k x lb : Nat) = z) : stp k x lb = cutS x z := by unfold stp; rw [e]
theorem stp_none {k : Nat} {x : Str} {lb : Int} (h : be k x lb = 0) : stp k x lb = x := by unfold stp; rw [h]; exact cutS_all (by simp)
theorem stp_len {k : Nat} {x : Str} {lb : Int} (h0 : 0 ≤ lb) (h1 : lb ≤ x.length) : ((stp k x lb).length : Int) = x.length - (be k x lb : Nat) := by
  have := be_le (k := k) h0 h1
  unfold stp
  exact cut_len (by omega) (by omega)
section
variable {w : World} {mean : ExcName → Option Value} {mg mb : Str → Option Value}
end
theorem kw_23 : True := by
  k_with "call ref" => (k_here; (with_reducible show wpAny _ _ (call (Value.ref 161) _) _ _ _); (refine' Cl.use (sdel ?p1 ?p2 ?p3 ?p4 ?p5) ?Y ?B ?F ?X ?N ?hs ?T ?hk ?hd ?hu ?_; walk_at "my_cl_go"; (case p1 => omega); (case p2 => omega); (case p3 => omega); (case p4 => assumption); (case p5 => assumption)); rintro _ _ _ _ ⟨h1, _, _, _, _, _, h2⟩ _ _; subst h1 h2)
  trivial
section
variable {w : World} {mean : ExcName → Option Value} {mg mb : Str → Option Value}
end
theorem kw_24 : True := by
  k_with "call ref" => (k_here; (with_reducible show wpAny _ _ (call (Value.ref 140) [_, Value.ref 342]) _ _ _); (refine' Cl.use (fabW 273 (rows 0) (fun base Y => (tabs_at Y).1) tabs_ok.1 ?p1 ?p2 ?p3 ?p4 ?p5) ?Y ?B ?F ?X ?N ?hs ?T ?hk ?hd ?hu ?_; walk_at "my_cl_go"; (case p1 => omega); (case p2 => omega); (case p3 => omega); (case p4 => assumption); (case p5 => assumption)); rintro _ _ _ _ ⟨r9, _, z9, _, h1, hz9, h2, h3⟩ _ _; subst h1 h3)
  trivial
section
variable {w : World} {mean : ExcName → Option Value} {mg mb : Str → Option Value}
theorem radj {cu : Str} {x d : Addr} {rest : List (Addr × Obj)} {k1 k2 k3 k4 k5 k6 k7 k8 c1 c2 c3 c4 : Tok} {lb : Int} {v5 v6 v7 v8 : Value} (hw1 : cu.length ≤ 1000) (hlb : 0 ≤ lb) (hlc : lb ≤ cu.length) (hxd : x ≠ d) (hr : ∀ p ∈ rest, p.1 ≠ d) :
    Cl w mean mg mb 244 [.ref x] ((x, instObj 852 d) :: (d, d8 w.params k1 k2 k3 k4 k5 k6 k7 k8 (.str cu c1) (.int (cu.length : Int) c2) (.int (cu.length : Int) c3) (.int lb c4) v5 v6 v7 v8) :: rest) 7 32 fun v news' => ∃ r cu' z' lm' c1' c2' c3' v5' v6', v = .bool r ∧ stp 0 cu lb = cu' ∧ ((stp 0 cu lb).length : Int) = lm' ∧
      news' = ((x, instObj 852 d) :: (d, d8 w.params k1 k2 k3 k4 k5 k6 k7 k8 (.str cu' c1') (.int z' c2') (.int lm' c3') (.int lb c4) v5' v6' v7 v8) :: rest) := by
  dsimp only [Cl]
  k_fill
  intro dp un gd cn cs a ccd cl outer A₀ base h₀ L m s Q E Y B F X N T hk hd1 hu hret
  have hb9 := bl_rev (l := (rows 0).map (·.1)) hlb hlc
  refine wpAny_call ?_
  k_dflt cell_enter
  k_steps
  · refine' hret _ _ _ _ ⟨false, _, _, _, _, _, _, _, _, rfl, ?a1, ?a2, rfl⟩ (by k_asm) (by k_asm)
    case a1 => exact stp_none (k := 0) (show bl ((rows 0).map (·.1)) (revX cu lb) 0 = 0 from Iff.mp (by assumption) (by assumption))
    case a2 => exact congrArg (fun t => (Str.length t : Int)) (stp_none (k := 0) (show bl ((rows 0).map (·.1)) (revX cu lb) 0 = 0 from Iff.mp (by assumption) (by assumption)))
  · refine' hret _ _ _ _ ⟨true, _, _, _, _, _, _, _, _, rfl, ?b1, ?b2, rfl⟩ (by k_asm) (by k_asm)
    case b1 => exact stp_cut (k := 0) (by assumption)
    case b2 => exact congrArg (fun t => (Str.length t : Int)) (stp_cut (k := 0) (by assumption))
end
theorem kw_25 : True := by
  k_with "call ref" => (k_here; (with_reducible show wpAny _ _ (call (Value.ref 140) [_, Value.ref 556]) _ _ _); (refine' Cl.use (fabW 343 (rows 1) (fun base Y => (tabs_at Y).2.1) tabs_ok.2.1 ?p1 ?p2 ?p3 ?p4 ?p5) ?Y ?B ?F ?X ?N ?hs ?T ?hk ?hd ?hu ?_; walk_at "my_cl_go"; (case p1 => omega); (case p2 => omega); (case p3 => omega); (case p4 => assumption); (case p5 => assumption)); rintro _ _ _ _ ⟨r9, _, z9, _, h1, hz9, h2, h3⟩ _ _; subst h1 h3)
  trivial
section
variable {w : World} {mean : ExcName → Option Value} {mg mb : Str → Option Value}
theorem rverb {cu : Str} {x d : Addr} {rest : List (Addr × Obj)} {k1 k2 k3 k4 k5 k6 k7 k8 c1 c2 c3 c4 : Tok} {lb : Int} {v5 v6 v7 v8 : Value} (hw1 : cu.length ≤ 1000) (hlb : 0 ≤ lb) (hlc : lb ≤ cu.length) (hxd : x ≠ d) (hr : ∀ p ∈ rest, p.1 ≠ d) :
    Cl w mean mg mb 251 [.ref x] ((x, instObj 852 d) :: (d, d8 w.params k1 k2 k3 k4 k5 k6 k7 k8 (.str cu c1) (.int (cu.length : Int) c2) (.int (cu.length : Int) c3) (.int lb c4) v5 v6 v7 v8) :: rest) 7 32 fun v news' => ∃ r cu' z' lm' c1' c2' c3' v5' v6', v = .bool r ∧ stp 1 cu lb = cu' ∧ ((stp 1 cu lb).length : Int) = lm' ∧
      news' = ((x, instObj 852 d) :: (d, d8 w.params k1 k2 k3 k4 k5 k6 k7 k8 (.str cu' c1') (.int z' c2') (.int lm' c3') (.int lb c4) v5' v6' v7 v8) :: rest) := by
  dsimp only [Cl]
  k_fill
  intro dp un gd cn cs a ccd cl outer A₀ base h₀ L m s Q E Y B F X N T hk hd1 hu hret
  have hb9 := bl_rev (l := (rows 1).map (·.1)) hlb hlc
  refine wpAny_call ?_
  k_dflt cell_enter
  k_steps
  · refine' hret _ _ _ _ ⟨false, _, _, _, _, _, _, _, _, rfl, ?a1, ?a2, rfl⟩ (by k_asm) (by k_asm)
    case a1 => exact stp_none (k := 1) (show bl ((rows 1).map (·.1)) (revX cu lb) 0 = 0 from Iff.mp (by assumption) (by assumption))
    case a2 => exact congrArg (fun t => (Str.length t : Int)) (stp_none (k := 1) (show bl ((rows 1).map (·.1)) (revX cu lb) 0 = 0 from Iff.mp (by assumption) (by assumption)))
  · refine' hret _ _ _ _ ⟨true, _, _, _, _, _, _, _, _, rfl, ?b1, ?b2, rfl⟩ (by k_asm) (by k_asm)
    case b1 => exact stp_cut (k := 1) (by assumption)
    case b2 => exact congrArg (fun t => (Str.length t : Int)) (stp_cut (k := 1) (by assumption))
end
theorem kw_26 : True := by
  k_with "call ref" => (k_here; (with_reducible show wpAny _ _ (call (Value.ref 140) [_, Value.ref 677]) _ _ _); (refine' Cl.use (fabW 557 (rows 2) (fun base Y => (tabs_at Y).2.2.1) tabs_ok.2.2.1 ?p1 ?p2 ?p3 ?p4 ?p5) ?Y ?B ?F ?X ?N ?hs ?T ?hk ?hd ?hu ?_; walk_at "my_cl_go"; (case p1 => omega); (case p2 => omega); (case p3 => omega); (case p4 => assumption); (case p5 => assumption)); rintro _ _ _ _ ⟨r9, _, z9, _, h1, hz9, h2, h3⟩ _ _; subst h1 h3)
  trivial
section
variable {w : World} {mean : ExcName → Option Value} {mg mb : Str → Option Value}
theorem rnoun {cu : Str} {x d : Addr} {rest : List (Addr × Obj)} {k1 k2 k3 k4 k5 k6 k7 k8 c1 c2 c3 c4 : Tok} {lb : Int} {v5 v6 v7 v8 : Value} (hw1 : cu.length ≤ 1000) (hlb : 0 ≤ lb) (hlc : lb ≤ cu.length) (hxd : x ≠ d) (hr : ∀ p ∈ rest, p.1 ≠ d) :
    Cl w mean mg mb 258 [.ref x] ((x, instObj 852 d) :: (d, d8 w.params k1 k2 k3 k4 k5 k6 k7 k8 (.str cu c1) (.int (cu.length : Int) c2) (.int (cu.length : Int) c3) (.int lb c4) v5 v6 v7 v8) :: rest) 7 32 fun v news' => ∃ r cu' z' lm' c1' c2' c3' v5' v6', v = .bool r ∧ stp 2 cu lb = cu' ∧ ((stp 2 cu lb).length : Int) = lm' ∧
      news' = ((x, instObj 852 d) :: (d, d8 w.params k1 k2 k3 k4 k5 k6 k7 k8 (.str cu' c1') (.int z' c2') (.int lm' c3') (.int lb c4) v5' v6' v7 v8) :: rest) := by
  dsimp only [Cl]
  k_fill
  intro dp un gd cn cs a ccd cl outer A₀ base h₀ L m s Q E Y B F X N T hk hd1 hu hret
  have hb9 := bl_rev (l := (rows 2).map (·.1)) hlb hlc
  refine wpAny_call ?_
  k_dflt cell_enter
  k_steps
  · refine' hret _ _ _ _ ⟨false, _, _, _, _, _, _, _, _, rfl, ?a1, ?a2, rfl⟩ (by k_asm) (by k_asm)
    case a1 => exact stp_none (k := 2) (show bl ((rows 2).map (·.1)) (revX cu lb) 0 = 0 from Iff.mp (by assumption) (by assumption))
    case a2 => exact congrArg (fun t => (Str.length t : Int)) (stp_none (k := 2) (show bl ((rows 2).map (·.1)) (revX cu lb) 0 = 0 from Iff.mp (by assumption) (by assumption)))
  · refine' hret _ _ _ _ ⟨true, _, _, _, _, _, _, _, _, rfl, ?b1, ?b2, rfl⟩ (by k_asm) (by k_asm)
    case b1 => exact stp_cut (k := 2) (by assumption)
    case b2 => exact congrArg (fun t => (Str.length t : Int)) (stp_cut (k := 2) (by assumption))
end
theorem kw_27 : True := by
  k_with "call ref" => (k_here; (with_reducible show wpAny _ _ (call (Value.ref 140) [_, Value.ref 849]) _ _ _); (refine' Cl.use (fabW 678 (rows 3) (fun base Y => (tabs_at Y).2.2.2) tabs_ok.2.2.2 ?p1 ?p2 ?p3 ?p4 ?p5) ?Y ?B ?F ?X ?N ?hs ?T ?hk ?hd ?hu ?_; walk_at "my_cl_go"; (case p1 => omega); (case p2 => omega); (case p3 => omega); (case p4 => assumption); (case p5 => assumption)); rintro _ _ _ _ ⟨r9, _, z9, _, h1, hz9, h2, h3⟩ _ _; subst h1 h3)
  trivial
section
variable {w : World} {mean : ExcName → Option Value} {mg mb : Str → Option Value}
/-- .. unless the second region says no -/
@[irreducible] noncomputable def stE (x : Str) (lb p2 : Int) : Str := if p2 ≤ x.length - (be 3 x lb : Nat) then stp 3 x lb else x
theorem stE_none {x : Str} {lb p2 : Int} (h : be 3 x lb = 0) : stE x lb p2 = x := by unfold stE; rw [stp_none h]; split <;> rfl
theorem stE_no {x : Str} {lb p2 z : Int} (e : (x.length : Int) - (be 3 x lb : Nat) = z) (h : p2 > z) : stE x lb p2 = x := by unfold stE; rw [if_neg (by omega)]
theorem stE_yes {x : Str} {lb p2 z : Int} (e : (x.length : Int) - (be 3 x lb : Nat) = z) (h : ¬ p2 > z) : stE x lb p2 = cutS x z := by unfold stE; rw [if_pos (by omega)]; unfold stp; rw [e]
theorem rend {cu : Str} {x d : Addr} {rest : List (Addr × Obj)} {k1 k2 k3 k4 k5 k6 k7 k8 c1 c2 c3 c4 c8 : Tok} {lb p2 : Int} {v5 v6 v7 : Value} (hw1 : cu.length ≤ 1000) (hlb : 0 ≤ lb) (hlc : lb ≤ cu.length) (hxd : x ≠ d) (hr : ∀ p ∈ rest, p.1 ≠ d) :
    Cl w mean mg mb 265 [.ref x] ((x, instObj 852 d) :: (d, d8 w.params k1 k2 k3 k4 k5 k6 k7 k8 (.str cu c1) (.int (cu.length : Int) c2) (.int (cu.length : Int) c3) (.int lb c4) v5 v6 v7 (.int p2 c8)) :: rest) 7 32 fun v news' => ∃ r cu' z' lm' c1' c2' c3' v5' v6', v = .bool r ∧ stE cu lb p2 = cu' ∧ ((stE cu lb p2).length : Int) = lm' ∧
      news' = ((x, instObj 852 d) :: (d, d8 w.params k1 k2 k3 k4 k5 k6 k7 k8 (.str cu' c1') (.int z' c2') (.int lm' c3') (.int lb c4) v5' v6' v7 (.int p2 c8)) :: rest) := by
  dsimp only [Cl]
  k_fill
  intro dp un gd cn cs a ccd cl outer A₀ base h₀ L m s Q E Y B F X N T hk hd1 hu hret
  have hb9 := bl_rev (l := (rows 3).map (·.1)) hlb hlc
  refine wpAny_call ?_
  k_dflt cell_enter
  k_steps
  · refine' hret _ _ _ _ ⟨false, _, _, _, _, _, _, _, _, rfl, ?a1, ?a2, rfl⟩ (by k_asm) (by k_asm)
    case a1 => exact stE_none (show bl ((rows 3).map (·.1)) (revX cu lb) 0 = 0 from Iff.mp (by assumption) (by assumption))
    case a2 => exact congrArg (fun t => (Str.length t : Int)) (stE_none (show bl ((rows 3).map (·.1)) (revX cu lb) 0 = 0 from Iff.mp (by assumption) (by assumption)))
  · refine' hret _ _ _ _ ⟨false, _, _, _, _, _, _, _, _, rfl, ?b1, ?b2, rfl⟩ (by k_asm) (by k_asm)
    case b1 => exact stE_no (by assumption) (by assumption)
    case b2 => exact congrArg (fun t => (Str.length t : Int)) (stE_no (by assumption) (by assumption))
  · refine' hret _ _ _ _ ⟨true, _, _, _, _, _, _, _, _, rfl, ?e1, ?e2, rfl⟩ (by k_asm) (by k_asm)
    case e1 => exact stE_yes (by assumption) (by assumption)
    case e2 => exact congrArg (fun t => (Str.length t : Int)) (stE_yes (by assumption) (by assumption))
end
section
variable {w : World} {A A₀ : Around} {E : Value → Shared → Prop} {s : Shared} {h₀ base : Heap} {outer : List Env} {L : Addr} {m : Str → Option Value}
theorem gv_at {h : Heap} (Y : SaysV w h) : ∃ es n t, h.get? 230 = some (setO es n t) := by
  obtain ⟨es, n, t, I, e⟩ := heapW_is w
  refine ⟨es, n, t, Y.says 230 _ ?_⟩
  rw [e]
  refine get_list ?_ rfl
  show (LS23 w.params es n t)[230]? = some (setO es n t)
  kernel_rfl
theorem gv_get {x : Bool} {Q : Value → Shared → Prop} (Y : SaysV w base) (B : Below A₀ base outer h₀) (F : Fr h₀ L s.heap m) (X : (KV w.params).In h₀) (h : Q (.ref 230) { s with toks := s.toks + 1 }) :
    wpAny (model PySem.Challenge.rw_ai0034_01.row.prog w) A (getAttr (.ref 852) (Str.ofString "g_v") x) Q E s := by
  obtain ⟨es, n, t, hg⟩ := gv_at Y
  have X' : Frag.In ((230, setO es n t) :: KV w.params) h₀ := fun a o e => by
    rw [List.lookup_cons] at e
    split at e
    · rename_i e2
      cases e
      have : a = 230 := eq_of_beq e2
      subst this
      exact B.stays _ _ hg
    · exact X a o e
  refine cls_val (K := (230, setO es n t) :: KV w.params) (mc := .type "type") F X' ?_ ?_ ?_ rfl h
  all_goals kernel_rfl
end
/-- a new exception is noted in the frame that raised it -/
theorem looks_made {M : Model} {A : Around} {E : Value → Shared → Prop} {s : Shared} {base h : Heap} {env : Env} {outer : List Env} {L e : Addr} {cls : Value} {args : List Value} {Q : Unit → Shared → Prop}
    (hfr : A.frames = some (env :: outer)) (hf : env.frame = some L) (hkb : base.StaysIn h) (hl : h.FunFrames base (env :: outer)) (hx : Heap.MadeExcOf h s.heap e cls args)
    (hQ : ∀ h' t, Heap.HeldW base (env :: outer) e cls (.ref t) L h' → h'.TupAt t args → base.get? t = none → s.heap.UpToSlots h' → Q () { s with heap := h' }) : wpAny M A (noteFrame (.ref e) env) Q E s := by
  obtain ⟨t, he, htn, ht⟩ := hx.there
  have fresh : ∀ b, h.get? b = none → base.get? b = none := fun b hb => by
    cases hq : base.get? b with
    | none => rfl
    | some o' => have := hkb b o' hq; rw [hb] at this; cases this
  unfold noteFrame
  simp only [hf]
  refine wpAny_bind (wpAny_field (x := .none) he rfl rfl ?_)
  rw [if_neg (show ¬ ((Value.none : Value) != Value.none) = true by decide)]
  refine wpAny_entryW (a0 := .ref t) hfr (hl.of_keeps fun b o hb _ => ⟨o, hx.keeps b o hb, rfl⟩) hf he (fun b o hb => hx.keeps b o (hkb b o hb)) (fresh e hx.new) rfl (by show 1 < 6; decide) rfl fun h' hN => ?_
  obtain ⟨k1, k2, k3, k4⟩ := hN
  exact hQ h' t ⟨k1, fresh e hx.new, k2, k3⟩ (Heap.TupAt.of_slots ⟨_, _, ht, rfl, rfl⟩ k4) (fresh t htn) k4
section
variable {prog : Program} {w : World} {A₀ : Around} {E : Value → Shared → Prop} {s' : Shared} {base g g₀ h : Heap} {outer : List Env} {L a e C : Addr} {m : Str → Option Value} {name : Str} {scope : Scope} {cd : Value}
  {vs : List Value} {b₀ : Stmt} {suite : List Stmt} {pos np : Pos} {rest : List ExceptHandler} {Q : Flow → Shared → Prop} {news : List (Addr × Obj)} {KF : Frag}
  {p : Program} {loose : List Str} {mean : ExcName → Option Value} {mg mb : Str → Option Value} {x : Str}
/-- a raise that is caught in the frame of the raise -/
theorem caught_here (hx : Heap.MadeExcOf h s'.heap e (.ref C) vs) (F : Fr g L h m) (N : News g L h news) (K : Below A₀ base outer g) (XB : KF.In base) (TB : Top p loose mean mg mb base)
    (D : KtsDicts (outer.filterMap (·.frame)) g) (T0 : KtsTurn (outer.filterMap (·.frame)) g₀ g)
    (ex : nsIn KF mainGlobals x = some (some (.ref C))) (q : ktsIn KF C "BaseException" = true)
    (k : ∀ h' g', KtsTurn (outer.filterMap (·.frame)) g₀ g' → Fr g' L h' m → News g' L h' news → Below A₀ base outer g' → KF.In g' → Top p loose mean mg mb g' → KtsDicts (outer.filterMap (·.frame)) g' →
      wpAny (model prog w) ((A₀.deeper (envOf name scope L a cd)).mark (some (.ref e))) (execs (b₀ :: suite) (envOf name scope L a cd)) Q E { s' with heap := h' })
    (hk : scope.kind = .function := by rfl) (hxg : (envOf name scope L a cd).kindOf x = some .globalImplicit := by rfl) (hd : (x == ("__debug__" : Str)) = false := by decide)
    (hE : PassesOwnAt (model prog w) ((A₀.deeper (envOf name scope L a cd)).mark (some (.ref e))) (A₀.deeper (envOf name scope L a cd)) (envOf name scope L a cd) E := by passes_own) :
    wpAny (model prog w) (A₀.deeper (envOf name scope L a cd)) (noteFrame (.ref e) (envOf name scope L a cd))
      (fun _ s₂ => wpAny (model prog w) (A₀.deeper (envOf name scope L a cd)) (setFlight (.ref e) none) (fun _ s₃ =>
        wpAny (model prog w) (A₀.deeper (envOf name scope L a cd)) (handleBy (.ref e) (envOf name scope L a cd) (.ExceptHandler (some (.Name x np)) none (b₀ :: suite) pos :: rest)) Q E s₃) E s₂) E s' := by
  have K' := K.push (name := name) (a := a) (cd := cd) F hk
  have hin : ∀ env ∈ (envOf name scope L a cd :: outer), ∀ b, env.frame = some b → b ∈ (envOf name scope L a cd :: outer).filterMap (·.frame) := fun env he b hb => List.mem_filterMap.mpr ⟨env, he, hb⟩
  have st : base.StaysIn (hideAll h ((envOf name scope L a cd :: outer).filterMap (·.frame))) := fun b o q => hideAll_get _ (K'.stays b o q) fun hm => by
    rw [(K'.frames.mem hm).1] at q; cases q
  have sg : ∀ b o, h.get? b = some o → b ∉ (envOf name scope L a cd :: outer).filterMap (·.frame) → (hideAll h ((envOf name scope L a cd :: outer).filterMap (·.frame))).get? b = some o := fun b o q nm => hideAll_get _ q nm
  have hl : ∀ q ∈ news, (hideAll h ((envOf name scope L a cd :: outer).filterMap (·.frame))).get? q.1 = some q.2 ∧ q.1 ≠ L ∧ g.get? q.1 = none := fun q hq => by
    refine ⟨hideAll_get _ (N q hq).1 fun hm => ?_, (N q hq).2.1, (N q hq).2.2⟩
    obtain ⟨env, he, hf⟩ := List.mem_filterMap.mp hm
    rcases List.mem_cons.mp he with rfl | he
    · exact (N q hq).2.1 (Option.some.inj hf).symm
    · obtain ⟨o, ho, _⟩ := (K.frames.mem (List.mem_filterMap.mpr ⟨env, he, hf⟩)).2
      rw [(N q hq).2.2] at ho; cases ho
  have hsm : h.UpToSlots s'.heap := Heap.UpToSlots.of_keeps hx.keeps
  refine looks_made K'.stack rfl (fun b o q => of_hideAll _ q) (funFrames_hide K'.frames hin) hx fun h₄ t hheld₄ htup hnew hsm₄ => ?_
  have hL : (hideAll h ((envOf name scope L a cd :: outer).filterMap (·.frame))).get? L = none := by
    obtain ⟨_, ⟨L', _, hf, hn', _⟩, _⟩ := hheld₄.2.2.1
    obtain rfl : L = L' := Option.some.inj hf
    exact hn'
  refine wpAny_landsW hheld₄ fun h₅ hheld hsm₅' => ?_
  have hsm₅ := hsm₄.trans hsm₅'
  obtain ⟨g₅, T₅, F₅, K₅⟩ := kts_ground K F sg hheld.1 (hsm.trans hsm₅)
  have X₅ : KF.In g₅ := XB.keeps K₅.stays
  have P₅ : TopRead p loose mg mb g₅ := topRead_of (TB.keeps K₅.stays)
  obtain ⟨ob, hob, hobc⟩ := hheld.there
  obtain ⟨nm, q', N', bs, bm, hdct, sn, sub, ab, col, dd, k0, k1, k2, k3, k5, newId, hC, hbase, hbT⟩ := kts_cls X₅ q
  have hC₅ := F₅.keep _ _ hC
  refine wpAny_handleBy_cons (codeAny_handlers_test (name_K F₅ X₅ P₅ ex ?_ hk hxg hd)) (by intro q; cases q)
  refine wpAny_excMatches_sub_self hC₅ hob hobc hbase (codeAny_handlers_suite ?_)
  refine lands_againW hheld fun h₆ hfl₆ hsm₆ => ?_
  obtain ⟨g₆, T₆, F₆, K₆⟩ := kts_ground K F sg hfl₆.1 ((hsm.trans hsm₅).trans hsm₆)
  have Nl : News g₆ L h₆ news := fun q hq => ⟨hfl₆.1 _ _ (hl q hq).1, (hl q hq).2.1, T₆.none_ _ (hl q hq).2.2⟩
  exact wpAny_passesOwnAt hE (k h₆ g₆ (T0.trans T₆) F₆ Nl K₆ (XB.keeps K₆.stays) (TB.keeps K₆.stays) (D.turn T₆))
end
section
variable {prog : Program} {w : World} {A₀ A : Around} {s : Shared} {base h₀ g₀ : Heap} {env : Env} {outer : List Env} {L : Addr} {m : Str → Option Value} {news : List (Addr × Obj)} {K : Frag} {p : Program} {loose : List Str} {mean : ExcName → Option Value} {mg mb : Str → Option Value}
    {R : Result → Shared → Prop} {name qual : Str} {params : Arguments} {body : List Stmt} {scope : Scope} {dV kV doc pm cdv ct oc : Value} {an od : Option Addr} {osl : Array (Option Value)} {f : Addr} {args : Args} {binds : List (Str × Value)}
theorem frames_of (hf : env.frame = some L) {b : Addr} (hb : b ∈ (env :: outer).filterMap (·.frame)) : b = L ∨ b ∈ outer.filterMap (·.frame) := by
  rw [List.filterMap_cons, hf] at hb
  exact List.mem_cons.mp hb
/-- the ground of a callee, and the way back out of it when the callers' frames were turned -/
theorem groundT (B : Below A₀ base outer h₀) (F : Fr h₀ L s.heap m) (N : News h₀ L s.heap news) (hA : A.frames = some (env :: outer)) (hf : env.frame = some L) (hke : env.scope.kind = .function)
    (XB : K.In base) (TB : Top p loose mean mg mb base) (D : KtsDicts (outer.filterMap (·.frame)) h₀) (T0 : KtsTurn (outer.filterMap (·.frame)) g₀ h₀) :
    Fr h₀ L (hideAll s.heap (news.map (·.1))) m ∧ Below A base (env :: outer) (hideAll s.heap (news.map (·.1))) ∧ h₀.StaysIn (hideAll s.heap (news.map (·.1))) ∧ KtsDicts ((env :: outer).filterMap (·.frame)) (hideAll s.heap (news.map (·.1))) ∧
      ∀ v s', LeaveS ((env :: outer).filterMap (·.frame)) A₀ base outer K p loose mean mg mb g₀ h₀ L m (hideAll s.heap (news.map (·.1))) R v s' → R (.ok (.ret v)) s' := by
  obtain ⟨FG, BG, st, lv⟩ := groundX (R := R) B F N hA hf hke
  obtain ⟨oL, es, ep, hLg, hLd, hLk, hLf⟩ := FG.ns
  have nL₀ : h₀.get? L = none := kts_self F
  refine ⟨FG, BG, st, fun b hb => ?_, fun v s' hl => ?_⟩
  · rcases frames_of hf hb with rfl | hb
    · exact ⟨oL, es, ep, hLg, hLd⟩
    · obtain ⟨o, es', n', ho', hd'⟩ := D b hb
      exact ⟨o, es', n', st b o ho', hd'⟩
  rcases hl with hl | ⟨g', L', m', news', T', F', N', k⟩
  · exact lv v s' hl
  obtain ⟨sl, hs⟩ := T'.up hLg
  have there : ∀ b o, h₀.get? b = some o → b ∉ outer.filterMap (·.frame) → s'.heap.get? b = some o := fun b o e nm => F'.keep b o (T'.other b o (st b o e) fun q => by
    rcases frames_of hf q with z | z
    · rw [z, nL₀] at e; cases e
    · exact nm z)
  obtain ⟨T₁, S₁⟩ := kts_turn_at (h := s'.heap) (fs := outer.filterMap (·.frame)) (g := h₀) (fun b hb => let ⟨_, o, ho', _⟩ := B.frames.mem hb; ⟨o, ho'⟩) there
    fun b o e _ => let ⟨sl', hs'⟩ := T'.up (st b o e); ⟨sl', F'.keep _ _ hs'⟩
  have B₁ : Below A₀ base outer (ktsHeap s'.heap (outer.filterMap (·.frame)) h₀) := by
    refine ⟨B.stack, fun b o e => T₁.other b o (B.stays b o e) fun hm => ?_, B.frames.of_keeps fun b o e _ => let ⟨sl', hs'⟩ := T₁.up e; ⟨_, hs', rfl⟩⟩
    rw [(B.frames.mem hm).1] at e; cases e
  refine k _ (T0.trans T₁) ⟨⟨{ oL with slots := sl }, es, ep, F'.keep _ _ hs, hLd, hLk, hLf⟩, S₁, by rw [T₁.size]; exact F.above⟩ (fun q hq => ⟨(N' q hq).1, fun z => ?_, T₁.none_ _ ?_⟩) B₁ (XB.keeps B₁.stays) (TB.keeps B₁.stays) (D.turn T₁)
  · have := (N' q hq).2.2
    rw [z, hs] at this; cases this
  · cases z : h₀.get? q.1 with
    | none => rfl
    | some o =>
      obtain ⟨sl', hs'⟩ := T'.up (st _ _ z)
      have := (N' q hq).2.2
      rw [hs'] at this; cases this
/-- a plain def is entered, whatever frame calls; the callers' frames may stand turned behind it -/
theorem code_defT (B : Below A₀ base outer h₀) (F : Fr h₀ L s.heap m) (X₀ : K.In h₀) (N : News h₀ L s.heap news) (T : Top p loose mean mg mb h₀) (XB : K.In base) (TB : Top p loose mean mg mb base) (D : KtsDicts (outer.filterMap (·.frame)) h₀)
    (T0 : KtsTurn (outer.filterMap (·.frame)) g₀ h₀) (hA : A.frames = some (env :: outer)) (hf : env.frame = some L) (hke : env.scope.kind = .function)
    (ho : K.lookup f = some ⟨oc, od, .func (fnOf name qual params body scope dV kV doc pm an cdv ct), osl⟩) (hcd : codeIn K cdv qual = true) (hroom : A.depth < recursionLimit)
    (hbind : BindsTo s (fnOf name qual params body scope dV kV doc pm an cdv ct) args binds) (hloc : ∀ y ∈ binds, scope.names.lookup y.1 = some .local)
    (h : ∀ g L' h₁, Fr h₀ L g m → Fr g L' h₁ (fun y => binds.reverse.lookup y) → News g L' h₁ news → Below A base (env :: outer) g → K.In g → Top p loose mean mg mb g → KtsDicts ((env :: outer).filterMap (·.frame)) g →
      wpAny (model prog w) (A.deeper (envOf qual scope L' f cdv)) (execs body (envOf qual scope L' f cdv))
        (fun fl s' => LeaveS ((env :: outer).filterMap (·.frame)) A₀ base outer K p loose mean mg mb g₀ h₀ L m g R (match fl with | .ret v => v | _ => .none) s')
        (fun e s' => wpAny (model prog w) (A.deeper (envOf qual scope L' f cdv)) («leaving» (envOf qual scope L' f cdv) e) (fun _ s'' => R (.error e) s'') (fun e' s'' => R (.error e') s'') s')
        { s with heap := h₁, toks := s.toks + binds.length })
    (hco : scope.isCoroutine = false) (hgen : scope.isGenerator = false) (hk : scope.kind = .function)
    (hcell : ∀ x ∈ scope.names, x.2 ≠ .cell) : codeAny (model prog w) A (.call (.ref f) args) R s := by
  have X := X₀.keeps F.keep
  obtain ⟨FG, BG, st, DG, lv⟩ := groundT (K := K) (mean := mean) (mg := mg) (mb := mb) (p := p) (loose := loose) (g₀ := g₀) (R := R) B F N hA hf hke XB TB D T0
  refine codeAny_call_def (fd := fnOf name qual params body scope dV kV doc pm an cdv ct) (body := body) (binds := binds) hroom (X _ _ ho) rfl (T.nolimit.keeps F.keep) (codeRec_of X hcd) rfl hbind hcell hloc (fun h₁ hns hk₁ => ?_) hco hgen hk
  exact wpAny_mono (h _ s.heap.objs.size h₁ FG ⟨hns, fun b o e => hk₁ b o (of_hideAll _ e), Nat.le_of_eq (hideAll_size _ _)⟩
    (fun q hq => ⟨hk₁ _ _ (N q hq).1, Nat.ne_of_lt (Heap.lt_size (N q hq).1), hideAll_none _ (List.mem_map_of_mem hq)⟩) BG (X₀.keeps st) (T.keeps st) DG) (fun fl s' hl => lv _ _ hl) fun _ _ y => y
/-- .. and a def with cells -/
theorem code_cellsT (B : Below A₀ base outer h₀) (F : Fr h₀ L s.heap m) (X₀ : K.In h₀) (N : News h₀ L s.heap news) (T : Top p loose mean mg mb h₀) (XB : K.In base) (TB : Top p loose mean mg mb base) (D : KtsDicts (outer.filterMap (·.frame)) h₀)
    (T0 : KtsTurn (outer.filterMap (·.frame)) g₀ h₀) (hA : A.frames = some (env :: outer)) (hf : env.frame = some L) (hke : env.scope.kind = .function)
    (ho : K.lookup f = some ⟨oc, od, .func (fnOf name qual params body scope dV kV doc pm an cdv ct), osl⟩) (hcd : codeIn K cdv qual = true) (hroom : A.depth < recursionLimit)
    (hbind : BindsTo s (fnOf name qual params body scope dV kV doc pm an cdv ct) args binds) (hkind : (binds.all fun y => scope.names.lookup y.1 == some .local || scope.names.lookup y.1 == some .cell) = true)
    (hnd : ((cellsFrom 0 scope.names []).map (·.1)).Nodup)
    (h : ∀ g L' h₁ tk cells, Fr h₀ L g m → Fr g L' h₁ (bindL (envOfC qual scope L' f cdv).kindOf binds fun _ => none) → News g L' h₁ (cells ++ news) →
      CellsAre (bindC (envOfC qual scope L' f cdv).kindOf binds fun _ => none) (cellsFrom (L' + 1) scope.names []) cells → Below A base (env :: outer) g → K.In g → Top p loose mean mg mb g → KtsDicts ((env :: outer).filterMap (·.frame)) g → (∀ q ∈ news, q.1 < L') →
      wpAny (model prog w) (A.deeper (envOfC qual scope L' f cdv)) (execs body (envOfC qual scope L' f cdv))
        (fun fl s' => LeaveS ((env :: outer).filterMap (·.frame)) A₀ base outer K p loose mean mg mb g₀ h₀ L m g R (match fl with | .ret v => v | _ => .none) s')
        (fun e s' => wpAny (model prog w) (A.deeper (envOfC qual scope L' f cdv)) («leaving» (envOfC qual scope L' f cdv) e) (fun _ s'' => R (.error e) s'') (fun e' s'' => R (.error e') s'') s')
        { s with heap := h₁, toks := tk })
    (hco : scope.isCoroutine = false) (hgen : scope.isGenerator = false) (hk : scope.kind = .function) : codeAny (model prog w) A (.call (.ref f) args) R s := by
  have X := X₀.keeps F.keep
  obtain ⟨FG, BG, st, DG, lv⟩ := groundT (K := K) (mean := mean) (mg := mg) (mb := mb) (p := p) (loose := loose) (g₀ := g₀) (R := R) B F N hA hf hke XB TB D T0
  refine codeAny_call_function hroom (X _ _ ho) rfl hco hgen rfl (codeRec_of X hcd) (hbind _ _ _ _ ?_)
  refine wpAny_newFunctionEnv_cells hk (kindsX hkind _) fun env' he s' x => ?_
  subst he
  refine ⟨(T.nolimit.keeps F.keep).keeps x.toInCall.keep, codeAny_func ?_⟩
  obtain ⟨h₁, tk, rfl, _⟩ := x.done
  have hk₁ := x.toInCall.keep
  obtain ⟨cells, NC, Y⟩ := PyProof.Rows.Cl.news (h₀ := s.heap) (Nat.le_refl _) fun n c hm => ⟨x.cell n c (lookup_of_mem_nodup (cellsFrom_names scope.names 0 (s.heap.objs.size + 1) [] [] rfl ▸ hnd) hm), x.above n c hm⟩
  refine wpAny_mono (h _ s.heap.objs.size h₁ tk cells FG ⟨x.toInCall.ns, fun b o e => hk₁ b o (of_hideAll _ e), Nat.le_of_eq (hideAll_size _ _)⟩ (fun q hq => ?_) Y BG (X₀.keeps st) (T.keeps st) DG fun q hq => Heap.lt_size (N q hq).1) (fun fl s' hl => lv _ _ hl) fun _ _ y => y
  rcases List.mem_append.mp hq with hq | hq
  · refine ⟨(NC q hq).1, (NC q hq).2.1, ?_⟩
    cases z : (hideAll s.heap (news.map (·.1))).get? q.1 with
    | none => rfl
    | some o => have := of_hideAll _ z; rw [(NC q hq).2.2] at this; cases this
  · exact ⟨hk₁ _ _ (N q hq).1, Nat.ne_of_lt (Heap.lt_size (N q hq).1), hideAll_none _ (List.mem_map_of_mem hq)⟩
end
/-- the contract of a def behind which the callers' frames may stand with other slots -/
noncomputable abbrev ClT (w : World) (mean : ExcName → Option Value) (mg mb : Str → Option Value) (f : Addr) (args : List Value) (news : List (Addr × Obj)) (D U : Nat) (Post : Value → List (Addr × Obj) → Prop) : Prop :=
  ∀ (dp un : Nat) (gd : Option (List Code)) (cn : Str) (cs : Scope) (a : Addr) (ccd : Value) (cl : List (Str × Addr)) (outer : List Env) (A₀ : Around) (base h₀ : Heap) (L : Addr) (m : Str → Option Value) (s : Shared) (Q E : Value → Shared → Prop),
    SaysV w base → Top qV LS mean mg mb base → Below A₀ base outer h₀ → Fr h₀ L s.heap m → (KV w.params).In h₀ → News h₀ L s.heap news → Top qV LS mean mg mb h₀ → KtsDicts (outer.filterMap (·.frame)) h₀ → cs.kind = .function → dp + D < recursionLimit → un + U < cLine →
    (∀ v news' h₀' h' tk', Post v news' → KtsTurn (outer.filterMap (·.frame)) h₀ h₀' → Fr h₀' L h' m → News h₀' L h' news' → Below A₀ base outer h₀' → (KV w.params).In h₀' → Top qV LS mean mg mb h₀' → KtsDicts (outer.filterMap (·.frame)) h₀' → Q v { s with heap := h', toks := tk' }) →
    wpAny (model PySem.Challenge.rw_ai0034_01.row.prog w) (ktrTop dp un gd cn cs L a ccd cl outer) (call (.ref f) args) Q E s
theorem ClT.use {w : World} {mean : ExcName → Option Value} {mg mb : Str → Option Value} {f : Addr} {args : List Value} {news news₀ : List (Addr × Obj)} {D U : Nat} {Post : Value → List (Addr × Obj) → Prop} (C : ClT w mean mg mb f args news D U Post)
    {dp un : Nat} {gd : Option (List Code)} {cn : Str} {cs : Scope} {a : Addr} {ccd : Value} {cl : List (Str × Addr)} {outer : List Env} {A₀ : Around} {base g₀ h₀ : Heap} {L : Addr} {m : Str → Option Value} {s : Shared} {Q E : Value → Shared → Prop}
    (Y : SaysV w base) (TB : Top qV LS mean mg mb base) (B : Below A₀ base outer h₀) (F : Fr h₀ L s.heap m) (X : (KV w.params).In h₀) (N : News h₀ L s.heap news₀) (hs : ∀ p ∈ news, p ∈ news₀) (T : Top qV LS mean mg mb h₀) (KD : KtsDicts (outer.filterMap (·.frame)) h₀)
    (T0 : KtsTurn (outer.filterMap (·.frame)) g₀ h₀) (hk : cs.kind = .function) (hd : dp + D < recursionLimit) (hu : un + U < cLine)
    (h : ∀ v news' h₀' h' tk', Post v news' → KtsTurn (outer.filterMap (·.frame)) g₀ h₀' → Fr h₀' L h' m → News h₀' L h' news' → Below A₀ base outer h₀' → (KV w.params).In h₀' → Top qV LS mean mg mb h₀' → KtsDicts (outer.filterMap (·.frame)) h₀' → Q v { s with heap := h', toks := tk' }) :
    wpAny (model PySem.Challenge.rw_ai0034_01.row.prog w) (ktrTop dp un gd cn cs L a ccd cl outer) (call (.ref f) args) Q E s :=
  C _ _ _ _ _ _ _ _ _ _ _ _ _ _ _ _ _ Y TB B F X (fun p hp => N p (hs p hp)) T KD hk hd hu fun v n h₀' h' tk p t f' n' b' x' t' d' => h v n h₀' h' tk p (T0.trans t) f' n' b' x' t' d'
theorem ClT.mono {w : World} {mean : ExcName → Option Value} {mg mb : Str → Option Value} {f : Addr} {args : List Value} {news : List (Addr × Obj)} {D U : Nat} {Post Post' : Value → List (Addr × Obj) → Prop} (C : ClT w mean mg mb f args news D U Post) (h : ∀ v n, Post v n → Post' v n) : ClT w mean mg mb f args news D U Post' :=
  fun dp un gd cn cs a ccd cl outer A₀ base h₀ L m s Q E Y TB B F X N T KD hk hd hu hret => C dp un gd cn cs a ccd cl outer A₀ base h₀ L m s Q E Y TB B F X N T KD hk hd hu fun v n h₀' h' tk p => hret v n h₀' h' tk (h v n p)
/-- .. and where no caller stands behind the calling frame the ground is what it was -/
theorem turn_nil {h₀ h₀' h : Heap} {L : Addr} {m : Str → Option Value} {news : List (Addr × Obj)} (T : KtsTurn [] h₀ h₀') (F : Fr h₀' L h m) (N : News h₀' L h news) : Fr h₀ L h m ∧ News h₀ L h news := by
  have up : ∀ b o, h₀.get? b = some o → h₀'.get? b = some o := fun b o e => T.other b o e (by simp)
  refine ⟨⟨F.ns, fun b o e => F.keep b o (up b o e), by rw [← T.size]; exact F.above⟩, fun p hp => ⟨(N p hp).1, (N p hp).2.1, ?_⟩⟩
  cases z : h₀.get? p.1 with
  | none => rfl
  | some o => have := (N p hp).2.2; rw [up _ _ z] at this; cases this
theorem ClT.use0 {w : World} {mean : ExcName → Option Value} {mg mb : Str → Option Value} {f : Addr} {args : List Value} {news news₀ : List (Addr × Obj)} {D U : Nat} {Post : Value → List (Addr × Obj) → Prop} (C : ClT w mean mg mb f args news D U Post)
    {dp un : Nat} {gd : Option (List Code)} {cn : Str} {cs : Scope} {a : Addr} {ccd : Value} {cl : List (Str × Addr)} {A₀ : Around} {base h₀ : Heap} {L : Addr} {m : Str → Option Value} {s : Shared} {Q E : Value → Shared → Prop}
    (Y : SaysV w base) (TB : Top qV LS mean mg mb base) (B : Below A₀ base [] h₀) (F : Fr h₀ L s.heap m) (X : (KV w.params).In h₀) (N : News h₀ L s.heap news₀) (hs : ∀ p ∈ news, p ∈ news₀) (T : Top qV LS mean mg mb h₀) (hk : cs.kind = .function) (hd : dp + D < recursionLimit) (hu : un + U < cLine)
    (h : ∀ v news' h' tk', Post v news' → Fr h₀ L h' m → News h₀ L h' news' → Q v { s with heap := h', toks := tk' }) :
    wpAny (model PySem.Challenge.rw_ai0034_01.row.prog w) (ktrTop dp un gd cn cs L a ccd cl []) (call (.ref f) args) Q E s :=
  C _ _ _ _ _ _ _ _ _ _ _ _ _ _ _ _ _ Y TB B F X (fun p hp => N p (hs p hp)) T ktsDicts_nil hk hd hu fun v n h₀' h' tk p t f' n' _ _ _ _ => h v n h' tk p (turn_nil t f' n').1 (turn_nil t f' n').2
theorem kw_28 : True := by
  k_with "getAttr ref" => (k_here; (with_reducible show wpAny _ _ (getAttr (Value.ref 852) (Str.ofString "g_v") _) _ _ _); (refine' gv_get ?i1 ?i2 ?i3 ?i4 ?_; (case i1 => with_reducible assumption); (case i2 => k_asm); (case i3 => k_asm); (case i4 => k_asm); k_whole))
  trivial
theorem kw_29 : True := by
  k_with "my_s_enter" => (refine' code_defT ?k1 ?k2 ?k3 ?k4 ?k5 ?XB ?TB ?D ?T0 ?kA ?kf ?cK ?k6 ?k7 ?k8 ?k9 ?kB ?_ ?c2 ?c3 ?c4 ?c5; (case kA => exact rfl); (case kf => exact rfl); (case k1 => k_asm); (case k2 => k_asm); (case k3 => k_asm); (case k4 => k_asm); (case k5 => k_asm); (case XB => assumption); (case TB => assumption); (case D => assumption); (case T0 => exact KtsTurn.refl); (case k6 => k_is); (case k7 => k_is); (case k8 => ktr_room); (case k9 => exact BindsTo.of_eq rfl); (case kB => exact PyProof.Rows.locs rfl); (case cK => first | assumption | exact rfl); (case c2 => exact rfl); (case c3 => exact rfl); (case c4 => exact rfl); (case c5 => decide); intro _ _ _ _ _ _ _ _ _ _; (try dsimp only))
  trivial
theorem kw_30 : True := by
  k_with "noteFrame ref" => (k_here; k_dflt (refine' caught_here ?hx ?F ?N ?K ?XB ?TB ?D ?T0 ?ex ?q ?_; (case hx => assumption); (case F => k_asm); (case N => k_asm); (case K => k_asm); (case XB => assumption); (case TB => assumption); (case D => assumption); (case T0 => first | assumption | exact KtsTurn.refl); (case ex => k_is); (case q => kts_isx)); intro _ _ _ _ _ _ _ _ _; (try dsimp only))
  trivial
theorem kw_31 : True := by
  k_with "my_ct_go" => ((case Y => with_reducible assumption); (case TB => assumption); (case B => k_asm); (case F => k_asm); (case X => k_asm); (case N => k_asm); (case hs => exact fun p hp => hp); (case T => k_asm); (case KD => assumption); (case T0 => first | assumption | exact KtsTurn.refl); (case hk => first | exact rfl | assumption); (case hd => ktr_room); (case hu => ktr_units))
  trivial
theorem goout' {w : World} {mean : ExcName → Option Value} {mg mb : Str → Option Value} {wd : Str} {x d : Addr} {rest : List (Addr × Obj)} {k1 k2 k3 k4 k5 k6 k7 k8 c1 c2 c3 : Tok} {i : Int} {v4 v5 v6 v7 v8 : Value} (hw1 : wd.length ≤ 1000) (hi : 0 ≤ i) (hi' : i ≤ wd.length) (hxd : x ≠ d) (hr : ∀ p ∈ rest, p.1 ≠ d) :
    Cl w mean mg mb 98 [.ref x, .ref 230] ((x, instObj 852 d) :: (d, d8 w.params k1 k2 k3 k4 k5 k6 k7 k8 (.str wd c1) (.int i c2) (.int (wd.length : Int) c3) v4 v5 v6 v7 v8) :: rest) 1 8 fun v news' =>
      v = .bool (decide (sk vo wd i < wd.length)) ∧ ∃ c2', news' = ((x, instObj 852 d) :: (d, d8 w.params k1 k2 k3 k4 k5 k6 k7 k8 (.str wd c1) (.int (sk vo wd i) c2') (.int (wd.length : Int) c3) v4 v5 v6 v7 v8) :: rest) :=
  goout wd x d rest k1 k2 k3 k4 k5 k6 k7 k8 c1 c2 c3 i v4 v5 v6 v7 v8 hw1 hi hi' hxd hr
theorem goin' {w : World} {mean : ExcName → Option Value} {mg mb : Str → Option Value} {wd : Str} {x d : Addr} {rest : List (Addr × Obj)} {k1 k2 k3 k4 k5 k6 k7 k8 c1 c2 c3 : Tok} {i : Int} {v4 v5 v6 v7 v8 : Value} (hw1 : wd.length ≤ 1000) (hi : 0 ≤ i) (hi' : i ≤ wd.length) (hxd : x ≠ d) (hr : ∀ p ∈ rest, p.1 ≠ d) :
    Cl w mean mg mb 70 [.ref x, .ref 230] ((x, instObj 852 d) :: (d, d8 w.params k1 k2 k3 k4 k5 k6 k7 k8 (.str wd c1) (.int i c2) (.int (wd.length : Int) c3) v4 v5 v6 v7 v8) :: rest) 1 8 fun v news' =>
      v = .bool (decide (sk nv wd i < wd.length)) ∧ ∃ c2', news' = ((x, instObj 852 d) :: (d, d8 w.params k1 k2 k3 k4 k5 k6 k7 k8 (.str wd c1) (.int (sk nv wd i) c2') (.int (wd.length : Int) c3) v4 v5 v6 v7 v8) :: rest) :=
  goin wd x d rest k1 k2 k3 k4 k5 k6 k7 k8 c1 c2 c3 i v4 v5 v6 v7 v8 hw1 hi hi' hxd hr
/-- behind the first sign with p -/
noncomputable def stp1 (p : Nat → Bool) (x : Str) (i : Int) : Int := min (sk p x i + 1) x.length
theorem stp1_hit {p : Nat → Bool} {x : Str} {i : Int} (h : sk p x i < x.length) : stp1 p x i = sk p x i + 1 := by unfold stp1; omega
theorem stp1_end {p : Nat → Bool} {x : Str} {i : Int} (h : ¬ sk p x i < x.length) : stp1 p x i = x.length := by unfold stp1; omega
theorem stp1_len (p : Nat → Bool) {x : Str} {i : Int} (h : i = x.length) : stp1 p x i = x.length := by
  have := sk_ge p x i
  exact stp1_end (by omega)
theorem stp1_le (p : Nat → Bool) (x : Str) (i : Int) : stp1 p x i ≤ x.length := by unfold stp1; omega
@[irreducible] noncomputable def pV (x : Str) : Int := stp1 vo x 0
@[irreducible] noncomputable def p2 (x : Str) : Int := stp1 nv x (stp1 vo x (stp1 nv x (stp1 vo x 0)))
theorem mk_f1 {wd : Str} (h1 : sk vo wd 0 < wd.length) : pV wd = sk vo wd 0 + 1 := by unfold pV; exact stp1_hit h1
theorem mk_e1 {wd : Str} (h1 : ¬ sk vo wd 0 < wd.length) : pV wd = wd.length ∧ p2 wd = wd.length := by
  refine ⟨by unfold pV; exact stp1_end h1, ?_⟩
  unfold p2
  rw [stp1_end h1]
  have : stp1 nv wd (wd.length : Int) = wd.length := stp1_len _ rfl
  have h : stp1 vo wd (wd.length : Int) = wd.length := stp1_len _ rfl
  rw [this, h, this]
theorem mk_e2 {wd : Str} (h1 : sk vo wd 0 < wd.length) (h2 : ¬ sk nv wd (sk vo wd 0 + 1) < wd.length) : p2 wd = wd.length := by
  unfold p2
  rw [stp1_hit h1, stp1_end h2]
  have : stp1 nv wd (wd.length : Int) = wd.length := stp1_len _ rfl
  have h : stp1 vo wd (wd.length : Int) = wd.length := stp1_len _ rfl
  rw [h, this]
theorem mk_e3 {wd : Str} (h1 : sk vo wd 0 < wd.length) (h2 : sk nv wd (sk vo wd 0 + 1) < wd.length) (h3 : ¬ sk vo wd (sk nv wd (sk vo wd 0 + 1) + 1) < wd.length) : p2 wd = wd.length := by
  unfold p2
  rw [stp1_hit h1, stp1_hit h2, stp1_end h3]
  exact stp1_len _ rfl
theorem mk_e4 {wd : Str} (h1 : sk vo wd 0 < wd.length) (h2 : sk nv wd (sk vo wd 0 + 1) < wd.length) (h3 : sk vo wd (sk nv wd (sk vo wd 0 + 1) + 1) < wd.length) (h4 : ¬ sk nv wd (sk vo wd (sk nv wd (sk vo wd 0 + 1) + 1) + 1) < wd.length) : p2 wd = wd.length := by
  unfold p2
  rw [stp1_hit h1, stp1_hit h2, stp1_hit h3, stp1_end h4]
theorem mk_f4 {wd : Str} (h1 : sk vo wd 0 < wd.length) (h2 : sk nv wd (sk vo wd 0 + 1) < wd.length) (h3 : sk vo wd (sk nv wd (sk vo wd 0 + 1) + 1) < wd.length) (h4 : sk nv wd (sk vo wd (sk nv wd (sk vo wd 0 + 1) + 1) + 1) < wd.length) : p2 wd = sk nv wd (sk vo wd (sk nv wd (sk vo wd 0 + 1) + 1) + 1) + 1 := by
  unfold p2
  rw [stp1_hit h1, stp1_hit h2, stp1_hit h3, stp1_hit h4]
section
variable {w : World} {mean : ExcName → Option Value} {mg mb : Str → Option Value}
end
theorem kw_32 : True := by
  k_with "call ref" => (k_here; (with_reducible show wpAny _ _ (call (Value.ref 98) _) _ _ _); (refine' Cl.use (goout' ?p1 ?p2 ?p3 ?p4 ?p5) ?Y ?B ?F ?X ?N ?hs ?T ?hk ?hd ?hu ?_; walk_at "my_cl_go"; (case p1 => omega); (case p2 => omega); (case p3 => omega); (case p4 => assumption); (case p5 => assumption)); rintro _ _ _ _ ⟨h1, _, h2⟩ _ _; subst h1 h2)
  trivial
section
variable {w : World} {mean : ExcName → Option Value} {mg mb : Str → Option Value}
end
theorem kw_33 : True := by
  k_with "call ref" => (k_here; (with_reducible show wpAny _ _ (call (Value.ref 70) _) _ _ _); (refine' Cl.use (goin' ?p1 ?p2 ?p3 ?p4 ?p5) ?Y ?B ?F ?X ?N ?hs ?T ?hk ?hd ?hu ?_; walk_at "my_cl_go"; (case p1 => omega); (case p2 => omega); (case p3 => omega); (case p4 => assumption); (case p5 => assumption)); rintro _ _ _ _ ⟨h1, _, h2⟩ _ _; subst h1 h2)
  trivial
section
variable {w : World} {mean : ExcName → Option Value} {mg mb : Str → Option Value}
theorem mark {wd : Str} {x d : Addr} {od : Obj} {rest : List (Addr × Obj)} {k1 k2 k3 k4 k5 k6 : Tok} (ho : (∃ c1 c2 c3 v4 v5 v6, od = d6 w.params k1 k2 k3 k4 k5 k6 (.str wd c1) (.int 0 c2) (.int (wd.length : Int) c3) v4 v5 v6) ∨ ∃ k7 k8 c1 c2 c3 v4 v5 v6 v7 v8, od = d8 w.params k1 k2 k3 k4 k5 k6 k7 k8 (.str wd c1) (.int 0 c2) (.int (wd.length : Int) c3) v4 v5 v6 v7 v8) (hw1 : wd.length ≤ 1000) (hxd : x ≠ d) (hr : ∀ p ∈ rest, p.1 ≠ d) :
    ClT w mean mg mb 237 [.ref x] ((x, instObj 852 d) :: (d, od) :: rest) 3 24 fun v news' => ∃ z z2, pV wd = z ∧ p2 wd = z2 ∧ ∃ k7 k8 c7 c8 c1 c2 c3 v4 v5 v6, v = .bool true ∧
      news' = ((x, instObj 852 d) :: (d, d8 w.params k1 k2 k3 k4 k5 k6 k7 k8 (.str wd c1) (.int 0 c2) (.int (wd.length : Int) c3) v4 v5 v6 (.int z c7) (.int z2 c8)) :: rest) := by
  dsimp only [ClT]
  k_fill
  intro dp un gd cn cs a ccd cl outer A₀ base h₀ L m s Q E Y TB B F X N T KD hk hd1 hu hret
  have XB := kv_says Y
  have s1 := sk_ge vo wd 0
  have s2 := sk_ge nv wd (sk vo wd 0 + 1)
  have s3 := sk_ge vo wd (sk nv wd (sk vo wd 0 + 1) + 1)
  have s4 := sk_ge nv wd (sk vo wd (sk nv wd (sk vo wd 0 + 1) + 1) + 1)
  refine wpAny_call ?_
  k_dflt walk_at "my_s_enter"
  rename_i g9 L9 h9 FG9 F9 N9 B9 X9 T9 D9
  obtain ⟨m9, hm9, F9⟩ : ∃ m9 : Str → Option Value, m9 (Str.ofString "self") = some (.ref x) ∧ Fr g9 L9 h9 m9 := ⟨_, rfl, F9⟩
  have F9 := kstB_fr (ps := [(Str.ofString "self", Value.ref x)]) F9 (List.forall_mem_cons.mpr ⟨hm9, List.forall_mem_nil _⟩)
  dsimp only [kstB] at F9
  refine wpAny_execs_cons ?_
  refine wpAny_mono (Q := JN fun s' => ∃ (h : Heap) (tk : Nat) (o : Obj) (u : Str → Option Value), s' = { s with heap := h, toks := tk } ∧ Fr g9 L9 h u ∧ u (Str.ofString "self") = some (.ref x) ∧ News g9 L9 h ((x, instObj 852 d) :: (d, o) :: rest) ∧ ((∃ (k7 c1 c2 c3 c7 : Tok) (v4 v5 v6 : Value), o = dictOf [en w.params "current" k1 (.str wd c1), en w.params "cursor" k2 (.int 0 c2), en w.params "limit" k3 (.int (wd.length : Int) c3), en w.params "limit_backward" k4 v4, en w.params "bra" k5 v5, en w.params "ket" k6 v6, en w.params "I_pV" k7 (.int (wd.length : Int) c7)] 7) ∨ ∃ (k7 k8 c1 c2 c3 c7 : Tok) (v4 v5 v6 v8 : Value), o = d8 w.params k1 k2 k3 k4 k5 k6 k7 k8 (.str wd c1) (.int 0 c2) (.int (wd.length : Int) c3) v4 v5 v6 (.int (wd.length : Int) c7) v8)) ?aa ?bb (fun _ _ h => h)
  case aa =>
    rcases ho with ⟨c1, c2, c3, v4, v5, v6, rfl⟩ | ⟨k7, k8, c1, c2, c3, v4, v5, v6, v7, v8, rfl⟩
    · k_steps
      exact ⟨rfl, _, _, _, _, rfl, by k_asm, by rfl, by k_asm, .inl ⟨_, _, _, _, _, _, _, _, rfl⟩⟩
    · k_steps
      exact ⟨rfl, _, _, _, _, rfl, by k_asm, by rfl, by k_asm, .inr ⟨_, _, _, _, _, _, _, _, _, _, rfl⟩⟩
  case bb =>
    rintro _ _ ⟨rfl, h, tk, o, u, rfl, FW, hu, NW, ho1⟩
    have FW := kstB_fr (ps := [(Str.ofString "self", Value.ref x)]) FW (List.forall_mem_cons.mpr ⟨hu, List.forall_mem_nil _⟩)
    dsimp only [kstB] at FW
    clear F9 N9
    (try dsimp only)
    refine wpAny_execs_cons ?_
    refine wpAny_mono (Q := JN fun s' => ∃ (h : Heap) (tk : Nat) (o : Obj) (u : Str → Option Value), s' = { s with heap := h, toks := tk } ∧ Fr g9 L9 h u ∧ u (Str.ofString "self") = some (.ref x) ∧ News g9 L9 h ((x, instObj 852 d) :: (d, o) :: rest) ∧ ∃ (k7 k8 c1 c2 c3 c7 c8 : Tok) (v4 v5 v6 : Value), o = d8 w.params k1 k2 k3 k4 k5 k6 k7 k8 (.str wd c1) (.int 0 c2) (.int (wd.length : Int) c3) v4 v5 v6 (.int (wd.length : Int) c7) (.int (wd.length : Int) c8)) ?cc ?dd (fun _ _ h => h)
    case cc =>
      rcases ho1 with ⟨k7, c1, c2, c3, c7, v4, v5, v6, rfl⟩ | ⟨k7, k8, c1, c2, c3, c7, v4, v5, v6, v8, rfl⟩
      · k_steps
        exact ⟨rfl, _, _, _, _, rfl, by k_asm, by rfl, by k_asm, ⟨_, _, _, _, _, _, _, _, _, _, rfl⟩⟩
      · k_steps
        exact ⟨rfl, _, _, _, _, rfl, by k_asm, by rfl, by k_asm, ⟨_, _, _, _, _, _, _, _, _, _, rfl⟩⟩
    case dd =>
      rintro _ _ ⟨rfl, h, tk, o, u2, rfl, FW2, hu2, NW2, k7, k8, c1, c2, c3, c7, c8, v4, v5, v6, rfl⟩
      have FW2 := kstB_fr (ps := [(Str.ofString "self", Value.ref x)]) FW2 (List.forall_mem_cons.mpr ⟨hu2, List.forall_mem_nil _⟩)
      dsimp only [kstB] at FW2
      clear FW NW ho1 ho
      (try dsimp only)
      k_steps
      all_goals
        refine' hret _ _ _ _ _ ⟨_, _, ?z1, ?z2, _, _, _, _, _, _, _, _, _, _, rfl, rfl⟩ ?tt (by k_asm) (by k_asm) (by k_asm) (by k_asm) (by k_asm) (by assumption)
        case tt => first | assumption | exact KtsTurn.refl
        case z1 => first | exact mk_f1 (by assumption) | exact (mk_e1 (by assumption)).1
        case z2 => first | exact mk_f4 (by assumption) (by assumption) (by assumption) (by assumption) | exact mk_e4 (by assumption) (by assumption) (by assumption) (by assumption) | exact mk_e3 (by assumption) (by assumption) (by assumption) | exact mk_e2 (by assumption) (by assumption) | exact (mk_e1 (by assumption)).2
theorem mark6 {wd : Str} {x d : Addr} {rest : List (Addr × Obj)} {k1 k2 k3 k4 k5 k6 c1 c2 c3 : Tok} {v4 v5 v6 : Value} (hw1 : wd.length ≤ 1000) (hxd : x ≠ d) (hr : ∀ p ∈ rest, p.1 ≠ d) :
    ClT w mean mg mb 237 [.ref x] ((x, instObj 852 d) :: (d, d6 w.params k1 k2 k3 k4 k5 k6 (.str wd c1) (.int 0 c2) (.int (wd.length : Int) c3) v4 v5 v6) :: rest) 3 24 fun v news' => ∃ z z2, pV wd = z ∧ p2 wd = z2 ∧ ∃ k7 k8 c7 c8 c1 c2 c3 v4 v5 v6, v = .bool true ∧
      news' = ((x, instObj 852 d) :: (d, d8 w.params k1 k2 k3 k4 k5 k6 k7 k8 (.str wd c1) (.int 0 c2) (.int (wd.length : Int) c3) v4 v5 v6 (.int z c7) (.int z2 c8)) :: rest) :=
  mark (.inl ⟨_, _, _, _, _, _, rfl⟩) hw1 hxd hr
theorem mark8 {wd : Str} {x d : Addr} {rest : List (Addr × Obj)} {k1 k2 k3 k4 k5 k6 k7 k8 c1 c2 c3 : Tok} {v4 v5 v6 v7 v8 : Value} (hw1 : wd.length ≤ 1000) (hxd : x ≠ d) (hr : ∀ p ∈ rest, p.1 ≠ d) :
    ClT w mean mg mb 237 [.ref x] ((x, instObj 852 d) :: (d, d8 w.params k1 k2 k3 k4 k5 k6 k7 k8 (.str wd c1) (.int 0 c2) (.int (wd.length : Int) c3) v4 v5 v6 v7 v8) :: rest) 3 24 fun v news' => ∃ z z2, pV wd = z ∧ p2 wd = z2 ∧ ∃ k7 k8 c7 c8 c1 c2 c3 v4 v5 v6, v = .bool true ∧
      news' = ((x, instObj 852 d) :: (d, d8 w.params k1 k2 k3 k4 k5 k6 k7 k8 (.str wd c1) (.int 0 c2) (.int (wd.length : Int) c3) v4 v5 v6 (.int z c7) (.int z2 c8)) :: rest) :=
  mark (.inr ⟨_, _, _, _, _, _, _, _, _, _, rfl⟩) hw1 hxd hr
end
section
variable {prog : Program} {w : World} {A : Around} {E : Value → Shared → Prop} {s : Shared}
theorem sub_to {a b z : Int} {t u : Tok} {Q : Value → Shared → Prop} (e : a - b = z) (h : Q (.int z s.toks) { s with toks := s.toks + 1 }) : wpAny (model prog w) A (binaryOp .Sub (.int a t) (.int b u)) Q E s := by
  subst e
  exact sub_int h
end
theorem kw_34 : True := by
  k_with "binaryOp Sub int int" => (k_here; (refine' sub_to ?e ?_; (case e => with_reducible assumption); k_whole))
  trivial
theorem pV_ge (x : Str) : 0 ≤ pV x := by
  have := sk_ge vo x 0
  unfold pV stp1
  omega
theorem pV_le (x : Str) : pV x ≤ x.length := by unfold pV; exact stp1_le _ _ _
theorem stE_len {x : Str} {lb q : Int} (h0 : 0 ≤ lb) (h1 : lb ≤ x.length) : lb ≤ (stE x lb q).length ∧ (stE x lb q).length ≤ x.length := by
  have := stp_len (k := 3) h0 h1
  have := be_le (k := 3) h0 h1
  unfold stE
  split <;> omega
theorem stp_lens {k : Nat} {x : Str} {lb : Int} (h0 : 0 ≤ lb) (h1 : lb ≤ x.length) : lb ≤ (stp k x lb).length ∧ (stp k x lb).length ≤ x.length := by
  have := stp_len (k := k) h0 h1
  have := be_le (k := k) h0 h1
  omega
noncomputable abbrev w1 (x : Str) : Str := stE x (pV x) (p2 x)
noncomputable abbrev w2 (x : Str) : Str := stp 1 (w1 x) (pV x)
noncomputable abbrev w3 (x : Str) : Str := stp 0 (w2 x) (pV x)
/-- what the stemmer makes of a word -/
noncomputable abbrev w4 (x : Str) : Str := stp 2 (w3 x) (pV x)
theorem w1_len (x : Str) : pV x ≤ (w1 x).length ∧ (w1 x).length ≤ x.length := stE_len (pV_ge x) (pV_le x)
theorem w2_len (x : Str) : pV x ≤ (w2 x).length ∧ (w2 x).length ≤ (w1 x).length := stp_lens (pV_ge x) (w1_len x).1
theorem w3_len (x : Str) : pV x ≤ (w3 x).length ∧ (w3 x).length ≤ (w2 x).length := stp_lens (pV_ge x) (w2_len x).1
theorem w4_len (x : Str) : pV x ≤ (w4 x).length ∧ (w4 x).length ≤ (w3 x).length := stp_lens (pV_ge x) (w3_len x).1
section
variable {w : World} {mean : ExcName → Option Value} {mg mb : Str → Option Value}
end
theorem kw_35 : True := by
  k_with "call ref" => (k_here; (with_reducible show wpAny _ _ (call (Value.ref 265) _) _ _ _); (refine' Cl.use (rend ?p1 ?p2 ?p3 ?p4 ?p5) ?Y ?B ?F ?X ?N ?hs ?T ?hk ?hd ?hu ?_; walk_at "my_cl_go"; (case p1 => omega); (case p2 => omega); (case p3 => omega); (case p4 => assumption); (case p5 => assumption)); rintro _ _ _ _ ⟨_, _, _, _, _, _, _, _, _, h1, h2, h3, h4⟩ _ _; subst h1 h2 h3 h4)
  trivial
section
variable {w : World} {mean : ExcName → Option Value} {mg mb : Str → Option Value}
end
theorem kw_36 : True := by
  k_with "call ref" => (k_here; (with_reducible show wpAny _ _ (call (Value.ref 251) _) _ _ _); (refine' Cl.use (rverb ?p1 ?p2 ?p3 ?p4 ?p5) ?Y ?B ?F ?X ?N ?hs ?T ?hk ?hd ?hu ?_; walk_at "my_cl_go"; (case p1 => omega); (case p2 => omega); (case p3 => omega); (case p4 => assumption); (case p5 => assumption)); rintro _ _ _ _ ⟨_, _, _, _, _, _, _, _, _, h1, h2, h3, h4⟩ _ _; subst h1 h2 h3 h4)
  trivial
section
variable {w : World} {mean : ExcName → Option Value} {mg mb : Str → Option Value}
end
theorem kw_37 : True := by
  k_with "call ref" => (k_here; (with_reducible show wpAny _ _ (call (Value.ref 244) _) _ _ _); (refine' Cl.use (radj ?p1 ?p2 ?p3 ?p4 ?p5) ?Y ?B ?F ?X ?N ?hs ?T ?hk ?hd ?hu ?_; walk_at "my_cl_go"; (case p1 => omega); (case p2 => omega); (case p3 => omega); (case p4 => assumption); (case p5 => assumption)); rintro _ _ _ _ ⟨_, _, _, _, _, _, _, _, _, h1, h2, h3, h4⟩ _ _; subst h1 h2 h3 h4)
  trivial
section
variable {w : World} {mean : ExcName → Option Value} {mg mb : Str → Option Value}
end
theorem kw_38 : True := by
  k_with "call ref" => (k_here; (with_reducible show wpAny _ _ (call (Value.ref 258) _) _ _ _); (refine' Cl.use (rnoun ?p1 ?p2 ?p3 ?p4 ?p5) ?Y ?B ?F ?X ?N ?hs ?T ?hk ?hd ?hu ?_; walk_at "my_cl_go"; (case p1 => omega); (case p2 => omega); (case p3 => omega); (case p4 => assumption); (case p5 => assumption)); rintro _ _ _ _ ⟨_, _, _, _, _, _, _, _, _, h1, h2, h3, h4⟩ _ _; subst h1 h2 h3 h4)
  trivial
section
variable {w : World} {mean : ExcName → Option Value} {mg mb : Str → Option Value}
end
theorem kw_39 : True := by
  k_with "call ref" => (k_here; (with_reducible show wpAny _ _ (call (Value.ref 237) _) _ _ _); (refine' ClT.use (mark6 ?p1 ?p4 ?p5) ?Y ?TB ?B ?F ?X ?N ?hs ?T ?KD ?T0 ?hk ?hd ?hu ?_; walk_at "my_ct_go"; (case p1 => omega); (case p4 => assumption); (case p5 => assumption)); rintro _ _ _ _ _ ⟨_, _, h1, h2, _, _, _, _, _, _, _, _, _, _, h3, h4⟩ _ _ _ _ _ _ _; subst h1 h2 h3 h4)
  trivial
section
variable {w : World} {mean : ExcName → Option Value} {mg mb : Str → Option Value}
end
theorem kw_40 : True := by
  k_with "call ref" => (k_here; (with_reducible show wpAny _ _ (call (Value.ref 237) _) _ _ _); (refine' ClT.use (mark8 ?p1 ?p4 ?p5) ?Y ?TB ?B ?F ?X ?N ?hs ?T ?KD ?T0 ?hk ?hd ?hu ?_; walk_at "my_ct_go"; (case p1 => omega); (case p4 => assumption); (case p5 => assumption)); rintro _ _ _ _ _ ⟨_, _, h1, h2, _, _, _, _, _, _, _, _, _, _, h3, h4⟩ _ _ _ _ _ _ _; subst h1 h2 h3 h4)
  trivial
section
variable {w : World} {mean : ExcName → Option Value} {mg mb : Str → Option Value}
theorem stem {wd : Str} {x d : Addr} {od : Obj} {rest : List (Addr × Obj)} {k1 k2 k3 k4 k5 k6 : Tok} (ho : (∃ c1 c2 c3 v4 v5 v6, od = d6 w.params k1 k2 k3 k4 k5 k6 (.str wd c1) (.int 0 c2) (.int (wd.length : Int) c3) v4 v5 v6) ∨ ∃ k7 k8 c1 c2 c3 v4 v5 v6 v7 v8, od = d8 w.params k1 k2 k3 k4 k5 k6 k7 k8 (.str wd c1) (.int 0 c2) (.int (wd.length : Int) c3) v4 v5 v6 v7 v8) (hw1 : wd.length ≤ 1000) (hxd : x ≠ d) (hr : ∀ p ∈ rest, p.1 ≠ d) :
    ClT w mean mg mb 272 [.ref x] ((x, instObj 852 d) :: (d, od) :: rest) 11 64 fun v news' => ∃ cu' lm', w4 wd = cu' ∧ ((w4 wd).length : Int) = lm' ∧ ∃ k7 k8 c1' c2' c3' c4' v5' v6' v7' v8', v = .bool true ∧
      news' = ((x, instObj 852 d) :: (d, d8 w.params k1 k2 k3 k4 k5 k6 k7 k8 (.str cu' c1') (.int 0 c2') (.int lm' c3') (.int 0 c4') v5' v6' v7' v8') :: rest) := by
  dsimp only [ClT]
  k_fill
  intro dp un gd cn cs a ccd cl outer A₀ base h₀ L m s Q E Y TB B F X N T KD hk hd1 hu hret
  have XB := kv_says Y
  have s0 := pV_ge wd
  have s1 := pV_le wd
  have l1 : pV wd ≤ ((stE wd (pV wd) (p2 wd)).length : Int) ∧ (stE wd (pV wd) (p2 wd)).length ≤ wd.length := w1_len wd
  have l2 : pV wd ≤ ((stp 1 (stE wd (pV wd) (p2 wd)) (pV wd)).length : Int) ∧ (stp 1 (stE wd (pV wd) (p2 wd)) (pV wd)).length ≤ (stE wd (pV wd) (p2 wd)).length := w2_len wd
  have l3 : pV wd ≤ ((stp 0 (stp 1 (stE wd (pV wd) (p2 wd)) (pV wd)) (pV wd)).length : Int) ∧ (stp 0 (stp 1 (stE wd (pV wd) (p2 wd)) (pV wd)) (pV wd)).length ≤ (stp 1 (stE wd (pV wd) (p2 wd)) (pV wd)).length := w3_len wd
  have l4 : pV wd ≤ ((stp 2 (stp 0 (stp 1 (stE wd (pV wd) (p2 wd)) (pV wd)) (pV wd)) (pV wd)).length : Int) ∧ (stp 2 (stp 0 (stp 1 (stE wd (pV wd) (p2 wd)) (pV wd)) (pV wd)) (pV wd)).length ≤ (stp 0 (stp 1 (stE wd (pV wd) (p2 wd)) (pV wd)) (pV wd)).length := w4_len wd
  have e0 : (wd.length : Int) - wd.length = 0 := by omega
  have e1 : ((stE wd (pV wd) (p2 wd)).length : Int) - (stE wd (pV wd) (p2 wd)).length = 0 := by omega
  have e2 : ((stp 1 (stE wd (pV wd) (p2 wd)) (pV wd)).length : Int) - (stp 1 (stE wd (pV wd) (p2 wd)) (pV wd)).length = 0 := by omega
  have e3 : ((stp 0 (stp 1 (stE wd (pV wd) (p2 wd)) (pV wd)) (pV wd)).length : Int) - (stp 0 (stp 1 (stE wd (pV wd) (p2 wd)) (pV wd)) (pV wd)).length = 0 := by omega
  have f1 : ((stE wd (pV wd) (p2 wd)).length : Int) - 0 = (stE wd (pV wd) (p2 wd)).length := by omega
  have f2 : ((stp 1 (stE wd (pV wd) (p2 wd)) (pV wd)).length : Int) - 0 = (stp 1 (stE wd (pV wd) (p2 wd)) (pV wd)).length := by omega
  have f3 : ((stp 0 (stp 1 (stE wd (pV wd) (p2 wd)) (pV wd)) (pV wd)).length : Int) - 0 = (stp 0 (stp 1 (stE wd (pV wd) (p2 wd)) (pV wd)) (pV wd)).length := by omega
  have f4 : ((stp 2 (stp 0 (stp 1 (stE wd (pV wd) (p2 wd)) (pV wd)) (pV wd)) (pV wd)).length : Int) - 0 = (stp 2 (stp 0 (stp 1 (stE wd (pV wd) (p2 wd)) (pV wd)) (pV wd)) (pV wd)).length := by omega
  refine wpAny_call ?_
  k_dflt walk_at "my_s_enter"
  rename_i g9 L9 h9 FG9 F9 N9 B9 X9 T9 D9
  obtain ⟨m9, hm9, F9⟩ : ∃ m9 : Str → Option Value, m9 (Str.ofString "self") = some (.ref x) ∧ Fr g9 L9 h9 m9 := ⟨_, rfl, F9⟩
  have F9 := kstB_fr (ps := [(Str.ofString "self", Value.ref x)]) F9 (List.forall_mem_cons.mpr ⟨hm9, List.forall_mem_nil _⟩)
  dsimp only [kstB] at F9
  refine wpAny_execs_cons ?_
  refine wpAny_mono (Q := JN fun s' => ∃ (g h : Heap) (tk : Nat) (k7 k8 c1 c2 c3 c7 c8 : Tok) (v4 v5 v6 : Value) (u : Str → Option Value), s' = { s with heap := h, toks := tk } ∧ KtsTurn ((envX cn cs L a ccd cl :: outer).filterMap (·.frame)) g9 g ∧ Fr g L9 h u ∧ u (Str.ofString "self") = some (.ref x) ∧
    News g L9 h ((x, instObj 852 d) :: (d, d8 w.params k1 k2 k3 k4 k5 k6 k7 k8 (.str wd c1) (.int 0 c2) (.int (wd.length : Int) c3) v4 v5 v6 (.int (pV wd) c7) (.int (p2 wd) c8)) :: rest) ∧ Below (ktrTop dp un gd cn cs L a ccd cl outer) base (envX cn cs L a ccd cl :: outer) g ∧ (KV w.params).In g ∧ Top qV LS mean mg mb g ∧ KtsDicts ((envX cn cs L a ccd cl :: outer).filterMap (·.frame)) g) ?aa ?bb (fun _ _ h => h)
  case aa =>
    rcases ho with ⟨c1, c2, c3, v4, v5, v6, rfl⟩ | ⟨k7, k8, c1, c2, c3, v4, v5, v6, v7, v8, rfl⟩
    all_goals
      k_steps
      exact ⟨rfl, _, _, _, _, _, _, _, _, _, _, _, _, _, _, rfl, by assumption, by k_asm, by rfl, by k_asm, by k_asm, by k_asm, by k_asm, by assumption⟩
  case bb =>
    rintro _ _ ⟨rfl, g, h, tk, k7, k8, c1, c2, c3, c7, c8, v4, v5, v6, u, rfl, hT, FW, hu, NW, BW, XW, TW, DW⟩
    have FW := kstB_fr (ps := [(Str.ofString "self", Value.ref x)]) FW (List.forall_mem_cons.mpr ⟨hu, List.forall_mem_nil _⟩)
    dsimp only [kstB] at FW
    clear F9 N9 B9 X9 T9 D9 ho
    (try dsimp only)
    k_steps
    refine' hret _ _ _ _ _ ⟨_, _, rfl, rfl, _, _, _, _, _, _, _, _, _, _, rfl, rfl⟩ ?tt (by k_asm) (by k_asm) (by k_asm) (by k_asm) (by k_asm) (by assumption)
    case tt => first | assumption | exact KtsTurn.refl
theorem stem6 {wd : Str} {x d : Addr} {rest : List (Addr × Obj)} {k1 k2 k3 k4 k5 k6 c1 c2 c3 : Tok} {v4 v5 v6 : Value} (hw1 : wd.length ≤ 1000) (hxd : x ≠ d) (hr : ∀ p ∈ rest, p.1 ≠ d) :
    ClT w mean mg mb 272 [.ref x] ((x, instObj 852 d) :: (d, d6 w.params k1 k2 k3 k4 k5 k6 (.str wd c1) (.int 0 c2) (.int (wd.length : Int) c3) v4 v5 v6) :: rest) 11 64 fun v news' => ∃ cu' lm', w4 wd = cu' ∧ ((w4 wd).length : Int) = lm' ∧ ∃ k7 k8 c1' c2' c3' c4' v5' v6' v7' v8', v = .bool true ∧
      news' = ((x, instObj 852 d) :: (d, d8 w.params k1 k2 k3 k4 k5 k6 k7 k8 (.str cu' c1') (.int 0 c2') (.int lm' c3') (.int 0 c4') v5' v6' v7' v8') :: rest) :=
  stem (.inl ⟨_, _, _, _, _, _, rfl⟩) hw1 hxd hr
theorem stem8 {wd : Str} {x d : Addr} {rest : List (Addr × Obj)} {k1 k2 k3 k4 k5 k6 k7 k8 c1 c2 c3 : Tok} {v4 v5 v6 v7 v8 : Value} (hw1 : wd.length ≤ 1000) (hxd : x ≠ d) (hr : ∀ p ∈ rest, p.1 ≠ d) :
    ClT w mean mg mb 272 [.ref x] ((x, instObj 852 d) :: (d, d8 w.params k1 k2 k3 k4 k5 k6 k7 k8 (.str wd c1) (.int 0 c2) (.int (wd.length : Int) c3) v4 v5 v6 v7 v8) :: rest) 11 64 fun v news' => ∃ cu' lm', w4 wd = cu' ∧ ((w4 wd).length : Int) = lm' ∧ ∃ k7 k8 c1' c2' c3' c4' v5' v6' v7' v8', v = .bool true ∧
      news' = ((x, instObj 852 d) :: (d, d8 w.params k1 k2 k3 k4 k5 k6 k7 k8 (.str cu' c1') (.int 0 c2') (.int lm' c3') (.int 0 c4') v5' v6' v7' v8') :: rest) :=
  stem (.inr ⟨_, _, _, _, _, _, _, _, _, _, rfl⟩) hw1 hxd hr
end
section
variable {w : World} {mean : ExcName → Option Value} {mg mb : Str → Option Value}
theorem getcur {x d : Addr} {rest : List (Addr × Obj)} {k1 k2 k3 k4 k5 k6 k7 k8 c1 : Tok} {cu : Str} {v2 v3 v4 v5 v6 v7 v8 : Value} :
    Cl w mean mg mb 49 [.ref x] ((x, instObj 852 d) :: (d, d8 w.params k1 k2 k3 k4 k5 k6 k7 k8 (.str cu c1) v2 v3 v4 v5 v6 v7 v8) :: rest) 1 8 fun v news' => v = .str cu c1 ∧ news' = ((x, instObj 852 d) :: (d, d8 w.params k1 k2 k3 k4 k5 k6 k7 k8 (.str cu c1) v2 v3 v4 v5 v6 v7 v8) :: rest) := by
  dsimp only [Cl]
  k_fill
  intro dp un gd cn cs a ccd cl outer A₀ base h₀ L m s Q E Y B F X N T hk hd1 hu hret
  refine wpAny_call ?_
  k_dflt cell_enter
  k_steps
  exact hret _ _ _ _ ⟨rfl, rfl⟩ (by k_asm) (by k_asm)
end
theorem kw_41 : True := by
  k_with "call ref" => (k_here; (with_reducible show wpAny _ _ (call (Value.ref 49) _) _ _ _); (refine' Cl.use (getcur) ?Y ?B ?F ?X ?N ?hs ?T ?hk ?hd ?hu ?_; walk_at "my_cl_go"); rintro _ _ _ _ ⟨h1, h2⟩ _ _; subst h1 h2)
  trivial
section
variable {w : World} {mean : ExcName → Option Value} {mg mb : Str → Option Value}
theorem setcur0' {wd : Str} {t1 : Tok} {x d : Addr} {rest : List (Addr × Obj)} (hw1 : wd.length ≤ 1000) (hxd : x ≠ d) (hr : ∀ p ∈ rest, p.1 ≠ d) :
    Cl w mean mg mb 42 [.ref x, .str wd t1] ((x, instObj 852 d) :: (d, dictOf [] 0) :: rest) 1 8 fun v news' => v = .none ∧ ∃ k1 k2 k3 k4 k5 k6 c1 c2 c3 c4 c5 c6,
      news' = ((x, instObj 852 d) :: (d, d6 w.params k1 k2 k3 k4 k5 k6 (.str wd c1) (.int 0 c2) (.int (wd.length : Int) c3) (.int 0 c4) (.int 0 c5) (.int (wd.length : Int) c6)) :: rest) :=
  setcur0 wd t1 x d rest hw1 hxd hr
theorem setcur6' {wd : Str} {t1 : Tok} {x d : Addr} {rest : List (Addr × Obj)} {k1 k2 k3 k4 k5 k6 : Tok} {v1 v2 v3 v4 v5 v6 : Value} (hw1 : wd.length ≤ 1000) (hxd : x ≠ d) (hr : ∀ p ∈ rest, p.1 ≠ d) :
    Cl w mean mg mb 42 [.ref x, .str wd t1] ((x, instObj 852 d) :: (d, d6 w.params k1 k2 k3 k4 k5 k6 v1 v2 v3 v4 v5 v6) :: rest) 1 8 fun v news' => v = .none ∧ ∃ c1 c2 c3 c4 c5 c6,
      news' = ((x, instObj 852 d) :: (d, d6 w.params k1 k2 k3 k4 k5 k6 (.str wd c1) (.int 0 c2) (.int (wd.length : Int) c3) (.int 0 c4) (.int 0 c5) (.int (wd.length : Int) c6)) :: rest) :=
  setcur6 wd t1 x d rest k1 k2 k3 k4 k5 k6 v1 v2 v3 v4 v5 v6 hw1 hxd hr
theorem setcur8' {wd : Str} {t1 : Tok} {x d : Addr} {rest : List (Addr × Obj)} {k1 k2 k3 k4 k5 k6 k7 k8 : Tok} {v1 v2 v3 v4 v5 v6 v7 v8 : Value} (hw1 : wd.length ≤ 1000) (hxd : x ≠ d) (hr : ∀ p ∈ rest, p.1 ≠ d) :
    Cl w mean mg mb 42 [.ref x, .str wd t1] ((x, instObj 852 d) :: (d, d8 w.params k1 k2 k3 k4 k5 k6 k7 k8 v1 v2 v3 v4 v5 v6 v7 v8) :: rest) 1 8 fun v news' => v = .none ∧ ∃ c1 c2 c3 c4 c5 c6,
      news' = ((x, instObj 852 d) :: (d, d8 w.params k1 k2 k3 k4 k5 k6 k7 k8 (.str wd c1) (.int 0 c2) (.int (wd.length : Int) c3) (.int 0 c4) (.int 0 c5) (.int (wd.length : Int) c6) v7 v8) :: rest) :=
  setcur8 wd t1 x d rest k1 k2 k3 k4 k5 k6 k7 k8 v1 v2 v3 v4 v5 v6 v7 v8 hw1 hxd hr
end
theorem kw_42 : True := by
  k_with "call ref" => (k_here; (with_reducible show wpAny _ _ (call (Value.ref 42) _) _ _ _); (refine' Cl.use (setcur0' ?p1 ?p4 ?p5) ?Y ?B ?F ?X ?N ?hs ?T ?hk ?hd ?hu ?_; walk_at "my_cl_go"; (case p1 => first | omega | decide); (case p4 => assumption); (case p5 => assumption)); rintro _ _ _ _ ⟨h1, _, _, _, _, _, _, _, _, _, _, _, _, h2⟩ _ _; subst h1 h2)
  trivial
section
variable {w : World} {mean : ExcName → Option Value} {mg mb : Str → Option Value}
theorem initS {x d : Addr} {rest : List (Addr × Obj)} (hxd : x ≠ d) (hr : ∀ p ∈ rest, p.1 ≠ d) :
    Cl w mean mg mb 35 [.ref x] ((x, instObj 852 d) :: (d, dictOf [] 0) :: rest) 3 24 fun v news' => v = .none ∧ ∃ k1 k2 k3 k4 k5 k6 v1 v2 v3 v4 v5 v6, news' = ((x, instObj 852 d) :: (d, d6 w.params k1 k2 k3 k4 k5 k6 v1 v2 v3 v4 v5 v6) :: rest) := by
  dsimp only [Cl]
  k_fill
  intro dp un gd cn cs a ccd cl outer A₀ base h₀ L m s Q E Y B F X N T hk hd1 hu hret
  have hz : (Str.ofString "").length ≤ 1000 := by decide
  refine wpAny_call ?_
  k_dflt cell_enter
  k_steps
  exact hret _ _ _ _ ⟨rfl, _, _, _, _, _, _, _, _, _, _, _, _, rfl⟩ (by k_asm) (by k_asm)
end
theorem kw_43 : True := by
  k_with "call ref" => (k_here; (with_reducible show wpAny _ _ (call (Value.ref 42) _) _ _ _); (refine' Cl.use (setcur6' ?p1 ?p4 ?p5) ?Y ?B ?F ?X ?N ?hs ?T ?hk ?hd ?hu ?_; walk_at "my_cl_go"; (case p1 => first | omega | decide); (case p4 => assumption); (case p5 => assumption)); rintro _ _ _ _ ⟨h1, _, _, _, _, _, _, h2⟩ _ _; subst h1 h2)
  trivial
section
variable {w : World} {mean : ExcName → Option Value} {mg mb : Str → Option Value}
end
theorem kw_44 : True := by
  k_with "call ref" => (k_here; (with_reducible show wpAny _ _ (call (Value.ref 272) _) _ _ _); (refine' ClT.use (stem6 ?p1 ?p4 ?p5) ?Y ?TB ?B ?F ?X ?N ?hs ?T ?KD ?T0 ?hk ?hd ?hu ?_; walk_at "my_ct_go"; (case p1 => omega); (case p4 => assumption); (case p5 => assumption)); rintro _ _ _ _ _ ⟨_, _, h1, h2, _, _, _, _, _, _, _, _, _, _, h3, h4⟩ _ _ _ _ _ _ _; subst h1 h2 h3 h4)
  trivial
section
variable {w : World} {mean : ExcName → Option Value} {mg mb : Str → Option Value}
theorem stemW6 {wd : Str} {t1 : Tok} {x d : Addr} {rest : List (Addr × Obj)} {k1 k2 k3 k4 k5 k6 : Tok} {v1 v2 v3 v4 v5 v6 : Value} (hw1 : wd.length ≤ 1000) (hxd : x ≠ d) (hr : ∀ p ∈ rest, p.1 ≠ d) :
    ClT w mean mg mb 189 [.ref x, .str wd t1] ((x, instObj 852 d) :: (d, d6 w.params k1 k2 k3 k4 k5 k6 v1 v2 v3 v4 v5 v6) :: rest) 13 80 fun v news' => ∃ t cu', w4 wd = cu' ∧ v = .str cu' t ∧ ∃ k7 k8 v2' v3' v4' v5' v6' v7' v8',
      news' = ((x, instObj 852 d) :: (d, d8 w.params k1 k2 k3 k4 k5 k6 k7 k8 (.str cu' t) v2' v3' v4' v5' v6' v7' v8') :: rest) := by
  dsimp only [ClT]
  k_fill
  intro dp un gd cn cs a ccd cl outer A₀ base h₀ L m s Q E Y TB B F X N T KD hk hd1 hu hret
  have XB := kv_says Y
  refine wpAny_call ?_
  k_dflt walk_at "my_s_enter"
  k_steps
  refine' hret _ _ _ _ _ ⟨_, _, rfl, rfl, _, _, _, _, _, _, _, _, _, rfl⟩ ?tt (by k_asm) (by k_asm) (by k_asm) (by k_asm) (by k_asm) (by assumption)
  case tt => first | assumption | exact KtsTurn.refl
end
theorem kw_45 : True := by
  k_with "call ref" => (k_here; (with_reducible show wpAny _ _ (call (Value.ref 42) _) _ _ _); (refine' Cl.use (setcur8' ?p1 ?p4 ?p5) ?Y ?B ?F ?X ?N ?hs ?T ?hk ?hd ?hu ?_; walk_at "my_cl_go"; (case p1 => first | omega | decide); (case p4 => assumption); (case p5 => assumption)); rintro _ _ _ _ ⟨h1, _, _, _, _, _, _, h2⟩ _ _; subst h1 h2)
  trivial
section
variable {w : World} {mean : ExcName → Option Value} {mg mb : Str → Option Value}
end
theorem kw_46 : True := by
  k_with "call ref" => (k_here; (with_reducible show wpAny _ _ (call (Value.ref 272) _) _ _ _); (refine' ClT.use (stem8 ?p1 ?p4 ?p5) ?Y ?TB ?B ?F ?X ?N ?hs ?T ?KD ?T0 ?hk ?hd ?hu ?_; walk_at "my_ct_go"; (case p1 => omega); (case p4 => assumption); (case p5 => assumption)); rintro _ _ _ _ _ ⟨_, _, h1, h2, _, _, _, _, _, _, _, _, _, _, h3, h4⟩ _ _ _ _ _ _ _; subst h1 h2 h3 h4)
  trivial
section
variable {w : World} {mean : ExcName → Option Value} {mg mb : Str → Option Value}
theorem stemW8 {wd : Str} {t1 : Tok} {x d : Addr} {rest : List (Addr × Obj)} {k1 k2 k3 k4 k5 k6 k7 k8 : Tok} {v1 v2 v3 v4 v5 v6 v7 v8 : Value} (hw1 : wd.length ≤ 1000) (hxd : x ≠ d) (hr : ∀ p ∈ rest, p.1 ≠ d) :
    ClT w mean mg mb 189 [.ref x, .str wd t1] ((x, instObj 852 d) :: (d, d8 w.params k1 k2 k3 k4 k5 k6 k7 k8 v1 v2 v3 v4 v5 v6 v7 v8) :: rest) 13 80 fun v news' => ∃ t cu', w4 wd = cu' ∧ v = .str cu' t ∧ ∃ k7' k8' v2' v3' v4' v5' v6' v7' v8',
      news' = ((x, instObj 852 d) :: (d, d8 w.params k1 k2 k3 k4 k5 k6 k7' k8' (.str cu' t) v2' v3' v4' v5' v6' v7' v8') :: rest) := by
  dsimp only [ClT]
  k_fill
  intro dp un gd cn cs a ccd cl outer A₀ base h₀ L m s Q E Y TB B F X N T KD hk hd1 hu hret
  have XB := kv_says Y
  refine wpAny_call ?_
  k_dflt walk_at "my_s_enter"
  k_steps
  refine' hret _ _ _ _ _ ⟨_, _, rfl, rfl, _, _, _, _, _, _, _, _, _, rfl⟩ ?tt (by k_asm) (by k_asm) (by k_asm) (by k_asm) (by k_asm) (by assumption)
  case tt => first | assumption | exact KtsTurn.refl
end
section
variable {prog : Program} {w : World} {A : Around} {E : Value → Shared → Prop} {s : Shared} {env : Env} {h₀ : Heap} {x : Str} {body : List Stmt} {Q : Flow → Shared → Prop}
/-- a for over a list, old or new -/
theorem list_st {σ : Type} {l : Addr} {vs : List Value} {m₀ : Str → Option Value} {news : List (Addr × Obj)} (Led : List (Addr × Obj)) (ps : σ → List (Str × Value)) (P : Nat → σ → Prop) (c₀ : σ)
    (hh : A.handled = none) (hl : s.heap.IsList l vs.toArray) (hlL : l ≠ env.locals) (hlo : ∀ p ∈ Led, p.1 ≠ l) (F : Fr h₀ env.locals s.heap m₀) (N : News h₀ env.locals s.heap news)
    (hs : ∀ p ∈ Led, p ∈ news) (hm : ∀ p ∈ ps c₀, m₀ p.1 = some p.2) (hp : P 0 c₀)
    (turn : ∀ (c : σ) (i : Nat) (v : Value) (u : Str → Option Value) h tk own, vs[i]? = some v → P i c → OwnOff own (Led.map (·.1)) → Fr h₀ env.locals h (fun y => if y = x then some v else kstB u (ps c) y) → News h₀ env.locals h (Led ++ own) →
      wpAny (model prog w) A (execs body env) (DPost h₀ env.locals { s with heap := h, toks := tk } Led own ps (P (i + 1)) Q) E { s with heap := h, toks := tk })
    (done : ∀ (c : σ) (u : Str → Option Value) h tk, P vs.length c → Fr h₀ env.locals h (kstB u (ps c)) → News h₀ env.locals h Led → Q .next { s with heap := h, toks := tk }) :
    wpAny (model prog w) A (pyIter (.ref l)) (fun it s₂ => LoopAtV prog w A h₀ env x body Q E it s₂) E s := by
  obtain ⟨ol, hol, _⟩ := id hl
  have hlt : l < s.heap.objs.size := Heap.lt_size hol
  have hne : l ≠ s.heap.objs.size := Nat.ne_of_lt hlt
  refine wpAny_pyIter_list hl ?_
  have W := Walks.list (prog := prog) (w := w) hh s.heap.objs.size l hne vs.toArray
  have hlen : vs.toArray.size = vs.length := by simp
  rw [hlen] at W
  have off : ∀ p ∈ Led, p.1 ∉ [s.heap.objs.size] := fun p hp hI => absurd (Heap.lt_size (N p (hs p hp)).1) ((List.mem_singleton.mp hI) ▸ Nat.lt_irrefl _)
  refine loop_st Led ps P c₀ W ?_ ?_ off ?_ ⟨⟨_, Heap.get?_push_size _ rfl, rfl, rfl⟩, hl.at fun o e => Heap.get?_push_of_some _ e⟩ (F.push _) (fun p hp => ⟨Heap.get?_push_of_some _ (N p hp).1, (N p hp).2⟩) hs hm hp ?_ done
  · intro hm
    rcases List.mem_cons.mp hm with e | hm
    · exact absurd F.ns.lt (e ▸ Nat.lt_irrefl _)
    · exact hlL (List.mem_singleton.mp hm).symm
  · intro b hb
    rw [List.mem_singleton.mp hb]
    exact next_is_new F
  · intro p hp hI
    rcases List.mem_cons.mp hI with e | hI
    · exact off p hp (by rw [e]; exact List.mem_singleton.mpr rfl)
    · exact hlo p hp (List.mem_singleton.mp hI)
  · intro c i v u h tk own hi hv hp' hoff F₁ N₁
    exact turn c i v u h tk own (by simpa using hv) hp' hoff F₁ N₁
end
section
theorem bl_snoc : ∀ (l : List Str) (e : Str) (X : List Nat) (b : Nat), bl (l ++ [e]) X b = if bl l X b < e.length ∧ (rv e).isPrefixOf X = true then e.length else bl l X b
  | [], e, X, b => rfl
  | a :: l, e, X, b => by
    show bl (l ++ [e]) X _ = _
    rw [bl_snoc l e X]
    rfl
theorem ends_rev (x e : Str) : Txt.endswith x e = (rv e).isPrefixOf x.cps.toList.reverse := by
  have hx : x.cps.toList.length = x.length := by simp [Str.length]
  have he : e.cps.toList.length = e.length := by simp [Str.length]
  rw [Bool.eq_iff_iff, List.isPrefixOf_iff_prefix]
  unfold Txt.endswith rv
  rw [List.reverse_prefix, List.suffix_iff_eq_drop, StrLaws.subAt_eq]
  simp only [Nat.zero_add, Bool.and_eq_true, decide_eq_true_eq, beq_iff_eq]
  constructor
  · rintro ⟨h1, h2⟩
    rw [hx, he]
    rw [List.take_of_length_le (by rw [List.length_drop, hx]; omega)] at h2
    exact h2.symm
  · intro h
    rw [hx, he] at h
    have hl := congrArg List.length h
    rw [List.length_drop, hx, he] at hl
    refine ⟨by omega, ?_⟩
    rw [List.take_of_length_le (by rw [List.length_drop, hx]; omega)]
    exact h.symm
theorem slice_low {x : Str} {low : Int} (h0 : 0 ≤ low) (h1 : low ≤ x.length) : (Txt.slice x (some low) none).cps.toList.reverse = revX x low := by
  rw [slice_from_eq (b := x.length) h0 h1 rfl]
  unfold revX
  have hx : x.cps.toList.length = x.length := by simp [Str.length]
  show (List.toArray _).toList.reverse = _
  rw [List.take_of_length_le (by rw [List.length_drop, hx]; omega)]
theorem ends_low {x e : Str} {low : Int} (h0 : 0 ≤ low) (h1 : low ≤ x.length) : Txt.endswith (Txt.slice x (some low) none) e = (rv e).isPrefixOf (revX x low) := by
  rw [ends_rev, slice_low h0 h1]
/-- one turn of the law's own search -/
theorem bl_turn {es : List Str} {X : List Nat} {i : Nat} (hi : i < es.length) : bl (es.take (i + 1)) X 0 = if bl (es.take i) X 0 < (es.getD i ⟨#[]⟩).length ∧ (rv (es.getD i ⟨#[]⟩)).isPrefixOf X = true then (es.getD i ⟨#[]⟩).length else bl (es.take i) X 0 := by
  have e : es.take (i + 1) = es.take i ++ [es.getD i ⟨#[]⟩] := by
    rw [List.take_add_one, List.getElem?_eq_getElem hi, List.getD_eq_getElem?_getD, List.getElem?_eq_getElem hi]
    rfl
  rw [e, bl_snoc]
end
/-- texts in a list -/
noncomputable def TxtsAt (h : Heap) (l : Addr) (es : List Str) : Prop := ∃ vs : List Value, h.IsList l vs.toArray ∧ vs.length = es.length ∧ ∀ i v, vs[i]? = some v → ∃ t, v = Value.str (es.getD i ⟨#[]⟩) t
section
variable {w : World} {mean : ExcName → Option Value} {mg mb : Str → Option Value}
theorem lend {wd : Str} {l : Addr} {low : Int} {t0 t1 : Tok} {rest : List (Addr × Obj)} (es : List Str) (hT : ∀ base, SaysV w base → TxtsAt base l es) (hes : ∀ e ∈ es, e.length ≤ 100) (hw1 : wd.length ≤ 1000) (h0 : 0 ≤ low) (h1 : low ≤ wd.length) :
    Cl w mean mg mb 913 [.str wd t0, .ref l, .int low t1] rest 1 12 fun v news' => ∃ (e : Str) (t : Tok), v = Value.str e t ∧ e.length = bl es (revX wd low) 0 ∧ news' = rest := by
  dsimp only [Cl]
  k_fill
  intro dp un gd cn cs a ccd cl outer A₀ base h₀ L m s Q E Y B F X N T hk hd1 hu hret
  obtain ⟨vs, hl, hlen, hvs⟩ := hT base Y
  refine wpAny_call ?_
  k_dflt cell_enter
  rename_i g9 L9 h9 FG9 F9 N9 B9 X9 T9
  have hno : ∀ p ∈ rest, p.1 ≠ l := fun p hp e => by
    obtain ⟨o, ho, _⟩ := hl
    have h3 := (N9 p hp).2.2
    rw [e, B9.stays _ _ ho] at h3
    cases h3
  have hll : l ≠ L9 := fun e => by
    obtain ⟨o, ho, _⟩ := hl
    exact absurd (Nat.lt_of_lt_of_le (Heap.lt_size (B9.stays _ _ ho)) F9.above) (e ▸ Nat.lt_irrefl _)
  k_steps
  refine Stop.un ?_
  refine' for_join (fun s₂ => ∃ (found : Str) (tf : Tok) (u : Str → Option Value) (h : Heap) (tk : Nat), s₂ = { s with heap := h, toks := tk } ∧ Fr g9 L9 h u ∧ u (Str.ofString "found") = some (.str found tf) ∧ News g9 L9 h rest ∧ found.length = bl es (revX wd low) 0) ?F ?k1 ?k2 ?h ?k
  case F => k_asm
  case k1 => rfl
  case k2 => rfl
  case h =>
    k_steps
    refine Stop.un ?_
    have hq : 0 ≤ 0 := Nat.le_refl _
    refine' list_st (σ := Str × Tok) (vs := vs) rest (fun q => [(Str.ofString "word", .str wd t0), (Str.ofString "low", .int low t1), (Str.ofString "found", .str q.1 q.2)]) (fun i q => q.1.length = bl (es.take i) (revX wd low) 0 ∧ q.1.length ≤ 100) (Str.ofString "", _) ?hh ?hl ?hlL ?hlo ?F ?N ?hs ?hm ?hp ?turn ?done
    case hh => with_unfolding_all rfl
    case hl => exact hl.at fun o e => Fr.keep (by k_asm) _ _ (B9.stays _ _ e)
    case hlL => exact hll
    case hlo => exact hno
    case F => k_asm
    case N => k_asm
    case hs => exact fun p hp => hp
    case hm => walk_at "my_locs"
    case hp => exact ⟨rfl, Nat.zero_le _⟩
    case turn =>
      rintro ⟨found, tf⟩ i v u hV tkV own hi ⟨hP, hP2⟩ hoff FV NV
      obtain ⟨te, rfl⟩ := hvs i v hi
      dsimp only [kstB] at hP hP2 FV NV ⊢
      have hii : i < es.length := by
        rw [← hlen]
        exact (List.getElem?_eq_some_iff.mp hi).1
      have he : (es.getD i ⟨#[]⟩).length ≤ 100 := by
        rw [List.getD_eq_getElem?_getD, List.getElem?_eq_getElem hii]
        exact hes _ (List.getElem_mem hii)
      have hbt := bl_turn (X := revX wd low) hii
      rw [← hP] at hbt
      have hel := ends_low (e := es.getD i ⟨#[]⟩) h0 h1
      generalize hE : es.getD i ⟨#[]⟩ = e at FV he hbt hel
      have c1 : (found.length : Int) < e.length → Txt.endswith (Txt.slice wd (some low) none) e = true → e.length = bl (es.take (i + 1)) (revX wd low) 0 := fun a b => by
        rw [hel] at b
        rw [hbt, if_pos ⟨by omega, b⟩]
      have c2 : (found.length : Int) < e.length → Txt.endswith (Txt.slice wd (some low) none) e = false → found.length = bl (es.take (i + 1)) (revX wd low) 0 := fun a b => by
        rw [hel] at b
        rw [hbt, if_neg (by rw [b]; simp)]
      have c3 : ¬ (found.length : Int) < e.length → found.length = bl (es.take (i + 1)) (revX wd low) 0 := fun a => by
        rw [hbt, if_neg (by omega)]
      k_steps
      · exact ⟨(_, _), _, _, _, _, rfl, by k_asm, by k_asm, fun p hp => List.mem_append_left _ hp, fun p hp => List.mem_append_right _ hp, by walk_at "my_locs", c1 (by assumption) (by assumption), he⟩
      · exact ⟨(_, _), _, _, _, _, rfl, by k_asm, by k_asm, fun p hp => List.mem_append_left _ hp, fun p hp => List.mem_append_right _ hp, by walk_at "my_locs", c2 (by assumption) (by assumption), hP2⟩
      · exact ⟨(_, _), _, _, _, _, rfl, by k_asm, by k_asm, fun p hp => List.mem_append_left _ hp, fun p hp => List.mem_append_right _ hp, by walk_at "my_locs", c3 (by assumption), hP2⟩
    case done =>
      rintro ⟨found, tf⟩ u hV tkV ⟨hP, hP2⟩ FV NV
      dsimp only [kstB] at hP FV NV ⊢
      refine ⟨rfl, found, tf, _, _, _, rfl, FV, by rfl, NV, ?_⟩
      rw [hP, hlen, List.take_of_length_le (Nat.le_refl _)]
  case k =>
    rintro _ ⟨found, tf, u, h9, tk9, rfl, F9, hu9, N9, e9⟩
    rw [← kstB_self (ps := [(Str.ofString "found", .str found tf)]) (List.forall_mem_cons.mpr ⟨hu9, List.forall_mem_nil _⟩)] at F9
    dsimp only [kstB] at F9
    k_steps
    exact hret _ _ _ _ ⟨found, tf, rfl, e9, rfl⟩ (by k_asm) (by k_asm)
end
theorem gv_lit : gvNames.map PyData.str = [PyData.str (Str.ofString "ա"), PyData.str (Str.ofString "ե"), PyData.str (Str.ofString "է"), PyData.str (Str.ofString "ը"), PyData.str (Str.ofString "ի"), PyData.str (Str.ofString "ո"), PyData.str (Str.ofString "ւ"), PyData.str (Str.ofString "օ")] := by kernel_rfl
theorem gv_any (y : Str) : (gvNames.map PyData.str).any (datHitsStr y) = isVS y := by
  rw [Bool.eq_iff_iff]
  unfold isVS
  rw [List.any_eq_true, decide_eq_true_eq]
  constructor
  · rintro ⟨d, hd, h⟩
    obtain ⟨z, hz, rfl⟩ := List.mem_map.mp hd
    have : z = y := by simpa [datHitsStr] using h
    exact this ▸ hz
  · intro h
    exact ⟨.str y, List.mem_map.mpr ⟨y, h, rfl⟩, by simp [datHitsStr]⟩
section
variable {w : World} {A : Around} {E : Value → Shared → Prop} {s : Shared} {h₀ : Heap} {L l : Addr} {news : List (Addr × Obj)} {vs : List Value}
theorem in_vow {y : Str} {u : Tok} {Q : Value → Shared → Prop} (N : News h₀ L s.heap news) (hm : (l, listOf vs.toArray 0) ∈ news) (hc : CarriedAll vs (gvNames.map PyData.str)) (h : Q (.bool (isVS y)) s) :
    wpAny (model PySem.Challenge.rw_ai0034_01.row.prog w) A (compareOp .In (.str y u) (.ref l)) Q E s :=
  in_made_str ⟨_, (N _ hm).1, rfl, ⟨_, rfl⟩⟩ hc (by rw [gv_any]; exact h)
theorem notin_vow {y : Str} {u : Tok} {Q : Value → Shared → Prop} (N : News h₀ L s.heap news) (hm : (l, listOf vs.toArray 0) ∈ news) (hc : CarriedAll vs (gvNames.map PyData.str)) (h : Q (.bool (!isVS y)) s) :
    wpAny (model PySem.Challenge.rw_ai0034_01.row.prog w) A (compareOp .NotIn (.str y u) (.ref l)) Q E s :=
  notin_made_str ⟨_, (N _ hm).1, rfl, ⟨_, rfl⟩⟩ hc (by rw [gv_any]; exact h)
end
theorem kw_47 : True := by
  k_with "compareOp In str ref" => (k_here; (refine' in_vow ?i1 ?i2 ?i3 ?_; (case i1 => k_asm); (case i2 => k_mem); (case i3 => assumption); k_whole))
  trivial
theorem kw_48 : True := by
  k_with "compareOp NotIn str ref" => (k_here; (refine' notin_vow ?i1 ?i2 ?i3 ?_; (case i1 => k_asm); (case i2 => k_mem); (case i3 => assumption); k_whole))
  trivial
theorem kw_49 : True := by
  k_with "subscriptTail Name Name str int" => (k_here; (with_reducible show wpAny _ _ (subscriptTail _ _ (Value.str _ _) (Value.int _ _)) _ _ _); (refine' item_str ?i1 ?i2 ?i3 ?_; (case i1 => omega); (case i2 => omega); (case i3 => omega); k_whole))
  trivial
section
variable {w : World} {mean : ExcName → Option Value} {mg mb : Str → Option Value}
theorem lvow {rest : List (Addr × Obj)} :
    Cl w mean mg mb 874 [] rest 1 8 fun v news' => ∃ l vs, v = .ref l ∧ CarriedAll vs (gvNames.map PyData.str) ∧ news' = (l, listOf vs.toArray 0) :: rest := by
  dsimp only [Cl]
  k_fill
  intro dp un gd cn cs a ccd cl outer A₀ base h₀ L m s Q E Y B F X N T hk hd1 hu hret
  refine wpAny_call ?_
  k_dflt cell_enter
  k_steps
  refine' hret _ _ _ _ ⟨_, _, rfl, ?c, rfl⟩ (by k_asm) (by k_asm)
  case c => rw [gv_lit]; exact .cons (.str _ _) (.cons (.str _ _) (.cons (.str _ _) (.cons (.str _ _) (.cons (.str _ _) (.cons (.str _ _) (.cons (.str _ _) (.cons (.str _ _) (.nil))))))))
theorem lcut {wd e : Str} {t0 t1 : Tok} {rest : List (Addr × Obj)} (hw1 : wd.length ≤ 1000) (he : e.length ≤ wd.length) :
    Cl w mean mg mb 920 [.str wd t0, .str e t1] rest 1 8 fun v news' => ∃ cu' t, cutS wd ((wd.length : Int) - e.length) = cu' ∧ v = .str cu' t ∧ news' = rest := by
  dsimp only [Cl]
  k_fill
  intro dp un gd cn cs a ccd cl outer A₀ base h₀ L m s Q E Y B F X N T hk hd1 hu hret
  refine wpAny_call ?_
  k_dflt cell_enter
  k_steps
  exact hret _ _ _ _ ⟨_, _, (cut_to (by omega) (by omega)).symm, rfl, rfl⟩ (by k_asm) (by k_asm)
end
theorem kw_50 : True := by
  k_with "call ref" => (k_here; (with_reducible show wpAny _ _ (call (Value.ref 874) _) _ _ _); (refine' Cl.use lvow ?Y ?B ?F ?X ?N ?hs ?T ?hk ?hd ?hu ?_; walk_at "my_cl_go"); rintro _ _ _ _ ⟨_, _, h1, _, h2⟩ _ _; subst h1 h2)
  trivial
section
variable {w : World} {mean : ExcName → Option Value} {mg mb : Str → Option Value}
theorem txt_item {x : Str} {i : Int} (h0 : 0 ≤ i) (h1 : i < x.length) : Txt.item x i = ⟨#[ch x i]⟩ := by
  have hi : i.toNat < x.cps.size := by
    have : i.toNat < x.length := by omega
    exact this
  have hq : seqIndex? i x.length = some i.toNat := by
    unfold seqIndex?
    have hn : ¬ i < 0 := by omega
    simp [hn, h0, h1]
  have hc : Txt.charAt x i = some (ch x i) := by
    unfold Txt.charAt ch
    rw [hq]
    show x.cps[i.toNat]? = _
    rw [Array.getD_eq_getD_getElem?, Array.getElem?_eq_getElem hi]
    rfl
  unfold Txt.item
  rw [hc]
  rfl
theorem news_tail {h₀ h : Heap} {L : Addr} {a : Addr × Obj} {b : List (Addr × Obj)} (N : News h₀ L h (a :: b)) : News h₀ L h b := fun p hp => N p (.tail _ hp)
theorem lbeh {wd : Str} {t0 t1 : Tok} {at_ : Int} {rest : List (Addr × Obj)} (hw1 : wd.length ≤ 1000) (h0 : 0 ≤ at_) (h1 : at_ ≤ wd.length) :
    Cl w mean mg mb 927 [.str wd t0, .int at_ t1] rest 3 24 fun v news' => ∃ z t, stp1 nv wd (sk vo wd at_) = z ∧ v = .int z t ∧ news' = rest := by
  dsimp only [Cl]
  k_fill
  intro dp un gd cn cs a ccd cl outer A₀ base h₀ L m s Q E Y B F X N T hk hd1 hu hret
  refine wpAny_call ?_
  k_dflt cell_enter
  rename_i g9 L9 h9 FG9 F9 N9 B9 X9 T9
  k_steps
  refine Stop.un ?_
  refine' while_join (σ := Int × Tok) (fun s₂ => ∃ (z : Int) (tz : Tok) (u : Str → Option Value) (h : Heap) (tk : Nat), s₂ = { s with heap := h, toks := tk } ∧ Fr g9 L9 h u ∧ (∀ p ∈ [(Str.ofString "word", Value.str wd t0), (Str.ofString "at", .int z tz)], u p.1 = some p.2) ∧ News g9 L9 h rest ∧ z = sk vo wd at_)
    (fun _ => rest) (fun q => [(Str.ofString "word", .str wd t0), (Str.ofString "at", .int q.1 q.2)]) (fun q => (0 ≤ q.1 ∧ q.1 ≤ wd.length) ∧ sk vo wd q.1 = sk vo wd at_) (fun q => ((wd.length : Int) - q.1).toNat) (_, _) ?kF ?kN ?km ?kn ?kp ?kt ?kj
  case kF => k_asm
  case kN => k_asm
  case km => walk_at "my_locs"
  case kn => exact fun p hp => hp
  case kp => exact ⟨⟨by omega, by omega⟩, rfl⟩
  case kt =>
    rintro ⟨z, tz⟩ u hV tkV ⟨⟨hz0, hz1⟩, hz2⟩ FV NV
    dsimp only [kstB] at hz0 hz1 hz2 FV NV ⊢
    have hS : z < wd.length → isVS (Txt.item wd z) = true → z = sk vo wd at_ := fun a b => by
      rw [txt_item hz0 a] at b
      rw [← hz2]
      exact (sk_stop a (by show vo (ch wd z) = true; unfold vo; simp [b])).symm
    have hG : z < wd.length → isVS (Txt.item wd z) = false → ((0 ≤ z + 1 ∧ z + 1 ≤ wd.length) ∧ sk vo wd (z + 1) = sk vo wd at_) ∧ ((wd.length : Int) - (z + 1)).toNat < ((wd.length : Int) - z).toNat := fun a b => by
      rw [txt_item hz0 a] at b
      exact ⟨⟨⟨by omega, by omega⟩, (sk_go a (by show vo (ch wd z) = false; unfold vo; simp [b])).trans hz2⟩, by omega⟩
    have hE : ¬ z < wd.length → z = sk vo wd at_ := fun a => by
      rw [← hz2]
      exact (sk_end a).symm
    k_steps
    all_goals first
      | exact ⟨rfl, _, _, _, _, _, rfl, by k_asm, by walk_at "my_locs", by first | k_asm | exact news_tail (by k_asm), hS (by assumption) (by assumption)⟩
      | exact ⟨rfl, _, _, _, _, _, rfl, by k_asm, by walk_at "my_locs", by first | k_asm | exact news_tail (by k_asm), hE (by assumption)⟩
      | exact ⟨(_, _), _, _, _, rfl, by k_asm, by walk_at "my_locs", by first | k_asm | exact news_tail (by k_asm), (hG (by assumption) (by assumption)).1, (hG (by assumption) (by assumption)).2⟩
  case kj =>
    rintro _ ⟨z, tz, u, hW, tkW, rfl, FW, hmW, NW, rfl⟩
    rw [← kstB_self hmW] at FW
    dsimp only [kstB] at FW
    have b1 := sk_ge vo wd at_
    have b2 := sk_le vo h1
    k_steps
    refine Stop.un ?_
    refine' while_join (σ := Int × Tok) (fun s₂ => ∃ (z : Int) (tz : Tok) (u : Str → Option Value) (h : Heap) (tk : Nat), s₂ = { s with heap := h, toks := tk } ∧ Fr g9 L9 h u ∧ (∀ p ∈ [(Str.ofString "word", Value.str wd t0), (Str.ofString "at", .int z tz)], u p.1 = some p.2) ∧ News g9 L9 h rest ∧ z = sk nv wd (sk vo wd at_))
      (fun _ => rest) (fun q => [(Str.ofString "word", .str wd t0), (Str.ofString "at", .int q.1 q.2)]) (fun q => (0 ≤ q.1 ∧ q.1 ≤ wd.length) ∧ sk nv wd q.1 = sk nv wd (sk vo wd at_)) (fun q => ((wd.length : Int) - q.1).toNat) (_, _) ?kF2 ?kN2 ?km2 ?kn2 ?kp2 ?kt2 ?kj2
    case kF2 => k_asm
    case kN2 => k_asm
    case km2 => walk_at "my_locs"
    case kn2 => exact fun p hp => hp
    case kp2 => exact ⟨⟨by omega, by omega⟩, rfl⟩
    case kt2 =>
      rintro ⟨z, tz⟩ u hV tkV ⟨⟨hz0, hz1⟩, hz2⟩ FV NV
      dsimp only [kstB] at hz0 hz1 hz2 FV NV ⊢
      have hS : z < wd.length → isVS (Txt.item wd z) = false → z = sk nv wd (sk vo wd at_) := fun a b => by
        rw [txt_item hz0 a] at b
        rw [← hz2]
        exact (sk_stop a (by show nv (ch wd z) = true; unfold nv; simp [b])).symm
      have hG : z < wd.length → isVS (Txt.item wd z) = true → ((0 ≤ z + 1 ∧ z + 1 ≤ wd.length) ∧ sk nv wd (z + 1) = sk nv wd (sk vo wd at_)) ∧ ((wd.length : Int) - (z + 1)).toNat < ((wd.length : Int) - z).toNat := fun a b => by
        rw [txt_item hz0 a] at b
        exact ⟨⟨⟨by omega, by omega⟩, (sk_go a (by show nv (ch wd z) = false; unfold nv; simp [b])).trans hz2⟩, by omega⟩
      have hE : ¬ z < wd.length → z = sk nv wd (sk vo wd at_) := fun a => by
        rw [← hz2]
        exact (sk_end a).symm
      k_steps
      all_goals first
        | exact ⟨rfl, _, _, _, _, _, rfl, by k_asm, by walk_at "my_locs", by first | k_asm | exact news_tail (by k_asm), hS (by assumption) (by assumption)⟩
        | exact ⟨rfl, _, _, _, _, _, rfl, by k_asm, by walk_at "my_locs", by first | k_asm | exact news_tail (by k_asm), hE (by assumption)⟩
        | exact ⟨(_, _), _, _, _, rfl, by k_asm, by walk_at "my_locs", by first | k_asm | exact news_tail (by k_asm), (hG (by assumption) (by assumption)).1, (hG (by assumption) (by assumption)).2⟩
    case kj2 =>
      rintro _ ⟨z, tz, u, hW, tkW, rfl, FW, hmW, NW, rfl⟩
      rw [← kstB_self hmW] at FW
      dsimp only [kstB] at FW
      have b3 := sk_ge nv wd (sk vo wd at_)
      have b4 := sk_le nv b2
      k_steps
      refine' hret _ _ _ _ ⟨_, _, ?z1, rfl, rfl⟩ (by k_asm) (by k_asm)
      case z1 => unfold stp1; split <;> omega
end
/-- the texts of a list that the heap holds -/
noncomputable def textsIn (o : Obj) : List Str := match o.data with
  | .seq vs _ => vs.toList.filterMap fun v => match v with | .str x _ => some x | _ => none
  | _ => []
noncomputable def allStr (o : Obj) : Bool := match o.data with
  | .seq vs _ => vs.toList.all fun v => match v with | .str _ _ => true | _ => false
  | _ => false
theorem strs_at : ∀ {vs : List Value}, (vs.all fun v => match v with | .str _ _ => true | _ => false) = true → (vs.filterMap fun v => match v with | .str x _ => some x | _ => none).length = vs.length ∧
    ∀ (i : Nat) (v : Value), vs[i]? = some v → ∃ t, v = Value.str ((vs.filterMap fun v => match v with | .str x _ => some x | _ => none).getD i ⟨#[]⟩) t
  | [], _ => ⟨rfl, fun i v h => by simp at h⟩
  | v :: vs, h => by
    rw [List.all_cons, Bool.and_eq_true] at h
    obtain ⟨l1, l2⟩ := strs_at h.2
    match v, h.1 with
    | .str x t, _ =>
      refine ⟨by rw [List.filterMap_cons]; exact congrArg (· + 1) l1, fun i v hi => ?_⟩
      cases i with
      | zero => cases hi; exact ⟨t, rfl⟩
      | succ i =>
        obtain ⟨t', e⟩ := l2 i v hi
        exact ⟨t', e⟩
theorem txts_of {h : Heap} {l : Addr} {o : Obj} {es : List Str} (hg : h.get? l = some o) (hc : o.cls = .type "list") (ha : allStr o = true) (he : textsIn o = es) : TxtsAt h l es := by
  obtain ⟨c, d, dt, sl⟩ := o
  unfold allStr at ha
  unfold textsIn at he
  dsimp only at hc ha he
  split at ha
  · rename_i vs n
    obtain ⟨l1, l2⟩ := strs_at ha
    dsimp only at he
    subst he
    exact ⟨vs.toList, ⟨_, hg, hc, ⟨n, by simp⟩⟩, l1.symm, l2⟩
  · cases ha
theorem txts_3 {w : World} {h : Heap} (Y : SaysV w h) : TxtsAt h 889 ((rows 3).map (·.1)) := by
  have hg := kv_says Y 889 (o889 w.params) (by kernel_rfl)
  refine txts_of hg rfl (by kernel_rfl) (by kernel_rfl)
theorem rows_len_3 : ∀ e ∈ (rows 3).map (·.1), e.length ≤ 100 := by
  have h : ((rows 3).map (·.1)).all (fun e => decide (e.length ≤ 100)) = true := by kernel_rfl
  intro e he
  simpa using List.all_eq_true.mp h e he
theorem txts_1 {w : World} {h : Heap} (Y : SaysV w h) : TxtsAt h 890 ((rows 1).map (·.1)) := by
  have hg := kv_says Y 890 (o890 w.params) (by kernel_rfl)
  refine txts_of hg rfl (by kernel_rfl) (by kernel_rfl)
theorem rows_len_1 : ∀ e ∈ (rows 1).map (·.1), e.length ≤ 100 := by
  have h : ((rows 1).map (·.1)).all (fun e => decide (e.length ≤ 100)) = true := by kernel_rfl
  intro e he
  simpa using List.all_eq_true.mp h e he
theorem txts_0 {w : World} {h : Heap} (Y : SaysV w h) : TxtsAt h 891 ((rows 0).map (·.1)) := by
  have hg := kv_says Y 891 (o891 w.params) (by kernel_rfl)
  refine txts_of hg rfl (by kernel_rfl) (by kernel_rfl)
theorem rows_len_0 : ∀ e ∈ (rows 0).map (·.1), e.length ≤ 100 := by
  have h : ((rows 0).map (·.1)).all (fun e => decide (e.length ≤ 100)) = true := by kernel_rfl
  intro e he
  simpa using List.all_eq_true.mp h e he
theorem txts_2 {w : World} {h : Heap} (Y : SaysV w h) : TxtsAt h 892 ((rows 2).map (·.1)) := by
  have hg := kv_says Y 892 (o892 w.params) (by kernel_rfl)
  refine txts_of hg rfl (by kernel_rfl) (by kernel_rfl)
theorem rows_len_2 : ∀ e ∈ (rows 2).map (·.1), e.length ≤ 100 := by
  have h : ((rows 2).map (·.1)).all (fun e => decide (e.length ≤ 100)) = true := by kernel_rfl
  intro e he
  simpa using List.all_eq_true.mp h e he
section
variable {prog : Program} {w : World} {A : Around} {E : Value → Shared → Prop} {s : Shared} {env : Env} {h₀ : Heap} {x : Str} {body : List Stmt} {Q : Flow → Shared → Prop}
/-- .. and over a tuple -/
theorem tup_st {σ : Type} {l : Addr} {vs : List Value} {m₀ : Str → Option Value} {news : List (Addr × Obj)} (Led : List (Addr × Obj)) (ps : σ → List (Str × Value)) (P : Nat → σ → Prop) (c₀ : σ)
    (hh : A.handled = none) (hl : s.heap.IsTuple l vs.toArray) (hlL : l ≠ env.locals) (hlo : ∀ p ∈ Led, p.1 ≠ l) (F : Fr h₀ env.locals s.heap m₀) (N : News h₀ env.locals s.heap news)
    (hs : ∀ p ∈ Led, p ∈ news) (hm : ∀ p ∈ ps c₀, m₀ p.1 = some p.2) (hp : P 0 c₀)
    (turn : ∀ (c : σ) (i : Nat) (v : Value) (u : Str → Option Value) h tk own, vs[i]? = some v → P i c → OwnOff own (Led.map (·.1)) → Fr h₀ env.locals h (fun y => if y = x then some v else kstB u (ps c) y) → News h₀ env.locals h (Led ++ own) →
      wpAny (model prog w) A (execs body env) (DPost h₀ env.locals { s with heap := h, toks := tk } Led own ps (P (i + 1)) Q) E { s with heap := h, toks := tk })
    (done : ∀ (c : σ) (u : Str → Option Value) h tk, P vs.length c → Fr h₀ env.locals h (kstB u (ps c)) → News h₀ env.locals h Led → Q .next { s with heap := h, toks := tk }) :
    wpAny (model prog w) A (pyIter (.ref l)) (fun it s₂ => LoopAtV prog w A h₀ env x body Q E it s₂) E s := by
  obtain ⟨ol, hol, _⟩ := id hl
  have hlt : l < s.heap.objs.size := Heap.lt_size hol
  have hne : l ≠ s.heap.objs.size := Nat.ne_of_lt hlt
  refine wpAny_pyIter_tuple hl ?_
  have W := Walks.tuple (prog := prog) (w := w) hh s.heap.objs.size l hne vs.toArray
  have hlen : vs.toArray.size = vs.length := by simp
  rw [hlen] at W
  have off : ∀ p ∈ Led, p.1 ∉ [s.heap.objs.size] := fun p hp hI => absurd (Heap.lt_size (N p (hs p hp)).1) ((List.mem_singleton.mp hI) ▸ Nat.lt_irrefl _)
  refine loop_st Led ps P c₀ W ?_ ?_ off ?_ ⟨⟨_, Heap.get?_push_size _ rfl, rfl, rfl⟩, (let ⟨o, ho, r⟩ := hl; ⟨o, Heap.get?_push_of_some _ ho, r⟩)⟩ (F.push _) (fun p hp => ⟨Heap.get?_push_of_some _ (N p hp).1, (N p hp).2⟩) hs hm hp ?_ done
  · intro hm
    rcases List.mem_cons.mp hm with e | hm
    · exact absurd F.ns.lt (e ▸ Nat.lt_irrefl _)
    · exact hlL (List.mem_singleton.mp hm).symm
  · intro b hb
    rw [List.mem_singleton.mp hb]
    exact next_is_new F
  · intro p hp hI
    rcases List.mem_cons.mp hI with e | hI
    · exact off p hp (by rw [e]; exact List.mem_singleton.mpr rfl)
    · exact hlo p hp (List.mem_singleton.mp hI)
  · intro c i v u h tk own hi hv hp' hoff F₁ N₁
    exact turn c i v u h tk own (by simpa using hv) hp' hoff F₁ N₁
end
theorem kw_51 : True := by
  k_with "exec For Name Tuple cons nil" => (k_here; refine Stop.mk ?_)
  trivial
theorem lbeh' {w : World} {mean : ExcName → Option Value} {mg mb : Str → Option Value} {wd : Str} {t0 t1 : Tok} {at_ : Int} {rest : List (Addr × Obj)} (hw1 : wd.length ≤ 1000) (h0 : 0 ≤ at_) (h1 : at_ ≤ wd.length) :
    Cl w mean mg mb 927 [.str wd t0, .int at_ t1] rest 3 24 fun v news' => ∃ z t, stp1 nv wd (sk vo wd at_) = z ∧ v = .int z t ∧ rest = news' :=
  (lbeh hw1 h0 h1).mono fun v n ⟨z, t, h1, h2, h3⟩ => ⟨z, t, h1, h2, h3.symm⟩
theorem lend' {w : World} {mean : ExcName → Option Value} {mg mb : Str → Option Value} {wd : Str} {l : Addr} {low : Int} {t0 t1 : Tok} {rest : List (Addr × Obj)} (es : List Str) (hT : ∀ base, SaysV w base → TxtsAt base l es) (hes : ∀ e ∈ es, e.length ≤ 100) (hw1 : wd.length ≤ 1000) (h0 : 0 ≤ low) (h1 : low ≤ wd.length) :
    Cl w mean mg mb 913 [.str wd t0, .ref l, .int low t1] rest 1 12 fun v news' => ∃ (e : Str) (t : Tok), v = Value.str e t ∧ e.length = bl es (revX wd low) 0 ∧ rest = news' :=
  (lend es hT hes hw1 h0 h1).mono fun v n ⟨e, t, h1, h2, h3⟩ => ⟨e, t, h1, h2, h3.symm⟩
theorem lcut' {w : World} {mean : ExcName → Option Value} {mg mb : Str → Option Value} {wd e : Str} {t0 t1 : Tok} {rest : List (Addr × Obj)} (hw1 : wd.length ≤ 1000) (he : e.length ≤ wd.length) :
    Cl w mean mg mb 920 [.str wd t0, .str e t1] rest 1 8 fun v news' => ∃ cu' t, cutS wd ((wd.length : Int) - e.length) = cu' ∧ (cu'.length : Int) = wd.length - e.length ∧ v = .str cu' t ∧ rest = news' :=
  (lcut hw1 he).mono fun v n ⟨cu', t, h1, h2, h3⟩ => ⟨cu', t, h1, by rw [← h1]; exact cut_len (by omega) (by omega), h2, h3.symm⟩
theorem kw_52 : True := by
  k_with "call ref" => (k_here; (with_reducible show wpAny _ _ (call (Value.ref 927) _) _ _ _); (refine' Cl.use (lbeh ?p1 ?p2 ?p3) ?Y ?B ?F ?X ?N ?hs ?T ?hk ?hd ?hu ?_; walk_at "my_cl_go"; (case p1 => omega); (case p2 => omega); (case p3 => omega)); rintro _ _ _ _ ⟨_, _, h1, h2, h3⟩ _ _; subst h1 h2 h3)
  trivial
theorem kw_53 : True := by
  k_with "call ref" => (k_here; (with_reducible show wpAny _ _ (call (Value.ref 920) _) _ _ _); (refine' Cl.use (lcut ?p1 ?p2) ?Y ?B ?F ?X ?N ?hs ?T ?hk ?hd ?hu ?_; walk_at "my_cl_go"; (case p1 => omega); (case p2 => omega)); rintro _ _ _ _ ⟨_, _, h1, h2, h3⟩ _ _; subst h1 h2 h3)
  trivial
theorem kw_54 : True := by
  k_with "call ref" => (k_here; (with_reducible show wpAny _ _ (call (Value.ref 913) [_, Value.ref 889, _]) _ _ _); (refine' Cl.use (lend ((rows 3).map (·.1)) (fun base Y => txts_3 Y) rows_len_3 ?p1 ?p2 ?p3) ?Y ?B ?F ?X ?N ?hs ?T ?hk ?hd ?hu ?_; walk_at "my_cl_go"; (case p1 => omega); (case p2 => omega); (case p3 => omega)); rintro _ _ _ _ ⟨_, _, h1, _, h3⟩ _ _; subst h1 h3)
  trivial
theorem kw_55 : True := by
  k_with "call ref" => (k_here; (with_reducible show wpAny _ _ (call (Value.ref 913) [_, Value.ref 890, _]) _ _ _); (refine' Cl.use (lend ((rows 1).map (·.1)) (fun base Y => txts_1 Y) rows_len_1 ?p1 ?p2 ?p3) ?Y ?B ?F ?X ?N ?hs ?T ?hk ?hd ?hu ?_; walk_at "my_cl_go"; (case p1 => omega); (case p2 => omega); (case p3 => omega)); rintro _ _ _ _ ⟨_, _, h1, _, h3⟩ _ _; subst h1 h3)
  trivial
theorem kw_56 : True := by
  k_with "call ref" => (k_here; (with_reducible show wpAny _ _ (call (Value.ref 913) [_, Value.ref 891, _]) _ _ _); (refine' Cl.use (lend ((rows 0).map (·.1)) (fun base Y => txts_0 Y) rows_len_0 ?p1 ?p2 ?p3) ?Y ?B ?F ?X ?N ?hs ?T ?hk ?hd ?hu ?_; walk_at "my_cl_go"; (case p1 => omega); (case p2 => omega); (case p3 => omega)); rintro _ _ _ _ ⟨_, _, h1, _, h3⟩ _ _; subst h1 h3)
  trivial
theorem kw_57 : True := by
  k_with "call ref" => (k_here; (with_reducible show wpAny _ _ (call (Value.ref 913) [_, Value.ref 892, _]) _ _ _); (refine' Cl.use (lend ((rows 2).map (·.1)) (fun base Y => txts_2 Y) rows_len_2 ?p1 ?p2 ?p3) ?Y ?B ?F ?X ?N ?hs ?T ?hk ?hd ?hu ?_; walk_at "my_cl_go"; (case p1 => omega); (case p2 => omega); (case p3 => omega)); rintro _ _ _ _ ⟨_, _, h1, _, h3⟩ _ _; subst h1 h3)
  trivial
theorem kw_58 : True := by
  k_with "call ref" => (k_here; (with_reducible show wpAny _ _ (call (Value.ref 927) _) _ _ _); (refine' Cl.use (lbeh' ?p1 ?p2 ?p3) ?Y ?B ?F ?X ?N ?hs ?T ?hk ?hd ?hu ?_; walk_at "my_cl_go"; (case p1 => omega); (case p2 => omega); (case p3 => omega)); rintro _ _ _ _ ⟨_, _, h1, h2, h3⟩ _ _; subst h1 h2 h3)
  trivial
theorem kw_59 : True := by
  k_with "call ref" => (k_here; (with_reducible show wpAny _ _ (call (Value.ref 913) [_, Value.ref 889, _]) _ _ _); (refine' Cl.use (lend' ((rows 3).map (·.1)) (fun base Y => txts_3 Y) rows_len_3 ?p1 ?p2 ?p3) ?Y ?B ?F ?X ?N ?hs ?T ?hk ?hd ?hu ?_; walk_at "my_cl_go"; (case p1 => omega); (case p2 => omega); (case p3 => omega)); rintro _ _ _ _ ⟨_, _, h1, _, h3⟩ _ _; subst h1 h3)
  trivial
theorem kw_60 : True := by
  k_with "call ref" => (k_here; (with_reducible show wpAny _ _ (call (Value.ref 913) [_, Value.ref 890, _]) _ _ _); (refine' Cl.use (lend' ((rows 1).map (·.1)) (fun base Y => txts_1 Y) rows_len_1 ?p1 ?p2 ?p3) ?Y ?B ?F ?X ?N ?hs ?T ?hk ?hd ?hu ?_; walk_at "my_cl_go"; (case p1 => omega); (case p2 => omega); (case p3 => omega)); rintro _ _ _ _ ⟨_, _, h1, _, h3⟩ _ _; subst h1 h3)
  trivial
theorem kw_61 : True := by
  k_with "call ref" => (k_here; (with_reducible show wpAny _ _ (call (Value.ref 913) [_, Value.ref 891, _]) _ _ _); (refine' Cl.use (lend' ((rows 0).map (·.1)) (fun base Y => txts_0 Y) rows_len_0 ?p1 ?p2 ?p3) ?Y ?B ?F ?X ?N ?hs ?T ?hk ?hd ?hu ?_; walk_at "my_cl_go"; (case p1 => omega); (case p2 => omega); (case p3 => omega)); rintro _ _ _ _ ⟨_, _, h1, _, h3⟩ _ _; subst h1 h3)
  trivial
theorem kw_62 : True := by
  k_with "call ref" => (k_here; (with_reducible show wpAny _ _ (call (Value.ref 913) [_, Value.ref 892, _]) _ _ _); (refine' Cl.use (lend' ((rows 2).map (·.1)) (fun base Y => txts_2 Y) rows_len_2 ?p1 ?p2 ?p3) ?Y ?B ?F ?X ?N ?hs ?T ?hk ?hd ?hu ?_; walk_at "my_cl_go"; (case p1 => omega); (case p2 => omega); (case p3 => omega)); rintro _ _ _ _ ⟨_, _, h1, _, h3⟩ _ _; subst h1 h3)
  trivial
theorem kw_63 : True := by
  k_with "call ref" => (k_here; (with_reducible show wpAny _ _ (call (Value.ref 920) _) _ _ _); (refine' Cl.use (lcut' ?p1 ?p2) ?Y ?B ?F ?X ?N ?hs ?T ?hk ?hd ?hu ?_; walk_at "my_cl_go"; (case p1 => omega); (case p2 => omega)); rintro _ _ _ _ ⟨_, _, h1, _, h2, h3⟩ _ _; subst h1 h2 h3)
  trivial
section
variable {M : Model} {A : Around} {E : Value → Shared → Prop} {s : Shared} {env : Env}
theorem store_to {x : Str} {a z : Int} {t : Tok} {Q : Unit → Shared → Prop} (e : a = z) (h : wpAny M A (storeName env x (.int z t)) Q E s) : wpAny M A (storeName env x (.int a t)) Q E s := e ▸ h
end
theorem kw_64 : True := by
  k_with "storeName" => (k_here; (refine' store_to ?e ?_; (case e => with_reducible assumption); k_whole))
  trivial
theorem be_is (k : Nat) (x : Str) (lb : Int) : be k x lb = bl ((rows k).map (·.1)) (revX x lb) 0 := rfl
theorem stp_is {k : Nat} {x e : Str} {lb : Int} (he : e.length = bl ((rows k).map (·.1)) (revX x lb) 0) : cutS x ((x.length : Int) - e.length) = stp k x lb := by
  rw [← be_is] at he
  unfold stp
  rw [he]
theorem w1_yes {wd e : Str} (he : e.length = bl ((rows 3).map (·.1)) (revX wd (pV wd)) 0) (hl : ((cutS wd ((wd.length : Int) - e.length)).length : Int) = wd.length - e.length) (h : p2 wd ≤ ((cutS wd ((wd.length : Int) - e.length)).length : Int)) : cutS wd ((wd.length : Int) - e.length) = w1 wd := by
  rw [← be_is] at he
  exact (stE_yes (z := (wd.length : Int) - e.length) (by rw [he]) (by omega)).symm
theorem w1_no {wd e : Str} (he : e.length = bl ((rows 3).map (·.1)) (revX wd (pV wd)) 0) (hl : ((cutS wd ((wd.length : Int) - e.length)).length : Int) = wd.length - e.length) (h : ¬ p2 wd ≤ ((cutS wd ((wd.length : Int) - e.length)).length : Int)) : wd = w1 wd := by
  rw [← be_is] at he
  exact (stE_no (z := (wd.length : Int) - e.length) (by rw [he]) (by omega)).symm
theorem two_is (x : Str) : stp1 nv x (sk vo x (stp1 nv x (sk vo x 0))) = p2 x := by
  have h : ∀ i : Int, i ≤ x.length → stp1 nv x (sk vo x i) = stp1 nv x (stp1 vo x i) := fun i hi => by
    by_cases hl : sk vo x i < x.length
    · have hv : isVS ⟨#[ch x (sk vo x i)]⟩ = true := sk_has hl
      rw [stp1_hit hl]
      unfold stp1
      rw [← sk_go (p := nv) hl (by show (!isVS ⟨#[ch x (sk vo x i)]⟩) = false; rw [hv]; rfl)]
    · have := sk_le vo hi
      rw [stp1_end hl, show sk vo x i = x.length by omega]
  unfold p2
  rw [h 0 (by omega), h _ (stp1_le _ _ _)]
@[irreducible] noncomputable def wi (x : Str) : Nat → Str
  | 0 => w1 x
  | 1 => w2 x
  | 2 => w3 x
  | _ => w4 x
theorem wi_0 (x : Str) : wi x 0 = w1 x := by unfold wi; rfl
theorem wi_1 (x : Str) : wi x 1 = w2 x := by unfold wi; rfl
theorem wi_2 (x : Str) : wi x 2 = w3 x := by unfold wi; rfl
theorem wi_3 (x : Str) : wi x 3 = w4 x := by unfold wi; rfl
section
variable {w : World} {mean : ExcName → Option Value} {mg mb : Str → Option Value}
theorem lstem {wd : Str} {t0 : Tok} {rest : List (Addr × Obj)} (hw1 : wd.length ≤ 1000) :
    Cl w mean mg mb 934 [.str wd t0] rest 5 48 fun v news' => ∃ cu' t, w4 wd = cu' ∧ v = .str cu' t ∧ news' = rest := by
  dsimp only [Cl]
  k_fill
  intro dp un gd cn cs a ccd cl outer A₀ base h₀ L m s Q E Y B F X N T hk hd1 hu hret
  have h0 : (0 : Int) ≤ wd.length := by omega
  refine wpAny_call ?_
  k_dflt cell_enter
  rename_i g9 L9 h9 FG9 F9 N9 B9 X9 T9
  k_steps
  refine Stop.un ?_
  refine' while_join (σ := Int × Tok) (fun s₂ => ∃ (z : Int) (tz : Tok) (u : Str → Option Value) (h : Heap) (tk : Nat), s₂ = { s with heap := h, toks := tk } ∧ Fr g9 L9 h u ∧ (∀ p ∈ [(Str.ofString "word", Value.str wd t0), (Str.ofString "first", .int z tz)], u p.1 = some p.2) ∧ News g9 L9 h rest ∧ z = sk vo wd 0)
    (fun _ => rest) (fun q => [(Str.ofString "word", .str wd t0), (Str.ofString "first", .int q.1 q.2)]) (fun q => (0 ≤ q.1 ∧ q.1 ≤ wd.length) ∧ sk vo wd q.1 = sk vo wd 0) (fun q => ((wd.length : Int) - q.1).toNat) (_, _) ?kF ?kN ?km ?kn ?kp ?kt ?kj
  case kF => k_asm
  case kN => k_asm
  case km => walk_at "my_locs"
  case kn => exact fun p hp => hp
  case kp => exact ⟨⟨by omega, by omega⟩, rfl⟩
  case kt =>
    rintro ⟨z, tz⟩ u hV tkV ⟨⟨hz0, hz1⟩, hz2⟩ FV NV
    dsimp only [kstB] at hz0 hz1 hz2 FV NV ⊢
    have hS : z < wd.length → isVS (Txt.item wd z) = true → z = sk vo wd 0 := fun a b => by
      rw [txt_item hz0 a] at b
      rw [← hz2]
      exact (sk_stop a (by show vo (ch wd z) = true; unfold vo; simp [b])).symm
    have hG : z < wd.length → isVS (Txt.item wd z) = false → ((0 ≤ z + 1 ∧ z + 1 ≤ wd.length) ∧ sk vo wd (z + 1) = sk vo wd 0) ∧ ((wd.length : Int) - (z + 1)).toNat < ((wd.length : Int) - z).toNat := fun a b => by
      rw [txt_item hz0 a] at b
      exact ⟨⟨⟨by omega, by omega⟩, (sk_go a (by show vo (ch wd z) = false; unfold vo; simp [b])).trans hz2⟩, by omega⟩
    have hE : ¬ z < wd.length → z = sk vo wd 0 := fun a => by
      rw [← hz2]
      exact (sk_end a).symm
    k_steps
    all_goals first
      | exact ⟨rfl, _, _, _, _, _, rfl, by k_asm, by walk_at "my_locs", by first | k_asm | exact news_tail (by k_asm), hS (by assumption) (by assumption)⟩
      | exact ⟨rfl, _, _, _, _, _, rfl, by k_asm, by walk_at "my_locs", by first | k_asm | exact news_tail (by k_asm), hE (by assumption)⟩
      | exact ⟨(_, _), _, _, _, rfl, by k_asm, by walk_at "my_locs", by first | k_asm | exact news_tail (by k_asm), (hG (by assumption) (by assumption)).1, (hG (by assumption) (by assumption)).2⟩
  case kj =>
    rintro _ ⟨z, tz, u, hW, tkW, rfl, FW, hmW, NW, rfl⟩
    rw [← kstB_self hmW] at FW
    dsimp only [kstB] at FW
    have b1 := sk_ge vo wd 0
    have b2 := sk_le vo h0
    have q0 := pV_ge wd
    have q1 := pV_le wd
    have hmn : (if (wd.length : Int) < sk vo wd 0 + 1 then (wd.length : Int) else sk vo wd 0 + 1) = pV wd := by
      unfold pV stp1
      split <;> omega
    have c0 := sk_ge nv wd (sk vo wd 0)
    have c1 : 0 ≤ stp1 nv wd (sk vo wd 0) := by unfold stp1; omega
    have c2 := stp1_le nv wd (sk vo wd 0)
    have c3 := two_is wd
    have c4 := bl_rev (l := (rows 3).map (·.1)) q0 q1
    have l1 : pV wd ≤ ((stE wd (pV wd) (p2 wd)).length : Int) ∧ (stE wd (pV wd) (p2 wd)).length ≤ wd.length := w1_len wd
    have l2 : pV wd ≤ ((stp 1 (stE wd (pV wd) (p2 wd)) (pV wd)).length : Int) ∧ (stp 1 (stE wd (pV wd) (p2 wd)) (pV wd)).length ≤ (stE wd (pV wd) (p2 wd)).length := w2_len wd
    have l3 : pV wd ≤ ((stp 0 (stp 1 (stE wd (pV wd) (p2 wd)) (pV wd)) (pV wd)).length : Int) ∧ (stp 0 (stp 1 (stE wd (pV wd) (p2 wd)) (pV wd)) (pV wd)).length ≤ (stp 1 (stE wd (pV wd) (p2 wd)) (pV wd)).length := w3_len wd
    have c5 := bl_rev (l := (rows 1).map (·.1)) q0 l1.1
    have c6 := bl_rev (l := (rows 0).map (·.1)) q0 l2.1
    have c7 := bl_rev (l := (rows 2).map (·.1)) q0 l3.1
    k_steps
    all_goals
      refine Stop.un ?_
      refine' for_join (fun s₂ => ∃ (tz : Tok) (u : Str → Option Value) (h : Heap) (tk : Nat), s₂ = { s with heap := h, toks := tk } ∧ Fr g9 L9 h u ∧ (∀ p ∈ [(Str.ofString "word", Value.str (w4 wd) tz)], u p.1 = some p.2) ∧ News g9 L9 h rest) ?F ?k1 ?k2 ?h ?k
      case F => k_asm
      case k1 => rfl
      case k2 => rfl
      case h =>
        k_steps
        refine Stop.un ?_
        rename_i D9 hD FD ND lD
        have hDt := (ND _ (.head _)).1
        have hDL := (ND _ (.head _)).2.1
        refine' tup_st (σ := Str × Tok × Tok) (vs := [.ref 890, .ref 891, .ref 892]) rest (fun q => [(Str.ofString "word", Value.str q.1 q.2.1), (Str.ofString "first", Value.int (pV wd) q.2.2)]) (fun i q => q.1 = wi wd i) (_, _, _) ?hh ?hl ?hlL ?hlo ?F ?N ?hs ?hm ?hp ?turn ?done
        case hh => with_unfolding_all rfl
        case hl => exact ⟨_, hDt, rfl, ⟨_, rfl⟩⟩
        case hlL => exact hDL
        case hlo => exact fun p hp e => absurd (lD p hp) (e ▸ Nat.lt_irrefl _)
        case F => k_asm
        case N => k_asm
        case hs => exact fun p hp => .tail _ hp
        case hm => walk_at "my_locs"
        case hp => first | exact (w1_yes (by assumption) (by assumption) (by assumption)).trans (wi_0 wd).symm | exact (w1_no (by assumption) (by assumption) (by assumption)).trans (wi_0 wd).symm
        case turn =>
          rintro ⟨wq, tw, tf⟩ i v u hV tkV own hi hP hoff FV NV
          dsimp only [kstB] at hP FV NV ⊢
          match i, hi, hP with
          | 0, hi, hP =>
            cases hi
            have hP : wq = (stE wd (pV wd) (p2 wd)) := hP.trans (wi_0 wd)
            subst hP
            k_steps
            exact ⟨(_, _, _), _, _, _, _, rfl, by k_asm, by k_asm, fun p hp => List.mem_append_left _ hp, fun p hp => List.mem_append_right _ hp, by walk_at "my_locs", (stp_is (k := 1) (by assumption)).trans (wi_1 wd).symm⟩
          | 1, hi, hP =>
            cases hi
            have hP : wq = (stp 1 (stE wd (pV wd) (p2 wd)) (pV wd)) := hP.trans (wi_1 wd)
            subst hP
            k_steps
            exact ⟨(_, _, _), _, _, _, _, rfl, by k_asm, by k_asm, fun p hp => List.mem_append_left _ hp, fun p hp => List.mem_append_right _ hp, by walk_at "my_locs", (stp_is (k := 0) (by assumption)).trans (wi_2 wd).symm⟩
          | 2, hi, hP =>
            cases hi
            have hP : wq = (stp 0 (stp 1 (stE wd (pV wd) (p2 wd)) (pV wd)) (pV wd)) := hP.trans (wi_2 wd)
            subst hP
            k_steps
            exact ⟨(_, _, _), _, _, _, _, rfl, by k_asm, by k_asm, fun p hp => List.mem_append_left _ hp, fun p hp => List.mem_append_right _ hp, by walk_at "my_locs", (stp_is (k := 2) (by assumption)).trans (wi_3 wd).symm⟩
          | i + 3, hi, _ => simp at hi
        case done =>
          rintro ⟨wq, tw, tf⟩ u hV tkV hP FV NV
          dsimp only [kstB] at hP FV NV ⊢
          have hP : wq = w4 wd := hP.trans (wi_3 wd)
          subst hP
          exact ⟨rfl, tw, _, _, _, rfl, FV, by walk_at "my_locs", NV⟩
      case k =>
        rintro _ ⟨tz, u, hW, tkW, rfl, FW, hmW, NW⟩
        rw [← kstB_self hmW] at FW
        dsimp only [kstB] at FW
        k_steps
        exact hret _ _ _ _ ⟨_, _, rfl, rfl, rfl⟩ (by k_asm) (by k_asm)
end
/-- texts of a bounded length -/
structure Txts (vs : List Value) (b : Nat) : Prop where
  out : ∀ v ∈ vs, ∃ x t, v = Value.str x t ∧ x.length ≤ b
theorem Txts.nil {b : Nat} : Txts [] b := ⟨List.forall_mem_nil _⟩
theorem Txts.cons {v : Value} {vs : List Value} {b : Nat} (h : ∃ x t, v = Value.str x t ∧ x.length ≤ b) (r : Txts vs b) : Txts (v :: vs) b := ⟨List.forall_mem_cons.mpr ⟨h, r.out⟩⟩
section
variable {w : World} {mean : ExcName → Option Value} {mg mb : Str → Option Value}
theorem lletters {rest : List (Addr × Obj)} :
    Cl w mean mg mb 881 [] rest 1 8 fun v news' => ∃ l vs, v = .ref l ∧ (vs.length = 39 ∧ Txts vs 10) ∧ news' = (l, listOf vs.toArray 0) :: rest := by
  dsimp only [Cl]
  k_fill
  intro dp un gd cn cs a ccd cl outer A₀ base h₀ L m s Q E Y B F X N T hk hd1 hu hret
  refine wpAny_call ?_
  k_dflt cell_enter
  k_steps
  refine' hret _ _ _ _ ⟨_, _, rfl, ⟨?c1, ?c2⟩, rfl⟩ (by k_asm) (by k_asm)
  case c1 => rfl
  case c2 => repeat (first | exact Txts.nil | refine Txts.cons ⟨_, _, rfl, Nat.le_of_ble_eq_true (by kernel_rfl)⟩ ?_)
theorem lparts {rest : List (Addr × Obj)} :
    Cl w mean mg mb 888 [] rest 1 8 fun v news' => ∃ l vs, v = .ref l ∧ (vs.length = 22 ∧ Txts vs 10) ∧ news' = (l, listOf vs.toArray 0) :: rest := by
  dsimp only [Cl]
  k_fill
  intro dp un gd cn cs a ccd cl outer A₀ base h₀ L m s Q E Y B F X N T hk hd1 hu hret
  refine wpAny_call ?_
  k_dflt cell_enter
  k_steps
  refine' hret _ _ _ _ ⟨_, _, rfl, ⟨?c1, ?c2⟩, rfl⟩ (by k_asm) (by k_asm)
  case c1 => rfl
  case c2 => repeat (first | exact Txts.nil | refine Txts.cons ⟨_, _, rfl, Nat.le_of_ble_eq_true (by kernel_rfl)⟩ ?_)
end
theorem ne_by {a b : Nat} (h : a < b ∨ b < a) : a ≠ b := by omega
/-- behind an element of a comprehension; the ground may be another -/
noncomputable def TEnd (Gd : Heap → Prop) (L : Addr) (m : Str → Option Value) (s₁ : Shared) (I C D : Addr) (own : List (Addr × Obj)) (S : Value → List (Addr × Obj) → Prop) (y : Value) (s₂ : Shared) : Prop :=
  ∃ g h tk nw, s₂ = { s₁ with heap := h, toks := tk } ∧ Gd g ∧ Fr g L h m ∧ News g L h (own ++ nw) ∧ LCg.Off3 I C D nw ∧ S y nw
section
variable {prog : Program} {w : World} {A : Around} {E : Value → Shared → Prop} {s : Shared} {L : Addr} {m : Str → Option Value} {env : Env} {h₀ : Heap}
/-- a comprehension's turns, when a turn may turn the ground -/
theorem block_T {elt iter : Expr} {x : Str} {px : Pos} {scope : Scope} {cl : List (Str × Addr)} {pos : Pos} {I : Addr} {fp : List Addr} {n : Nat} {P : Nat → Value → Prop} {St : Nat → Heap → Prop} {news : List (Addr × Obj)} {RR : Value → Addr → Result → Shared → Prop}
    (Gd : Heap → Prop) (S : List Value → List (Addr × Obj) → Prop) (W : Walks prog w A I fp [I] n P St) (hsz : n ≤ sizeLine) (hIo : ∀ i h, St i h → ∃ o, h.get? I = some o)
    (hSt : ∀ i g ys h h' o nw, St i h → h.get? I = some o → h'.get? I = some o → News g L h' nw → S ys nw → St i h')
    (hcell : ∀ y ∈ scope.names, y.2 ≠ .cell) (hkind : scope.kind = .function) (hx : scope.names.lookup x = some .local)
    (hI : St 0 s.heap) (hfp : ∀ b ∈ fp, b < s.heap.objs.size) (G₀ : Gd h₀) (F : Fr h₀ L s.heap m) (N : News h₀ L s.heap news) (hI₀ : h₀.get? I = none) (hIL : L ≠ I) (off : ∀ p ∈ news, p.1 ≠ I) (S0 : S [] news)
    (turn : ∀ g ys nw v I oI C oC D m₂ h tk (E' : Value → Shared → Prop), Gd g → P ys.length v → S ys nw → LCg.NsObj oC m₂ → m₂ x = some v → Fr g L h m → News g L h ((I, oI) :: (C, oC) :: (D, LCg.lst ys) :: nw) → LCg.Off3 I C D nw →
      ((@Ne Nat I C) ∧ (@Ne Nat I D) ∧ (@Ne Nat C D)) →
      wpAny (model prog w) A (eval elt (compEnvC scope cl C env)) (TEnd Gd L m { s with heap := h, toks := tk } I C D [(I, oI), (C, oC), (D, LCg.lst ys)] fun y nw' => S (ys ++ [y]) nw') E' { s with heap := h, toks := tk })
    (hRR : ∀ g D C h tk m' ys nw, Gd g → ys.length = n → S ys nw → Fr g L h m → News g L h ((D, LCg.lst ys) :: nw) → LCg.Off1 D nw → h.Ns C m' → g.get? C = none → C ≠ L → D ≠ L → C ≠ D → (∀ p ∈ nw, p.1 ≠ C) → RR (.ref D) C (.ok .next) { s with heap := h, toks := tk }) :
    wpAny (model prog w) A (newList []) (fun acc s₃ => wpAny (model prog w) A (newFunctionEnv scope env.globals cl [] env.qual none .none (some env)) (fun cenv s₄ =>
      codeAny (model prog w) A (.compStart (.ListComp elt [⟨.Name x px, iter, [], 0⟩] scope pos) 0 (.ref I) acc { cenv with scope := relabel scope env }) (RR acc cenv.locals) s₄) E s₃) E s := by
  refine wpAny_newObj_type (wpAny_newFunctionEnv hcell (by intro y hy; simp at hy) (fun h₁ hns₁ hsb₁ => ?_) hkind)
  dsimp only at hns₁ hsb₁ ⊢
  generalize hH2 : s.heap.push { cls := .type "list", dict := none, data := .seq ([] : List Value).toArray } = H2 at hns₁ hsb₁ ⊢
  have hC : H2.objs.size = s.heap.objs.size + 1 := by rw [← hH2, Heap.size_push]
  have hDC : s.heap.objs.size ≠ H2.objs.size := ne_by (by omega)
  have old : ∀ b o, s.heap.get? b = some o → h₁.get? b = some o := fun b o e =>
    hsb₁.extBut b o (ne_by (by have : @LT.lt Nat _ b s.heap.objs.size := Heap.lt_size e; omega)) (Heap.get?_push_of_some _ (hH2 ▸ Heap.get?_push_of_some _ e))
  have hacc : h₁.get? s.heap.objs.size = some (LCg.lst []) := hsb₁.extBut _ _ hDC (Heap.get?_push_of_some _ (hH2 ▸ Heap.get?_push_size _ rfl))
  have fresh₀ : ∀ a, s.heap.objs.size ≤ a → h₀.get? a = none := fun a ha => by
    cases e : h₀.get? a with
    | none => rfl
    | some o' => exact absurd (Heap.lt_size (F.keep a o' e)) (Nat.not_lt.mpr ha)
  have hLlt : @LT.lt Nat _ L s.heap.objs.size := F.ns.lt
  have hIlt : @LT.lt Nat _ I s.heap.objs.size := hfp I (W.sub I (List.mem_singleton.mpr rfl))
  have hDf : s.heap.objs.size ∉ fp := fun hm => Nat.lt_irrefl _ (hfp _ hm)
  have hCf : H2.objs.size ∉ fp := fun hm => by have : @LT.lt Nat _ H2.objs.size s.heap.objs.size := hfp _ hm; omega
  have hst₁ : St 0 h₁ := W.frame _ _ _ hI fun b _ o e => old b o e
  have hCI : I ≠ H2.objs.size := ne_by (by omega)
  have hDI : I ≠ s.heap.objs.size := ne_by (by omega)
  have hCL : H2.objs.size ≠ L := ne_by (by omega)
  have hDL : s.heap.objs.size ≠ L := ne_by (by omega)
  have hlt : ∀ p ∈ news, @LT.lt Nat _ p.1 s.heap.objs.size := fun p hp => Heap.lt_size (N p hp).1
  have loop : ∀ s₃ : Shared, s₃ = { s with heap := h₁, toks := s.toks + ([] : List (Str × Value)).length } →
      codeAny (model prog w) A (.compLoop (.ListComp elt [⟨.Name x px, iter, [], 0⟩] scope pos) 0 (.ref I) (.ref s.heap.objs.size) (compEnvC scope cl H2.objs.size env)) (RR (.ref s.heap.objs.size) H2.objs.size) s₃ := by
    rintro s₃ rfl
    refine codeAny_compLoop_tests
      (fun k s' => ∃ g h' tk ys m' nw, s' = { s with heap := h', toks := tk } ∧ ys.length ≤ n ∧ k = n + 1 - ys.length ∧ Gd g ∧ St ys.length h' ∧ Fr g L h' m ∧ h'.Ns H2.objs.size m' ∧ News g L h' ((s.heap.objs.size, LCg.lst ys) :: nw) ∧
        g.get? I = none ∧ g.get? H2.objs.size = none ∧ LCg.Off3 I H2.objs.size s.heap.objs.size nw ∧ S ys nw) ?_ (n + 1)
      ⟨h₀, h₁, _, [], _, news, rfl, Nat.zero_le _, rfl, G₀, hst₁, F.keeps old, hns₁, fun p hp => ?_, hI₀, fresh₀ _ (by omega), LCg.Off3.of fun p hp => ⟨off p hp, ?_, ?_⟩, S0⟩
    · rintro k s' ⟨g, h', tk, ys, m', nw, rfl, hi, rfl, hg, hI', F', hn', N', gI, gC, off', hS'⟩
      have off3 := off'.mem
      by_cases hlt' : ys.length < n
      · refine W.item ys.length _ _ _ hlt' hI' fun v h₂ tk₂ hPv hst₂ hk₂ => ?_
        refine wpAny_assign_Name (wpAny_storeName_local (lookup_relabel_local hx) (hn'.at' fun o e => hk₂ _ o (by simpa using Ne.symm hCI) e) (fun h₃ hn₃ hs₃ => ?_) (by simp [compEnvC, relabel, hkind]))
        refine wpAny_tests_nil ?_
        simp only [if_true]
        have hst₃ : St (ys.length + 1) h₃ := W.frame _ _ _ hst₂ fun b hb o e => hs₃.extBut b o (fun q => hCf (by have q' : b = H2.objs.size := q; rw [← q']; exact hb)) e
        obtain ⟨oI, heI₃⟩ := hIo _ _ hst₃
        obtain ⟨oC, heC, hoC⟩ := LCg.ns_obj hn₃
        have F₃ : Fr g L h₃ m := (LCg.fr_but F' hk₂ hIL gI).change hs₃ hCL gC
        have N₂ : News g L h₂ ((s.heap.objs.size, LCg.lst ys) :: nw) := LCg.news_but N' hk₂ fun p hp => by
          rcases List.mem_cons.mp hp with rfl | hp
          · exact Ne.symm hDI
          · exact (off3 p hp).1
        have N₃ : News g L h₃ ((I, oI) :: (H2.objs.size, oC) :: (s.heap.objs.size, LCg.lst ys) :: nw) := fun p hp => by
          rcases List.mem_cons.mp hp with rfl | hp
          · exact ⟨heI₃, Ne.symm hIL, gI⟩
          rcases List.mem_cons.mp hp with rfl | hp
          · exact ⟨heC, hCL, gC⟩
          have z := N₂ p hp
          refine ⟨hs₃.extBut _ _ ?_ z.1, z.2⟩
          rcases List.mem_cons.mp hp with rfl | hp
          · exact hDC
          · exact (off3 p hp).2.1
        refine wpAny_mono (turn g ys nw v I oI H2.objs.size oC s.heap.objs.size _ h₃ _ _ hg hPv hS' hoC (by simp) F₃ N₃ off' ⟨hCI, hDI, Ne.symm hDC⟩) (fun y s₄ h₄ => ?_) fun _ _ e => e
        obtain ⟨g₄, h₄, tk₄, nw₄, rfl, hg₄, F₄, N₄, off₄, hS₄⟩ := h₄
        have zI := N₄ (I, oI) (.head _)
        have zC := N₄ (H2.objs.size, oC) (.tail _ (.head _))
        have zD := N₄ (s.heap.objs.size, LCg.lst ys) (.tail _ (.tail _ (.head _)))
        have hst₄ : St (ys.length + 1) h₄ := hSt _ g₄ _ _ _ _ nw₄ hst₃ heI₃ zI.1 (fun p hp => N₄ p (.tail _ (.tail _ (.tail _ hp)))) hS₄
        refine append_at (hsz := by show ys.toArray.size ≤ sizeLine; rw [List.size_toArray]; exact Nat.le_trans hi hsz) zD.1 fun h₅ hs₅ hD₅ => ?_
        have off4 := off₄.mem
        refine ⟨n + 1 - (ys.length + 1), by omega, g₄, h₅, tk₄, ys ++ [y], _, nw₄, rfl, by rw [List.length_append]; exact hlt', by rw [List.length_append]; rfl, hg₄, ?_, F₄.change hs₅ hDL zD.2.2, (hoC.ns zC.1).sameBut hs₅ (Ne.symm hDC), fun p hp => ?_, zI.2.2, zC.2.2, off₄, hS₄⟩
        · rw [List.length_append]
          exact W.frame _ _ _ hst₄ fun b hb o e => hs₅.extBut b o (fun q => hDf (by have q' : b = s.heap.objs.size := q; rw [← q']; exact hb)) e
        · rcases List.mem_cons.mp hp with rfl | hp
          · exact ⟨hD₅.trans (congrArg some (LCg.lst_snoc ys y)), hDL, zD.2.2⟩
          · have z := N₄ p (.tail _ (.tail _ (.tail _ hp)))
            exact ⟨hs₅.extBut _ _ (off4 p hp).2.2 z.1, z.2⟩
      · have he : ys.length = n := Nat.le_antisymm hi (Nat.not_lt.mp hlt')
        refine W.done _ _ _ (he ▸ hI') fun h₂ tk₂ hk₂ => ?_
        exact hRR _ _ _ h₂ tk₂ _ ys nw hg he hS' (LCg.fr_but F' hk₂ hIL gI) (LCg.news_but N' hk₂ fun p hp => by
          rcases List.mem_cons.mp hp with rfl | hp
          · exact Ne.symm hDI
          · exact (off3 p hp).1) off'.one (hn'.at' fun o e => hk₂ _ o (by simpa using Ne.symm hCI) e) gC hCL hDL (Ne.symm hDC) fun p hp => (off3 p hp).2.1
    · rcases List.mem_cons.mp hp with rfl | hp
      · exact ⟨hacc, hDL, fresh₀ _ (Nat.le_refl _)⟩
      · exact ⟨old _ _ (N p hp).1, (N p hp).2⟩
    · exact ne_by (by have := hlt p hp; omega)
    · exact ne_by (by have := hlt p hp; omega)
  exact codeAny_compStart_list (loop _ rfl) (W.self 0 _ _ _ hst₁ (loop _ rfl))
theorem listComp_T {elt iter : Expr} {x : Str} {px : Pos} {scope : Scope} {cl : List (Str × Addr)} {pos : Pos} {ax : Addr} {its : Array Value} {news : List (Addr × Obj)} {Q : Value → Shared → Prop}
    (Gd : Heap → Prop) (S : List Value → List (Addr × Obj) → Prop) (hh : A.handled = none) (hsz : its.size ≤ sizeLine)
    (hS : ∀ ys nw, S ys nw → ∃ o, (ax, o) ∈ nw ∧ o.cls = .type "list" ∧ ∃ n, o.data = .seq its n)
    (G₀ : Gd h₀) (F : Fr h₀ L s.heap m) (N : News h₀ L s.heap news) (S0 : S [] news)
    (hclos : closureFor scope env = pure cl) (hcell : ∀ y ∈ scope.names, y.2 ≠ .cell) (hkind : scope.kind = .function)
    (hnames : ∀ y ∈ scope.names, y.2 = .local → scope.names.lookup y.1 = some .local) (hx : scope.names.lookup x = some .local)
    (hi : wpAny (model prog w) A (eval iter env) (fun v s₁ => v = .ref ax ∧ s₁ = s) E s)
    (turn : ∀ g ys nw v I oI C oC D m₂ h tk (E' : Value → Shared → Prop), Gd g → its[ys.length]? = some v → S ys nw → LCg.NsObj oC m₂ → m₂ x = some v → Fr g L h m → News g L h ((I, oI) :: (C, oC) :: (D, LCg.lst ys) :: nw) → LCg.Off3 I C D nw →
      ((@Ne Nat I C) ∧ (@Ne Nat I D) ∧ (@Ne Nat C D)) →
      wpAny (model prog w) A (eval elt (compEnvC scope cl C env)) (TEnd Gd L m { s with heap := h, toks := tk } I C D [(I, oI), (C, oC), (D, LCg.lst ys)] fun y nw' => S (ys ++ [y]) nw') E' { s with heap := h, toks := tk })
    (fin : ∀ g D h tk ys nw, Gd g → ys.length = its.size → S ys nw → Fr g L h m → News g L h ((D, LCg.lst ys) :: nw) → LCg.Off1 D nw → Q (.ref D) { s with heap := h, toks := tk })
    (hs : ∀ x, foldedSetIterable iter env x = pure x := by intro _; rfl) :
    wpAny (model prog w) A (eval (.ListComp elt [⟨.Name x px, iter, [], 0⟩] scope pos) env) Q E s := by
  rw [eval_ListComp]
  refine wpAny_comprehension_free (use := none) rfl hs hclos hkind hnames (wpAny_mono hi (fun xv s₁ h₁ => ?_) fun _ _ e => e)
  obtain ⟨rfl, rfl⟩ := h₁
  obtain ⟨oa, hma, hac, na, had⟩ := hS _ _ S0
  refine wpAny_pyIter_list ⟨oa, (N _ hma).1, hac, na, had⟩ ?_
  have up : ∀ b o, s₁.heap.get? b = some o → (s₁.heap.push { cls := .type "list_iterator", data := .fields #[.ref ax, .int 0 0] }).get? b = some o := fun b o e => Heap.get?_push_of_some _ e
  have hlt : ax < s₁.heap.objs.size := Heap.lt_size (N _ hma).1
  refine block_T (I := s₁.heap.objs.size) (s := { s₁ with heap := s₁.heap.push { cls := .type "list_iterator", data := .fields #[.ref ax, .int 0 0] } }) (P := fun i v => its[i]? = some v) Gd S (Walks.list hh s₁.heap.objs.size ax (Nat.ne_of_lt hlt) its) hsz (fun i h st => let ⟨o, e, _⟩ := st.1; ⟨o, e⟩) (fun i g ys h h' o nw st e e' N' hS' => ?_) hcell hkind hx
    ⟨⟨_, Heap.get?_push_size _ rfl, rfl, rfl⟩, ⟨oa, up _ _ (N _ hma).1, hac, na, had⟩⟩ (fun b hb => ?_) G₀ (F.keeps up) (N.grown up) (next_is_new F) (Nat.ne_of_lt F.ns.lt) (fun p hp => Nat.ne_of_lt (Heap.lt_size (N p hp).1)) S0 turn ?_
  · obtain ⟨o', q, r⟩ := st.1
    rw [e] at q; cases q
    obtain ⟨oa, hma, hac, na, had⟩ := hS _ _ hS'
    exact ⟨⟨o, e', r⟩, ⟨oa, (N' _ hma).1, hac, na, had⟩⟩
  · show b < (s₁.heap.push _).objs.size
    rw [Heap.size_push]
    rcases List.mem_cons.mp hb with rfl | hb
    · exact Nat.lt_succ_self _
    · rw [List.mem_singleton.mp hb]; exact Nat.lt_succ_of_lt hlt
  intro g D C h tk m' ys nw hg hle hS' F' N' o1 hn gC hCL hDL hCD offC
  refine ⟨m', hn, fun h'' hs'' => fin g D h'' tk ys nw hg hle hS' (F'.change hs'' hCL gC) (fun p hp => ?_) o1⟩
  refine ⟨hs''.extBut _ _ ?_ (N' p hp).1, (N' p hp).2⟩
  rcases List.mem_cons.mp hp with rfl | hp
  · exact Ne.symm hCD
  · exact offC p hp
/-- what a comprehension's range comes to -/
noncomputable def RSrc (h₀ : Heap) (L : Addr) (m : Str → Option Value) (s : Shared) (c : Int) (n : Nat) (S : List Value → List (Addr × Obj) → Prop) (xv : Value) (s₁ : Shared) : Prop :=
  ∃ r b t u v h tk nw, xv = .ref r ∧ s₁ = { s with heap := h, toks := tk } ∧ Fr h₀ L h m ∧ News h₀ L h nw ∧ S [] nw ∧ IsRange h r 0 b c t u v ∧ Builtin.Range.small 0 b c = true ∧ Builtin.Range.rangeSize 0 b c = (n : Int)
theorem rangeComp_T {elt iter : Expr} {x : Str} {px : Pos} {scope : Scope} {cl : List (Str × Addr)} {pos : Pos} {Q : Value → Shared → Prop} (c : Int) (n : Nat)
    (Gd : Heap → Prop) (S : List Value → List (Addr × Obj) → Prop) (hh : A.handled = none) (hsz : n ≤ sizeLine) (G₀ : Gd h₀)
    (hclos : closureFor scope env = pure cl) (hcell : ∀ y ∈ scope.names, y.2 ≠ .cell) (hkind : scope.kind = .function)
    (hnames : ∀ y ∈ scope.names, y.2 = .local → scope.names.lookup y.1 = some .local) (hx : scope.names.lookup x = some .local)
    (hi : wpAny (model prog w) A (eval iter env) (RSrc h₀ L m s c n S) E s)
    (turn : ∀ g ys nw v I oI C oC D m₂ h tk (E' : Value → Shared → Prop), Gd g → (ys.length < n ∧ ∃ t, v = .int (0 + (ys.length : Int) * c) t) → S ys nw → LCg.NsObj oC m₂ → m₂ x = some v → Fr g L h m → News g L h ((I, oI) :: (C, oC) :: (D, LCg.lst ys) :: nw) → LCg.Off3 I C D nw →
      ((@Ne Nat I C) ∧ (@Ne Nat I D) ∧ (@Ne Nat C D)) →
      wpAny (model prog w) A (eval elt (compEnvC scope cl C env)) (TEnd Gd L m { s with heap := h, toks := tk } I C D [(I, oI), (C, oC), (D, LCg.lst ys)] fun y nw' => S (ys ++ [y]) nw') E' { s with heap := h, toks := tk })
    (fin : ∀ g D h tk ys nw, Gd g → ys.length = n → S ys nw → Fr g L h m → News g L h ((D, LCg.lst ys) :: nw) → LCg.Off1 D nw → Q (.ref D) { s with heap := h, toks := tk })
    (hs : ∀ x, foldedSetIterable iter env x = pure x := by intro _; rfl) :
    wpAny (model prog w) A (eval (.ListComp elt [⟨.Name x px, iter, [], 0⟩] scope pos) env) Q E s := by
  rw [eval_ListComp]
  refine wpAny_comprehension_free (use := none) rfl hs hclos hkind hnames (wpAny_mono hi (fun xv s₁ h₁ => ?_) fun _ _ e => e)
  obtain ⟨r, b, t, u, v, h, tk, news, rfl, rfl, F, N, S0, hr, hsm, hn⟩ := h₁
  refine wpAny_pyIter_range hr hsm ?_
  refine block_T (I := h.objs.size) (s := { s with heap := h.push _, toks := tk }) (P := fun i v => i < n ∧ ∃ t, v = .int (0 + i * c) t) Gd S (Walks.range hh h.objs.size 0 c n).bound hsz (fun i h' st => ⟨_, st⟩) (fun i g ys h₁ h' o nw st e e' N' hS' => ?_) hcell hkind hx
    (by show IsRangeIter _ _ _ _ _; rw [hn]; simpa using Heap.get?_push_size _ rfl) (fun b hb => ?_) G₀ (F.keeps fun _ _ e => Heap.get?_push_of_some _ e) (N.grown fun _ _ e => Heap.get?_push_of_some _ e) (next_is_new F) (Nat.ne_of_lt F.ns.lt) (fun p hp => Nat.ne_of_lt (Heap.lt_size (N p hp).1)) S0 turn ?_
  · have st' : h₁.get? h.objs.size = some _ := st
    show h'.get? h.objs.size = some _
    rw [e', ← e]; exact st'
  · show b < (h.push _).objs.size
    rw [Heap.size_push, List.mem_singleton.mp hb]; exact Nat.lt_succ_self _
  · intro g D C h' tk' m' ys nw hg hle hS' F' N' o1 hn gC hCL hDL hCD offC
    refine ⟨m', hn, fun h'' hs'' => fin g D h'' tk' ys nw hg hle hS' (F'.change hs'' hCL gC) (fun p hp => ?_) o1⟩
    refine ⟨hs''.extBut _ _ ?_ (N' p hp).1, (N' p hp).2⟩
    rcases List.mem_cons.mp hp with rfl | hp
    · exact Ne.symm hCD
    · exact offC p hp
end
/-- a list of n texts, each of at most b signs -/
structure HasT (h : Heap) (l : Addr) (n b : Nat) : Prop where
  out : ∃ vs : List Value, h.IsList l vs.toArray ∧ vs.length = n ∧ Txts vs b
theorem hasT_of {h : Heap} {l : Addr} {es : List Str} {b : Nat} (T : TxtsAt h l es) (hb : ∀ e ∈ es, e.length ≤ b) : HasT h l es.length b := by
  obtain ⟨vs, hl, hn, hv⟩ := T
  refine ⟨vs, hl, hn, ⟨fun v hm => ?_⟩⟩
  obtain ⟨i, hi, rfl⟩ := List.getElem_of_mem hm
  obtain ⟨t, e⟩ := hv i vs[i] (List.getElem?_eq_getElem hi)
  refine ⟨_, t, e, ?_⟩
  have hi' : i < es.length := hn ▸ hi
  rw [List.getD_eq_getElem?_getD, List.getElem?_eq_getElem hi']
  exact hb _ (List.getElem_mem hi')
section
variable {w : World} {A A₀ : Around} {E : Value → Shared → Prop} {s : Shared} {h₀ base : Heap} {outer : List Env} {L l : Addr} {m : Str → Option Value} {n b : Nat} {news : List (Addr × Obj)}
theorem HasT.up (T : HasT base l n b) (B : Below A₀ base outer h₀) (F : Fr h₀ L s.heap m) : HasT s.heap l n b := by
  obtain ⟨vs, hl, r⟩ := T
  exact ⟨vs, hl.at fun o e => F.keep _ _ (B.stays _ _ e), r⟩
theorem HasT.led {vs : List Value} {k : Nat} (N : News h₀ L s.heap news) (hm : (l, listOf vs.toArray k) ∈ news) (hv : vs.length = n ∧ Txts vs b) : HasT s.heap l n b := ⟨vs, ⟨_, (N _ hm).1, rfl, ⟨_, rfl⟩⟩, hv⟩
theorem txts_app {vs ws : List Value} (h : Txts vs b) (g : Txts ws b) : Txts (vs ++ ws) b := ⟨fun v hm => (List.mem_append.mp hm).elim (h.out v) (g.out v)⟩
theorem add_txt {l' : Addr} {k : Nat} {Q : Value → Shared → Prop} (F : Fr h₀ L s.heap m) (N : News h₀ L s.heap news) (T : HasT s.heap l n b) (T' : HasT s.heap l' k b) (hs : n + k ≤ 1000)
    (h : ∀ D vs h', vs.length = n + k ∧ Txts vs b → (∀ p ∈ news, p.1 < D) → Fr h₀ L h' m → News h₀ L h' ((D, listOf vs.toArray 0) :: news) → Q (.ref D) { s with heap := h' }) :
    wpAny (model PySem.Challenge.rw_ai0034_01.row.prog w) A (binaryOp .Add (.ref l) (.ref l')) Q E s := by
  obtain ⟨vs, hl, hn, hv⟩ := T
  obtain ⟨ws, hl', hn', hv'⟩ := T'
  refine add_lists F N hl hl' (fun h' F' N' => h _ (vs ++ ws) h' ⟨by rw [List.length_append, hn, hn'], txts_app hv hv'⟩ (fun p hp => Heap.lt_size (N p hp).1) F' N') (hsz := ?_)
  rw [hn, hn']
  exact Nat.le_trans hs (by decide)
theorem len_txt {Q : Value → Shared → Prop} (T : HasT s.heap l n b) (hs : n ≤ 1000) (h : Q (.int n (s.toks + 1)) { s with toks := s.toks + 1 + 1 }) :
    wpAny (model PySem.Challenge.rw_ai0034_01.row.prog w) A (call (.builtin "len") [.ref l]) Q E s := by
  obtain ⟨vs, hl, hn, _⟩ := T
  have e : vs.toArray.size = n := by rw [List.size_toArray, hn]
  refine len_list hl ?_ ?_
  · rw [e]; omega
  · rw [e]; exact h
theorem item_txt {value slice : PySem.Expr} {k : Int} {u : Tok} {Q : Value → Shared → Prop} (T : HasT s.heap l n b) (hs' : n ≤ 1000) (h0 : 0 ≤ k) (h1 : k < n)
    (h : ∀ x t, x.length ≤ b → Q (.str x t) s)
    (hs : subscripted slice false (.ref l) (.int k u) = operate [.ref l, .int k u] (getItem (.ref l) (.int k u)) := by first | with_reducible rfl | rfl) :
    wpAny (model PySem.Challenge.rw_ai0034_01.row.prog w) A (subscriptTail value slice (.ref l) (.int k u)) Q E s := by
  obtain ⟨vs, hl, hn, hv⟩ := T
  have hk : k.toNat < vs.length := by omega
  obtain ⟨x, t, e, hx⟩ := hv.out vs[k.toNat] (List.getElem_mem hk)
  refine tail_any hl.typeIs slot_list_getitem.lookup (getItem_listL hl h0 (by omega) (x := .str x t) ?_ (h x t hx)) hs
  rw [List.getElem?_eq_getElem hk, e]
theorem fm_ge {a : Int} {n : Nat} (h : 0 < n) : 0 ≤ a.fmod n := Int.fmod_nonneg_of_pos a (by omega)
theorem fm_lt {a : Int} {n : Nat} (h : 0 < n) : a.fmod n < n := Int.fmod_lt_of_pos a (by omega)
theorem news_top {h : Heap} {a b c : Addr × Obj} {r : List (Addr × Obj)} (N : News h₀ L h (a :: b :: c :: r)) : News h₀ L h (a :: r) := fun p hp => by
  rcases List.mem_cons.mp hp with rfl | hp
  · exact N _ (.head _)
  · exact N _ (.tail _ (.tail _ (.tail _ hp)))
end
theorem lt_top {a b : Addr × Obj} {r : List (Addr × Obj)} {D : Addr} (h : ∀ p ∈ a :: b :: r, p.1 < D) : ∀ p ∈ r, p.1 < D := fun p hp => h p (.tail _ (.tail _ hp))
theorem tn_3 : ((rows 3).map (·.1)).length = 57 := by kernel_rfl
theorem tn_1 : ((rows 1).map (·.1)).length = 71 := by kernel_rfl
theorem tn_0 : ((rows 0).map (·.1)).length = 23 := by kernel_rfl
theorem tn_2 : ((rows 2).map (·.1)).length = 40 := by kernel_rfl
theorem hasT_3 {w : World} {h : Heap} (Y : SaysV w h) : HasT h 889 57 100 := tn_3 ▸ hasT_of (txts_3 Y) rows_len_3
theorem hasT_1 {w : World} {h : Heap} (Y : SaysV w h) : HasT h 890 71 100 := tn_1 ▸ hasT_of (txts_1 Y) rows_len_1
theorem hasT_0 {w : World} {h : Heap} (Y : SaysV w h) : HasT h 891 23 100 := tn_0 ▸ hasT_of (txts_0 Y) rows_len_0
theorem hasT_2 {w : World} {h : Heap} (Y : SaysV w h) : HasT h 892 40 100 := tn_2 ▸ hasT_of (txts_2 Y) rows_len_2
theorem kw_65 : True := by
  k_with "my_has_t" => first | exact HasT.led (by k_asm) (by k_mem) (by assumption) | exact HasT.up (by assumption) (by k_asm) (by k_asm)
  trivial
theorem kw_66 : True := by
  k_with "binaryOp Add ref ref" => (k_here; (with_reducible show wpAny _ _ (binaryOp _ (Value.ref _) (Value.ref _)) _ _ _); (refine' add_txt ?F ?N ?T ?T2 ?z ?_; (case F => k_asm); (case N => k_asm); (case T => walk_at "my_has_t"); (case T2 => walk_at "my_has_t"); (case z => decide); k_whole); intro _ _ _ _ _ _ _)
  trivial
section
variable {w : World} {mean : ExcName → Option Value} {mg mb : Str → Option Value}
theorem lends {rest : List (Addr × Obj)} :
    Cl w mean mg mb 899 [] rest 1 8 fun v news' => ∃ l vs, v = .ref l ∧ (vs.length = 191 ∧ Txts vs 100) ∧ (∀ p ∈ rest, p.1 < l) ∧ news' = (l, listOf vs.toArray 0) :: rest := by
  dsimp only [Cl]
  k_fill
  intro dp un gd cn cs a ccd cl outer A₀ base h₀ L m s Q E Y B F X N T hk hd1 hu hret
  have t3 := hasT_3 Y
  have t1 := hasT_1 Y
  have t0 := hasT_0 Y
  have t2 := hasT_2 Y
  refine wpAny_call ?_
  k_dflt cell_enter
  k_steps
  refine' hret _ _ _ _ ⟨_, _, rfl, ?c, ?d, rfl⟩ (by k_asm) (news_top (by k_asm))
  case c => assumption
  case d => exact lt_top (by assumption)
end
theorem kw_67 : True := by
  k_with "my_has_t" => first | exact HasT.led (by k_asm) (by k_mem) (by assumption) | exact HasT.led (by k_asm) (by repeat (first | assumption | refine List.mem_append_left _ ?_ | refine List.Mem.tail _ ?_)) (by assumption) | exact HasT.up (by assumption) (by k_asm) (by k_asm)
  trivial
theorem kw_68 : True := by
  k_with "call builtin:len" => (k_here; (with_reducible show wpAny _ _ (call (Value.builtin _) [Value.ref _]) _ _ _); (refine' len_txt ?T ?z ?_; (case T => walk_at "my_has_t"); (case z => decide); k_whole))
  trivial
theorem kw_69 : True := by
  k_with "subscriptTail" => (k_here; (with_reducible show wpAny _ _ (subscriptTail _ _ (Value.ref _) (Value.int _ _)) _ _ _); (refine' item_txt ?T ?z ?i0 ?i1 ?_; (case T => walk_at "my_has_t"); (case z => decide); (case i0 => exact fm_ge (by decide)); (case i1 => exact fm_lt (by decide)); k_whole); intro _ _ _)
  trivial
theorem kw_70 : True := by
  k_with "call ref" => (k_here; (with_reducible show wpAny _ _ (call (Value.ref 881) _) _ _ _); (refine' Cl.use lletters ?Y ?B ?F ?X ?N ?hs ?T ?hk ?hd ?hu ?_; walk_at "my_cl_go"); rintro _ _ _ _ ⟨_, _, h1, _, h2⟩ _ _; subst h1 h2)
  trivial
theorem kw_71 : True := by
  k_with "call ref" => (k_here; (with_reducible show wpAny _ _ (call (Value.ref 888) _) _ _ _); (refine' Cl.use lparts ?Y ?B ?F ?X ?N ?hs ?T ?hk ?hd ?hu ?_; walk_at "my_cl_go"); rintro _ _ _ _ ⟨_, _, h1, _, h2⟩ _ _; subst h1 h2)
  trivial
theorem kw_72 : True := by
  k_with "binaryOp FloorDiv int int" => (k_here; (with_reducible refine floordiv_int ?kbe ?_ (Or.inl (PyProof.noPylong_of_log2 ?kbp))); (case kbe => assumption); (case kbp => assumption))
  trivial
theorem kw_73 : True := by
  k_with "my_subs_t" => repeat (first | assumption | exact List.mem_append_left _ (by assumption) | exact List.mem_append_right _ (by assumption) | refine List.Mem.tail _ ?_)
  trivial
section
variable {prog : Program} {w : World} {A : Around} {E : Value → Shared → Prop} {s : Shared} {env : Env} {h₀ : Heap} {x : Str} {body : List Stmt} {Q : Flow → Shared → Prop}
theorem up_st {σ : Type} {r : Addr} {b₀ : Int} {t₀ u₀ v₀ : Tok} {n : Nat} {m₀ : Str → Option Value} {news : List (Addr × Obj)} (Led : List (Addr × Obj)) (ps : σ → List (Str × Value)) (P : Nat → σ → Prop) (c₀ : σ)
    (hh : A.handled = none) (hr : IsRange s.heap r 0 b₀ 1 t₀ u₀ v₀) (hsmall : Builtin.Range.small 0 b₀ 1 = true) (hn : Builtin.Range.rangeSize 0 b₀ 1 = (n : Int)) (F : Fr h₀ env.locals s.heap m₀) (N : News h₀ env.locals s.heap news)
    (hs : ∀ p ∈ Led, p ∈ news) (hm : ∀ p ∈ ps c₀, m₀ p.1 = some p.2) (hp : P 0 c₀)
    (turn : ∀ (c : σ) (i : Nat) (t : Tok) (u : Str → Option Value) h tk own, i < n → P i c → OwnOff own (Led.map (·.1)) → Fr h₀ env.locals h (fun y => if y = x then some (.int (i : Int) t) else kstB u (ps c) y) → News h₀ env.locals h (Led ++ own) →
      wpAny (model prog w) A (execs body env) (DPost h₀ env.locals { s with heap := h, toks := tk } Led own ps (P (i + 1)) Q) E { s with heap := h, toks := tk })
    (done : ∀ (c : σ) (u : Str → Option Value) h tk, P n c → Fr h₀ env.locals h (kstB u (ps c)) → News h₀ env.locals h Led → Q .next { s with heap := h, toks := tk }) :
    wpAny (model prog w) A (pyIter (.ref r)) (fun it s₂ => LoopAtV prog w A h₀ env x body Q E it s₂) E s := by
  refine wpAny_pyIter_range hr hsmall ?_
  have W : Walks prog w A s.heap.objs.size [s.heap.objs.size] [s.heap.objs.size] n (fun i v => i < n ∧ ∃ t, v = .int (0 + i * 1) t)
      (fun i h => IsRangeIter h s.heap.objs.size (0 + (i : Nat) * 1) ((n : Int) - (i : Nat)) 1) := (Walks.range hh _ 0 1 n).bound
  have off : ∀ p ∈ Led, p.1 ∉ [s.heap.objs.size] := fun p hp hI => absurd (Heap.lt_size (N p (hs p hp)).1) ((List.mem_singleton.mp hI) ▸ Nat.lt_irrefl _)
  refine loop_st Led ps P c₀ W ?_ ?_ off off (by show IsRangeIter _ _ _ _ _; rw [hn]; simpa using Heap.get?_push_size _ rfl) (F.push _) (fun p hp => ⟨Heap.get?_push_of_some _ (N p hp).1, (N p hp).2⟩) hs hm hp ?_ done
  · intro hm
    exact absurd F.ns.lt ((List.mem_singleton.mp hm) ▸ Nat.lt_irrefl _)
  · intro b hb
    rw [List.mem_singleton.mp hb]
    exact next_is_new F
  · rintro c i v u h tk own hi ⟨_, t, rfl⟩ hp' hoff F₁ N₁
    have e1 : (0 : Int) + (i : Int) * 1 = (i : Int) := by omega
    rw [e1] at F₁
    exact turn c i t u h tk own hi hp' hoff F₁ N₁
end
theorem small_up {b : Int} (h0 : 0 ≤ b) (h : b < 5) : Builtin.Range.small 0 b 1 = true := by
  have : b = 0 ∨ b = 1 ∨ b = 2 ∨ b = 3 ∨ b = 4 := by omega
  rcases this with rfl | rfl | rfl | rfl | rfl <;> decide
theorem rs_up {b : Int} (h0 : 0 ≤ b) (h : b < 5) : Builtin.Range.rangeSize 0 b 1 = (b.toNat : Int) := by
  have : b = 0 ∨ b = 1 ∨ b = 2 ∨ b = 3 ∨ b = 4 := by omega
  rcases this with rfl | rfl | rfl | rfl | rfl <;> decide
theorem pw64 {j : Nat} (h : j < 5) : ((64 : Int) ^ ((j : Int)).toNat).natAbs.log2 < 9000 := by
  have : j = 0 ∨ j = 1 ∨ j = 2 ∨ j = 3 ∨ j = 4 := by omega
  rcases this with rfl | rfl | rfl | rfl | rfl <;> decide
section
variable {w : World} {mean : ExcName → Option Value} {mg mb : Str → Option Value}
theorem lword {ln le : Addr} {its ts : List Value} {n0 k0 : Nat} {rest : List (Addr × Obj)} (hi : ∀ v ∈ its, ∃ n t, v = Value.int n t) (hi4 : its.length ≤ 4) (hts : ts.length = 191 ∧ Txts ts 100) (hle : (le, listOf ts.toArray k0) ∈ rest) (hoff : ∀ p ∈ rest, p.1 ≠ ln) :
    Cl w mean mg mb 906 [.ref ln, .ref le] ((ln, listOf its.toArray n0) :: rest) 5 48 fun v news' => ∃ x t, v = Value.str x t ∧ x.length ≤ 1000 ∧ rest = news' := by
  dsimp only [Cl]
  k_fill
  intro dp un gd cn cs a ccd cl outer A₀ base h₀ L m s Q E Y B F X N T hk hd1 hu hret
  refine wpAny_call ?_
  k_dflt cell_enter
  rename_i g9 L9 h9 FG9 F9 N9 B9 X9 T9
  have hlL : ln ≠ L9 := (N9 _ (.head _)).2.1
  k_steps
  refine Stop.un ?_
  refine' for_join (fun s₂ => ∃ (wd : Str) (tw : Tok) (u : Str → Option Value) (h : Heap) (tk : Nat), s₂ = { s with heap := h, toks := tk } ∧ Fr g9 L9 h u ∧ u (Str.ofString "word") = some (.str wd tw) ∧ News g9 L9 h rest ∧ wd.length ≤ 1000) ?F ?k1 ?k2 ?h ?k
  case F => k_asm
  case k1 => rfl
  case k2 => rfl
  case h =>
    k_steps
    refine Stop.un ?_
    refine' list_st (σ := Str × Tok) (vs := its) rest (fun q => [(Str.ofString "ends", .ref le), (Str.ofString "word", .str q.1 q.2)]) (fun i q => q.1.length ≤ 100 * i) (Str.ofString "", _) ?hh ?hl ?hlL ?hlo ?F ?N ?hs ?hm ?hp ?turn ?done
    case hh => with_unfolding_all rfl
    case hl => exact ⟨_, (News.get (by k_asm) (.head _)), rfl, ⟨_, rfl⟩⟩
    case hlL => exact hlL
    case hlo => exact hoff
    case F => k_asm
    case N => k_asm
    case hs => exact fun p hp => .tail _ hp
    case hm => walk_at "my_locs"
    case hp => exact Nat.zero_le _
    case turn =>
      rintro ⟨wd, tw⟩ i v u hV tkV own hv hP hoffV FV NV
      have hii : i < its.length := (List.getElem?_eq_some_iff.mp hv).1
      obtain ⟨nu, tn, rfl⟩ := hi v (by rw [← Option.some.inj ((List.getElem?_eq_getElem hii).symm.trans hv)]; exact List.getElem_mem hii)
      dsimp only [kstB] at hP FV NV ⊢
      k_steps
      · refine Stop.un ?_
        refine' for_join (fun s₂ => ∃ (wd : Str) (tw : Tok) (u : Str → Option Value) (h : Heap) (tk : Nat), s₂ = { s with heap := h, toks := tk } ∧ Fr g9 L9 h u ∧ (∀ p ∈ [(Str.ofString "ends", Value.ref le), (Str.ofString "word", .str wd tw)], u p.1 = some p.2) ∧ News g9 L9 h (rest ++ own) ∧ wd.length ≤ 100 * (i + 1)) ?iF ?ik1 ?ik2 ?ih ?ik
        case iF => k_asm
        case ik1 => rfl
        case ik2 => rfl
        case ih =>
          k_steps
          refine Stop.un ?_
          have f0 : 0 ≤ (nu.fdiv 3).fmod 5 := Int.fmod_nonneg_of_pos _ (by decide)
          have f1 : (nu.fdiv 3).fmod 5 < 5 := Int.fmod_lt_of_pos _ (by decide)
          refine' up_st (σ := Str × Tok × Tok) (n := ((nu.fdiv 3).fmod 5).toNat) (rest ++ own) (fun q => [(Str.ofString "ends", .ref le), (Str.ofString "word", .str q.1 q.2.1), (Str.ofString "free", .int (nu.fdiv 3) q.2.2)]) (fun j q => q.1.length ≤ 100 * i + 10 * j) (_, _, _) ?jhh ?jhr ?jsm ?jn ?jF ?jN ?jhs ?jhm ?jhp ?jturn ?jdone
          case jhh => with_unfolding_all rfl
          case jhr => assumption
          case jsm => exact small_up f0 f1
          case jn => exact rs_up f0 f1
          case jF => k_asm
          case jN => k_asm
          case jhs => exact fun p hp => by walk_at "my_subs_t"
          case jhm => walk_at "my_locs"
          case jhp => dsimp only; omega
          case jturn =>
            rintro ⟨wd, tw, tf⟩ j tj u hV tkV own' hj hPj hoffJ FV NV
            dsimp only [kstB] at hPj FV NV ⊢
            have hp0 : (64 : Int) ^ ((j : Int)).toNat ≠ 0 := Int.ne_of_gt (pow_pos_of (by decide) _)
            have hp1 : ((64 : Int) ^ ((j : Int)).toNat).natAbs.log2 < 9000 := pw64 (by omega)
            k_steps
            all_goals exact ⟨(_, _, _), _, _, _, _, rfl, by k_asm, by k_asm, fun p hp => by walk_at "my_subs_t", fun p hp => by walk_at "my_subs_t", by walk_at "my_locs", by dsimp only; omega⟩
          case jdone =>
            rintro ⟨wd, tw, tf⟩ u hV tkV hP FV NV
            dsimp only [kstB] at hP FV NV ⊢
            exact ⟨rfl, wd, tw, _, _, _, rfl, FV, by walk_at "my_locs", NV, by omega⟩
        case ik =>
          rintro _ ⟨wd, tw, u, h9, tk9, rfl, F9, hu9, N9, e9⟩
          rw [← kstB_self hu9] at F9
          dsimp only [kstB] at F9
          k_steps
          all_goals exact ⟨(_, _), _, _, _, _, rfl, by k_asm, by k_asm, fun p hp => by walk_at "my_subs_t", fun p hp => by walk_at "my_subs_t", by walk_at "my_locs", by dsimp only; omega⟩
      all_goals exact ⟨(_, _), _, _, _, _, rfl, by k_asm, by k_asm, fun p hp => by walk_at "my_subs_t", fun p hp => by walk_at "my_subs_t", by walk_at "my_locs", by dsimp only; omega⟩
    case done =>
      rintro ⟨wd, tw⟩ u hV tkV hP FV NV
      dsimp only [kstB] at hP FV NV ⊢
      exact ⟨rfl, wd, tw, _, _, _, rfl, FV, by rfl, NV, by omega⟩
  case k =>
    rintro _ ⟨wd, tw, u, h9, tk9, rfl, F9, hu9, N9, e9⟩
    rw [← kstB_self (ps := [(Str.ofString "word", .str wd tw)]) (List.forall_mem_cons.mpr ⟨hu9, List.forall_mem_nil _⟩)] at F9
    dsimp only [kstB] at F9
    k_steps
    exact hret _ _ _ _ ⟨wd, tw, rfl, e9, rfl⟩ (by k_asm) (by k_asm)
end
/-- a stemmer's dict, new or used -/
structure Is6 (w : World) (o : Obj) : Prop where
  out : ∃ k1 k2 k3 k4 k5 k6 v1 v2 v3 v4 v5 v6, o = d6 w.params k1 k2 k3 k4 k5 k6 v1 v2 v3 v4 v5 v6
structure Is8 (w : World) (o : Obj) : Prop where
  out : ∃ k1 k2 k3 k4 k5 k6 k7 k8 v1 v2 v3 v4 v5 v6 v7 v8, o = d8 w.params k1 k2 k3 k4 k5 k6 k7 k8 v1 v2 v3 v4 v5 v6 v7 v8
/-- .. and used on a text -/
structure Is8c (w : World) (c : Str) (t : Tok) (o : Obj) : Prop where
  out : ∃ k1 k2 k3 k4 k5 k6 k7 k8 v2 v3 v4 v5 v6 v7 v8, o = d8 w.params k1 k2 k3 k4 k5 k6 k7 k8 (.str c t) v2 v3 v4 v5 v6 v7 v8
theorem Is8c.is {w : World} {c : Str} {t : Tok} {o : Obj} (h : Is8c w c t o) : Is8 w o := by
  obtain ⟨k1, k2, k3, k4, k5, k6, k7, k8, v2, v3, v4, v5, v6, v7, v8, e⟩ := h
  exact ⟨k1, k2, k3, k4, k5, k6, k7, k8, _, v2, v3, v4, v5, v6, v7, v8, e⟩
section
variable {w : World} {mean : ExcName → Option Value} {mg mb : Str → Option Value}
theorem stemW {wd : Str} {t1 : Tok} {x d : Addr} {od : Obj} {rest : List (Addr × Obj)} (hw1 : wd.length ≤ 1000) (hxd : x ≠ d) (hr : ∀ p ∈ rest, p.1 ≠ d) (ho : Is6 w od ∨ Is8 w od) :
    ClT w mean mg mb 189 [.ref x, .str wd t1] ((x, instObj 852 d) :: (d, od) :: rest) 13 80 fun v news' => ∃ t cu', w4 wd = cu' ∧ v = .str cu' t ∧ ∃ od', Is8c w cu' t od' ∧ news' = ((x, instObj 852 d) :: (d, od') :: rest) := by
  rcases ho with ⟨k1, k2, k3, k4, k5, k6, v1, v2, v3, v4, v5, v6, rfl⟩ | ⟨k1, k2, k3, k4, k5, k6, k7, k8, v1, v2, v3, v4, v5, v6, v7, v8, rfl⟩
  · exact (stemW6 hw1 hxd hr).mono fun v n ⟨t, cu', h1, h2, k7, k8, v2', v3', v4', v5', v6', v7', v8', h3⟩ => ⟨t, cu', h1, h2, _, ⟨_, _, _, _, _, _, _, _, _, _, _, _, _, _, _, rfl⟩, h3⟩
  · exact (stemW8 hw1 hxd hr).mono fun v n ⟨t, cu', h1, h2, k7', k8', v2', v3', v4', v5', v6', v7', v8', h3⟩ => ⟨t, cu', h1, h2, _, ⟨_, _, _, _, _, _, _, _, _, _, _, _, _, _, _, rfl⟩, h3⟩
end
/-- the contract of a def that the law's own frame calls -/
noncomputable abbrev Cl0 (w : World) (mean : ExcName → Option Value) (mg mb : Str → Option Value) (f : Addr) (args : List Value) (news : List (Addr × Obj)) (D U : Nat) (Post : Value → List (Addr × Obj) → Prop) : Prop :=
  ∀ (dp un : Nat) (gd : Option (List Code)) (cn : Str) (cs : Scope) (a : Addr) (ccd : Value) (cl : List (Str × Addr)) (A₀ : Around) (base h₀ : Heap) (L : Addr) (m : Str → Option Value) (s : Shared) (Q E : Value → Shared → Prop),
    SaysV w base → Top qV LS mean mg mb base → Below A₀ base [] h₀ → Fr h₀ L s.heap m → (KV w.params).In h₀ → News h₀ L s.heap news → Top qV LS mean mg mb h₀ → cs.kind = .function → dp + D < recursionLimit → un + U < cLine →
    (∀ v news' h' tk', Post v news' → Fr h₀ L h' m → News h₀ L h' news' → Q v { s with heap := h', toks := tk' }) →
    wpAny (model PySem.Challenge.rw_ai0034_01.row.prog w) (ktrTop dp un gd cn cs L a ccd cl []) (call (.ref f) args) Q E s
theorem Cl0.use {w : World} {mean : ExcName → Option Value} {mg mb : Str → Option Value} {f : Addr} {args : List Value} {news news₀ : List (Addr × Obj)} {D U : Nat} {Post : Value → List (Addr × Obj) → Prop} (C : Cl0 w mean mg mb f args news D U Post)
    {dp un : Nat} {gd : Option (List Code)} {cn : Str} {cs : Scope} {a : Addr} {ccd : Value} {cl : List (Str × Addr)} {A₀ : Around} {base h₀ : Heap} {L : Addr} {m : Str → Option Value} {s : Shared} {Q E : Value → Shared → Prop}
    (Y : SaysV w base) (TB : Top qV LS mean mg mb base) (B : Below A₀ base [] h₀) (F : Fr h₀ L s.heap m) (X : (KV w.params).In h₀) (N : News h₀ L s.heap news₀) (hs : ∀ p ∈ news, p ∈ news₀) (T : Top qV LS mean mg mb h₀) (hk : cs.kind = .function) (hd : dp + D < recursionLimit) (hu : un + U < cLine)
    (h : ∀ v news' h' tk', Post v news' → Fr h₀ L h' m → News h₀ L h' news' → Q v { s with heap := h', toks := tk' }) :
    wpAny (model PySem.Challenge.rw_ai0034_01.row.prog w) (ktrTop dp un gd cn cs L a ccd cl []) (call (.ref f) args) Q E s :=
  C _ _ _ _ _ _ _ _ _ _ _ _ _ _ _ _ Y TB B F X (fun p hp => N p (hs p hp)) T hk hd hu h
/-- the texts of a made list -/
noncomputable def WordsAre (vs : List Value) (xs : List Str) : Prop := vs.length = xs.length ∧ ∀ i v, vs[i]? = some v → ∃ t, v = Value.str (xs.getD i ⟨#[]⟩) t
theorem words_snoc {vs : List Value} {xs : List Str} {i : Nat} {x : Str} {t : Tok} (h : WordsAre vs (xs.take i)) (hi : vs.length = i) (hx : xs.getD i ⟨#[]⟩ = x) (hl : i < xs.length) : WordsAre (vs ++ [Value.str x t]) (xs.take (i + 1)) := by
  obtain ⟨h1, h2⟩ := h
  refine ⟨by rw [List.length_append, List.length_take, List.length_singleton]; omega, fun j v hj => ?_⟩
  have hg : ∀ k, k ≤ i → (xs.take (i + 1)).getD k ⟨#[]⟩ = xs.getD k ⟨#[]⟩ := fun k hk => by
    rw [List.getD_eq_getElem?_getD, List.getD_eq_getElem?_getD, List.getElem?_take, if_pos (by omega)]
  by_cases hji : j < vs.length
  · rw [List.getElem?_append_left hji] at hj
    obtain ⟨t', e⟩ := h2 j v hj
    refine ⟨t', ?_⟩
    rw [hg j (by omega), e, List.getD_eq_getElem?_getD, List.getD_eq_getElem?_getD, List.getElem?_take, if_pos (by omega)]
  · rw [List.getElem?_append_right (by omega)] at hj
    have hj0 : j = i := by
      have := (List.getElem?_eq_some_iff.mp hj).1
      rw [List.length_singleton] at this
      omega
    subst hj0
    rw [hi, Nat.sub_self] at hj
    cases hj
    exact ⟨t, by rw [hg j (Nat.le_refl _), hx]⟩
theorem is6_is {w : World} {o : Obj} (h : Is6 w o) : ∃ k1 k2 k3 k4 k5 k6 v1 v2 v3 v4 v5 v6, o = d6 w.params k1 k2 k3 k4 k5 k6 v1 v2 v3 v4 v5 v6 := h.out
theorem is8_is {w : World} {o : Obj} (h : Is8 w o) : ∃ k1 k2 k3 k4 k5 k6 k7 k8 v1 v2 v3 v4 v5 v6 v7 v8, o = d8 w.params k1 k2 k3 k4 k5 k6 k7 k8 v1 v2 v3 v4 v5 v6 v7 v8 := h.out
theorem off1_mem {D : Addr} : ∀ {l : List (Addr × Obj)}, LCg.Off1 D l → ∀ p ∈ l, p.1 ≠ D
  | [], _, _, h => nomatch h
  | _ :: _, x, p, h => by
    rcases List.mem_cons.mp h with rfl | h
    · exact x.1
    · exact off1_mem x.2 p h
theorem kw_74 : True := by
  k_with "call ref" => (k_here; (with_reducible show wpAny _ _ (call (Value.ref 189) _) _ _ _); (refine' ClT.use (stemW ?p1 ?p2 ?p3 ?p4) ?Y ?TB ?B ?F ?X ?N ?hs ?T ?KD ?T0 ?hk ?hd ?hu ?_; walk_at "my_ct_go"; (case p1 => assumption); (case p2 => assumption); (case p3 => assumption); (case p4 => assumption)); rintro _ _ _ _ _ ⟨_, _, h1, h2, _, _, h3⟩ _ _ _ _ _ _ _; subst h1 h2 h3)
  trivial
theorem kw_75 : True := by
  k_with "eval ListComp" => (k_here; refine Stop.mk ?_)
  trivial
section
variable {w : World} {mean : ExcName → Option Value} {mg mb : Str → Option Value}
theorem stemWs {x d lw : Addr} {od : Obj} {ws : List Value} {xs : List Str} {k : Nat} {rest : List (Addr × Obj)} (hws : WordsAre ws xs) (hlen : ∀ y ∈ xs, y.length ≤ 1000) (h0 : 0 < ws.length) (h1 : ws.length ≤ 1000) (hlw : (lw, listOf ws.toArray k) ∈ rest) (hxd : x ≠ d) (hr : ∀ p ∈ rest, p.1 ≠ d) (ho : Is6 w od) :
    Cl0 w mean mg mb 194 [.ref x, .ref lw] ((x, instObj 852 d) :: (d, od) :: rest) 15 100 fun v news' => ∃ D ys od', v = .ref D ∧ WordsAre ys (xs.map w4) ∧ Is8 w od' ∧ (∀ p ∈ rest, p.1 ≠ D) ∧ x ≠ D ∧ d ≠ D ∧ news' = ((x, instObj 852 d) :: (d, od') :: (D, listOf ys.toArray ys.length) :: rest) := by
  dsimp only [Cl0]
  k_fill
  intro dp un gd cn cs a ccd cl A₀ base h₀ L m s Q E Y TB B F X N T hk hd1 hu hret
  have XB := kv_says Y
  refine wpAny_call ?_
  k_dflt (refine' code_cellsT ?k1 ?k2 ?k3 ?k4 ?k5 ?XB ?TB ?D ?T0 ?kA ?kF ?kK ?k6 ?k7 ?k8 ?k9 ?kB ?kD ?_ ?c2 ?c3 ?c4; (case kA => exact rfl); (case kF => exact rfl); (case kK => assumption); (case k1 => k_asm); (case k2 => k_asm); (case k3 => k_asm); (case k4 => k_asm); (case k5 => k_asm); (case XB => assumption); (case TB => assumption); (case D => exact ktsDicts_nil); (case T0 => exact KtsTurn.refl); (case k6 => k_is); (case k7 => k_is); (case k8 => ktr_room); (case k9 => exact BindsTo.of_eq rfl); (case kB => exact rfl); (case kD => decide +kernel); (case c2 => exact rfl); (case c3 => exact rfl); (case c4 => exact rfl))
  intro g9 L9 h9 tk9 cells9 FG9 F9 N9 Y9 B9 X9 T9 D9 l9
  k_cells Y9
  rename_i c9 hc9
  simp only [List.cons_append, List.nil_append] at N9
  have hc9 : c9.data = .cell (some (.ref x)) := hc9
  obtain ⟨m9, hm9, F9⟩ : ∃ m9 : Str → Option Value, m9 (Str.ofString "words") = some (.ref lw) ∧ Fr g9 L9 h9 m9 := ⟨_, rfl, F9⟩
  have N9 : News g9 L9 h9 ((L9 + 1, c9) :: (x, instObj 852 d) :: (d, od) :: rest) := N9
  (try dsimp only)
  k_steps
  refine Stop.un ?_
  refine' listComp_T (ax := lw) (its := ws.toArray) (news := (L9 + 1, c9) :: (x, instObj 852 d) :: (d, od) :: rest) (fun g => KtsTurn ([envX cn cs L a ccd cl].filterMap (·.frame)) g9 g ∧ Below (ktrTop dp un gd cn cs L a ccd cl []) base [envX cn cs L a ccd cl] g ∧ (KV w.params).In g ∧ Top qV LS mean mg mb g ∧ KtsDicts ([envX cn cs L a ccd cl].filterMap (·.frame)) g)
    (fun ys nw => ∃ od', nw = (L9 + 1, c9) :: (x, instObj 852 d) :: (d, od') :: rest ∧ (Is8 w od' ∨ (ys = [] ∧ Is6 w od')) ∧ WordsAre ys ((xs.map w4).take ys.length)) ?hh ?hsz ?hS ?G0 ?F ?N ?S0 ?c1 ?c2 ?c3 ?c4 ?c5 ?hi ?turn ?fin
  case hh => with_unfolding_all rfl
  case hsz => rw [List.size_toArray]; exact Nat.le_trans h1 (by decide)
  case hS =>
    rintro ys nw ⟨od', rfl, _⟩
    exact ⟨_, .tail _ (.tail _ (.tail _ hlw)), rfl, _, rfl⟩
  case G0 => exact ⟨KtsTurn.refl, B9, X9, T9, D9⟩
  case F => exact F9
  case N => exact N9
  case S0 => exact ⟨od, rfl, .inr ⟨rfl, ho⟩, rfl, fun i v h => by simp at h⟩
  case c1 => with_unfolding_all rfl
  case c2 => decide
  case c3 => rfl
  case c4 => decide
  case c5 => rfl
  case hi => exact nameX_L F9 hm9 ⟨rfl, rfl⟩
  case fin =>
    rintro g D h tk ys nw ⟨gT, gB, gX, gP, gD⟩ hle ⟨od', rfl, hod, hys⟩ FV NV off1
    rw [List.size_toArray] at hle
    have hod : Is8 w od' := hod.elim id fun h => by rw [h.1] at hle; simp at hle; omega
    have om := off1_mem off1
    rw [List.take_of_length_le (by rw [List.length_map, ← hws.1, hle]; exact Nat.le_refl _)] at hys
    dsimp only
    k_steps
    rename_i kg kT kF kN kB kX₀ kP kD kX
    have z := turn_nil kT kF kN
    refine hret _ _ _ _ ⟨D, ys, od', rfl, hys, hod, fun p hp => om p (.tail _ (.tail _ (.tail _ hp))), om _ (.tail _ (.head _)), om _ (.tail _ (.tail _ (.head _))), rfl⟩ z.1 fun p hp => z.2 p ?_
    rcases List.mem_cons.mp hp with rfl | hp
    · exact .tail _ (.tail _ (.head _))
    rcases List.mem_cons.mp hp with rfl | hp
    · exact .tail _ (.tail _ (.tail _ (.head _)))
    rcases List.mem_cons.mp hp with rfl | hp
    · exact .head _
    · exact .tail _ (.tail _ (.tail _ (.tail _ hp)))
  case turn =>
    rintro g ys nw v I oI C oC D m₂ h tk E' ⟨gT, gB, gX, gP, gD⟩ hv ⟨od', rfl, hod, hys⟩ hoC hm2 FV NV off ne
    have hyl : ys.length < ws.length := by simpa using (Array.getElem?_eq_some_iff.mp hv).1
    obtain ⟨tv, rfl⟩ := hws.2 ys.length v (by simpa using hv)
    have hxl : ys.length < xs.length := hws.1 ▸ hyl
    have hw : (xs.getD ys.length ⟨#[]⟩).length ≤ 1000 := by
      rw [List.getD_eq_getElem?_getD, List.getElem?_eq_getElem hxl]
      exact hlen _ (List.getElem_mem hxl)
    have hgd : (xs.map w4).getD ys.length ⟨#[]⟩ = w4 (xs.getD ys.length ⟨#[]⟩) := by
      rw [List.getD_eq_getElem?_getD, List.getD_eq_getElem?_getD, List.getElem?_map, List.getElem?_eq_getElem hxl]
      rfl
    have ho' : Is6 w od' ∨ Is8 w od' := hod.elim .inr fun h => .inl h.2
    have om := off.mem
    have NN : News g L9 h ((x, instObj 852 d) :: (d, od') :: (I, oI) :: (C, oC) :: (D, LCg.lst ys) :: (L9 + 1, c9) :: rest) := fun p hp => NV p (by simp only [List.mem_cons] at hp ⊢; rcases hp with h | h | h | h | h | h | h <;> simp only [h, true_or, or_true])
    clear NV
    have hr' : ∀ p ∈ (I, oI) :: (C, oC) :: (D, LCg.lst ys) :: (L9 + 1, c9) :: rest, p.1 ≠ d := fun p hp => by
      rcases List.mem_cons.mp hp with rfl | hp
      · exact Ne.symm (om (d, od') (.tail _ (.tail _ (.head _)))).1
      rcases List.mem_cons.mp hp with rfl | hp
      · exact Ne.symm (om (d, od') (.tail _ (.tail _ (.head _)))).2.1
      rcases List.mem_cons.mp hp with rfl | hp
      · exact Ne.symm (om (d, od') (.tail _ (.tail _ (.head _)))).2.2
      rcases List.mem_cons.mp hp with rfl | hp
      · exact ne_by (.inr (Nat.lt_succ_of_lt (l9 (d, od) (.tail _ (.head _)))))
      · exact hr p hp
    generalize xs.getD ys.length ⟨#[]⟩ = wd at hw hgd hm2
    have ho2 := ho'
    rcases ho2 with ho2 | ho2
    · obtain ⟨k1, k2, k3, k4, k5, k6, v1, v2, v3, v4, v5, v6, rfl⟩ := is6_is ho2
      k_steps
      rename_i t9 o9 hTu hFr hBe hKV hTo hKD hIs hNe
      refine ⟨_, _, _, _, rfl, ⟨hTu, hBe, hKV, hTo, hKD⟩, hFr, fun p hp => hNe p (by simp only [List.cons_append, List.nil_append, List.mem_cons] at hp ⊢; rcases hp with h | h | h | h | h | h | h <;> simp only [h, true_or, or_true]), LCg.Off3.of fun p hp => ?_, o9, rfl, .inl hIs.is, by rw [List.length_append]; exact words_snoc hys rfl hgd (by rw [List.length_map]; exact hxl)⟩
      rcases List.mem_cons.mp hp with rfl | hp
      · exact om _ (.head _)
      rcases List.mem_cons.mp hp with rfl | hp
      · exact om _ (.tail _ (.head _))
      rcases List.mem_cons.mp hp with rfl | hp
      · have z := om _ (.tail _ (.tail _ (.head _)))
        exact z
      · exact om p (.tail _ (.tail _ (.tail _ hp)))
    · obtain ⟨k1, k2, k3, k4, k5, k6, k7, k8, v1, v2, v3, v4, v5, v6, v7, v8, rfl⟩ := is8_is ho2
      k_steps
      rename_i t9 o9 hTu hFr hBe hKV hTo hKD hIs hNe
      refine ⟨_, _, _, _, rfl, ⟨hTu, hBe, hKV, hTo, hKD⟩, hFr, fun p hp => hNe p (by simp only [List.cons_append, List.nil_append, List.mem_cons] at hp ⊢; rcases hp with h | h | h | h | h | h | h <;> simp only [h, true_or, or_true]), LCg.Off3.of fun p hp => ?_, o9, rfl, .inl hIs.is, by rw [List.length_append]; exact words_snoc hys rfl hgd (by rw [List.length_map]; exact hxl)⟩
      rcases List.mem_cons.mp hp with rfl | hp
      · exact om _ (.head _)
      rcases List.mem_cons.mp hp with rfl | hp
      · exact om _ (.tail _ (.head _))
      rcases List.mem_cons.mp hp with rfl | hp
      · have z := om _ (.tail _ (.tail _ (.head _)))
        exact z
      · exact om p (.tail _ (.tail _ (.tail _ hp)))
end
theorem is6_of {w : World} {k1 k2 k3 k4 k5 k6 : Tok} {v1 v2 v3 v4 v5 v6 : Value} : Is6 w (d6 w.params k1 k2 k3 k4 k5 k6 v1 v2 v3 v4 v5 v6) := ⟨_, _, _, _, _, _, _, _, _, _, _, _, rfl⟩
theorem is8_of {w : World} {k1 k2 k3 k4 k5 k6 k7 k8 : Tok} {v1 v2 v3 v4 v5 v6 v7 v8 : Value} : Is8 w (d8 w.params k1 k2 k3 k4 k5 k6 k7 k8 v1 v2 v3 v4 v5 v6 v7 v8) := ⟨_, _, _, _, _, _, _, _, _, _, _, _, _, _, _, _, rfl⟩
theorem led4 {a b c d : Addr × Obj} {r : List (Addr × Obj)} : ∀ p ∈ [a, b, c, d], p ∈ a :: b :: c :: d :: r := fun p hp => by
  simp only [List.mem_cons, List.not_mem_nil, or_false] at hp ⊢
  rcases hp with h | h | h | h <;> simp only [h, true_or, or_true]
theorem ne4 {a b c e : Addr × Obj} {D : Addr} (h : a.1 < D ∧ b.1 < D ∧ c.1 < D ∧ e.1 < D) : ∀ p ∈ [a, b, c, e], p.1 ≠ D := fun p hp => by
  simp only [List.mem_cons, List.not_mem_nil, or_false] at hp
  rcases hp with rfl | rfl | rfl | rfl
  · exact Nat.ne_of_lt h.1
  · exact Nat.ne_of_lt h.2.1
  · exact Nat.ne_of_lt h.2.2.1
  · exact Nat.ne_of_lt h.2.2.2
theorem own4 {a b c d : Addr × Obj} {r : List (Addr × Obj)} : ∀ p ∈ r, p ∈ a :: b :: c :: d :: r := fun p hp => .tail _ (.tail _ (.tail _ (.tail _ hp)))
/-- how the law ends -/
noncomputable def LawEnd (s₁ : Shared) (fl : Flow) (s' : Shared) : Prop := ∃ h tk m', fl = .ret (.bool true) ∧ s' = { s₁ with heap := h, toks := tk } ∧ Fr s₁.heap s₁.heap.objs.size h m'
theorem ints_mem : ∀ {vs : List Value} {ns : List Int}, IntsAre vs ns → ∀ v ∈ vs, ∃ n t, v = Value.int n t
  | _, _, .nil, _, h => nomatch h
  | _, _, .cons _ _ r, v, h => by
    rcases List.mem_cons.mp h with rfl | h
    · exact ⟨_, _, rfl⟩
    · exact ints_mem r v h
theorem sm4 {b : Int} (h0 : 0 ≤ b) (h : b ≤ 8) : Builtin.Range.small 0 b 4 = true := by
  have : b = 0 ∨ b = 1 ∨ b = 2 ∨ b = 3 ∨ b = 4 ∨ b = 5 ∨ b = 6 ∨ b = 7 ∨ b = 8 := by omega
  rcases this with rfl | rfl | rfl | rfl | rfl | rfl | rfl | rfl | rfl <;> decide
theorem rs4 {b : Int} {n : Nat} (h0 : 0 ≤ b) (h : b ≤ 8) (hn : n = (b.toNat + 3) / 4) : Builtin.Range.rangeSize 0 b 4 = (n : Int) := by
  subst hn
  have : b = 0 ∨ b = 1 ∨ b = 2 ∨ b = 3 ∨ b = 4 ∨ b = 5 ∨ b = 6 ∨ b = 7 ∨ b = 8 := by omega
  rcases this with rfl | rfl | rfl | rfl | rfl | rfl | rfl | rfl | rfl <;> decide
theorem txts_words {b : Nat} : ∀ {vs : List Value}, Txts vs b → ∃ xs : List Str, WordsAre vs xs ∧ ∀ y ∈ xs, y.length ≤ b
  | [], _ => ⟨[], ⟨rfl, fun i v h => by simp at h⟩, List.forall_mem_nil _⟩
  | v :: vs, h => by
    obtain ⟨x, t, rfl, hx⟩ := h.out v (.head _)
    obtain ⟨xs, ⟨h1, h2⟩, h3⟩ := txts_words (b := b) (vs := vs) ⟨fun v hv => h.out v (.tail _ hv)⟩
    refine ⟨x :: xs, ⟨by rw [List.length_cons, List.length_cons, h1], fun i v hi => ?_⟩, List.forall_mem_cons.mpr ⟨hx, h3⟩⟩
    cases i with
    | zero => cases hi; exact ⟨t, rfl⟩
    | succ i => exact h2 i v hi
section
variable {prog : Program} {w : World} {A : Around} {E : Value → Shared → Prop} {s : Shared} {a b : Addr} {vs us : List Value} {xs : List Str} {Q : Value → Shared → Prop}
theorem ne_same {x : Str} {t u : Tok} (h : Q (.bool false) s) : wpAny (model prog w) A (compareOp .NotEq (.str x t) (.str x u)) Q E s := PySem.P.ne_str (by rw [bne_self_eq_false]; exact h)
theorem eq_same {x : Str} {t u : Tok} (h : Q (.bool true) s) : wpAny (model prog w) A (compareOp .Eq (.str x t) (.str x u)) Q E s := PySem.P.eq_str (by rw [beq_self_eq_true]; exact h)
theorem ne_words (ha : s.heap.IsList a vs.toArray) (hb : s.heap.IsList b us.toArray) (hi : WordsAre vs xs) (hj : WordsAre us xs) (hu : A.units < cLine) (h : Q (.bool false) s) :
    wpAny (model prog w) A (compareOp .NotEq (.ref a) (.ref b)) Q E s := by
  refine SeqAt.RcNeAt.lists (e := fun _ => true) ha hb (by rw [List.size_toArray, List.size_toArray, hi.1, hj.1]) hu (fun j h1 h2 => ?_) prog w E Q ?_
  · rw [List.size_toArray] at h1 h2
    obtain ⟨t, e⟩ := hi.2 j vs[j] (List.getElem?_eq_getElem h1)
    obtain ⟨t', e'⟩ := hj.2 j us[j] (List.getElem?_eq_getElem h2)
    have z := SeqAt.EqAt.str_str (A := A.in1) (s := s) (xs.getD j ⟨#[]⟩) t (xs.getD j ⟨#[]⟩) t'
    rw [beq_self_eq_true, ← e, ← e'] at z
    exact z
  · have z : (!(List.range vs.toArray.size).all fun _ => true) = false := by simp
    rw [z]
    exact h
end
section
variable {prog : Program} {w : World} {A : Around} {E : Value → Shared → Prop} {s : Shared} {L : Addr} {m : Str → Option Value} {env : Env} {h₀ : Heap}
/-- a comprehension that is bound to a name at once -/
theorem assignComp_T {elt iter : Expr} {x y : Str} {px py : Pos} {scope : Scope} {cl : List (Str × Addr)} {pos spos : Pos} {ax : Addr} {its : Array Value} {news : List (Addr × Obj)} {Q : Flow → Shared → Prop}
    (Gd : Heap → Prop) (S : List Value → List (Addr × Obj) → Prop) (hh : A.handled = none) (hsz : its.size ≤ sizeLine)
    (hS : ∀ ys nw, S ys nw → ∃ o, (ax, o) ∈ nw ∧ o.cls = .type "list" ∧ ∃ n, o.data = .seq its n)
    (G₀ : Gd h₀) (F : Fr h₀ env.locals s.heap m) (N : News h₀ env.locals s.heap news) (S0 : S [] news)
    (hsw : swapsWith (.ListComp elt [⟨.Name x px, iter, [], 0⟩] scope pos) (some (.Name y py)) spos.line env = pure true)
    (hclos : closureFor scope env = pure cl) (hcell : ∀ y ∈ scope.names, y.2 ≠ .cell) (hkind : scope.kind = .function)
    (hnames : ∀ y ∈ scope.names, y.2 = .local → scope.names.lookup y.1 = some .local) (hx : scope.names.lookup x = some .local)
    (hy : env.kindOf y = some .local) (hp : (env.scope.kind == .class || (env.scope.kind == .module && env.locals != env.globals)) = false)
    (hi : wpAny (model prog w) A (eval iter env) (fun v s₁ => v = .ref ax ∧ s₁ = s) E s)
    (turn : ∀ g ys nw v I oI C oC D m₂ h tk (E' : Value → Shared → Prop), Gd g → its[ys.length]? = some v → S ys nw → LCg.NsObj oC m₂ → m₂ x = some v → Fr g env.locals h m → News g env.locals h ((I, oI) :: (C, oC) :: (D, LCg.lst ys) :: nw) → LCg.Off3 I C D nw →
      ((@Ne Nat I C) ∧ (@Ne Nat I D) ∧ (@Ne Nat C D)) →
      wpAny (model prog w) A (eval elt (compEnvC scope cl C env)) (TEnd Gd env.locals m { s with heap := h, toks := tk } I C D [(I, oI), (C, oC), (D, LCg.lst ys)] fun y nw' => S (ys ++ [y]) nw') E' { s with heap := h, toks := tk })
    (fin : ∀ g D h tk ys nw, Gd g → ys.length = its.size → S ys nw → Fr g env.locals h (fun z => if z = y then some (.ref D) else m z) → News g env.locals h ((D, LCg.lst ys) :: nw) → LCg.Off1 D nw → Q .next { s with heap := h, toks := tk })
    (hs : ∀ x, foldedSetIterable iter env x = pure x := by intro _; rfl) :
    wpAny (model prog w) A (exec (.Assign [.Name y py] (.ListComp elt [⟨.Name x px, iter, [], 0⟩] scope pos) spos) env) Q E s := by
  rw [exec_Assign_Name_used _ _ _ _ hsw]
  refine wpAny_bind (wpAny_standAt (wpAny_bind ?_))
  show wpAny _ A (do let _ ← comprehension (.ListComp elt [⟨.Name x px, iter, [], 0⟩] scope pos) scope env _ (newList []) false (eval iter env) (some (assign (.Name y py) env))) _ _ s
  refine wpAny_bind (wpAny_mono (wpAny_comprehension_free (use := some (assign (.Name y py) env)) (Q := fun _ s' => Q .next s') rfl hs hclos hkind hnames
    (wpAny_mono hi (fun xv s₁ h₁ => ?_) fun _ _ e => e)) (fun _ s' hq => wpAny_pure (wpAny_pure hq)) fun _ _ e => e)
  obtain ⟨rfl, rfl⟩ := h₁
  obtain ⟨oa, hma, hac, na, had⟩ := hS _ _ S0
  refine wpAny_pyIter_list ⟨oa, (N _ hma).1, hac, na, had⟩ ?_
  have up : ∀ b o, s₁.heap.get? b = some o → (s₁.heap.push { cls := .type "list_iterator", data := .fields #[.ref ax, .int 0 0] }).get? b = some o := fun b o e => Heap.get?_push_of_some _ e
  have hlt : ax < s₁.heap.objs.size := Heap.lt_size (N _ hma).1
  refine block_T (I := s₁.heap.objs.size) (s := { s₁ with heap := s₁.heap.push { cls := .type "list_iterator", data := .fields #[.ref ax, .int 0 0] } }) (P := fun i v => its[i]? = some v) Gd S (Walks.list hh s₁.heap.objs.size ax (Nat.ne_of_lt hlt) its) hsz (fun i h st => let ⟨o, e, _⟩ := st.1; ⟨o, e⟩) (fun i g ys h h' o nw st e e' N' hS' => ?_) hcell hkind hx
    ⟨⟨_, Heap.get?_push_size _ rfl, rfl, rfl⟩, ⟨oa, up _ _ (N _ hma).1, hac, na, had⟩⟩ (fun b hb => ?_) G₀ (F.keeps up) (N.grown up) (next_is_new F) (Nat.ne_of_lt F.ns.lt) (fun p hp => Nat.ne_of_lt (Heap.lt_size (N p hp).1)) S0 turn ?_
  · obtain ⟨o', q, r⟩ := st.1
    rw [e] at q; cases q
    obtain ⟨oa, hma, hac, na, had⟩ := hS _ _ hS'
    exact ⟨⟨o, e', r⟩, ⟨oa, (N' _ hma).1, hac, na, had⟩⟩
  · show b < (s₁.heap.push _).objs.size
    rw [Heap.size_push]
    rcases List.mem_cons.mp hb with rfl | hb
    · exact Nat.lt_succ_self _
    · rw [List.mem_singleton.mp hb]; exact Nat.lt_succ_of_lt hlt
  · intro g D C h tk m' ys nw hg hle hS' F' N' o1 hn gC hCL hDL hCD offC
    show wpAny _ A (assign (.Name y py) env (.ref D)) _ _ _
    refine wpAny_assign_Name (wpAny_storeName_local hy F'.ns (fun h₂ hn₂ hs₂ => ?_) hp)
    refine ⟨m', hn.sameBut hs₂ hCL, fun h'' hs'' => fin g D h'' _ ys nw hg hle hS' ((F'.set hn₂ hs₂).change hs'' hCL gC) (fun p hp => ?_) o1⟩
    have z := (N'.set hs₂) p hp
    refine ⟨hs''.extBut _ _ ?_ z.1, z.2⟩
    rcases List.mem_cons.mp hp with rfl | hp
    · exact Ne.symm hCD
    · exact offC p hp
end
section
variable {prog : Program} {w : World} {A : Around} {E : Value → Shared → Prop} {s : Shared} {env : Env} {h₀ : Heap} {x : Str} {body : List Stmt} {Q : Flow → Shared → Prop}
noncomputable def IEnd {σ : Type} (h₀ : Heap) (L : Addr) (s : Shared) (Led : σ → List (Addr × Obj)) (own : List (Addr × Obj)) (ps : σ → List (Str × Value)) (P : σ → Prop) (s₂ : Shared) : Prop :=
  ∃ (c' : σ) (h' : Heap) (tk : Nat) (m' : Str → Option Value) (news' : List (Addr × Obj)), s₂ = { s with heap := h', toks := tk } ∧ Fr h₀ L h' m' ∧ News h₀ L h' news' ∧ (∀ p ∈ Led c', p ∈ news') ∧ (∀ p ∈ own, p ∈ news') ∧ (∀ p ∈ ps c', m' p.1 = some p.2) ∧ P c'
noncomputable def IPost {σ : Type} (h₀ : Heap) (L : Addr) (s : Shared) (Led : σ → List (Addr × Obj)) (own : List (Addr × Obj)) (ps : σ → List (Str × Value)) (P : σ → Prop) (Q : Flow → Shared → Prop) (f : Flow) (s₂ : Shared) : Prop :=
  match f with
  | .ret v => Q (.ret v) s₂
  | .brk => Q .next s₂
  | _ => IEnd h₀ L s Led own ps P s₂
/-- a for over a short range whose turns may change what the ledger holds -/
theorem up_inv {σ : Type} {r : Addr} {b₀ : Int} {t₀ u₀ v₀ : Tok} {n : Nat} {m₀ : Str → Option Value} {news : List (Addr × Obj)} (Led : σ → List (Addr × Obj)) (ps : σ → List (Str × Value)) (P : Nat → σ → Prop) (c₀ : σ)
    (hh : A.handled = none) (hr : IsRange s.heap r 0 b₀ 1 t₀ u₀ v₀) (hsmall : Builtin.Range.small 0 b₀ 1 = true) (hn : Builtin.Range.rangeSize 0 b₀ 1 = (n : Int)) (F : Fr h₀ env.locals s.heap m₀) (N : News h₀ env.locals s.heap news)
    (hadr : ∀ c, (Led c).map (·.1) = (Led c₀).map (·.1)) (hs : ∀ p ∈ Led c₀, p ∈ news) (hm : ∀ p ∈ ps c₀, m₀ p.1 = some p.2) (hp : P 0 c₀)
    (turn : ∀ (c : σ) (i : Nat) (t : Tok) (u : Str → Option Value) h tk own, i < n → P i c → OwnOff own ((Led c₀).map (·.1)) → Fr h₀ env.locals h (fun y => if y = x then some (.int (i : Int) t) else kstB u (ps c) y) → News h₀ env.locals h (Led c ++ own) →
      wpAny (model prog w) A (execs body env) (IPost h₀ env.locals { s with heap := h, toks := tk } Led own ps (P (i + 1)) Q) E { s with heap := h, toks := tk })
    (done : ∀ (c : σ) (u : Str → Option Value) h tk, P n c → Fr h₀ env.locals h (kstB u (ps c)) → News h₀ env.locals h (Led c) → Q .next { s with heap := h, toks := tk }) :
    wpAny (model prog w) A (pyIter (.ref r)) (fun it s₂ => LoopAtV prog w A h₀ env x body Q E it s₂) E s := by
  refine wpAny_pyIter_range hr hsmall ?_
  have W : Walks prog w A s.heap.objs.size [s.heap.objs.size] [s.heap.objs.size] n (fun i v => i < n ∧ ∃ t, v = .int (0 + i * 1) t)
      (fun i h => IsRangeIter h s.heap.objs.size (0 + (i : Nat) * 1) ((n : Int) - (i : Nat)) 1) := (Walks.range hh _ 0 1 n).bound
  have off : ∀ p ∈ Led c₀, p.1 ∉ [s.heap.objs.size] := fun p hp hI => absurd (Heap.lt_size (N p (hs p hp)).1) ((List.mem_singleton.mp hI) ▸ Nat.lt_irrefl _)
  refine loop_invN (news := Led c₀) (fun i m nx => ∃ c : σ, nx = Led c ∧ (∀ p ∈ ps c, m p.1 = some p.2) ∧ P i c) W ?_ ?_ off off (by show IsRangeIter _ _ _ _ _; rw [hn]; simpa using Heap.get?_push_size _ rfl) (F.push _) (fun p hp => ⟨Heap.get?_push_of_some _ (N p (hs p hp)).1, (N p (hs p hp)).2⟩) ⟨c₀, rfl, hm, hp⟩ ?_ ?_
  · intro hm
    exact absurd F.ns.lt ((List.mem_singleton.mp hm) ▸ Nat.lt_irrefl _)
  · intro b hb
    rw [List.mem_singleton.mp hb]
    exact next_is_new F
  · rintro i v m₁ nx h tk own hi ⟨_, t, rfl⟩ _ hoff ⟨c, rfl, hm', hp'⟩ F₁ N₁
    have e1 : (0 : Int) + (i : Int) * 1 = (i : Int) := by omega
    rw [← kstB_self hm', e1] at F₁
    refine wpAny_mono (turn c i t m₁ h tk own hi hp' hoff F₁ N₁) (fun f s₂ q => ?_) fun _ _ e => e
    have fin : IEnd h₀ env.locals { s with heap := h, toks := tk } Led own ps (P (i + 1)) s₂ → InvEndN h₀ env.locals (fun m nx' => ∃ c : σ, nx' = Led c ∧ (∀ p ∈ ps c, m p.1 = some p.2) ∧ P (i + 1) c) own ((Led c₀).map (·.1)) { s with heap := h, toks := tk } s₂ := by
      rintro ⟨c', h', tk', m', news', e, F', N', a, b, hm9, hp9⟩
      exact ⟨h', tk', m', news', Led c', e, F', N', a, b, hadr c', c', rfl, hm9, hp9⟩
    cases f with
    | ret v => exact q
    | brk => exact q
    | next => exact fin q
    | cont => exact fin q
  · rintro m₁ nx h tk ⟨c, rfl, hm', hp'⟩ F₁ N₁
    rw [← kstB_self hm'] at F₁
    exact done c m₁ h tk hp' F₁ N₁
end
section
variable {w : World} {A : Around} {E : Value → Shared → Prop} {s : Shared} {h₀ : Heap} {L l : Addr} {news : List (Addr × Obj)} {vs : List Value} {xs : List Str} {k0 : Nat}
theorem len_words {Q : Value → Shared → Prop} (N : News h₀ L s.heap news) (hm : (l, listOf vs.toArray k0) ∈ news) (hv : WordsAre vs xs) (hs : xs.length ≤ 1000) (h : Q (.int xs.length (s.toks + 1)) { s with toks := s.toks + 1 + 1 }) :
    wpAny (model PySem.Challenge.rw_ai0034_01.row.prog w) A (call (.builtin "len") [.ref l]) Q E s := by
  have e : vs.toArray.size = xs.length := by rw [List.size_toArray, hv.1]
  refine len_list ⟨_, (N _ hm).1, rfl, ⟨_, rfl⟩⟩ ?_ ?_
  · rw [e]; omega
  · rw [e]; exact h
theorem item_words {value slice : PySem.Expr} {k : Int} {u : Tok} {Q : Value → Shared → Prop} (N : News h₀ L s.heap news) (hm : (l, listOf vs.toArray k0) ∈ news) (hv : WordsAre vs xs) (hs' : xs.length ≤ 1000) (h0 : 0 ≤ k) (h1 : k < xs.length)
    (h : ∀ t, Q (.str (xs.getD k.toNat ⟨#[]⟩) t) s)
    (hs : subscripted slice false (.ref l) (.int k u) = operate [.ref l, .int k u] (getItem (.ref l) (.int k u)) := by first | with_reducible rfl | rfl) :
    wpAny (model PySem.Challenge.rw_ai0034_01.row.prog w) A (subscriptTail value slice (.ref l) (.int k u)) Q E s := by
  have hl : s.heap.IsList l vs.toArray := ⟨_, (N _ hm).1, rfl, ⟨_, rfl⟩⟩
  have hk : k.toNat < vs.length := by rw [hv.1]; omega
  obtain ⟨t, e⟩ := hv.2 k.toNat vs[k.toNat] (List.getElem?_eq_getElem hk)
  refine tail_any hl.typeIs slot_list_getitem.lookup (getItem_listL hl h0 (by omega) ?_ (h t)) hs
  rw [List.getElem?_eq_getElem hk, e]
theorem item_due {value slice : PySem.Expr} {k : Int} {u : Tok} {Q : Value → Shared → Prop} (N : News h₀ L s.heap news) (hm : (l, listOf vs.toArray k0) ∈ news) (hv : WordsAre vs (xs.map w4)) (hs' : xs.length ≤ 1000) (h0 : 0 ≤ k) (h1 : k < xs.length)
    (h : ∀ t, Q (.str (w4 (xs.getD k.toNat ⟨#[]⟩)) t) s)
    (hs : subscripted slice false (.ref l) (.int k u) = operate [.ref l, .int k u] (getItem (.ref l) (.int k u)) := by first | with_reducible rfl | rfl) :
    wpAny (model PySem.Challenge.rw_ai0034_01.row.prog w) A (subscriptTail value slice (.ref l) (.int k u)) Q E s := by
  refine item_words N hm hv (by rw [List.length_map]; exact hs') h0 (by rw [List.length_map]; exact h1) (fun t => ?_) hs
  have hk : k.toNat < xs.length := by omega
  have e : (xs.map w4).getD k.toNat ⟨#[]⟩ = w4 (xs.getD k.toNat ⟨#[]⟩) := by
    rw [List.getD_eq_getElem?_getD, List.getD_eq_getElem?_getD, List.getElem?_map, List.getElem?_eq_getElem hk]
    rfl
  rw [e]
  exact h t
end
theorem kw_76 : True := by
  k_with "call ref" => (k_here; (with_reducible show wpAny _ _ (call (Value.ref 899) _) _ _ _); refine Stop.mk ?_)
  trivial
theorem kw_77 : True := by
  k_with "call ref" => (k_here; (with_reducible show wpAny _ _ (call (Value.ref 906) _) _ _ _); refine Stop.mk ?_)
  trivial
theorem kw_78 : True := by
  k_with "call ref" => (k_here; (with_reducible show wpAny _ _ (call (Value.ref 194) _) _ _ _); refine Stop.mk ?_)
  trivial
theorem kw_79 : True := by
  k_with "call ref" => (k_here; (with_reducible show wpAny _ _ (call (Value.ref 49) _) _ _ _); k_dflt (refine' Cl.use getcur ?Y ?B ?F ?X ?N ?hs ?T ?hk ?hd ?hu ?_; walk_at "my_cl_go"); rintro _ _ _ _ ⟨h1, h2⟩ _ _; subst h1 h2)
  trivial
theorem kw_80 : True := by
  k_with "call ref" => (k_here; (with_reducible show wpAny _ _ (call (Value.ref 189) _) _ _ _); refine Stop.mk ?_)
  trivial
theorem kw_81 : True := by
  k_with "call ref" => (k_here; (with_reducible show wpAny _ _ (call (Value.ref 189) _) _ _ _); k_dflt (refine' ClT.use0 (stemW8 ?p1 ?p2 ?p3) ?Y ?TB ?B ?F ?X ?N ?hs ?T ?hk ?hd ?hu ?_; (case Y => with_reducible assumption); (case TB => assumption); (case B => k_asm); (case F => k_asm); (case X => k_asm); (case N => k_asm); (case hs => exact fun p hp => hp); (case T => k_asm); (case hk => first | exact rfl | assumption); (case hd => ktr_room); (case hu => ktr_units); (case p1 => assumption); (case p2 => first | assumption | k_ne); (case p3 => first | assumption | k_all)); rintro _ _ _ _ ⟨_, _, h1, h2, _, _, _, _, _, _, _, _, _, h3⟩ _ _; subst h1 h2 h3)
  trivial
theorem kw_82 : True := by
  k_with "call builtin:len" => (k_here; (with_reducible show wpAny _ _ (call (Value.builtin _) [Value.ref _]) _ _ _); k_dflt (refine' len_words ?N ?m ?v ?z ?_; (case N => k_asm); (case m => k_mem); (case v => assumption); (case z => omega); k_whole))
  trivial
theorem kw_83 : True := by
  k_with "subscriptTail" => (k_here; (with_reducible show wpAny _ _ (subscriptTail _ _ (Value.ref _) (Value.int _ _)) _ _ _); k_dflt (refine' item_words ?N ?m ?v ?z ?i0 ?i1 ?_; (case N => k_asm); (case m => k_mem); (case v => with_reducible assumption); (case z => omega); (case i0 => omega); (case i1 => omega); k_whole); intro _)
  trivial
theorem kw_84 : True := by
  k_with "subscriptTail" => (k_here; (with_reducible show wpAny _ _ (subscriptTail _ _ (Value.ref _) (Value.int _ _)) _ _ _); k_dflt (refine' item_due ?N ?m ?v ?z ?i0 ?i1 ?_; (case N => k_asm); (case m => k_mem); (case v => with_reducible assumption); (case z => omega); (case i0 => omega); (case i1 => omega); k_whole); intro _)
  trivial
theorem kw_85 : True := by
  k_with "compareOp NotEq str str" => (k_here; k_dflt (with_reducible refine ne_same ?_))
  trivial
theorem kw_86 : True := by
  k_with "compareOp Eq str str" => (k_here; k_dflt (with_reducible refine eq_same ?_))
  trivial
theorem kw_87 : True := by
  k_with "compareOp NotEq ref ref" => (k_here; refine Stop.mk ?_)
  trivial
theorem kw_88 : True := by
  k_with "call ref" => (k_here; (with_reducible show wpAny _ _ (call (Value.ref 934) _) _ _ _); k_dflt (refine' Cl.use (lstem ?p1) ?Y ?B ?F ?X ?N ?hs ?T ?hk ?hd ?hu ?_; walk_at "my_cl_go"; (case p1 => first | assumption | decide)); rintro _ _ _ _ ⟨_, _, h1, h2, h3⟩ _ _; subst h1 h2 h3)
  trivial
theorem kw_89 : True := by
  k_with "binaryOp Add ref ref" => (k_here; refine Stop.mk ?_)
  trivial
theorem kw_90 : True := by
  k_with "exec Assign cons ListComp" => (k_here; refine Stop.mk ?_)
  trivial
theorem lw : PySem.Challenge.rw_ai0034_01.Holds := by
  refine head fun d kwd e1 e2 => ?_
  have e3 := e1.symm.trans (rfl : defOf qV (Str.ofString "law") = some (_, _))
  cases e3
  clear e1 e2
  intro w s₀ s₁ mg mb G Y fa o pm cd doc dV kV ho hd hcd hD hmg hg args vals as hpre hlay hrd hwl hlo
  have KX := kv_says Y
  revert KX
  k_fill
  intro KX
  have XX := (Ground.X G).1
  have VV := (Ground.X G).2
  refine Ground.open G ?_
  intro TT BB D TE TW
  try (refine guard_noD D (by decide +kernel) ?_; clear D)
  obtain ⟨wM, oM, MM⟩ := bmod_of_top TT
  have TA := at_of_top TT
  obtain ⟨_, _, he, B0⟩ := based_of_top TT rfl hmg ho hd
  have he' : cd = _ := he
  subst he'
  clear he
  clear hmg
  wrow_args hpre hlay hrd hwl hlo
  all_goals (
    first | refine callC_kw (enter_call ?_) | refine enter_call ?_ | refine callC_kw (enter_callW ?_) | refine enter_callW ?_ | w_how
    w_top on
    try refine codeAny_mono ?_ (fun _ _ g => GoodW.toG g)
    have K0 := below_caller (Top.heap TT)
    w_call any ho hd hcd hD TT F0
    clear hd TA
    k_drop
    skip)
  k_fold
  rename_i wc wd ns hs0 hlay1 hL1 hr1 hl2 wq1 wq2 aS vS asS hL0 ra0 w10 r00 hI0 hr0 hc1 hc2 h₁ tk₁ oe os dE dS N0 X0
  have K1 : Below callerA s₁.heap [] s₁.heap := below_caller s₁.heap
  have dE' : oe.data = .cell none := dE
  have dS' : os.data = .cell (some (.ref aS)) := dS
  obtain ⟨m0, F1⟩ : ∃ m0, Fr s₁.heap s₁.heap.objs.size h₁ m0 := ⟨_, F0⟩
  clear K0 F0 dE dS X0
  refine wpAny_mono (Q := LawEnd s₁) ?_ ?good (fun _ _ h => h)
  case good =>
    rintro _ _ ⟨h, tk, m', rfl, rfl, FH⟩
    clear F1 N0
    dsimp only [qk]
    k_steps
  clear MM ra0 w10 r00 hr0 hs0 hlay1 hL1 hr1 hl2 BB TE TW VV XX hD hc2
  k_steps
  rename_i hA FA NA
  obtain ⟨x, d, od, hxd, hLd, h6, FB, NB⟩ : ∃ x d od, (@LT.lt Nat _ d x) ∧ (@LT.lt Nat _ (s₁.heap.objs.size + 1 + 1) d) ∧ Is6 w od ∧ Fr s₁.heap s₁.heap.objs.size hA (fun y => if y = Str.ofString "stemmer" then some (.ref x) else m0 y) ∧ News s₁.heap s₁.heap.objs.size hA [(x, instObj 852 d), (d, od), (s₁.heap.objs.size + 1 + 1, oe), (s₁.heap.objs.size + 1, os)] :=
    ⟨_, _, _, by assumption, And.left (b := s₁.heap.objs.size + 1 < _) (by assumption), is6_of, FA, NA⟩
  clear FA NA
  refine Stop.un ?_
  refine' Cl.use lends ?Y ?B ?F ?X ?N ?hs ?T ?hk ?hd ?hu ?_
  walk_at "my_cl_go"
  rintro v nw h2 tk2 ⟨le, ts, rfl, hts, hlt9, rfl⟩ F2 N2
  have q1 : @LT.lt Nat _ x le := hlt9 _ (.head _)
  have q2 : @LT.lt Nat _ d le := hlt9 _ (.tail _ (.head _))
  have q3 : @LT.lt Nat _ (s₁.heap.objs.size + 1 + 1) le := hlt9 _ (.tail _ (.tail _ (.head _)))
  have q4 : @LT.lt Nat _ (s₁.heap.objs.size + 1) le := hlt9 _ (.tail _ (.tail _ (.tail _ (.head _))))
  clear hlt9
  k_steps
  rename_i h3 oe3 FC NC dE3
  have NC : News s₁.heap s₁.heap.objs.size h3 [(le, listOf ts.toArray 0), (x, instObj 852 d), (d, od), (s₁.heap.objs.size + 1 + 1, oe3), (s₁.heap.objs.size + 1, os)] := NC
  have hnl : vS.length = ns.length := hI0.length
  refine Stop.un ?_
  refine' rangeComp_T (h₀ := s₁.heap) (L := s₁.heap.objs.size) (m := fun y => if y = Str.ofString "stemmer" then some (.ref x) else m0 y) 4 ((min ns.length 8 + 3) / 4) (fun g => g = s₁.heap) (fun ys nw => nw = [(le, listOf ts.toArray 0), (x, instObj 852 d), (d, od), (s₁.heap.objs.size + 1 + 1, oe3), (s₁.heap.objs.size + 1, os)] ∧ Txts ys 1000) ?hh ?hsz ?G0 ?c1 ?c2 ?c3 ?c4 ?c5 ?hi ?turn ?fin
  case hh => with_unfolding_all rfl
  case hsz => exact Nat.le_trans (by omega : (min ns.length 8 + 3) / 4 ≤ 2) (by decide)
  case G0 => rfl
  case c1 => with_unfolding_all rfl
  case c2 => decide
  case c3 => rfl
  case c4 => decide
  case c5 => rfl
  case hi =>
    k_steps
    rename_i hb tkb FB' NB' hR tkR t1 u1 v1 hIR FR NR hst
    refine ⟨_, _, _, _, _, _, _, _, rfl, rfl, FR, NR, ⟨rfl, Txts.nil⟩, hIR, ?_, ?_⟩
    · exact sm4 (by omega) (by omega)
    · exact rs4 (by omega) (by omega) (by omega)
  case turn =>
    rintro g ys nw v I oI C oC D m₂ h tk E' rfl ⟨hlt, t, rfl⟩ ⟨rfl, hys⟩ hoC hm2 FV NV off ne
    k_steps
    rename_i Ds ws hS FS NS hIS hCS hLS l1S
    obtain ⟨a1, a2, a3, a4, a5, a6, a7, a8⟩ := l1S
    refine Stop.un ?_
    refine' Cl.use (lword (its := ws) (ts := ts) (rest := (I, oI) :: (C, oC) :: (D, LCg.lst ys) :: [(le, listOf ts.toArray 0), (x, instObj 852 d), (d, od), (s₁.heap.objs.size + 1 + 1, oe3), (s₁.heap.objs.size + 1, os)]) (ints_mem hIS) ?p1 hts (.tail _ (.tail _ (.tail _ (.head _)))) ?p2) ?Y ?B ?F ?X ?N ?hs ?T ?hk ?hd ?hu ?_
    case p1 =>
      rw [hIS.length, List.length_take, List.length_drop]
      omega
    case p2 =>
      intro p hp
      simp only [List.mem_cons, List.not_mem_nil, or_false] at hp
      rcases hp with rfl | rfl | rfl | rfl | rfl | rfl | rfl | rfl
      · exact Nat.ne_of_lt a1
      · exact Nat.ne_of_lt a2
      · exact Nat.ne_of_lt a3
      · exact Nat.ne_of_lt a4
      · exact Nat.ne_of_lt a5
      · exact Nat.ne_of_lt a6
      · exact Nat.ne_of_lt a7
      · exact Nat.ne_of_lt a8
    walk_at "my_cl_go"
    rintro _ _ h5 tk5 ⟨xw, tw, rfl, hxw, rfl⟩ F5 N5
    k_steps
    exact ⟨_, _, _, _, rfl, rfl, by k_asm, N5, off, rfl, txts_app hys (Txts.cons ⟨_, _, rfl, hxw⟩ Txts.nil)⟩
  case fin =>
    rintro g D h tk ys nw rfl hyl ⟨rfl, hys⟩ FV NV off1
    have hys1 : ys.length = ys.length ∧ Txts ys 1000 := ⟨rfl, hys⟩
    have h32 : ys.length ≤ 2 := by omega
    clear hys hyl
    simp only [LCg.Off1, and_true] at off1
    k_steps
    rename_i lq hq FQ NQ ltq
    refine Stop.un ?_
    refine' add_txt (n := ys.length) (k := 1) (b := 1000) FQ NQ (HasT.led NQ (.tail _ (.head _)) hys1) (HasT.led NQ (.head _) ⟨rfl, Txts.cons ⟨_, _, rfl, by decide⟩ Txts.nil⟩) (by omega) ?_
    rintro lw ws hw hws ltw FW NW
    have w1 : @LT.lt Nat _ x lw := ltw _ (.tail _ (.tail _ (.tail _ (.head _))))
    have w2 : @LT.lt Nat _ d lw := ltw _ (.tail _ (.tail _ (.tail _ (.tail _ (.head _)))))
    obtain ⟨xs, hwx, hxl⟩ := txts_words hws.2
    have hwl : ws.length = ys.length + 1 := hws.1
    have hwn := hwx.1
    have NW : News s₁.heap s₁.heap.objs.size hw [(lw, listOf ws.toArray 0), (x, instObj 852 d), (d, od)] := fun p hp => NW p (by
      simp only [List.mem_cons, List.not_mem_nil, or_false] at hp ⊢
      rcases hp with h | h | h <;> simp only [h, true_or, or_true])
    clear ltw NQ FQ ltq off1 hws
    k_steps
    rename_i hF FF NN
    refine Stop.un ?_
    refine' assignComp_T (h₀ := s₁.heap) (ax := lw) (its := ws.toArray) (news := [(lw, listOf ws.toArray 0), (x, instObj 852 d), (d, od)]) (fun g => g = s₁.heap) (fun ds nw => nw = [(lw, listOf ws.toArray 0), (x, instObj 852 d), (d, od)] ∧ WordsAre ds ((xs.map w4).take ds.length)) ?ahh ?ahsz ?ahS ?aG ?aF ?aN ?aS0 ?asw ?ac1 ?ac2 ?ac3 ?ac4 ?ac5 ?ay ?ap ?ai ?aturn ?afin
    case ahh => with_unfolding_all rfl
    case ahsz => rw [List.size_toArray]; exact Nat.le_trans (by omega : ws.length ≤ 3) (by decide)
    case ahS =>
      rintro ds nw ⟨rfl, _⟩
      exact ⟨_, .head _, rfl, _, rfl⟩
    case aG => rfl
    case aF => exact FF
    case aN => exact NN
    case aS0 => exact ⟨rfl, rfl, fun i v h => by simp at h⟩
    case asw => with_unfolding_all rfl
    case ac1 => with_unfolding_all rfl
    case ac2 => decide
    case ac3 => rfl
    case ac4 => decide
    case ac5 => rfl
    case ay => rfl
    case ap => rfl
    case ai => exact nameX_L FF (by rfl) ⟨rfl, rfl⟩
    case aturn =>
      rintro g ds nw v I oI C oC D2 m₂ h tk E' rfl hv ⟨rfl, hds⟩ hoC hm2 FV NV off ne
      have hyl : ds.length < ws.length := by simpa using (Array.getElem?_eq_some_iff.mp hv).1
      obtain ⟨tv, rfl⟩ := hwx.2 ds.length v (by simpa using hv)
      have hxn : ds.length < xs.length := hwx.1 ▸ hyl
      have hwd : (xs.getD ds.length ⟨#[]⟩).length ≤ 1000 := by
        rw [List.getD_eq_getElem?_getD, List.getElem?_eq_getElem hxn]
        exact hxl _ (List.getElem_mem hxn)
      have hgd : (xs.map w4).getD ds.length ⟨#[]⟩ = w4 (xs.getD ds.length ⟨#[]⟩) := by
        rw [List.getD_eq_getElem?_getD, List.getD_eq_getElem?_getD, List.getElem?_map, List.getElem?_eq_getElem hxn]
        rfl
      generalize xs.getD ds.length ⟨#[]⟩ = wd at hwd hgd hm2
      k_steps
      exact ⟨_, _, _, _, rfl, rfl, by k_asm, by k_asm, off, rfl, by rw [List.length_append]; exact words_snoc hds rfl hgd (by rw [List.length_map]; exact hxn)⟩
    case afin =>
      rintro g Dd h tk ds nw rfl hdl ⟨rfl, hds⟩ FV NV off1
      rw [List.size_toArray] at hdl
      rw [List.take_of_length_le (by rw [List.length_map, ← hwx.1, hdl]; exact Nat.le_refl _)] at hds
      simp only [LCg.Off1, and_true] at off1
      have NV : News s₁.heap s₁.heap.objs.size h [(Dd, listOf ds.toArray ds.length), (lw, listOf ws.toArray 0), (x, instObj 852 d), (d, od)] := NV
      obtain ⟨k1, k2, k3, k4, k5, k6, v1, v2, v3, v4, v5, v6, rfl⟩ := is6_is h6
      k_steps
      refine Stop.un ?_
      have hxd' : x ≠ d := Nat.ne_of_gt hxd
      have hr2 : ∀ p ∈ [(Dd, listOf ds.toArray ds.length), (lw, listOf ws.toArray 0)], p.1 ≠ d := fun p hp => by
        simp only [List.mem_cons, List.not_mem_nil, or_false] at hp
        rcases hp with rfl | rfl
        · exact Ne.symm off1.2.2
        · exact Nat.ne_of_gt w2
      refine' Cl0.use (stemWs (rest := [(Dd, listOf ds.toArray ds.length), (lw, listOf ws.toArray 0)]) hwx hxl (by omega) (by omega) (.tail _ (.head _)) hxd' hr2 h6) ?Y ?TB ?B ?F ?X ?N ?hs ?T ?hk ?hd ?hu ?_
      case Y => exact Y
      case TB => exact TT
      case B => k_asm
      case F => k_asm
      case X => k_asm
      case N => k_asm
      case T => k_asm
      case hk => first | exact rfl | assumption
      case hd => ktr_room
      case hu => ktr_units
      case hs =>
        intro p hp
        simp only [List.mem_cons, List.not_mem_nil, or_false] at hp ⊢
        rcases hp with h | h | h | h <;> simp only [h, true_or, or_true]
      rintro v nw hz tkz ⟨D3, ys3, od3, rfl, hys3, hod3, hne3, hx3, hd3, rfl⟩ F3 N3
      have hod4 := hod3
      obtain ⟨c1, c2, c3, c4, c5, c6, c7, c8, z1, z2, z3, z4, z5, z6, z7, z8, rfl⟩ := is8_is hod4
      clear hod4
      k_steps
      refine Stop.un ?_
      refine' ne_words (xs := xs.map w4) (vs := ys3) (us := ds) ?na ?nb hys3 hds ?nu ?_
      case na => exact ⟨_, News.get (by k_asm) (by k_mem), rfl, ⟨_, rfl⟩⟩
      case nb => exact ⟨_, News.get (by k_asm) (by k_mem), rfl, ⟨_, rfl⟩⟩
      case nu => first | ktr_units | decide
      k_steps
      refine Stop.un ?_
      have hgl : ∀ k : Nat, (xs.getD k ⟨#[]⟩).length ≤ 1000 := fun k => by
        rw [List.getD_eq_getElem?_getD]
        cases hk : xs[k]? with
        | none => exact Nat.zero_le _
        | some y => exact hxl y (List.mem_of_getElem? hk)
      refine' for_join (fun s₂ => ∃ (od' : Obj) (u : Str → Option Value) (h : Heap) (tk : Nat), s₂ = { s₁ with heap := h, toks := tk } ∧ Fr s₁.heap s₁.heap.objs.size h u ∧ (∀ p ∈ [(Str.ofString "words", Value.ref lw), (Str.ofString "due", .ref Dd), (Str.ofString "stemmer", .ref x)], u p.1 = some p.2) ∧ News s₁.heap s₁.heap.objs.size h [(x, instObj 852 d), (d, od'), (lw, listOf ws.toArray 0), (Dd, listOf ds.toArray ds.length)] ∧ Is8 w od') ?fF ?fk1 ?fk2 ?fh ?fk
      case fF => k_asm
      case fk1 => rfl
      case fk2 => rfl
      case fh =>
        k_steps
        refine Stop.un ?_
        refine' up_inv (σ := Obj) (n := xs.length) (fun od' => [(x, instObj 852 d), (d, od'), (lw, listOf ws.toArray 0), (Dd, listOf ds.toArray ds.length)]) (fun _ => [(Str.ofString "words", Value.ref lw), (Str.ofString "due", .ref Dd), (Str.ofString "stemmer", .ref x)]) (fun _ od' => Is8 w od') (d8 w.params c1 c2 c3 c4 c5 c6 c7 c8 z1 z2 z3 z4 z5 z6 z7 z8) ?uhh ?uhr ?usm ?un ?uF ?uN ?uadr ?uhs ?uhm ?uhp ?uturn ?udone
        case uhh => with_unfolding_all rfl
        case uhr => assumption
        case usm => exact small_up (by omega) (by omega)
        case un => exact (rs_up (by omega) (by omega)).trans (by simp)
        case uF => k_asm
        case uN => k_asm
        case uadr => exact fun c => rfl
        case uhs =>
          intro p hp
          simp only [List.mem_cons, List.not_mem_nil, or_false] at hp ⊢
          rcases hp with h | h | h | h <;> simp only [h, true_or, or_true]
        case uhm => walk_at "my_locs"
        case uhp => exact hod3
        case uturn =>
          rintro od' i ti u hV tkV own hi hP hoff FV NV
          have hP2 := hP
          obtain ⟨c1, c2, c3, c4, c5, c6, c7, c8, z1, z2, z3, z4, z5, z6, z7, z8, rfl⟩ := is8_is hP2
          clear hP2
          simp only [List.cons_append, List.nil_append] at NV
          dsimp only [kstB] at FV NV ⊢
          have hwd : (xs.getD ((xs.length : Int) - 1 - (i : Int)).toNat ⟨#[]⟩).length ≤ 1000 := hgl _
          have hr3 : ∀ p ∈ (lw, listOf ws.toArray 0) :: (Dd, listOf ds.toArray ds.length) :: own, p.1 ≠ d := fun p hp => by
            rcases List.mem_cons.mp hp with rfl | hp
            · exact Nat.ne_of_gt w2
            rcases List.mem_cons.mp hp with rfl | hp
            · exact Ne.symm off1.2.2
            · exact hoff p hp d (.tail _ (.head _))
          k_steps
          exact ⟨_, _, _, _, _, rfl, by k_asm, by k_asm, led4, own4, by walk_at "my_locs", is8_of⟩
        case udone =>
          rintro od' u hV tkV hP FV NV
          exact ⟨rfl, od', _, _, _, rfl, FV, by walk_at "my_locs", NV, hP⟩
      case fk =>
        rintro _ ⟨od', u, h, tk, rfl, F9, hu9, N9, h8⟩
        rw [← kstB_self hu9] at F9
        dsimp only [kstB] at F9
        have hwd0 : (xs.getD (0 : Int).toNat ⟨#[]⟩).length ≤ 1000 := hgl _
        k_steps
        refine Stop.un ?_
        refine' ClT.use0 (stemW6 ?p1 ?p2 ?p3) ?Y ?TB ?B ?F ?X ?N ?hs ?T ?hk ?hd ?hu ?_
        case Y => exact Y
        case TB => exact TT
        case B => k_asm
        case F => k_asm
        case X => k_asm
        case N => k_asm
        case hs => exact fun p hp => hp
        case T => k_asm
        case hk => first | exact rfl | assumption
        case hd => ktr_room
        case hu => ktr_units
        case p1 => exact hwd0
        case p2 => exact Nat.ne_of_gt (by assumption)
        case p3 => exact ne4 (by assumption)
        rintro v nw hl tkl ⟨t6, cu6, rfl, rfl, kk7, kk8, y2, y3, y4, y5, y6, y7, y8, rfl⟩ F6 N6
        k_steps
        exact ⟨_, _, _, rfl, rfl, by k_asm⟩

end Mine
theorem PySem.Challenge.cw_ai0034_01_holds : PySem.Challenge.rw_ai0034_01.Holds := by
  exact Mine.lw
