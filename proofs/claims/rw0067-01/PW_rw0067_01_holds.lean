import PyProof.Rows.All
import Wide.All
import OpenK.AllK
import Wide.FinOn
import PySem.Challenge.RW_rw0067_01
open PySem PySem.W PyProof.Rows
set_option Elab.async false
set_option maxRecDepth 100000
set_option maxHeartbeats 4000000
set_option linter.unusedVariables false
namespace Mine
section
variable {p : Program} {w : World} {n₀ : Nat} {ann : Option Value} {b : List PySem.Stmt} {env : Env} {q : Pos}

theorem segGo_app {tb : String → Option Builtin} {p : Program} {w : World} {n₀ : Nat} {ann : Option Value} {b : Nat} : ∀ {n m : Nat} {s s' s'' : Shared} {t t' t'' : Thread},
    segGo tb p w n₀ ann b n s t = some (s', t') → segGo tb p w n₀ ann b m s' t' = some (s'', t'') → segGo tb p w n₀ ann b (n + m) s t = some (s'', t'')
  | 0, m, s, s', s'', t, t', t'', h, k => by
    obtain ⟨rfl, rfl⟩ : s = s' ∧ t = t' := by simpa [segGo] using h
    rw [Nat.zero_add]; exact k
  | n + 1, m, s, s', s'', t, t', t'', h, k => by
    rw [show n + 1 + m = n + m + 1 by omega]
    unfold segGo at h ⊢
    cases he : endAt b t with
    | some f => rw [he] at h; cases h
    | none =>
      rw [he] at h
      cases hk : stepOk n₀ ann t with
      | false => rw [hk] at h; cases h
      | true =>
        rw [hk] at h
        cases hs : step (denote tb) p w s t with
        | halt o s₂ => rw [hs] at h; cases h
        | go s₂ t₂ => rw [hs] at h; exact segGo_app h k

/-- the tree x, whatever is wrapped round it, comes in n steps to the value a and the state s' -/
noncomputable def Go (p : Program) (w : World) (n₀ : Nat) (ann : Option Value) (b : List PySem.Stmt) (env : Env) (q : Pos) {α : Type} (n : Nat) (x : Sem α) (s : Shared) (a : α) (s' : Shared) : Prop :=
  ∀ (K : α → Sem Fin) (H : Value → Sem Fin) (gd : Bool → Bool) (lv : List Value → List Value) (pos : Pos),
    ∃ pos', segGo treeTable p w n₀ ann 1 n s ⟨x.wrap K H gd lv, .body b env, pos, [topFrame q]⟩ = some (s', ⟨K a, .body b env, pos', [topFrame q]⟩)

variable {α β : Type} {s s' s'' : Shared} {n m : Nat}
theorem go_pure {a : α} : Go p w n₀ ann b env q 0 (.pure a) s a s := fun K H gd lv pos => ⟨pos, rfl⟩
theorem go_bind {x : Sem α} {f : α → Sem β} {a : α} {c : β} (h : Go p w n₀ ann b env q n x s a s') (k : Go p w n₀ ann b env q m (f a) s' c s'') : Go p w n₀ ann b env q (n + m) (x >>= f) s c s'' := fun K H gd lv pos => by
  rw [Sem.bind_eq_wrap', Sem.wrap_wrap]
  obtain ⟨p1, h1⟩ := h (fun a => (f a).wrap K H gd lv) (fun e => (Sem.raise e).wrap K H gd lv) (fun g => gd (id g)) (fun l => lv (id l)) pos
  obtain ⟨p2, h2⟩ := k K H gd lv p1
  exact ⟨p2, segGo_app h1 h2⟩
theorem go_keep {vs : List Value} {x : Sem α} {a : α} (h : Go p w n₀ ann b env q n x s a s') : Go p w n₀ ann b env q n (x.keep vs) s a s' := fun K H gd lv pos => by
  rw [Sem.keep_eq_wrap, Sem.wrap_wrap]
  exact h _ _ _ _ pos
theorem go_holding {vs : List Value} {x : Sem α} {a : α} (h : Go p w n₀ ann b env q n x s a s') : Go p w n₀ ann b env q n (holding vs x) s a s' := by
  unfold holding
  split
  · exact h
  · exact go_keep h
theorem go_onRaise {f : Value → Sem Unit} {x : Sem α} {a : α} (h : Go p w n₀ ann b env q n x s a s') : Go p w n₀ ann b env q n (x.onRaise f) s a s' := fun K H gd lv pos => by
  rw [Sem.onRaise_eq_wrap, Sem.wrap_wrap]
  exact h _ _ _ _ pos
theorem go_then {x : Sem α} {a : α} (h : Go p w n₀ ann b env q n x s a s') (e : s' = s'') : Go p w n₀ ann b env q n x s a s'' := e ▸ h
theorem go_rule {tag : String} {k : Unit → Sem α} {a : α} (h : Go p w n₀ ann b env q n (k ()) s a s') : Go p w n₀ ann b env q (1 + n) (.rule tag k) s a s' := fun K H gd lv pos => by
  obtain ⟨p1, h1⟩ := h K H gd lv pos
  exact ⟨p1, segGo_app (n := 1) rfl h1⟩
theorem go_at {p' : Pos} {k : Unit → Sem α} {a : α} (h : Go p w n₀ ann b env q n (k ()) s a s') : Go p w n₀ ann b env q (1 + n) (.at p' k) s a s' := fun K H gd lv pos => by
  obtain ⟨p1, h1⟩ := h K H gd lv p'
  exact ⟨p1, segGo_app (n := 1) rfl h1⟩
theorem go_fresh {k : Tok → Sem α} {a : α} (h : Go p w n₀ ann b env q n (k s.toks) { s with toks := s.toks + 1 } a s') : Go p w n₀ ann b env q (1 + n) (.fresh k) s a s' := fun K H gd lv pos => by
  obtain ⟨p1, h1⟩ := h K H gd lv pos
  exact ⟨p1, segGo_app (n := 1) rfl h1⟩
theorem go_ask {k : Setting → Sem α} {a : α} (h : Go p w n₀ ann b env q n (k ⟨p, w.params⟩) s a s') : Go p w n₀ ann b env q (1 + n) (.ask k) s a s' := fun K H gd lv pos => by
  obtain ⟨p1, h1⟩ := h K H gd lv pos
  exact ⟨p1, segGo_app (n := 1) rfl h1⟩
theorem go_alloc {o : Obj} {k : Addr → Sem α} {a : α} (h : Go p w n₀ ann b env q n (k s.heap.objs.size) { s with heap := s.heap.push o } a s') : Go p w n₀ ann b env q (1 + n) (.alloc o k) s a s' := fun K H gd lv pos => by
  obtain ⟨p1, h1⟩ := h K H gd lv pos
  exact ⟨p1, segGo_app (n := 1) rfl h1⟩
theorem go_load {ad : Addr} {part : Option Value} {o : Obj} {k : Obj → Sem α} {a : α} (ho : s.heap.get? ad = some o) (h : Go p w n₀ ann b env q n (k o) s a s') : Go p w n₀ ann b env q (1 + n) (.load ad part k) s a s' := fun K H gd lv pos => by
  obtain ⟨p1, h1⟩ := h K H gd lv pos
  refine ⟨p1, segGo_app (n := 1) ?_ h1⟩
  obtain ⟨heap, gens, drawn, toks, os⟩ := s
  simp only [segGo, Sem.wrap, step, ho]
  rfl
theorem go_update {ad : Addr} {part : Option Value} {f : Obj → Obj} {k : Unit → Sem α} {a : α} (ho : (s.heap.get? ad).isSome = true) (hn : Nat.ble n₀ ad = true) (h : Go p w n₀ ann b env q n (k ()) { s with heap := s.heap.update ad f } a s') :
    Go p w n₀ ann b env q (1 + n) (.update ad part f k) s a s' := fun K H gd lv pos => by
  obtain ⟨p1, h1⟩ := h K H gd lv pos
  refine ⟨p1, segGo_app (n := 1) ?_ h1⟩
  obtain ⟨heap, gens, drawn, toks, os⟩ := s
  have ok : ∀ t, stepOk n₀ ann ⟨.update ad part f t, .body b env, pos, [topFrame q]⟩ = true := fun t => by
    show (Thread.calm _ && (Nat.ble n₀ ad || _ || _ || _)) = true
    rw [hn]; rfl
  have en : ∀ t, endAt 1 ⟨.update ad part f t, .body b env, pos, [topFrame q]⟩ = none := fun t => rfl
  rw [show Sem.wrap K H gd lv (.update ad part f k) = .update ad part f fun x => (k x).wrap K H gd lv from rfl]
  unfold segGo
  rw [en, ok]
  simp only [step, ho, if_true]
  rfl

/-- the hash of a small int -/
theorem go_hash0 (heap : Heap) (gens : Array GenState) (drawn : Drawn) (toks : Nat) (os : OsState) (k : Int) (t : Tok) (f : Bool) (K : Int → Sem Fin) (H : Value → Sem Fin) (gd : Bool → Bool) (lv : List Value → List Value) (pos : Pos) :
    segGo treeTable p (w.withFollow "special-get-raises" f) n₀ ann 1 5 ⟨heap, gens, drawn, toks, os⟩ ⟨(pyHash (.int k t)).wrap K H gd lv, .body b env, pos, [topFrame q]⟩ =
      some (⟨heap, gens, drawn, toks + 1, os⟩, ⟨(pyHashByItsType.reduced (intHash k)).wrap K H gd lv, .body b env, pos, [topFrame q]⟩) := by
  cases f
  · kernel_rfl!
  · kernel_rfl!
theorem hash_small {k : Int} (h0 : 0 ≤ k) (h1 : k < 2 ^ 31) : pyHashByItsType.reduced (intHash k) = pure k := by
  have e : intHash k = k := by
    unfold intHash
    have : ¬ k < 0 := by omega
    simp only [this, if_false]
    have h2 : (k.natAbs : Int) = k := by omega
    rw [h2, Int.emod_eq_of_lt h0 (by omega)]
    have : ¬ (k == -1) = true := by rw [beq_iff_eq]; omega
    simp only [this, if_false, Bool.false_eq_true]
  rw [e]
  unfold pyHashByItsType.reduced
  have a : (decide (-(2 ^ 63 : Int) ≤ k) && decide (k < 2 ^ 63)) = true := by
    rw [Bool.and_eq_true, decide_eq_true_eq, decide_eq_true_eq]; omega
  have c : (k == -1) = false := by rw [beq_eq_false_iff_ne]; omega
  simp only [a, c, if_true, if_false, Bool.false_eq_true]
theorem go_hash {k : Int} {t : Tok} (h0 : 0 ≤ k) (h1 : k < 2 ^ 31) : Go p w n₀ ann b env q 5 (pyHash (.int k t)) s k { s with toks := s.toks + 1 } := fun K H gd lv pos => by
  refine ⟨pos, ?_⟩
  have e := World.withFollow_self w "special-get-raises"
  obtain ⟨heap, gens, drawn, toks, os⟩ := s
  rw [← e, go_hash0, hash_small h0 h1]
  rfl

noncomputable abbrev dObj (es : List DictEntry) (n : Nat) : Obj := ⟨.type "dict", none, .dict es.toArray n, #[]⟩
theorem go_loadPart {ad : Addr} {part : Option Value} {o : Obj} (ho : s.heap.get? ad = some o) : Go p w n₀ ann b env q 1 (loadPart ad part) s o s := go_load ho go_pure
theorem go_dictEntries {ad : Addr} {part : Option Value} {es : List DictEntry} {e : Nat} (ho : s.heap.get? ad = some (dObj es e)) : Go p w n₀ ann b env q 1 (dictEntries ad part) s es.toArray s := by
  unfold dictEntries
  refine go_bind (n := 1) (m := 0) (go_loadPart ho) ?_
  exact go_pure
theorem go_dictEpoch {ad : Addr} {part : Option Value} {es : List DictEntry} {e : Nat} (ho : s.heap.get? ad = some (dObj es e)) : Go p w n₀ ann b env q 1 (dictEpoch ad part) s e s := by
  unfold dictEpoch
  refine go_bind (n := 1) (m := 0) (go_loadPart ho) ?_
  exact go_pure
theorem places_none {es : List DictEntry} {h : Int} (hn : ∀ e ∈ es, e.hash ≠ h) : placesWithHash es.toArray.size (fun i => es.toArray[i]?.map (·.hash)) h = [] := by
  unfold placesWithHash
  rw [List.filter_eq_nil_iff]
  intro i hi
  simp only [List.getElem?_toArray]
  cases q : es[i]? with
  | none => simp
  | some e =>
    have := hn e (List.mem_of_getElem? q)
    simpa using this
theorem go_find {ad : Addr} {es : List DictEntry} {n : Nat} {k : Int} {t : Tok} {h : Int} (ho : s.heap.get? ad = some (dObj es n)) (hn : ∀ e ∈ es, e.hash ≠ h) : Go p w n₀ ann b env q 1 (dictFind ad (.int k t) h) s none s := by
  unfold dictFind
  refine go_holding (go_bind (n := 1) (m := 0) (go_dictEntries ho) ?_)
  dsimp only
  rw [places_none hn]
  exact go_pure
theorem go_keys {ad : Addr} {part : Option Value} {es : List DictEntry} {n : Nat} {e : DictEntry} (ho : s.heap.get? ad = some (dObj es n)) (hb : Nat.ble n₀ ad = true) (hz : es.length ≤ 1000) :
    Go p w n₀ ann b env q 3 (updateDictKeys ad (·.push e) part) s () { s with heap := s.heap.update ad (Obj.mapDictKeys (·.push e)) } := by
  unfold updateDictKeys
  refine go_bind (n := 1) (m := 2) (go_loadPart ho) ?_
  dsimp only
  refine go_bind (n := 1) (m := 1) (go_update (by rw [ho]; rfl) hb go_pure) ?_
  unfold lookBehind
  have hu : ({ s with heap := s.heap.update ad (Obj.mapDictKeys (·.push e)) } : Shared).heap.get? ad = some (dObj (es ++ [e]) (n + 1)) := by
    refine (Heap.get?_update_self _ ho rfl).trans ?_
    simp [Obj.mapDictKeys, dObj]
  refine go_bind (n := 1) (m := 0) (go_loadPart hu) ?_
  have : (dObj (es ++ [e]) (n + 1)).data.pastItsLine = none := by
    simp only [Data.pastItsLine, List.size_toArray, List.length_append, List.length_cons, List.length_nil]
    rw [if_neg]
    have : sizeLine = 2 ^ 24 := rfl
    omega
  rw [this]
  exact go_pure
theorem go_put {ad : Addr} {es : List DictEntry} {n : Nat} {k : Int} {t : Tok} {h : Int} {v : Value} (ho : s.heap.get? ad = some (dObj es n)) (hn : ∀ e ∈ es, e.hash ≠ h) (hb : Nat.ble n₀ ad = true) (hz : es.length ≤ 1000) :
    Go p w n₀ ann b env q 4 (dictPut ad h (.int k t) v) s () { s with heap := s.heap.update ad (Obj.mapDictKeys (·.push ⟨h, .int k t, v⟩)) } := by
  unfold dictPut
  exact go_bind (n := 1) (m := 3) (go_find ho hn) (go_keys ho hb hz)
theorem go_set {ad : Addr} {es : List DictEntry} {n : Nat} {k : Int} {t : Tok} {v : Value} (ho : s.heap.get? ad = some (dObj es n)) (hn : ∀ e ∈ es, e.hash ≠ k) (hb : Nat.ble n₀ ad = true) (hz : es.length ≤ 1000) (h0 : 0 ≤ k) (h1 : k < 2 ^ 31) :
    Go p w n₀ ann b env q 10 (dictSet ad (.int k t) v) s () { s with toks := s.toks + 1, heap := s.heap.update ad (Obj.mapDictKeys (·.push ⟨k, .int k t, v⟩)) } := by
  unfold dictSet
  refine go_holding (go_bind (n := 5) (m := 5) (go_hash h0 h1) ?_)
  unfold dictSetHashed
  refine go_holding (go_bind (n := 1) (m := 4) (go_find ho hn) ?_)
  exact go_bind (n := 1) (m := 3) (go_rule go_pure) (go_keys ho hb hz)

/-- a heap with more objects behind it -/
noncomputable def hp (h : Heap) (l : List Obj) : Heap := ⟨h.objs ++ l.toArray, h.life⟩
theorem hp_push (h : Heap) (l : List Obj) (o : Obj) : (hp h l).push o = hp h (l ++ [o]) := by
  unfold hp Heap.push
  simp
theorem hp_size (h : Heap) (l : List Obj) : (hp h l).objs.size = h.objs.size + l.length := by simp [hp]
theorem hp_get {h : Heap} {l : List Obj} {j : Nat} {es : List DictEntry} {n : Nat} (e : l[j]? = some (dObj es n)) : (hp h l).get? (h.objs.size + j) = some (dObj es n) := by
  unfold Heap.get? hp
  have : (h.objs ++ l.toArray)[h.objs.size + j]? = some (dObj es n) := by
    rw [Array.getElem?_append_right (by omega)]
    simpa using e
  rw [this]
theorem hp_update (h : Heap) (l : List Obj) (j : Nat) (f : Obj → Obj) : (hp h l).update (h.objs.size + j) f = hp h (l.modify j f) := by
  unfold hp Heap.update
  dsimp only
  congr 1
  apply Array.ext_getElem?
  intro i
  rw [Array.getElem?_modify, Array.getElem?_append, Array.getElem?_append]
  by_cases hi : i < h.objs.size
  · have : ¬ h.objs.size + j = i := by omega
    simp [hi, this]
  · simp only [hi, if_false, List.getElem?_toArray, List.getElem?_modify]
    by_cases e : h.objs.size + j = i
    · subst e
      simp
    · have : ¬ j = i - h.objs.size := by omega
      simp [e, this]
theorem modify_last {α : Type} (pre : List α) (x : α) (f : α → α) : (pre ++ [x]).modify pre.length f = pre ++ [f x] := by
  induction pre with
  | nil => rfl
  | cons a r ih => simpa [List.modify_succ_cons] using ih
inductive F2 {α β : Type} (R : α → β → Prop) : List α → List β → Prop
  | nil : F2 R [] []
  | cons {a b l m} : R a b → F2 R l m → F2 R (a :: l) (b :: m)
noncomputable def ent3 (t : Nat) (r : Int × Str) : DictEntry := ⟨r.1, .int r.1 t, .str r.2 (t + 1)⟩
noncomputable def ents3 : Nat → List (Int × Str) → List DictEntry
  | _, [] => []
  | t, r :: l => ent3 t r :: ents3 (t + 3) l
noncomputable def PairIs (p : Program) (w : World) (n₀ : Nat) (ann : Option Value) (b : List PySem.Stmt) (env : Env) (q : Pos) (x : Sem Value × Sem Value) (r : Int × Str) : Prop :=
  (∀ s, Go p w n₀ ann b env q 1 x.1 s (.int r.1 s.toks) { s with toks := s.toks + 1 }) ∧ (∀ s, Go p w n₀ ann b env q 2 x.2 s (.str r.2 s.toks) { s with toks := s.toks + 1 })
noncomputable def Rising (ps : List (Int × Str)) : Prop := ps.Pairwise (fun a c => a.1 < c.1) ∧ ∀ r ∈ ps, 0 ≤ r.1 ∧ r.1 < 2 ^ 31
theorem go_n {x : Sem α} {a : α} (h : Go p w n₀ ann b env q n x s a s') (e : n = m) : Go p w n₀ ann b env q m x s a s' := e ▸ h

theorem go_sub_loop {h : Heap} {gens : Array GenState} {drawn : Drawn} {os : OsState} {pre : List Obj} {d : Addr} (hd : d = h.objs.size + pre.length) (hb : Nat.ble n₀ d = true) : ∀ (ps : List (Int × Str)) (pairs : List (Sem Value × Sem Value)) (es : List DictEntry) (n toks : Nat),
    F2 (PairIs p w n₀ ann b env q) pairs ps → (∀ e ∈ es, ∀ r ∈ ps, e.hash < r.1) → Rising ps → es.length + ps.length ≤ 1000 →
    Go p w n₀ ann b env q (13 * ps.length) (forIn pairs PUnit.unit fun (x : Sem Value × Sem Value) (_ : PUnit) => (match x with
      | (k, v) => do
        let kv ← k
        let vv ← holding [kv] v
        holding [kv, vv] (dictSet d kv vv)
        pure (ForInStep.yield PUnit.unit) : Sem (ForInStep PUnit))) ⟨hp h (pre ++ [dObj es n]), gens, drawn, toks, os⟩ PUnit.unit ⟨hp h (pre ++ [dObj (es ++ ents3 toks ps) (n + ps.length)]), gens, drawn, toks + 3 * ps.length, os⟩
  | [], _, es, n, toks, .nil, _, _, _ => by
    rw [List.forIn_nil]
    refine go_then go_pure ?_
    simp [ents3]
  | r :: ps, x :: pairs, es, n, toks, .cons h1 h2, hes, hr, hz => by
    rw [List.forIn_cons, List.length_cons]
    obtain ⟨hk, hv⟩ := h1
    have hlen : es.length ≤ 1000 := by rw [List.length_cons] at hz; omega
    have ho : ∀ tk, (⟨hp h (pre ++ [dObj es n]), gens, drawn, tk, os⟩ : Shared).heap.get? d = some (dObj es n) := fun tk => by
      rw [hd]; exact hp_get (by simp)
    have hb0 := (hr.2 r (.head _)).1
    have hb1 := (hr.2 r (.head _)).2
    have e1 : ∀ tk, (⟨(hp h (pre ++ [dObj es n])).update d (Obj.mapDictKeys (·.push ⟨r.1, .int r.1 toks, .str r.2 (toks + 1)⟩)), gens, drawn, tk, os⟩ : Shared) = ⟨hp h (pre ++ [dObj (es ++ [ent3 toks r]) (n + 1)]), gens, drawn, tk, os⟩ := fun tk => by
      rw [hd, hp_update, modify_last]
      simp [Obj.mapDictKeys, dObj, ent3]
    have ih := go_sub_loop (gens := gens) (drawn := drawn) (os := os) hd hb ps pairs (es ++ [ent3 toks r]) (n + 1) (toks + 3) h2 (by
      intro e he y hy
      rcases List.mem_append.mp he with he | he
      · exact hes e he y (.tail _ hy)
      · rw [List.mem_singleton.mp he]
        exact (List.pairwise_cons.mp hr.1).1 y hy) ⟨(List.pairwise_cons.mp hr.1).2, fun y hy => hr.2 y (.tail _ hy)⟩ (by rw [List.length_append]; simp at hz ⊢; omega)
    refine go_n (n := 13 + 13 * ps.length) (go_bind (a := ForInStep.yield PUnit.unit) (s' := ⟨hp h (pre ++ [dObj (es ++ [ent3 toks r]) (n + 1)]), gens, drawn, toks + 3, os⟩) ?_ ?_) (by omega)
    · refine go_bind (n := 1) (m := 12) (hk _) ?_
      refine go_bind (n := 2) (m := 10) (go_holding (hv _)) ?_
      refine go_bind (n := 10) (m := 0) (go_holding (go_then (go_set (ho _) (fun e he => by have := hes e he r (.head _); omega) hb hlen hb0 hb1) (e1 (toks + 3)))) go_pure
    · refine go_then ih ?_
      simp only [ents3, List.append_assoc, List.cons_append, List.nil_append]
      congr 1
      · rw [show n + 1 + ps.length = n + (ps.length + 1) by omega]
      · omega

theorem go_merge_loop {h : Heap} {gens : Array GenState} {drawn : Drawn} {os : OsState} {toks : Nat} {rest : List Obj} {subs : List DictEntry} {sn j : Nat} {a : Addr} (hj : rest[j]? = some (dObj subs sn)) (ha : a = h.objs.size + (j + 1)) (hb : Nat.ble n₀ h.objs.size = true)
    (hk : ∀ x ∈ subs, ∃ k t, x.key = .int k t) (hs : subs.Pairwise (fun x y => x.hash < y.hash)) : ∀ (c i : Nat) (es : List DictEntry) (n : Nat),
    i + c = subs.length → (∀ e ∈ es, ∀ x ∈ subs.drop i, e.hash < x.hash) → es.length + c ≤ 1000 →
    Go p w n₀ ann b env q (6 * c) (forIn (List.range' i c) PUnit.unit fun (i : Nat) (_ : PUnit) => (do
        let l ← dictEntries a
        match l[i]? with
        | some e => do
          holding [e.key, e.val] (dictPut h.objs.size e.hash e.key e.val)
          let l' ← dictEpoch a
          if (l' != sn) = true then do
              unsupported "dict.changed-during-merge"
              pure (ForInStep.yield PUnit.unit)
            else pure (ForInStep.yield PUnit.unit)
        | x => do
          unsupported "dict.changed-during-merge"
          pure (ForInStep.yield PUnit.unit) : Sem (ForInStep PUnit))) ⟨hp h (dObj es n :: rest), gens, drawn, toks, os⟩ PUnit.unit ⟨hp h (dObj (es ++ subs.drop i) (n + c) :: rest), gens, drawn, toks, os⟩
  | 0, i, es, n, hi, _, _ => by
    have : subs.drop i = [] := List.drop_eq_nil_of_le (by omega)
    rw [this, List.append_nil]
    exact go_pure
  | c + 1, i, es, n, hi, hes, hz => by
    rw [List.range'_succ, List.forIn_cons]
    have hlt : i < subs.length := by omega
    have hx : subs[i]? = some subs[i] := List.getElem?_eq_getElem hlt
    have hdr : subs.drop i = subs[i] :: subs.drop (i + 1) := List.drop_eq_getElem_cons hlt
    obtain ⟨k, t, hkt⟩ := hk subs[i] (List.getElem_mem hlt)
    have ga : ∀ o, (⟨hp h (o :: rest), gens, drawn, toks, os⟩ : Shared).heap.get? a = some (dObj subs sn) := fun o => by
      rw [ha]; exact hp_get (by simpa using hj)
    have gm : (⟨hp h (dObj es n :: rest), gens, drawn, toks, os⟩ : Shared).heap.get? h.objs.size = some (dObj es n) := by
      have := hp_get (h := h) (l := dObj es n :: rest) (j := 0) (es := es) (n := n) rfl
      simpa using this
    have e1 : (⟨(hp h (dObj es n :: rest)).update h.objs.size (Obj.mapDictKeys (·.push ⟨subs[i].hash, .int k t, subs[i].val⟩)), gens, drawn, toks, os⟩ : Shared) = ⟨hp h (dObj (es ++ [subs[i]]) (n + 1) :: rest), gens, drawn, toks, os⟩ := by
      have := hp_update h (dObj es n :: rest) 0 (Obj.mapDictKeys (·.push ⟨subs[i].hash, .int k t, subs[i].val⟩))
      rw [Nat.add_zero] at this
      rw [this, ← hkt]
      simp [Obj.mapDictKeys, dObj]
    have hs' : ∀ y ∈ subs.drop (i + 1), subs[i].hash < y.hash := by
      have := hs.sublist (List.drop_sublist i subs)
      rw [hdr] at this
      exact (List.pairwise_cons.mp this).1
    have ih := go_merge_loop (gens := gens) (drawn := drawn) (os := os) (toks := toks) hj ha hb hk hs c (i + 1) (es ++ [subs[i]]) (n + 1) (by omega) (by
      intro e he y hy
      rcases List.mem_append.mp he with he | he
      · exact hes e he y (by rw [hdr]; exact .tail _ hy)
      · rw [List.mem_singleton.mp he]; exact hs' y hy) (by rw [List.length_append]; simp; omega)
    refine go_n (n := 6 + 6 * c) (go_bind (a := ForInStep.yield PUnit.unit) (s' := ⟨hp h (dObj (es ++ [subs[i]]) (n + 1) :: rest), gens, drawn, toks, os⟩) ?_ ?_) (by omega)
    · refine go_bind (n := 1) (m := 5) (go_dictEntries (ga _)) ?_
      rw [List.getElem?_toArray, hx]
      dsimp only
      rw [hkt]
      refine go_bind (n := 4) (m := 1) (go_holding (go_then (go_put gm (fun e he => by have := hes e he subs[i] (by rw [hdr]; exact .head _); omega) hb (by omega)) e1)) ?_
      refine go_bind (n := 1) (m := 0) (go_dictEpoch (ga _)) ?_
      rw [if_neg (by simp)]
      exact go_pure
    · refine go_then ih ?_
      rw [hdr]
      simp only [List.append_assoc, List.cons_append, List.nil_append]
      rw [show n + 1 + c = n + (c + 1) by omega]
theorem F2.len {α β : Type} {R : α → β → Prop} : ∀ {l : List α} {m : List β}, F2 R l m → l.length = m.length
  | _, _, .nil => rfl
  | _, _, .cons _ h => by rw [List.length_cons, List.length_cons, h.len]
theorem go_sub_long {h : Heap} {gens : Array GenState} {drawn : Drawn} {os : OsState} {pre : List Obj} {toks : Nat} (hb : Nat.ble n₀ (h.objs.size + pre.length) = true) {ps : List (Int × Str)} {pairs : List (Sem Value × Sem Value)}
    (hp2 : F2 (PairIs p w n₀ ann b env q) pairs ps) (hr : Rising ps) (hl : 15 < ps.length) (hz : ps.length ≤ 1000) :
    Go p w n₀ ann b env q (2 + 13 * ps.length) (subDict pairs) ⟨hp h pre, gens, drawn, toks, os⟩ (h.objs.size + pre.length) ⟨hp h (pre ++ [dObj (ents3 toks ps) ps.length]), gens, drawn, toks + 3 * ps.length, os⟩ := by
  unfold subDict
  have hsz : (hp h pre).objs.size = h.objs.size + pre.length := hp_size h pre
  refine go_n (n := 1 + (1 + 13 * ps.length)) ?_ (by omega)
  refine go_bind (n := 1) (a := h.objs.size + pre.length) (s' := ⟨hp h (pre ++ [dObj [] 0]), gens, drawn, toks, os⟩) ?_ ?_
  · refine go_alloc (n := 0) ?_
    rw [show (⟨hp h pre, gens, drawn, toks, os⟩ : Shared).heap.objs.size = h.objs.size + pre.length from hsz]
    refine go_then go_pure ?_
    show (⟨(hp h pre).push _, gens, drawn, toks, os⟩ : Shared) = _
    rw [hp_push]
  · refine go_bind (n := 1 + 13 * ps.length) (m := 0) (a := ()) (go_holding ?_) go_pure
    rw [if_neg (by rw [hp2.len]; omega)]
    refine go_bind (n := 1) (go_rule go_pure) ?_
    refine go_bind (n := 13 * ps.length) (m := 0) (a := PUnit.unit) ?_ go_pure
    have z := go_sub_loop (p := p) (w := w) (n₀ := n₀) (ann := ann) (b := b) (env := env) (q := q) (h := h) (gens := gens) (drawn := drawn) (os := os) (pre := pre) rfl hb ps pairs [] 0 toks hp2 (fun e he => nomatch he) hr (by simpa using hz)
    simpa using z

noncomputable def ents2 : Nat → List (Int × Str) → List DictEntry
  | _, [] => []
  | t, r :: l => ⟨r.1, .int r.1 t, .str r.2 (t + 1)⟩ :: ents2 (t + 2) l
noncomputable def vals2 : Nat → List (Int × Str) → List (Value × Value)
  | _, [] => []
  | t, r :: l => (.int r.1 t, .str r.2 (t + 1)) :: vals2 (t + 2) l
theorem go_pairs {heap : Heap} {gens : Array GenState} {drawn : Drawn} {os : OsState} : ∀ (ps : List (Int × Str)) (pairs : List (Sem Value × Sem Value)) (toks : Nat), F2 (PairIs p w n₀ ann b env q) pairs ps →
    Go p w n₀ ann b env q (3 * ps.length) (evalPairs pairs) ⟨heap, gens, drawn, toks, os⟩ (vals2 toks ps) ⟨heap, gens, drawn, toks + 2 * ps.length, os⟩
  | [], _, _, .nil => go_pure
  | r :: ps, x :: pairs, toks, .cons ⟨hk, hv⟩ h2 => by
    rw [evalPairs, List.length_cons]
    refine go_n (n := 1 + (2 + (3 * ps.length + 0))) ?_ (by omega)
    refine go_bind (hk _) (go_bind (go_holding (hv _)) (go_bind (go_holding ?_) go_pure))
    refine go_then (go_pairs ps pairs (toks + 2) h2) ?_
    show (⟨heap, gens, drawn, _, os⟩ : Shared) = ⟨heap, gens, drawn, _, os⟩
    rw [show toks + 2 + 2 * ps.length = toks + 2 * (ps.length + 1) by omega]
theorem go_put_loop {h : Heap} {gens : Array GenState} {drawn : Drawn} {os : OsState} {pre : List Obj} {d : Addr} (hd : d = h.objs.size + pre.length) (hb : Nat.ble n₀ d = true) : ∀ (ps : List (Int × Str)) (es : List DictEntry) (n t toks : Nat),
    (∀ e ∈ es, ∀ r ∈ ps, e.hash < r.1) → Rising ps → es.length + ps.length ≤ 1000 →
    Go p w n₀ ann b env q (10 * ps.length) (forIn (vals2 t ps) PUnit.unit fun (x : Value × Value) (_ : PUnit) => (match x with
      | (k, v) => do
        dictSet d k v
        pure (ForInStep.yield PUnit.unit) : Sem (ForInStep PUnit))) ⟨hp h (pre ++ [dObj es n]), gens, drawn, toks, os⟩ PUnit.unit ⟨hp h (pre ++ [dObj (es ++ ents2 t ps) (n + ps.length)]), gens, drawn, toks + ps.length, os⟩
  | [], es, n, t, toks, _, _, _ => by
    rw [vals2, List.forIn_nil]
    refine go_then go_pure ?_
    simp [ents2]
  | r :: ps, es, n, t, toks, hes, hr, hz => by
    rw [vals2, List.forIn_cons, List.length_cons]
    have hlen : es.length ≤ 1000 := by rw [List.length_cons] at hz; omega
    have ho : ∀ tk, (⟨hp h (pre ++ [dObj es n]), gens, drawn, tk, os⟩ : Shared).heap.get? d = some (dObj es n) := fun tk => by
      rw [hd]; exact hp_get (by simp)
    have hb0 := (hr.2 r (.head _)).1
    have hb1 := (hr.2 r (.head _)).2
    have e1 : (⟨(hp h (pre ++ [dObj es n])).update d (Obj.mapDictKeys (·.push ⟨r.1, .int r.1 t, .str r.2 (t + 1)⟩)), gens, drawn, toks + 1, os⟩ : Shared) = ⟨hp h (pre ++ [dObj (es ++ [⟨r.1, .int r.1 t, .str r.2 (t + 1)⟩]) (n + 1)]), gens, drawn, toks + 1, os⟩ := by
      rw [hd, hp_update, modify_last]
      simp [Obj.mapDictKeys, dObj]
    have ih := go_put_loop (gens := gens) (drawn := drawn) (os := os) hd hb ps (es ++ [⟨r.1, .int r.1 t, .str r.2 (t + 1)⟩]) (n + 1) (t + 2) (toks + 1) (by
      intro e he y hy
      rcases List.mem_append.mp he with he | he
      · exact hes e he y (.tail _ hy)
      · rw [List.mem_singleton.mp he]
        exact (List.pairwise_cons.mp hr.1).1 y hy) ⟨(List.pairwise_cons.mp hr.1).2, fun y hy => hr.2 y (.tail _ hy)⟩ (by rw [List.length_append]; simp at hz ⊢; omega)
    refine go_n (n := 10 + 10 * ps.length) (go_bind (a := ForInStep.yield PUnit.unit) (s' := ⟨hp h (pre ++ [dObj (es ++ [⟨r.1, .int r.1 t, .str r.2 (t + 1)⟩]) (n + 1)]), gens, drawn, toks + 1, os⟩) ?_ ?_) (by omega)
    · exact go_bind (n := 10) (m := 0) (go_then (go_set (ho _) (fun e he => by have := hes e he r (.head _); omega) hb hlen hb0 hb1) e1) go_pure
    · refine go_then ih ?_
      simp only [ents2, List.append_assoc, List.cons_append, List.nil_append]
      rw [show n + 1 + ps.length = n + (ps.length + 1) by omega, show toks + 1 + ps.length = toks + (ps.length + 1) by omega]
theorem go_sub_short {h : Heap} {gens : Array GenState} {drawn : Drawn} {os : OsState} {pre : List Obj} {toks : Nat} (hb : Nat.ble n₀ (h.objs.size + pre.length) = true) {ps : List (Int × Str)} {pairs : List (Sem Value × Sem Value)}
    (hp2 : F2 (PairIs p w n₀ ann b env q) pairs ps) (hr : Rising ps) (hl : ps.length ≤ 15) :
    Go p w n₀ ann b env q (1 + 13 * ps.length) (subDict pairs) ⟨hp h pre, gens, drawn, toks, os⟩ (h.objs.size + pre.length) ⟨hp h (pre ++ [dObj (ents2 toks ps) ps.length]), gens, drawn, toks + 3 * ps.length, os⟩ := by
  unfold subDict
  have hsz : (hp h pre).objs.size = h.objs.size + pre.length := hp_size h pre
  refine go_bind (n := 1) (a := h.objs.size + pre.length) (s' := ⟨hp h (pre ++ [dObj [] 0]), gens, drawn, toks, os⟩) ?_ ?_
  · refine go_alloc (n := 0) ?_
    rw [show (⟨hp h pre, gens, drawn, toks, os⟩ : Shared).heap.objs.size = h.objs.size + pre.length from hsz]
    refine go_then go_pure ?_
    show (⟨(hp h pre).push _, gens, drawn, toks, os⟩ : Shared) = _
    rw [hp_push]
  · refine go_bind (n := 13 * ps.length) (m := 0) (a := ()) (go_holding ?_) go_pure
    rw [if_pos (by rw [hp2.len]; omega)]
    refine go_n (n := 3 * ps.length + 10 * ps.length) ?_ (by omega)
    refine go_bind (go_pairs ps pairs toks hp2) (go_holding ?_)
    refine go_bind (n := 10 * ps.length) (m := 0) (a := PUnit.unit) ?_ go_pure
    have z := go_put_loop (p := p) (w := w) (n₀ := n₀) (ann := ann) (b := b) (env := env) (q := q) (h := h) (gens := gens) (drawn := drawn) (os := os) (pre := pre) rfl hb ps [] 0 toks (toks + 2 * ps.length) (fun e he => nomatch he) hr (by simp; omega)
    rw [show toks + 3 * ps.length = toks + 2 * ps.length + ps.length by omega]
    simpa using z

theorem dict_is_dict : isSubtype (.type "dict") (.type "dict") = pure true := by kernel_rfl!
theorem dict_iter : typeLookup (.type "dict") "__iter__" = pure (some (.builtin "dict.__iter__")) := by kernel_rfl!
theorem go_typeOf {ad : Addr} {o : Obj} (ho : s.heap.get? ad = some o) : Go p w n₀ ann b env q 1 (typeOf (.ref ad)) s o.cls s := by
  unfold typeOf
  exact go_bind (n := 1) (m := 0) (go_loadPart ho) go_pure
theorem go_merge {h : Heap} {gens : Array GenState} {drawn : Drawn} {os : OsState} {toks : Nat} {rest : List Obj} {subs es : List DictEntry} {n sn j : Nat} {a : Addr} (hj : rest[j]? = some (dObj subs sn)) (ha : a = h.objs.size + (j + 1)) (hb : Nat.ble n₀ h.objs.size = true)
    (hk : ∀ x ∈ subs, ∃ k t, x.key = .int k t) (hs : subs.Pairwise (fun x y => x.hash < y.hash)) (hes : ∀ e ∈ es, ∀ x ∈ subs, e.hash < x.hash) (hz : es.length + subs.length ≤ 1000) (hne : es ≠ []) (hsys : (a == sysModules) = false) :
    Go p w n₀ ann b env q (5 + 6 * subs.length) (mergeMapping h.objs.size (.ref a) false) ⟨hp h (dObj es n :: rest), gens, drawn, toks, os⟩ () ⟨hp h (dObj (es ++ subs) (n + subs.length) :: rest), gens, drawn, toks, os⟩ := by
  have ga : ∀ o, (⟨hp h (o :: rest), gens, drawn, toks, os⟩ : Shared).heap.get? a = some (dObj subs sn) := fun o => by
    rw [ha]; exact hp_get (by simpa using hj)
  have gm : (⟨hp h (dObj es n :: rest), gens, drawn, toks, os⟩ : Shared).heap.get? h.objs.size = some (dObj es n) := by
    have := hp_get (h := h) (l := dObj es n :: rest) (j := 0) (es := es) (n := n) rfl
    simpa using this
  unfold mergeMapping isInstance specialOf
  refine go_n (n := 1 + (1 + (1 + (1 + (1 + 6 * subs.length))))) ?_ (by omega)
  refine go_bind (n := 1) (a := true) (s' := ⟨hp h (dObj es n :: rest), gens, drawn, toks, os⟩) ?_ ?_
  · refine go_bind (n := 1) (m := 0) (go_typeOf (ga _)) ?_
    show Go p w n₀ ann b env q 0 (isSubtype (.type "dict") (.type "dict")) _ _ _
    rw [dict_is_dict]
    exact go_pure
  dsimp only
  rw [if_pos rfl]
  refine go_bind (n := 1) (a := some (.builtin "dict.__iter__")) (s' := ⟨hp h (dObj es n :: rest), gens, drawn, toks, os⟩) ?_ ?_
  · refine go_bind (n := 1) (m := 0) (go_typeOf (ga _)) ?_
    show Go p w n₀ ann b env q 0 (typeLookup (.type "dict") "__iter__") _ _ _
    rw [dict_iter]
    exact go_pure
  show Go p w n₀ ann b env q _ (if (a == sysModules) = true then _ else _) _ _ _
  rw [if_neg (by rw [hsys]; exact Bool.false_ne_true)]
  refine go_bind (n := 1) (go_dictEntries gm) ?_
  rw [if_neg (by cases es with | nil => exact absurd rfl hne | cons => simp)]
  refine go_bind (n := 1) (go_dictEntries (ga _)) ?_
  refine go_bind (n := 1) (go_dictEpoch (ga _)) ?_
  refine go_bind (n := 6 * subs.length) (m := 0) (a := PUnit.unit) ?_ go_pure
  have z := go_merge_loop (p := p) (w := w) (n₀ := n₀) (ann := ann) (b := b) (env := env) (q := q) (h := h) (gens := gens) (drawn := drawn) (os := os) (toks := toks) hj ha hb hk hs subs.length 0 es n (by omega) (by simpa using hes) hz
  rw [List.drop_zero] at z
  rw [List.range_eq_range', List.size_toArray]
  exact z
noncomputable abbrev Run := List (Sem Value × Sem Value)
noncomputable def ddP : { x : (Option Addr × Run) × (Option (Sem Value) × Sem Value → Option Addr × Run → Sem (ForInStep (Option Addr × Run))) × (Option Addr × Run → Sem Value) // ∀ items, dictDisplay items = forIn items x.1 x.2.1 >>= x.2.2 } := by
  refine ⟨(?a, ?b, ?c), ?_⟩
  rotate_right
  intro items
  exact rfl
theorem dd_eq (items : List (Option (Sem Value) × Sem Value)) : dictDisplay items = forIn items (none, []) ddP.1.2.1 >>= ddP.1.2.2 := ddP.2 items
theorem dd_push {k v : Sem Value} {m : Option Addr} {run : Run} (h : run.length ≠ 16) : ddP.1.2.1 (some k, v) (m, run) = pure (.yield (m, run ++ [(k, v)])) := by
  unfold ddP
  dsimp only
  rw [if_neg]
  rw [beq_iff_eq, List.length_append]
  simpa using h
theorem dd_flush0 {h : Heap} {gens : Array GenState} {drawn : Drawn} {os : OsState} {toks : Nat} (hb : Nat.ble n₀ h.objs.size = true) {ps : List (Int × Str)} {k v : Sem Value} {run : Run}
    (hp2 : F2 (PairIs p w n₀ ann b env q) (run ++ [(k, v)]) ps) (hr : Rising ps) (hl : run.length = 16) :
    Go p w n₀ ann b env q 223 (ddP.1.2.1 (some k, v) (none, run)) ⟨hp h [], gens, drawn, toks, os⟩ (.yield (some h.objs.size, [])) ⟨hp h [dObj (ents3 toks ps) 17], gens, drawn, toks + 51, os⟩ := by
  have hpl : ps.length = 17 := by rw [← hp2.len, List.length_append, hl]; rfl
  unfold ddP
  dsimp only
  rw [if_pos (by rw [beq_iff_eq, List.length_append, hl]; rfl)]
  refine go_bind (n := 223) (m := 0) (a := some h.objs.size) ?_ go_pure
  rw [if_neg (by simp)]
  have z := go_sub_long (p := p) (w := w) (n₀ := n₀) (ann := ann) (b := b) (env := env) (q := q) (h := h) (gens := gens) (drawn := drawn) (os := os) (pre := []) (toks := toks) hb hp2 hr (by omega) (by omega)
  rw [hpl] at z
  exact go_bind (n := 223) (m := 0) z go_pure
theorem ents3_len : ∀ (ps : List (Int × Str)) (t : Nat), (ents3 t ps).length = ps.length
  | [], _ => rfl
  | _ :: r, t => by rw [ents3, List.length_cons, List.length_cons, ents3_len r]
theorem ents3_key : ∀ (ps : List (Int × Str)) (t : Nat), ∀ x ∈ ents3 t ps, (∃ k u, x.key = .int k u) ∧ ∃ r ∈ ps, x.hash = r.1
  | [], t, x, h => absurd (show x ∈ [] from h) List.not_mem_nil
  | r :: ps, t, x, h => by
    rw [ents3, List.mem_cons] at h
    rcases h with rfl | h
    · exact ⟨⟨_, _, rfl⟩, r, .head _, rfl⟩
    · obtain ⟨a, y, hy, e⟩ := ents3_key ps _ x h
      exact ⟨a, y, .tail _ hy, e⟩
theorem ents3_rising : ∀ (ps : List (Int × Str)) (t : Nat), ps.Pairwise (fun a c => a.1 < c.1) → (ents3 t ps).Pairwise (fun x y => x.hash < y.hash)
  | [], _, _ => .nil
  | r :: ps, t, h => by
    rw [ents3]
    rw [List.pairwise_cons] at h ⊢
    refine ⟨fun y hy => ?_, ents3_rising ps _ h.2⟩
    obtain ⟨_, z, hz, e⟩ := ents3_key ps _ y hy
    rw [e]; exact h.1 z hz
theorem ents2_len : ∀ (ps : List (Int × Str)) (t : Nat), (ents2 t ps).length = ps.length
  | [], _ => rfl
  | _ :: r, t => by rw [ents2, List.length_cons, List.length_cons, ents2_len r]
theorem ents2_key : ∀ (ps : List (Int × Str)) (t : Nat), ∀ x ∈ ents2 t ps, (∃ k u, x.key = .int k u) ∧ ∃ r ∈ ps, x.hash = r.1
  | [], t, x, h => absurd (show x ∈ [] from h) List.not_mem_nil
  | r :: ps, t, x, h => by
    rw [ents2, List.mem_cons] at h
    rcases h with rfl | h
    · exact ⟨⟨_, _, rfl⟩, r, .head _, rfl⟩
    · obtain ⟨a, y, hy, e⟩ := ents2_key ps _ x h
      exact ⟨a, y, .tail _ hy, e⟩
theorem ents2_rising : ∀ (ps : List (Int × Str)) (t : Nat), ps.Pairwise (fun a c => a.1 < c.1) → (ents2 t ps).Pairwise (fun x y => x.hash < y.hash)
  | [], _, _ => .nil
  | r :: ps, t, h => by
    rw [ents2]
    rw [List.pairwise_cons] at h ⊢
    refine ⟨fun y hy => ?_, ents2_rising ps _ h.2⟩
    obtain ⟨_, z, hz, e⟩ := ents2_key ps _ y hy
    rw [e]; exact h.1 z hz
theorem dd_flush1 {h : Heap} {gens : Array GenState} {drawn : Drawn} {os : OsState} {toks : Nat} (hb : Nat.ble n₀ h.objs.size = true) {ps : List (Int × Str)} {k v : Sem Value} {run : Run} {es : List DictEntry} {n : Nat} {rest : List Obj}
    (hp2 : F2 (PairIs p w n₀ ann b env q) (run ++ [(k, v)]) ps) (hr : Rising ps) (hl : run.length = 16) (hes : ∀ e ∈ es, ∀ r ∈ ps, e.hash < r.1) (hz : es.length + 17 ≤ 1000) (hne : es ≠ []) (hsys : sysModules < h.objs.size) :
    Go p w n₀ ann b env q 330 (ddP.1.2.1 (some k, v) (some h.objs.size, run)) ⟨hp h (dObj es n :: rest), gens, drawn, toks, os⟩ (.yield (some h.objs.size, []))
      ⟨hp h (dObj (es ++ ents3 toks ps) (n + 17) :: (rest ++ [dObj (ents3 toks ps) 17])), gens, drawn, toks + 51, os⟩ := by
  have hpl : ps.length = 17 := by rw [← hp2.len, List.length_append, hl]; rfl
  have hb' : Nat.ble n₀ (h.objs.size + (dObj es n :: rest).length) = true := Nat.ble_eq_true_of_le (Nat.le_trans (Nat.le_of_ble_eq_true hb) (by omega))
  unfold ddP
  dsimp only
  rw [if_pos (by rw [beq_iff_eq, List.length_append, hl]; rfl)]
  refine go_bind (n := 330) (m := 0) (a := some h.objs.size) ?_ go_pure
  rw [if_neg (by simp)]
  have z := go_sub_long (p := p) (w := w) (n₀ := n₀) (ann := ann) (b := b) (env := env) (q := q) (h := h) (gens := gens) (drawn := drawn) (os := os) (pre := dObj es n :: rest) (toks := toks) hb' hp2 hr (by omega) (by omega)
  rw [hpl] at z
  refine go_bind (n := 223) (m := 107) (go_holding z) ?_
  refine go_bind (n := 107) (m := 0) (a := ()) (go_onRaise (go_holding ?_)) go_pure
  have y := go_merge (p := p) (w := w) (n₀ := n₀) (ann := ann) (b := b) (env := env) (q := q) (h := h) (gens := gens) (drawn := drawn) (os := os) (toks := toks + 51) (rest := rest ++ [dObj (ents3 toks ps) 17]) (subs := ents3 toks ps) (es := es) (n := n) (sn := 17) (j := rest.length) (a := h.objs.size + (dObj es n :: rest).length)
    (by simp) (by simp) hb (fun x hx => (ents3_key ps toks x hx).1) (ents3_rising ps toks hr.1) (fun e he x hx => by obtain ⟨r, hr', e'⟩ := (ents3_key ps toks x hx).2; rw [e']; exact hes e he r hr') (by rw [ents3_len, hpl]; exact hz) hne
    (beq_eq_false_iff_ne.mpr (Nat.ne_of_gt (Nat.lt_of_lt_of_le hsys (Nat.le_add_right _ _))))
  rw [ents3_len, hpl] at y
  exact y
theorem dd_last {h : Heap} {gens : Array GenState} {drawn : Drawn} {os : OsState} {toks : Nat} (hb : Nat.ble n₀ h.objs.size = true) {ps : List (Int × Str)} {run : Run} {es : List DictEntry} {n : Nat} {rest : List Obj}
    (hp2 : F2 (PairIs p w n₀ ann b env q) run ps) (hr : Rising ps) (hl : ps.length ≤ 15) (hl0 : run ≠ []) (hes : ∀ e ∈ es, ∀ r ∈ ps, e.hash < r.1) (hz : es.length + ps.length ≤ 1000) (hne : es ≠ []) (hsys : sysModules < h.objs.size) :
    Go p w n₀ ann b env q (6 + 19 * ps.length) (ddP.1.2.2 (some h.objs.size, run)) ⟨hp h (dObj es n :: rest), gens, drawn, toks, os⟩ (.ref h.objs.size)
      ⟨hp h (dObj (es ++ ents2 toks ps) (n + ps.length) :: (rest ++ [dObj (ents2 toks ps) ps.length])), gens, drawn, toks + 3 * ps.length, os⟩ := by
  have hb' : Nat.ble n₀ (h.objs.size + (dObj es n :: rest).length) = true := Nat.ble_eq_true_of_le (Nat.le_trans (Nat.le_of_ble_eq_true hb) (by omega))
  unfold ddP
  dsimp only
  refine go_bind (n := 6 + 19 * ps.length) (m := 0) (a := some h.objs.size) ?_ go_pure
  rw [if_neg (by cases run with | nil => exact absurd rfl hl0 | cons => simp)]
  have z := go_sub_short (p := p) (w := w) (n₀ := n₀) (ann := ann) (b := b) (env := env) (q := q) (h := h) (gens := gens) (drawn := drawn) (os := os) (pre := dObj es n :: rest) (toks := toks) hb' hp2 hr hl
  refine go_n (n := (1 + 13 * ps.length) + ((5 + 6 * ps.length) + 0)) (go_bind (go_holding z) ?_) (by omega)
  refine go_bind (a := ()) (go_onRaise (go_holding ?_)) go_pure
  have y := go_merge (p := p) (w := w) (n₀ := n₀) (ann := ann) (b := b) (env := env) (q := q) (h := h) (gens := gens) (drawn := drawn) (os := os) (toks := toks + 3 * ps.length) (rest := rest ++ [dObj (ents2 toks ps) ps.length]) (subs := ents2 toks ps) (es := es) (n := n) (sn := ps.length) (j := rest.length) (a := h.objs.size + (dObj es n :: rest).length)
    (by simp) (by simp) hb (fun x hx => (ents2_key ps toks x hx).1) (ents2_rising ps toks hr.1) (fun e he x hx => by obtain ⟨r, hr', e'⟩ := (ents2_key ps toks x hx).2; rw [e']; exact hes e he r hr') (by rw [ents2_len]; exact hz) hne
    (beq_eq_false_iff_ne.mpr (Nat.ne_of_gt (Nat.lt_of_lt_of_le hsys (Nat.le_add_right _ _))))
  rw [ents2_len] at y
  exact y

noncomputable def ItemIs (p : Program) (w : World) (n₀ : Nat) (ann : Option Value) (b : List PySem.Stmt) (env : Env) (q : Pos) (x : Option (Sem Value) × Sem Value) (r : Int × Str) : Prop :=
  ∃ k, x.1 = some k ∧ PairIs p w n₀ ann b env q (k, x.2) r
theorem F2.app {α β : Type} {R : α → β → Prop} : ∀ {l l' : List α} {m m' : List β}, F2 R l m → F2 R l' m' → F2 R (l ++ l') (m ++ m')
  | _, _, _, _, .nil, h => h
  | _, _, _, _, .cons a h, h' => .cons a (h.app h')
theorem F2.split {α β : Type} {R : α → β → Prop} : ∀ (k : Nat) {l : List α} {m : List β}, F2 R l m → F2 R (l.take k) (m.take k) ∧ F2 R (l.drop k) (m.drop k)
  | 0, _, _, h => by simpa using ⟨F2.nil, h⟩
  | k + 1, _, _, .nil => by simpa using F2.nil
  | k + 1, _, _, .cons a h => ⟨.cons a (h.split k).1, (h.split k).2⟩
theorem chunk {γ : Type} {g : Option Addr × Run → Sem γ} {m : Option Addr} {c' : Option Addr} {rest : List (Option (Sem Value) × Sem Value)} {s₀ s₁ s₂ : Shared} {r : γ} {N M : Nat} :
    ∀ (c : List (Option (Sem Value) × Sem Value)) (psc : List (Int × Str)) (run : Run) (psr : List (Int × Str)), F2 (ItemIs p w n₀ ann b env q) c psc → F2 (PairIs p w n₀ ann b env q) run psr → run.length + c.length = 17 → c ≠ [] →
    (∀ (k v : Sem Value) (run' : Run), run'.length = 16 → F2 (PairIs p w n₀ ann b env q) (run' ++ [(k, v)]) (psr ++ psc) → Go p w n₀ ann b env q N (ddP.1.2.1 (some k, v) (m, run')) s₀ (.yield (c', [])) s₁) →
    Go p w n₀ ann b env q M (forIn rest (c', []) ddP.1.2.1 >>= g) s₁ r s₂ → Go p w n₀ ann b env q (N + M) (forIn (c ++ rest) (m, run) ddP.1.2.1 >>= g) s₀ r s₂
  | [x], [y], run, psr, .cons h1 .nil, hr, hl, _, hf, hg => by
    obtain ⟨k, hk, hkv⟩ := h1
    obtain ⟨x1, v⟩ := x
    obtain rfl : x1 = some k := hk
    show Go p w n₀ ann b env q (N + M) (forIn ((some k, v) :: rest) (m, run) ddP.1.2.1 >>= g) s₀ r s₂
    rw [List.forIn_cons, bind_assoc]
    exact go_bind (hf k v run (by simpa using hl) (hr.app (.cons hkv .nil))) hg
  | x :: x' :: c, y :: y' :: psc, run, psr, .cons h1 h2, hr, hl, _, hf, hg => by
    obtain ⟨k, hk, hkv⟩ := h1
    obtain ⟨x1, v⟩ := x
    obtain rfl : x1 = some k := hk
    have ih := chunk (x' :: c) (y' :: psc) (run ++ [(k, v)]) (psr ++ [y]) h2 (hr.app (.cons hkv .nil)) (by simp at hl ⊢; omega) (by simp) (fun k v run' a b' => hf k v run' a (by simpa using b')) hg
    show Go p w n₀ ann b env q (N + M) (forIn ((some k, v) :: (x' :: c ++ rest)) (m, run) ddP.1.2.1 >>= g) s₀ r s₂
    rw [List.forIn_cons, dd_push (by simp at hl; omega)]
    exact ih
theorem pushes {m : Option Addr} : ∀ (c : List (Option (Sem Value) × Sem Value)) (psc : List (Int × Str)) (run : Run) (psr : List (Int × Str)), F2 (ItemIs p w n₀ ann b env q) c psc → F2 (PairIs p w n₀ ann b env q) run psr → run.length + c.length ≤ 16 →
    ∃ run', forIn c (m, run) ddP.1.2.1 = pure (m, run') ∧ F2 (PairIs p w n₀ ann b env q) run' (psr ++ psc)
  | [], [], run, psr, .nil, hr, _ => ⟨run, by rw [List.forIn_nil], by simpa using hr⟩
  | x :: c, y :: psc, run, psr, .cons h1 h2, hr, hl => by
    obtain ⟨k, hk, hkv⟩ := h1
    obtain ⟨x1, v⟩ := x
    obtain rfl : x1 = some k := hk
    obtain ⟨run', e, hq⟩ := pushes c psc (run ++ [(k, v)]) (psr ++ [y]) h2 (hr.app (.cons hkv .nil)) (by simp at hl ⊢; omega)
    refine ⟨run', ?_, by simpa using hq⟩
    rw [List.forIn_cons, dd_push (by simp at hl; omega)]
    exact e
noncomputable def mainOf : Nat → Nat → List (Int × Str) → List DictEntry
  | 0, t, l => ents2 t l
  | k + 1, t, l => ents3 t (l.take 17) ++ mainOf k (t + 51) (l.drop 17)
noncomputable def subsOf : Nat → Nat → List (Int × Str) → List Obj
  | 0, t, l => [dObj (ents2 t l) l.length]
  | k + 1, t, l => dObj (ents3 t (l.take 17)) 17 :: subsOf k (t + 51) (l.drop 17)
theorem Rising.take {l : List (Int × Str)} (h : Rising l) (k : Nat) : Rising (l.take k) := ⟨h.1.sublist (List.take_sublist k l), fun r hr => h.2 r (List.mem_of_mem_take hr)⟩
theorem Rising.drop {l : List (Int × Str)} (h : Rising l) (k : Nat) : Rising (l.drop k) := ⟨h.1.sublist (List.drop_sublist k l), fun r hr => h.2 r (List.mem_of_mem_drop hr)⟩
theorem Rising.cut {l : List (Int × Str)} (h : Rising l) (k : Nat) : ∀ x ∈ l.take k, ∀ y ∈ l.drop k, x.1 < y.1 := by
  have := h.1
  rw [← List.take_append_drop k l, List.pairwise_append] at this
  exact this.2.2
theorem dd_rest {h : Heap} {gens : Array GenState} {drawn : Drawn} {os : OsState} (hb : Nat.ble n₀ h.objs.size = true) (hsys : sysModules < h.objs.size) : ∀ (k : Nat) (items : List (Option (Sem Value) × Sem Value)) (l : List (Int × Str)) (es : List DictEntry) (n toks : Nat) (rest : List Obj),
    F2 (ItemIs p w n₀ ann b env q) items l → Rising l → 17 * k < l.length → l.length ≤ 17 * k + 15 → es ≠ [] → (∀ e ∈ es, ∀ r ∈ l, e.hash < r.1) → es.length + l.length ≤ 1000 →
    Go p w n₀ ann b env q (330 * k + (6 + 19 * (l.length - 17 * k))) (forIn items (some h.objs.size, []) ddP.1.2.1 >>= ddP.1.2.2) ⟨hp h (dObj es n :: rest), gens, drawn, toks, os⟩ (.ref h.objs.size)
      ⟨hp h (dObj (es ++ mainOf k toks l) (n + l.length) :: (rest ++ subsOf k toks l)), gens, drawn, toks + 3 * l.length, os⟩
  | 0, items, l, es, n, toks, rest, hi, hr, h1, h2, hne, hes, hz => by
    obtain ⟨run', e, hq⟩ := pushes (m := some h.objs.size) items l [] [] hi .nil (by rw [hi.len]; simp; omega)
    rw [e]
    rw [List.nil_append] at hq
    have z := dd_last (p := p) (w := w) (n₀ := n₀) (ann := ann) (b := b) (env := env) (q := q) (h := h) (gens := gens) (drawn := drawn) (os := os) (toks := toks) (n := n) (rest := rest) hb hq hr (by omega) (by
      intro e'; rw [e'] at hq; have := hq.len; simp at this; rw [← this] at h1; simp at h1) hes hz hne hsys
    exact go_n z (by omega)
  | k + 1, items, l, es, n, toks, rest, hi, hr, h1, h2, hne, hes, hz => by
    have hl17 : (l.take 17).length = 17 := by rw [List.length_take]; omega
    have hld : (l.drop 17).length = l.length - 17 := List.length_drop ..
    have hlen : 0 < (ents3 toks (l.take 17)).length := by rw [ents3_len, hl17]; omega
    have sp := hi.split 17
    have ih := dd_rest (gens := gens) (drawn := drawn) (os := os) hb hsys k (items.drop 17) (l.drop 17) (es ++ ents3 toks (l.take 17)) (n + 17) (toks + 51) (rest ++ [dObj (ents3 toks (l.take 17)) 17]) sp.2 (hr.drop 17) (by rw [hld]; omega) (by rw [hld]; omega)
      (by intro e; have := congrArg List.length e; rw [List.length_append, List.length_nil] at this; omega) (by
        intro e he r hr'
        rcases List.mem_append.mp he with he | he
        · exact hes e he r (List.mem_of_mem_drop hr')
        · obtain ⟨_, z, hz, e'⟩ := ents3_key _ _ e he
          rw [e']; exact hr.cut 17 z hz r hr') (by rw [List.length_append, ents3_len, hl17, hld]; omega)
    have hne17 : items.take 17 ≠ [] := by
      intro e; have := sp.1.len; rw [e, hl17] at this; simp at this
    have key := chunk (p := p) (w := w) (n₀ := n₀) (ann := ann) (b := b) (env := env) (q := q) (g := ddP.1.2.2) (m := some h.objs.size) (rest := items.drop 17) (s₀ := ⟨hp h (dObj es n :: rest), gens, drawn, toks, os⟩) (items.take 17) (l.take 17) [] [] sp.1 .nil (by rw [sp.1.len, hl17]; rfl) hne17
      (fun k v run' a b' => dd_flush1 hb b' (hr.take 17) a (fun e he r hr' => hes e he r (List.mem_of_mem_take hr')) (by omega) hne hsys) ih
    rw [List.take_append_drop] at key
    refine go_then (go_n key (by rw [hld]; omega)) ?_
    rw [hld]
    simp only [mainOf, subsOf, List.append_assoc, List.cons_append, List.nil_append]
    rw [show n + 17 + (l.length - 17) = n + l.length by omega, show toks + 51 + 3 * (l.length - 17) = toks + 3 * l.length by omega]
theorem dd_all {h : Heap} {gens : Array GenState} {drawn : Drawn} {os : OsState} {toks : Nat} (hb : Nat.ble n₀ h.objs.size = true) (hsys : sysModules < h.objs.size) (k : Nat) (items : List (Option (Sem Value) × Sem Value)) (l : List (Int × Str))
    (hi : F2 (ItemIs p w n₀ ann b env q) items l) (hr : Rising l) (h1 : 17 * (k + 1) < l.length) (h2 : l.length ≤ 17 * (k + 1) + 15) (hz : l.length ≤ 1000) :
    Go p w n₀ ann b env q (223 + (330 * k + (6 + 19 * (l.length - 17 - 17 * k)))) (dictDisplay items) ⟨hp h [], gens, drawn, toks, os⟩ (.ref h.objs.size)
      ⟨hp h (dObj (mainOf (k + 1) toks l) l.length :: subsOf k (toks + 51) (l.drop 17)), gens, drawn, toks + 3 * l.length, os⟩ := by
  have hl17 : (l.take 17).length = 17 := by rw [List.length_take]; omega
  have hld : (l.drop 17).length = l.length - 17 := List.length_drop ..
  have sp := hi.split 17
  have hne17 : items.take 17 ≠ [] := by
    intro e; have := sp.1.len; rw [e, hl17] at this; simp at this
  have ih := dd_rest (p := p) (w := w) (n₀ := n₀) (ann := ann) (b := b) (env := env) (q := q) (h := h) (gens := gens) (drawn := drawn) (os := os) hb hsys k (items.drop 17) (l.drop 17) (ents3 toks (l.take 17)) 17 (toks + 51) [] sp.2 (hr.drop 17) (by rw [hld]; omega) (by rw [hld]; omega)
    (by intro e; have := congrArg List.length e; rw [ents3_len, hl17] at this; simp at this) (by
      intro e he r hr'
      obtain ⟨_, z, hz, e'⟩ := ents3_key _ _ e he
      rw [e']; exact hr.cut 17 z hz r hr') (by rw [ents3_len, hl17, hld]; omega)
  have key := chunk (p := p) (w := w) (n₀ := n₀) (ann := ann) (b := b) (env := env) (q := q) (g := ddP.1.2.2) (m := none) (rest := items.drop 17) (s₀ := ⟨hp h [], gens, drawn, toks, os⟩) (items.take 17) (l.take 17) [] [] sp.1 .nil (by rw [sp.1.len, hl17]; rfl) hne17
    (fun k v run' a b' => dd_flush0 hb b' (hr.take 17) a) ih
  rw [List.take_append_drop] at key
  rw [dd_eq]
  refine go_then (go_n key (by rw [hld])) ?_
  rw [hld]
  simp only [mainOf, List.nil_append]
  rw [show 17 + (l.length - 17) = l.length by omega, show toks + 51 + 3 * (l.length - 17) = toks + 3 * l.length by omega]
end
end Mine

open PySem PySem.W PyProof.Rows
set_option Elab.async false
set_option maxRecDepth 100000
set_option maxHeartbeats 0
set_option linter.unusedVariables false
namespace Mine
noncomputable section
theorem said : PySem.Challenge.rw_rw0067_01.wellSaid = true := by k_qdec
noncomputable abbrev pW : Program := PySem.Challenge.pw_rw0067_01
noncomputable abbrev pT : Program := PySem.W.Fast.tw1139719299734052072
noncomputable def fnD (i : Nat) (q : Str) (g : Addr) (d kd doc pm : Value) (an : Option Addr) (code ct : Value) (bn : Addr) (cl : List (Str × Addr)) : Data :=
  match pT.main.body.drop i with
  | .FunctionDef name args body _ _ _ scope _ _ _ :: _ => .func { name := name, qualname := q, params := args, body := .stmts body, scope := scope, globals := g, closure := cl, defaults := d, kwdefaults := kd, doc := doc, pyModule := pm, annotations := an, code := code, closureTuple := ct, builtins := bn }
  | _ => .plain
noncomputable def keyOf : Option PySem.Expr → Int
  | some (.Constant (.int i) _ _) => i
  | _ => 0
noncomputable def valOf' : PySem.Expr → Str
  | .Constant (.str s) _ _ => s
  | _ => ⟨#[]⟩
noncomputable def zipT : List (Option PySem.Expr) → List PySem.Expr → List (Int × Str)
  | k :: ks, v :: vs => (keyOf k, valOf' v) :: zipT ks vs
  | _, _ => []
noncomputable def dictParts : List PySem.Stmt → List (Option PySem.Expr) × List PySem.Expr × Pos
  | .Assign _ (.Dict ks vs p) _ :: _ => (ks, vs, p)
  | _ => ([], [], default)
noncomputable def dparts := dictParts (pT.main.body.drop 5)
noncomputable def tab : List (Int × Str) := zipT dparts.1 dparts.2.1
noncomputable def objsD : List Obj := dObj (mainOf 38 270 tab) tab.length :: subsOf 37 321 (tab.drop 17)
noncomputable def dk (i : Nat) (_ : Params) : Obj := objsD.getD i default
noncomputable def o0_0 (P : Params) : Obj := ((boot_heap P).get? 0).getD default
noncomputable def o1_0 (P : Params) : Obj := ((boot_heap P).get? 1).getD default
noncomputable def o2_0 (P : Params) : Obj := ⟨.none, none, .dict #[] 0, #[]⟩
noncomputable def o3_0 (P : Params) : Obj := ⟨.type "dict", none, .dict #[⟨(PyData.keyHash P ⟨#[95, 95, 110, 97, 109, 101, 95, 95]⟩), .str ⟨#[95, 95, 110, 97, 109, 101, 95, 95]⟩ 165, .str ⟨#[95, 95, 109, 97, 105, 110, 95, 95]⟩ 164⟩, ⟨(PyData.keyHash P ⟨#[95, 95, 100, 111, 99, 95, 95]⟩), .str ⟨#[95, 95, 100, 111, 99, 95, 95]⟩ 166, .none⟩, ⟨(PyData.keyHash P ⟨#[95, 95, 112, 97, 99, 107, 97, 103, 101, 95, 95]⟩), .str ⟨#[95, 95, 112, 97, 99, 107, 97, 103, 101, 95, 95]⟩ 167, .none⟩, ⟨(PyData.keyHash P ⟨#[95, 95, 108, 111, 97, 100, 101, 114, 95, 95]⟩), .str ⟨#[95, 95, 108, 111, 97, 100, 101, 114, 95, 95]⟩ 168, .builtin "__main__.__loader__#opaque"⟩, ⟨(PyData.keyHash P ⟨#[95, 95, 115, 112, 101, 99, 95, 95]⟩), .str ⟨#[95, 95, 115, 112, 101, 99, 95, 95]⟩ 169, .none⟩, ⟨(PyData.keyHash P ⟨#[95, 95, 97, 110, 110, 111, 116, 97, 116, 105, 111, 110, 115, 95, 95]⟩), .str ⟨#[95, 95, 97, 110, 110, 111, 116, 97, 116, 105, 111, 110, 115, 95, 95]⟩ 170, .ref 6⟩, ⟨(PyData.keyHash P ⟨#[95, 95, 98, 117, 105, 108, 116, 105, 110, 115, 95, 95]⟩), .str ⟨#[95, 95, 98, 117, 105, 108, 116, 105, 110, 115, 95, 95]⟩ 171, .ref 4⟩, ⟨(PyData.keyHash P ⟨#[95, 95, 102, 105, 108, 101, 95, 95]⟩), .str ⟨#[95, 95, 102, 105, 108, 101, 95, 95]⟩ 173, .str ⟨#[47, 99, 108, 97, 105, 109, 47, 99, 117, 116, 46, 112, 121]⟩ 172⟩, ⟨(PyData.keyHash P ⟨#[95, 95, 99, 97, 99, 104, 101, 100, 95, 95]⟩), .str ⟨#[95, 95, 99, 97, 99, 104, 101, 100, 95, 95]⟩ 174, .none⟩] 9, #[]⟩
noncomputable def o4_0 (P : Params) : Obj := ⟨.type "module", (some (0)), .plain, #[]⟩
noncomputable def o5_0 (P : Params) : Obj := ⟨.type "module", (some (3)), .plain, #[]⟩
noncomputable def o6_0 (P : Params) : Obj := ⟨.type "dict", none, .dict #[] 0, #[]⟩
noncomputable def o7_0 (P : Params) : Obj := ⟨.type "tuple", none, .seq #[] 0, #[]⟩
noncomputable def o8_0 (P : Params) : Obj := ⟨.none, none, .fields #[], #[]⟩
noncomputable def o9_0 (P : Params) : Obj := ⟨.type "code", none, .fields #[.str ⟨#[60, 109, 111, 100, 117, 108, 101, 62]⟩ 176, .str ⟨#[60, 109, 111, 100, 117, 108, 101, 62]⟩ 177, .str ⟨#[47, 99, 108, 97, 105, 109, 47, 99, 117, 116, 46, 112, 121]⟩ 178, .int (1) 0, .int (0) 0, .int (0) 0, .int (0) 0, .int (0) 0, .ref 7, .bool false, .int (175) 0, .ref 8, .none, .none, .none, .none, .int (179) 0, .int (1) 0, .str ⟨#[47, 99, 108, 97, 105, 109, 47, 99, 117, 116, 46, 112, 121]⟩ 180], #[]⟩
noncomputable def o10_0 (P : Params) : Obj := ((boot_heap P).get? 10).getD default
noncomputable def o13_0 (P : Params) : Obj := ⟨.type "code", none, .fields #[.str ⟨#[60, 109, 111, 100, 117, 108, 101, 62]⟩ 182, .str ⟨#[60, 109, 111, 100, 117, 108, 101, 62]⟩ 183, .str ⟨#[47, 99, 108, 97, 105, 109, 47, 99, 117, 116, 46, 112, 121]⟩ 184, .int (1) 0, .int (0) 0, .int (0) 0, .int (0) 0, .int (0) 0, .ref 11, .bool false, .int (181) 0, .ref 12, .none, .none, .none, .none, .int (185) 0, .int (1) 0, .str ⟨#[47, 99, 108, 97, 105, 109, 47, 99, 117, 116, 46, 112, 121]⟩ 186], #[]⟩
noncomputable def o14_0 (P : Params) : Obj := ⟨.type "frame", none, .plain, #[(some (.ref 13)), (some (.ref 3)), (some (.ref 3)), none, (some (.str ⟨#[95, 95, 109, 97, 105, 110, 95, 95]⟩ 164)), none, (some (.ref 0))]⟩
noncomputable def o3_1 (P : Params) : Obj := ⟨.type "dict", none, .dict #[⟨(PyData.keyHash P ⟨#[95, 95, 110, 97, 109, 101, 95, 95]⟩), .str ⟨#[95, 95, 110, 97, 109, 101, 95, 95]⟩ 165, .str ⟨#[99, 112, 121, 51, 49, 51, 46, 115, 116, 114, 105, 110, 103, 112, 114, 101, 112]⟩ 201⟩, ⟨(PyData.keyHash P ⟨#[95, 95, 100, 111, 99, 95, 95]⟩), .str ⟨#[95, 95, 100, 111, 99, 95, 95]⟩ 166, .none⟩, ⟨(PyData.keyHash P ⟨#[95, 95, 112, 97, 99, 107, 97, 103, 101, 95, 95]⟩), .str ⟨#[95, 95, 112, 97, 99, 107, 97, 103, 101, 95, 95]⟩ 167, .none⟩, ⟨(PyData.keyHash P ⟨#[95, 95, 108, 111, 97, 100, 101, 114, 95, 95]⟩), .str ⟨#[95, 95, 108, 111, 97, 100, 101, 114, 95, 95]⟩ 168, .builtin "__main__.__loader__#opaque"⟩, ⟨(PyData.keyHash P ⟨#[95, 95, 115, 112, 101, 99, 95, 95]⟩), .str ⟨#[95, 95, 115, 112, 101, 99, 95, 95]⟩ 169, .none⟩, ⟨(PyData.keyHash P ⟨#[95, 95, 97, 110, 110, 111, 116, 97, 116, 105, 111, 110, 115, 95, 95]⟩), .str ⟨#[95, 95, 97, 110, 110, 111, 116, 97, 116, 105, 111, 110, 115, 95, 95]⟩ 170, .ref 6⟩, ⟨(PyData.keyHash P ⟨#[95, 95, 98, 117, 105, 108, 116, 105, 110, 115, 95, 95]⟩), .str ⟨#[95, 95, 98, 117, 105, 108, 116, 105, 110, 115, 95, 95]⟩ 171, .ref 4⟩, ⟨(PyData.keyHash P ⟨#[95, 95, 102, 105, 108, 101, 95, 95]⟩), .str ⟨#[95, 95, 102, 105, 108, 101, 95, 95]⟩ 173, .str ⟨#[47, 99, 108, 97, 105, 109, 47, 99, 117, 116, 46, 112, 121]⟩ 172⟩, ⟨(PyData.keyHash P ⟨#[95, 95, 99, 97, 99, 104, 101, 100, 95, 95]⟩), .str ⟨#[95, 95, 99, 97, 99, 104, 101, 100, 95, 95]⟩ 174, .none⟩, ⟨(PyData.keyHash P ⟨#[95, 100, 101, 100, 101, 110, 116]⟩), .str ⟨#[95, 100, 101, 100, 101, 110, 116]⟩ 200, .ref 21⟩] 10, #[]⟩
noncomputable def o12_0 (P : Params) : Obj := ⟨.none, none, .fields #[.int (2) 0, .int (0) 0, .ref 20], #[]⟩
noncomputable def o17_0 (P : Params) : Obj := ⟨.type "tuple", none, .seq #[.str ⟨#[116, 101, 120, 116]⟩ 192, .str ⟨#[108, 105, 110, 101, 115]⟩ 193, .str ⟨#[105]⟩ 194, .str ⟨#[99, 104]⟩ 195, .str ⟨#[106]⟩ 196, .str ⟨#[108]⟩ 197] 0, #[]⟩
noncomputable def o19_0 (P : Params) : Obj := ⟨.none, none, fnD 1 ⟨#[95, 100, 101, 100, 101, 110, 116]⟩ 0 (.none) (.none) (.none) (.none) none (.none) (.none) 0 [], #[]⟩
noncomputable def o20_0 (P : Params) : Obj := ⟨.type "code", none, .fields #[.str ⟨#[95, 100, 101, 100, 101, 110, 116]⟩ 189, .str ⟨#[95, 100, 101, 100, 101, 110, 116]⟩ 190, .str ⟨#[47, 99, 108, 97, 105, 109, 47, 99, 117, 116, 46, 112, 121]⟩ 191, .int (2) 0, .int (1) 0, .int (0) 0, .int (0) 0, .int (3) 0, .ref 15, .bool true, .int (181) 0, .ref 16, .none, .ref 17, .ref 18, .ref 19, .int (198) 0, .int (2) 0, .str ⟨#[47, 99, 108, 97, 105, 109, 47, 99, 117, 116, 46, 112, 121]⟩ 199], #[]⟩
noncomputable def o21_0 (P : Params) : Obj := ⟨.type "function", none, fnD 1 ⟨#[95, 100, 101, 100, 101, 110, 116]⟩ 3 (.none) (.none) (.none) (.str ⟨#[99, 112, 121, 51, 49, 51, 46, 101, 110, 117, 109]⟩ 187) none (.ref 20) (.none) 0 [], #[]⟩
noncomputable def o3_2 (P : Params) : Obj := ⟨.type "dict", none, .dict #[⟨(PyData.keyHash P ⟨#[95, 95, 110, 97, 109, 101, 95, 95]⟩), .str ⟨#[95, 95, 110, 97, 109, 101, 95, 95]⟩ 165, .str ⟨#[99, 112, 121, 51, 49, 51, 46, 115, 116, 114, 105, 110, 103, 112, 114, 101, 112]⟩ 201⟩, ⟨(PyData.keyHash P ⟨#[95, 95, 100, 111, 99, 95, 95]⟩), .str ⟨#[95, 95, 100, 111, 99, 95, 95]⟩ 166, .none⟩, ⟨(PyData.keyHash P ⟨#[95, 95, 112, 97, 99, 107, 97, 103, 101, 95, 95]⟩), .str ⟨#[95, 95, 112, 97, 99, 107, 97, 103, 101, 95, 95]⟩ 167, .none⟩, ⟨(PyData.keyHash P ⟨#[95, 95, 108, 111, 97, 100, 101, 114, 95, 95]⟩), .str ⟨#[95, 95, 108, 111, 97, 100, 101, 114, 95, 95]⟩ 168, .builtin "__main__.__loader__#opaque"⟩, ⟨(PyData.keyHash P ⟨#[95, 95, 115, 112, 101, 99, 95, 95]⟩), .str ⟨#[95, 95, 115, 112, 101, 99, 95, 95]⟩ 169, .none⟩, ⟨(PyData.keyHash P ⟨#[95, 95, 97, 110, 110, 111, 116, 97, 116, 105, 111, 110, 115, 95, 95]⟩), .str ⟨#[95, 95, 97, 110, 110, 111, 116, 97, 116, 105, 111, 110, 115, 95, 95]⟩ 170, .ref 6⟩, ⟨(PyData.keyHash P ⟨#[95, 95, 98, 117, 105, 108, 116, 105, 110, 115, 95, 95]⟩), .str ⟨#[95, 95, 98, 117, 105, 108, 116, 105, 110, 115, 95, 95]⟩ 171, .ref 4⟩, ⟨(PyData.keyHash P ⟨#[95, 95, 102, 105, 108, 101, 95, 95]⟩), .str ⟨#[95, 95, 102, 105, 108, 101, 95, 95]⟩ 173, .str ⟨#[47, 99, 108, 97, 105, 109, 47, 99, 117, 116, 46, 112, 121]⟩ 172⟩, ⟨(PyData.keyHash P ⟨#[95, 95, 99, 97, 99, 104, 101, 100, 95, 95]⟩), .str ⟨#[95, 95, 99, 97, 99, 104, 101, 100, 95, 95]⟩ 174, .none⟩, ⟨(PyData.keyHash P ⟨#[95, 100, 101, 100, 101, 110, 116]⟩), .str ⟨#[95, 100, 101, 100, 101, 110, 116]⟩ 200, .ref 21⟩, ⟨(PyData.keyHash P ⟨#[98, 49, 95, 115, 101, 116]⟩), .str ⟨#[98, 49, 95, 115, 101, 116]⟩ 262, .ref 29⟩] 11, #[]⟩
noncomputable def o22_0 (P : Params) : Obj := ⟨.type "list", none, .seq #[.int (173) 203, .int (847) 204, .int (6150) 205, .int (6155) 206, .int (6156) 207, .int (6157) 208, .int (8203) 209, .int (8204) 210, .int (8205) 211, .int (8288) 212, .int (65279) 213] 0, #[]⟩
noncomputable def o23_0 (P : Params) : Obj := ⟨.type "range", none, .fields #[.int (65024) 214, .int (65040) 215, .int (1) 216], #[]⟩
noncomputable def o24_0 (P : Params) : Obj := ⟨.type "list", none, .seq #[.int (65024) 219, .int (65025) 220, .int (65026) 221, .int (65027) 222, .int (65028) 223, .int (65029) 224, .int (65030) 225, .int (65031) 226, .int (65032) 227, .int (65033) 228, .int (65034) 229, .int (65035) 230, .int (65036) 231, .int (65037) 232, .int (65038) 233, .int (65039) 234] 18, #[]⟩
noncomputable def o25_0 (P : Params) : Obj := ⟨.type "range_iterator", none, .fields #[.int (65040) 0, .int (0) 0, .int (1) 0], #[]⟩
noncomputable def o27_0 (P : Params) : Obj := ⟨.type "StopIteration", none, .fields #[.ref 26, .none, .none, .none, .bool false, .none], #[]⟩
noncomputable def o28_0 (P : Params) : Obj := ⟨.type "list", none, .seq #[.int (173) 203, .int (847) 204, .int (6150) 205, .int (6155) 206, .int (6156) 207, .int (6157) 208, .int (8203) 209, .int (8204) 210, .int (8205) 211, .int (8288) 212, .int (65279) 213, .int (65024) 219, .int (65025) 220, .int (65026) 221, .int (65027) 222, .int (65028) 223, .int (65029) 224, .int (65030) 225, .int (65031) 226, .int (65032) 227, .int (65033) 228, .int (65034) 229, .int (65035) 230, .int (65036) 231, .int (65037) 232, .int (65038) 233, .int (65039) 234] 0, #[]⟩
noncomputable def o29_0 (P : Params) : Obj := ⟨.type "set", none, .set #[(65024, .int (65024) 219), (65025, .int (65025) 220), (65026, .int (65026) 221), (65027, .int (65027) 222), (65028, .int (65028) 223), (65029, .int (65029) 224), (6150, .int (6150) 205), (65030, .int (65030) 225), (65031, .int (65031) 226), (65032, .int (65032) 227), (65033, .int (65033) 228), (6155, .int (6155) 206), (6156, .int (6156) 207), (6157, .int (6157) 208), (8203, .int (8203) 209), (8204, .int (8204) 210), (8205, .int (8205) 211), (65034, .int (65034) 229), (65035, .int (65035) 230), (65036, .int (65036) 231), (65037, .int (65037) 232), (65038, .int (65038) 233), (65039, .int (65039) 234), (173, .int (173) 203), (847, .int (847) 204), (8288, .int (8288) 212), (65279, .int (65279) 213)] 29 ⟨127, #[0, 1, 2, 3, 4, 5, 6, 7, 8, 9, 10, 11, 12, 13, 14, 15, 16, 17, 18, 19, 20, 21, 22, 45, 79, 96, 127], #[], 0, !P.followText "set-order", 2, true⟩, #[]⟩
noncomputable def o30_0 (P : Params) : Obj := ⟨.type "list_iterator", none, .fields #[.none, .int (27) 0], #[]⟩
noncomputable def o32_0 (P : Params) : Obj := ⟨.type "StopIteration", none, .fields #[.ref 31, .none, .none, .none, .bool false, .none], #[]⟩
noncomputable def o3_3 (P : Params) : Obj := ⟨.type "dict", none, .dict #[⟨(PyData.keyHash P ⟨#[95, 95, 110, 97, 109, 101, 95, 95]⟩), .str ⟨#[95, 95, 110, 97, 109, 101, 95, 95]⟩ 165, .str ⟨#[99, 112, 121, 51, 49, 51, 46, 115, 116, 114, 105, 110, 103, 112, 114, 101, 112]⟩ 201⟩, ⟨(PyData.keyHash P ⟨#[95, 95, 100, 111, 99, 95, 95]⟩), .str ⟨#[95, 95, 100, 111, 99, 95, 95]⟩ 166, .none⟩, ⟨(PyData.keyHash P ⟨#[95, 95, 112, 97, 99, 107, 97, 103, 101, 95, 95]⟩), .str ⟨#[95, 95, 112, 97, 99, 107, 97, 103, 101, 95, 95]⟩ 167, .none⟩, ⟨(PyData.keyHash P ⟨#[95, 95, 108, 111, 97, 100, 101, 114, 95, 95]⟩), .str ⟨#[95, 95, 108, 111, 97, 100, 101, 114, 95, 95]⟩ 168, .builtin "__main__.__loader__#opaque"⟩, ⟨(PyData.keyHash P ⟨#[95, 95, 115, 112, 101, 99, 95, 95]⟩), .str ⟨#[95, 95, 115, 112, 101, 99, 95, 95]⟩ 169, .none⟩, ⟨(PyData.keyHash P ⟨#[95, 95, 97, 110, 110, 111, 116, 97, 116, 105, 111, 110, 115, 95, 95]⟩), .str ⟨#[95, 95, 97, 110, 110, 111, 116, 97, 116, 105, 111, 110, 115, 95, 95]⟩ 170, .ref 6⟩, ⟨(PyData.keyHash P ⟨#[95, 95, 98, 117, 105, 108, 116, 105, 110, 115, 95, 95]⟩), .str ⟨#[95, 95, 98, 117, 105, 108, 116, 105, 110, 115, 95, 95]⟩ 171, .ref 4⟩, ⟨(PyData.keyHash P ⟨#[95, 95, 102, 105, 108, 101, 95, 95]⟩), .str ⟨#[95, 95, 102, 105, 108, 101, 95, 95]⟩ 173, .str ⟨#[47, 99, 108, 97, 105, 109, 47, 99, 117, 116, 46, 112, 121]⟩ 172⟩, ⟨(PyData.keyHash P ⟨#[95, 95, 99, 97, 99, 104, 101, 100, 95, 95]⟩), .str ⟨#[95, 95, 99, 97, 99, 104, 101, 100, 95, 95]⟩ 174, .none⟩, ⟨(PyData.keyHash P ⟨#[95, 100, 101, 100, 101, 110, 116]⟩), .str ⟨#[95, 100, 101, 100, 101, 110, 116]⟩ 200, .ref 21⟩, ⟨(PyData.keyHash P ⟨#[98, 49, 95, 115, 101, 116]⟩), .str ⟨#[98, 49, 95, 115, 101, 116]⟩ 262, .ref 29⟩, ⟨(PyData.keyHash P ⟨#[105, 110, 95, 116, 97, 98, 108, 101, 95, 98, 49]⟩), .str ⟨#[105, 110, 95, 116, 97, 98, 108, 101, 95, 98, 49]⟩ 269, .ref 39⟩] 12, #[]⟩
noncomputable def o12_1 (P : Params) : Obj := ⟨.none, none, .fields #[.int (2) 0, .int (0) 0, .ref 20, .int (12) 0, .int (0) 0, .ref 38], #[]⟩
noncomputable def o35_0 (P : Params) : Obj := ⟨.type "tuple", none, .seq #[.str ⟨#[99, 111, 100, 101]⟩ 266] 0, #[]⟩
noncomputable def o37_0 (P : Params) : Obj := ⟨.none, none, fnD 4 ⟨#[105, 110, 95, 116, 97, 98, 108, 101, 95, 98, 49]⟩ 0 (.none) (.none) (.none) (.none) none (.none) (.none) 0 [], #[]⟩
noncomputable def o38_0 (P : Params) : Obj := ⟨.type "code", none, .fields #[.str ⟨#[105, 110, 95, 116, 97, 98, 108, 101, 95, 98, 49]⟩ 263, .str ⟨#[105, 110, 95, 116, 97, 98, 108, 101, 95, 98, 49]⟩ 264, .str ⟨#[47, 99, 108, 97, 105, 109, 47, 99, 117, 116, 46, 112, 121]⟩ 265, .int (12) 0, .int (1) 0, .int (0) 0, .int (0) 0, .int (3) 0, .ref 33, .bool true, .int (181) 0, .ref 34, .none, .ref 35, .ref 36, .ref 37, .int (267) 0, .int (12) 0, .str ⟨#[47, 99, 108, 97, 105, 109, 47, 99, 117, 116, 46, 112, 121]⟩ 268], #[]⟩
noncomputable def o39_0 (P : Params) : Obj := ⟨.type "function", none, fnD 4 ⟨#[105, 110, 95, 116, 97, 98, 108, 101, 95, 98, 49]⟩ 3 (.none) (.none) (.none) (.str ⟨#[99, 112, 121, 51, 49, 51, 46, 115, 116, 114, 105, 110, 103, 112, 114, 101, 112]⟩ 201) none (.ref 38) (.none) 0 [], #[]⟩
noncomputable def o3_4 (P : Params) : Obj := ⟨.type "dict", none, .dict #[⟨(PyData.keyHash P ⟨#[95, 95, 110, 97, 109, 101, 95, 95]⟩), .str ⟨#[95, 95, 110, 97, 109, 101, 95, 95]⟩ 165, .str ⟨#[99, 112, 121, 51, 49, 51, 46, 115, 116, 114, 105, 110, 103, 112, 114, 101, 112]⟩ 201⟩, ⟨(PyData.keyHash P ⟨#[95, 95, 100, 111, 99, 95, 95]⟩), .str ⟨#[95, 95, 100, 111, 99, 95, 95]⟩ 166, .none⟩, ⟨(PyData.keyHash P ⟨#[95, 95, 112, 97, 99, 107, 97, 103, 101, 95, 95]⟩), .str ⟨#[95, 95, 112, 97, 99, 107, 97, 103, 101, 95, 95]⟩ 167, .none⟩, ⟨(PyData.keyHash P ⟨#[95, 95, 108, 111, 97, 100, 101, 114, 95, 95]⟩), .str ⟨#[95, 95, 108, 111, 97, 100, 101, 114, 95, 95]⟩ 168, .builtin "__main__.__loader__#opaque"⟩, ⟨(PyData.keyHash P ⟨#[95, 95, 115, 112, 101, 99, 95, 95]⟩), .str ⟨#[95, 95, 115, 112, 101, 99, 95, 95]⟩ 169, .none⟩, ⟨(PyData.keyHash P ⟨#[95, 95, 97, 110, 110, 111, 116, 97, 116, 105, 111, 110, 115, 95, 95]⟩), .str ⟨#[95, 95, 97, 110, 110, 111, 116, 97, 116, 105, 111, 110, 115, 95, 95]⟩ 170, .ref 6⟩, ⟨(PyData.keyHash P ⟨#[95, 95, 98, 117, 105, 108, 116, 105, 110, 115, 95, 95]⟩), .str ⟨#[95, 95, 98, 117, 105, 108, 116, 105, 110, 115, 95, 95]⟩ 171, .ref 4⟩, ⟨(PyData.keyHash P ⟨#[95, 95, 102, 105, 108, 101, 95, 95]⟩), .str ⟨#[95, 95, 102, 105, 108, 101, 95, 95]⟩ 173, .str ⟨#[47, 99, 108, 97, 105, 109, 47, 99, 117, 116, 46, 112, 121]⟩ 172⟩, ⟨(PyData.keyHash P ⟨#[95, 95, 99, 97, 99, 104, 101, 100, 95, 95]⟩), .str ⟨#[95, 95, 99, 97, 99, 104, 101, 100, 95, 95]⟩ 174, .none⟩, ⟨(PyData.keyHash P ⟨#[95, 100, 101, 100, 101, 110, 116]⟩), .str ⟨#[95, 100, 101, 100, 101, 110, 116]⟩ 200, .ref 21⟩, ⟨(PyData.keyHash P ⟨#[98, 49, 95, 115, 101, 116]⟩), .str ⟨#[98, 49, 95, 115, 101, 116]⟩ 262, .ref 29⟩, ⟨(PyData.keyHash P ⟨#[105, 110, 95, 116, 97, 98, 108, 101, 95, 98, 49]⟩), .str ⟨#[105, 110, 95, 116, 97, 98, 108, 101, 95, 98, 49]⟩ 269, .ref 39⟩, ⟨(PyData.keyHash P ⟨#[98, 51, 95, 101, 120, 99, 101, 112, 116, 105, 111, 110, 115]⟩), .str ⟨#[98, 51, 95, 101, 120, 99, 101, 112, 116, 105, 111, 110, 115]⟩ 2220, .ref 40⟩] 13, #[]⟩
noncomputable def o3_5 (P : Params) : Obj := ⟨.type "dict", none, .dict #[⟨(PyData.keyHash P ⟨#[95, 95, 110, 97, 109, 101, 95, 95]⟩), .str ⟨#[95, 95, 110, 97, 109, 101, 95, 95]⟩ 165, .str ⟨#[108, 97, 119, 95, 114, 119, 48, 48, 54, 55, 95, 48, 49]⟩ 2236⟩, ⟨(PyData.keyHash P ⟨#[95, 95, 100, 111, 99, 95, 95]⟩), .str ⟨#[95, 95, 100, 111, 99, 95, 95]⟩ 166, .none⟩, ⟨(PyData.keyHash P ⟨#[95, 95, 112, 97, 99, 107, 97, 103, 101, 95, 95]⟩), .str ⟨#[95, 95, 112, 97, 99, 107, 97, 103, 101, 95, 95]⟩ 167, .none⟩, ⟨(PyData.keyHash P ⟨#[95, 95, 108, 111, 97, 100, 101, 114, 95, 95]⟩), .str ⟨#[95, 95, 108, 111, 97, 100, 101, 114, 95, 95]⟩ 168, .builtin "__main__.__loader__#opaque"⟩, ⟨(PyData.keyHash P ⟨#[95, 95, 115, 112, 101, 99, 95, 95]⟩), .str ⟨#[95, 95, 115, 112, 101, 99, 95, 95]⟩ 169, .none⟩, ⟨(PyData.keyHash P ⟨#[95, 95, 97, 110, 110, 111, 116, 97, 116, 105, 111, 110, 115, 95, 95]⟩), .str ⟨#[95, 95, 97, 110, 110, 111, 116, 97, 116, 105, 111, 110, 115, 95, 95]⟩ 170, .ref 6⟩, ⟨(PyData.keyHash P ⟨#[95, 95, 98, 117, 105, 108, 116, 105, 110, 115, 95, 95]⟩), .str ⟨#[95, 95, 98, 117, 105, 108, 116, 105, 110, 115, 95, 95]⟩ 171, .ref 4⟩, ⟨(PyData.keyHash P ⟨#[95, 95, 102, 105, 108, 101, 95, 95]⟩), .str ⟨#[95, 95, 102, 105, 108, 101, 95, 95]⟩ 173, .str ⟨#[47, 99, 108, 97, 105, 109, 47, 99, 117, 116, 46, 112, 121]⟩ 172⟩, ⟨(PyData.keyHash P ⟨#[95, 95, 99, 97, 99, 104, 101, 100, 95, 95]⟩), .str ⟨#[95, 95, 99, 97, 99, 104, 101, 100, 95, 95]⟩ 174, .none⟩, ⟨(PyData.keyHash P ⟨#[95, 100, 101, 100, 101, 110, 116]⟩), .str ⟨#[95, 100, 101, 100, 101, 110, 116]⟩ 200, .ref 21⟩, ⟨(PyData.keyHash P ⟨#[98, 49, 95, 115, 101, 116]⟩), .str ⟨#[98, 49, 95, 115, 101, 116]⟩ 262, .ref 29⟩, ⟨(PyData.keyHash P ⟨#[105, 110, 95, 116, 97, 98, 108, 101, 95, 98, 49]⟩), .str ⟨#[105, 110, 95, 116, 97, 98, 108, 101, 95, 98, 49]⟩ 269, .ref 39⟩, ⟨(PyData.keyHash P ⟨#[98, 51, 95, 101, 120, 99, 101, 112, 116, 105, 111, 110, 115]⟩), .str ⟨#[98, 51, 95, 101, 120, 99, 101, 112, 116, 105, 111, 110, 115]⟩ 2220, .ref 40⟩, ⟨(PyData.keyHash P ⟨#[109, 97, 112, 95, 116, 97, 98, 108, 101, 95, 98, 51]⟩), .str ⟨#[109, 97, 112, 95, 116, 97, 98, 108, 101, 95, 98, 51]⟩ 2228, .ref 85⟩, ⟨(PyData.keyHash P ⟨#[105, 110, 95, 116, 97, 98, 108, 101, 95, 99, 49, 49]⟩), .str ⟨#[105, 110, 95, 116, 97, 98, 108, 101, 95, 99, 49, 49]⟩ 2235, .ref 92⟩, ⟨(PyData.keyHash P ⟨#[95, 108, 97, 119, 95, 100, 114, 97, 119, 110]⟩), .str ⟨#[95, 108, 97, 119, 95, 100, 114, 97, 119, 110]⟩ 2250, .ref 99⟩, ⟨(PyData.keyHash P ⟨#[95, 108, 97, 119, 95, 112, 114, 101, 112, 97, 114, 101, 100]⟩), .str ⟨#[95, 108, 97, 119, 95, 112, 114, 101, 112, 97, 114, 101, 100]⟩ 2256, .ref 104⟩, ⟨(PyData.keyHash P ⟨#[95, 108, 97, 119, 95, 100, 101, 100, 101, 110, 116, 101, 100]⟩), .str ⟨#[95, 108, 97, 119, 95, 100, 101, 100, 101, 110, 116, 101, 100]⟩ 2263, .ref 111⟩, ⟨(PyData.keyHash P ⟨#[95, 108, 97, 119, 95, 109, 97, 114, 103, 105, 110]⟩), .str ⟨#[95, 108, 97, 119, 95, 109, 97, 114, 103, 105, 110]⟩ 2269, .ref 116⟩, ⟨(PyData.keyHash P ⟨#[95, 108, 97, 119, 95, 114, 111, 119, 115]⟩), .str ⟨#[95, 108, 97, 119, 95, 114, 111, 119, 115]⟩ 2279, .ref 123⟩, ⟨(PyData.keyHash P ⟨#[95, 108, 97, 119, 95, 115, 116, 101, 112, 115]⟩), .str ⟨#[95, 108, 97, 119, 95, 115, 116, 101, 112, 115]⟩ 2285, .ref 128⟩, ⟨(PyData.keyHash P ⟨#[108, 97, 119]⟩), .str ⟨#[108, 97, 119]⟩ 2291, .ref 133⟩] 22, #[]⟩
noncomputable def o12_2 (P : Params) : Obj := ⟨.none, none, .fields #[.int (2) 0, .int (0) 0, .ref 20, .int (12) 0, .int (0) 0, .ref 38, .int (15) 0, .int (0) 0, .ref 84, .int (20) 0, .int (0) 0, .ref 91, .int (23) 0, .int (0) 0, .ref 98, .int (44) 0, .int (0) 0, .ref 103, .int (46) 0, .int (0) 0, .ref 110, .int (51) 0, .int (0) 0, .ref 115, .int (54) 0, .int (0) 0, .ref 122, .int (62) 0, .int (0) 0, .ref 127, .int (80) 0, .int (0) 0, .ref 132], #[]⟩
noncomputable def o81_0 (P : Params) : Obj := ⟨.type "tuple", none, .seq #[.str ⟨#[99, 111, 100, 101]⟩ 2224, .str ⟨#[114]⟩ 2225] 0, #[]⟩
noncomputable def o83_0 (P : Params) : Obj := ⟨.none, none, fnD 6 ⟨#[109, 97, 112, 95, 116, 97, 98, 108, 101, 95, 98, 51]⟩ 0 (.none) (.none) (.none) (.none) none (.none) (.none) 0 [], #[]⟩
noncomputable def o84_0 (P : Params) : Obj := ⟨.type "code", none, .fields #[.str ⟨#[109, 97, 112, 95, 116, 97, 98, 108, 101, 95, 98, 51]⟩ 2221, .str ⟨#[109, 97, 112, 95, 116, 97, 98, 108, 101, 95, 98, 51]⟩ 2222, .str ⟨#[47, 99, 108, 97, 105, 109, 47, 99, 117, 116, 46, 112, 121]⟩ 2223, .int (15) 0, .int (1) 0, .int (0) 0, .int (0) 0, .int (3) 0, .ref 79, .bool true, .int (181) 0, .ref 80, .none, .ref 81, .ref 82, .ref 83, .int (2226) 0, .int (15) 0, .str ⟨#[47, 99, 108, 97, 105, 109, 47, 99, 117, 116, 46, 112, 121]⟩ 2227], #[]⟩
noncomputable def o85_0 (P : Params) : Obj := ⟨.type "function", none, fnD 6 ⟨#[109, 97, 112, 95, 116, 97, 98, 108, 101, 95, 98, 51]⟩ 3 (.none) (.none) (.none) (.str ⟨#[99, 112, 121, 51, 49, 51, 46, 115, 116, 114, 105, 110, 103, 112, 114, 101, 112]⟩ 201) none (.ref 84) (.none) 0 [], #[]⟩
noncomputable def o88_0 (P : Params) : Obj := ⟨.type "tuple", none, .seq #[.str ⟨#[99, 111, 100, 101]⟩ 2232] 0, #[]⟩
noncomputable def o90_0 (P : Params) : Obj := ⟨.none, none, fnD 7 ⟨#[105, 110, 95, 116, 97, 98, 108, 101, 95, 99, 49, 49]⟩ 0 (.none) (.none) (.none) (.none) none (.none) (.none) 0 [], #[]⟩
noncomputable def o91_0 (P : Params) : Obj := ⟨.type "code", none, .fields #[.str ⟨#[105, 110, 95, 116, 97, 98, 108, 101, 95, 99, 49, 49]⟩ 2229, .str ⟨#[105, 110, 95, 116, 97, 98, 108, 101, 95, 99, 49, 49]⟩ 2230, .str ⟨#[47, 99, 108, 97, 105, 109, 47, 99, 117, 116, 46, 112, 121]⟩ 2231, .int (20) 0, .int (1) 0, .int (0) 0, .int (0) 0, .int (3) 0, .ref 86, .bool true, .int (181) 0, .ref 87, .none, .ref 88, .ref 89, .ref 90, .int (2233) 0, .int (20) 0, .str ⟨#[47, 99, 108, 97, 105, 109, 47, 99, 117, 116, 46, 112, 121]⟩ 2234], #[]⟩
noncomputable def o92_0 (P : Params) : Obj := ⟨.type "function", none, fnD 7 ⟨#[105, 110, 95, 116, 97, 98, 108, 101, 95, 99, 49, 49]⟩ 3 (.none) (.none) (.none) (.str ⟨#[99, 112, 121, 51, 49, 51, 46, 115, 116, 114, 105, 110, 103, 112, 114, 101, 112]⟩ 201) none (.ref 91) (.none) 0 [], #[]⟩
noncomputable def o95_0 (P : Params) : Obj := ⟨.type "tuple", none, .seq #[.str ⟨#[110, 117, 109, 98, 101, 114]⟩ 2241, .str ⟨#[114, 101, 115, 116]⟩ 2242, .str ⟨#[107, 105, 110, 100]⟩ 2243, .str ⟨#[110, 111, 105, 115, 101]⟩ 2244, .str ⟨#[98, 97, 115, 101, 115]⟩ 2245, .str ⟨#[119, 111, 114, 100, 115]⟩ 2246, .str ⟨#[119, 104, 105, 116, 101]⟩ 2247] 0, #[]⟩
noncomputable def o97_0 (P : Params) : Obj := ⟨.none, none, fnD 9 ⟨#[95, 108, 97, 119, 95, 100, 114, 97, 119, 110]⟩ 0 (.none) (.none) (.none) (.none) none (.none) (.none) 0 [], #[]⟩
noncomputable def o98_0 (P : Params) : Obj := ⟨.type "code", none, .fields #[.str ⟨#[95, 108, 97, 119, 95, 100, 114, 97, 119, 110]⟩ 2238, .str ⟨#[95, 108, 97, 119, 95, 100, 114, 97, 119, 110]⟩ 2239, .str ⟨#[47, 99, 108, 97, 105, 109, 47, 99, 117, 116, 46, 112, 121]⟩ 2240, .int (23) 0, .int (1) 0, .int (0) 0, .int (0) 0, .int (3) 0, .ref 93, .bool true, .int (181) 0, .ref 94, .none, .ref 95, .ref 96, .ref 97, .int (2248) 0, .int (23) 0, .str ⟨#[47, 99, 108, 97, 105, 109, 47, 99, 117, 116, 46, 112, 121]⟩ 2249], #[]⟩
noncomputable def o99_0 (P : Params) : Obj := ⟨.type "function", none, fnD 9 ⟨#[95, 108, 97, 119, 95, 100, 114, 97, 119, 110]⟩ 3 (.none) (.none) (.none) (.str ⟨#[108, 97, 119, 95, 114, 119, 48, 48, 54, 55, 95, 48, 49]⟩ 2236) none (.ref 98) (.none) 0 [], #[]⟩
noncomputable def o102_0 (P : Params) : Obj := ⟨.none, none, fnD 10 ⟨#[95, 108, 97, 119, 95, 112, 114, 101, 112, 97, 114, 101, 100]⟩ 0 (.none) (.none) (.none) (.none) none (.none) (.none) 0 [], #[]⟩
noncomputable def o103_0 (P : Params) : Obj := ⟨.type "code", none, .fields #[.str ⟨#[95, 108, 97, 119, 95, 112, 114, 101, 112, 97, 114, 101, 100]⟩ 2251, .str ⟨#[95, 108, 97, 119, 95, 112, 114, 101, 112, 97, 114, 101, 100]⟩ 2252, .str ⟨#[47, 99, 108, 97, 105, 109, 47, 99, 117, 116, 46, 112, 121]⟩ 2253, .int (44) 0, .int (1) 0, .int (0) 0, .int (0) 0, .int (3) 0, .ref 100, .bool true, .int (181) 0, .ref 101, .none, .none, .none, .ref 102, .int (2254) 0, .int (44) 0, .str ⟨#[47, 99, 108, 97, 105, 109, 47, 99, 117, 116, 46, 112, 121]⟩ 2255], #[]⟩
noncomputable def o104_0 (P : Params) : Obj := ⟨.type "function", none, fnD 10 ⟨#[95, 108, 97, 119, 95, 112, 114, 101, 112, 97, 114, 101, 100]⟩ 3 (.none) (.none) (.none) (.str ⟨#[108, 97, 119, 95, 114, 119, 48, 48, 54, 55, 95, 48, 49]⟩ 2236) none (.ref 103) (.none) 0 [], #[]⟩
noncomputable def o107_0 (P : Params) : Obj := ⟨.type "tuple", none, .seq #[.str ⟨#[116, 101, 120, 116]⟩ 2260] 0, #[]⟩
noncomputable def o109_0 (P : Params) : Obj := ⟨.none, none, fnD 11 ⟨#[95, 108, 97, 119, 95, 100, 101, 100, 101, 110, 116, 101, 100]⟩ 0 (.none) (.none) (.none) (.none) none (.none) (.none) 0 [], #[]⟩
noncomputable def o110_0 (P : Params) : Obj := ⟨.type "code", none, .fields #[.str ⟨#[95, 108, 97, 119, 95, 100, 101, 100, 101, 110, 116, 101, 100]⟩ 2257, .str ⟨#[95, 108, 97, 119, 95, 100, 101, 100, 101, 110, 116, 101, 100]⟩ 2258, .str ⟨#[47, 99, 108, 97, 105, 109, 47, 99, 117, 116, 46, 112, 121]⟩ 2259, .int (46) 0, .int (1) 0, .int (0) 0, .int (0) 0, .int (3) 0, .ref 105, .bool true, .int (181) 0, .ref 106, .none, .ref 107, .ref 108, .ref 109, .int (2261) 0, .int (46) 0, .str ⟨#[47, 99, 108, 97, 105, 109, 47, 99, 117, 116, 46, 112, 121]⟩ 2262], #[]⟩
noncomputable def o111_0 (P : Params) : Obj := ⟨.type "function", none, fnD 11 ⟨#[95, 108, 97, 119, 95, 100, 101, 100, 101, 110, 116, 101, 100]⟩ 3 (.none) (.none) (.none) (.str ⟨#[108, 97, 119, 95, 114, 119, 48, 48, 54, 55, 95, 48, 49]⟩ 2236) none (.ref 110) (.none) 0 [], #[]⟩
noncomputable def o114_0 (P : Params) : Obj := ⟨.none, none, fnD 12 ⟨#[95, 108, 97, 119, 95, 109, 97, 114, 103, 105, 110]⟩ 0 (.none) (.none) (.none) (.none) none (.none) (.none) 0 [], #[]⟩
noncomputable def o115_0 (P : Params) : Obj := ⟨.type "code", none, .fields #[.str ⟨#[95, 108, 97, 119, 95, 109, 97, 114, 103, 105, 110]⟩ 2264, .str ⟨#[95, 108, 97, 119, 95, 109, 97, 114, 103, 105, 110]⟩ 2265, .str ⟨#[47, 99, 108, 97, 105, 109, 47, 99, 117, 116, 46, 112, 121]⟩ 2266, .int (51) 0, .int (1) 0, .int (0) 0, .int (0) 0, .int (3) 0, .ref 112, .bool true, .int (181) 0, .ref 113, .none, .none, .none, .ref 114, .int (2267) 0, .int (51) 0, .str ⟨#[47, 99, 108, 97, 105, 109, 47, 99, 117, 116, 46, 112, 121]⟩ 2268], #[]⟩
noncomputable def o116_0 (P : Params) : Obj := ⟨.type "function", none, fnD 12 ⟨#[95, 108, 97, 119, 95, 109, 97, 114, 103, 105, 110]⟩ 3 (.none) (.none) (.none) (.str ⟨#[108, 97, 119, 95, 114, 119, 48, 48, 54, 55, 95, 48, 49]⟩ 2236) none (.ref 115) (.none) 0 [], #[]⟩
noncomputable def o119_0 (P : Params) : Obj := ⟨.type "tuple", none, .seq #[.str ⟨#[100, 114, 97, 119, 110]⟩ 2273, .str ⟨#[114, 111, 119, 115]⟩ 2274, .str ⟨#[115, 105, 103, 110]⟩ 2275, .str ⟨#[109, 101, 97, 110, 116]⟩ 2276] 0, #[]⟩
noncomputable def o121_0 (P : Params) : Obj := ⟨.none, none, fnD 13 ⟨#[95, 108, 97, 119, 95, 114, 111, 119, 115]⟩ 0 (.none) (.none) (.none) (.none) none (.none) (.none) 0 [], #[]⟩
noncomputable def o122_0 (P : Params) : Obj := ⟨.type "code", none, .fields #[.str ⟨#[95, 108, 97, 119, 95, 114, 111, 119, 115]⟩ 2270, .str ⟨#[95, 108, 97, 119, 95, 114, 111, 119, 115]⟩ 2271, .str ⟨#[47, 99, 108, 97, 105, 109, 47, 99, 117, 116, 46, 112, 121]⟩ 2272, .int (54) 0, .int (1) 0, .int (0) 0, .int (0) 0, .int (3) 0, .ref 117, .bool true, .int (181) 0, .ref 118, .none, .ref 119, .ref 120, .ref 121, .int (2277) 0, .int (54) 0, .str ⟨#[47, 99, 108, 97, 105, 109, 47, 99, 117, 116, 46, 112, 121]⟩ 2278], #[]⟩
noncomputable def o123_0 (P : Params) : Obj := ⟨.type "function", none, fnD 13 ⟨#[95, 108, 97, 119, 95, 114, 111, 119, 115]⟩ 3 (.none) (.none) (.none) (.str ⟨#[108, 97, 119, 95, 114, 119, 48, 48, 54, 55, 95, 48, 49]⟩ 2236) none (.ref 122) (.none) 0 [], #[]⟩
noncomputable def o126_0 (P : Params) : Obj := ⟨.none, none, fnD 14 ⟨#[95, 108, 97, 119, 95, 115, 116, 101, 112, 115]⟩ 0 (.none) (.none) (.none) (.none) none (.none) (.none) 0 [], #[]⟩
noncomputable def o127_0 (P : Params) : Obj := ⟨.type "code", none, .fields #[.str ⟨#[95, 108, 97, 119, 95, 115, 116, 101, 112, 115]⟩ 2280, .str ⟨#[95, 108, 97, 119, 95, 115, 116, 101, 112, 115]⟩ 2281, .str ⟨#[47, 99, 108, 97, 105, 109, 47, 99, 117, 116, 46, 112, 121]⟩ 2282, .int (62) 0, .int (1) 0, .int (0) 0, .int (0) 0, .int (3) 0, .ref 124, .bool true, .int (181) 0, .ref 125, .none, .none, .none, .ref 126, .int (2283) 0, .int (62) 0, .str ⟨#[47, 99, 108, 97, 105, 109, 47, 99, 117, 116, 46, 112, 121]⟩ 2284], #[]⟩
noncomputable def o128_0 (P : Params) : Obj := ⟨.type "function", none, fnD 14 ⟨#[95, 108, 97, 119, 95, 115, 116, 101, 112, 115]⟩ 3 (.none) (.none) (.none) (.str ⟨#[108, 97, 119, 95, 114, 119, 48, 48, 54, 55, 95, 48, 49]⟩ 2236) none (.ref 127) (.none) 0 [], #[]⟩
noncomputable def o131_0 (P : Params) : Obj := ⟨.none, none, fnD 15 ⟨#[108, 97, 119]⟩ 0 (.none) (.none) (.none) (.none) none (.none) (.none) 0 [], #[]⟩
noncomputable def o132_0 (P : Params) : Obj := ⟨.type "code", none, .fields #[.str ⟨#[108, 97, 119]⟩ 2286, .str ⟨#[108, 97, 119]⟩ 2287, .str ⟨#[47, 99, 108, 97, 105, 109, 47, 99, 117, 116, 46, 112, 121]⟩ 2288, .int (80) 0, .int (1) 0, .int (0) 0, .int (0) 0, .int (3) 0, .ref 129, .bool true, .int (181) 0, .ref 130, .none, .none, .none, .ref 131, .int (2289) 0, .int (80) 0, .str ⟨#[47, 99, 108, 97, 105, 109, 47, 99, 117, 116, 46, 112, 121]⟩ 2290], #[]⟩
noncomputable def o133_0 (P : Params) : Obj := ⟨.type "function", none, fnD 15 ⟨#[108, 97, 119]⟩ 3 (.none) (.none) (.none) (.str ⟨#[108, 97, 119, 95, 114, 119, 48, 48, 54, 55, 95, 48, 49]⟩ 2236) none (.ref 132) (.none) 0 [], #[]⟩
noncomputable def tA (P : Params) : BT := (.node (o0_0 P) (.node (o1_0 P) (.node (o3_0 P) (.node (o7_0 P) .nil .nil) (.node (o7_0 P) .nil .nil)) (.node (o5_0 P) (.node (o9_0 P) .nil .nil) (.node (o13_0 P) .nil .nil))) (.node (o2_0 P) (.node (o4_0 P) (.node (o8_0 P) .nil .nil) (.node (o8_0 P) .nil .nil)) (.node (o6_0 P) (.node (o10_0 P) .nil .nil) (.node (o14_0 P) .nil .nil))))
noncomputable def t2 (P : Params) : BT := (.node (o0_0 P) (.node (o1_0 P) (.node (o3_1 P) (.node (o7_0 P) (.node (o7_0 P) .nil .nil) .nil) (.node (o7_0 P) (.node (o19_0 P) .nil .nil) .nil)) (.node (o5_0 P) (.node (o9_0 P) (.node (o17_0 P) .nil .nil) .nil) (.node (o13_0 P) (.node (o21_0 P) .nil .nil) .nil))) (.node (o2_0 P) (.node (o4_0 P) (.node (o8_0 P) (.node (o8_0 P) .nil .nil) .nil) (.node (o12_0 P) (.node (o20_0 P) .nil .nil) .nil)) (.node (o6_0 P) (.node (o10_0 P) (.node (o7_0 P) .nil .nil) .nil) (.node (o14_0 P) .nil .nil))))
noncomputable def t3 (P : Params) : BT := (.node (o0_0 P) (.node (o1_0 P) (.node (o3_2 P) (.node (o7_0 P) (.node (o7_0 P) (.node (o7_0 P) .nil .nil) .nil) (.node (o23_0 P) .nil .nil)) (.node (o7_0 P) (.node (o19_0 P) .nil .nil) (.node (o27_0 P) .nil .nil))) (.node (o5_0 P) (.node (o9_0 P) (.node (o17_0 P) .nil .nil) (.node (o25_0 P) .nil .nil)) (.node (o13_0 P) (.node (o21_0 P) .nil .nil) (.node (o29_0 P) .nil .nil)))) (.node (o2_0 P) (.node (o4_0 P) (.node (o8_0 P) (.node (o8_0 P) (.node (o32_0 P) .nil .nil) .nil) (.node (o24_0 P) .nil .nil)) (.node (o12_0 P) (.node (o20_0 P) .nil .nil) (.node (o28_0 P) .nil .nil))) (.node (o6_0 P) (.node (o10_0 P) (.node (o7_0 P) .nil .nil) (.node (o7_0 P) .nil .nil)) (.node (o14_0 P) (.node (o22_0 P) .nil .nil) (.node (o30_0 P) .nil .nil)))))
noncomputable def t4 (P : Params) : BT := (.node (o0_0 P) (.node (o1_0 P) (.node (o3_3 P) (.node (o7_0 P) (.node (o7_0 P) (.node (o7_0 P) .nil .nil) .nil) (.node (o23_0 P) (.node (o39_0 P) .nil .nil) .nil)) (.node (o7_0 P) (.node (o19_0 P) (.node (o35_0 P) .nil .nil) .nil) (.node (o27_0 P) .nil .nil))) (.node (o5_0 P) (.node (o9_0 P) (.node (o17_0 P) (.node (o7_0 P) .nil .nil) .nil) (.node (o25_0 P) .nil .nil)) (.node (o13_0 P) (.node (o21_0 P) (.node (o37_0 P) .nil .nil) .nil) (.node (o29_0 P) .nil .nil)))) (.node (o2_0 P) (.node (o4_0 P) (.node (o8_0 P) (.node (o8_0 P) (.node (o32_0 P) .nil .nil) .nil) (.node (o24_0 P) .nil .nil)) (.node (o12_1 P) (.node (o20_0 P) (.node (o7_0 P) .nil .nil) .nil) (.node (o28_0 P) .nil .nil))) (.node (o6_0 P) (.node (o10_0 P) (.node (o7_0 P) (.node (o8_0 P) .nil .nil) .nil) (.node (o7_0 P) .nil .nil)) (.node (o14_0 P) (.node (o22_0 P) (.node (o38_0 P) .nil .nil) .nil) (.node (o30_0 P) .nil .nil)))))
noncomputable def t5 (P : Params) : BT := (.node (o0_0 P) (.node (o1_0 P) (.node (o3_4 P) (.node (o7_0 P) (.node (o7_0 P) (.node (o7_0 P) (.node (dk 23 P) .nil .nil) .nil) (.node (dk 7 P) .nil .nil)) (.node (o23_0 P) (.node (o39_0 P) (.node (dk 31 P) .nil .nil) .nil) (.node (dk 15 P) .nil .nil))) (.node (o7_0 P) (.node (o19_0 P) (.node (o35_0 P) (.node (dk 27 P) .nil .nil) .nil) (.node (dk 11 P) .nil .nil)) (.node (o27_0 P) (.node (dk 3 P) (.node (dk 35 P) .nil .nil) .nil) (.node (dk 19 P) .nil .nil)))) (.node (o5_0 P) (.node (o9_0 P) (.node (o17_0 P) (.node (o7_0 P) (.node (dk 25 P) .nil .nil) .nil) (.node (dk 9 P) .nil .nil)) (.node (o25_0 P) (.node (dk 1 P) (.node (dk 33 P) .nil .nil) .nil) (.node (dk 17 P) .nil .nil))) (.node (o13_0 P) (.node (o21_0 P) (.node (o37_0 P) (.node (dk 29 P) .nil .nil) .nil) (.node (dk 13 P) .nil .nil)) (.node (o29_0 P) (.node (dk 5 P) (.node (dk 37 P) .nil .nil) .nil) (.node (dk 21 P) .nil .nil))))) (.node (o2_0 P) (.node (o4_0 P) (.node (o8_0 P) (.node (o8_0 P) (.node (o32_0 P) (.node (dk 24 P) .nil .nil) .nil) (.node (dk 8 P) .nil .nil)) (.node (o24_0 P) (.node (dk 0 P) (.node (dk 32 P) .nil .nil) .nil) (.node (dk 16 P) .nil .nil))) (.node (o12_1 P) (.node (o20_0 P) (.node (o7_0 P) (.node (dk 28 P) .nil .nil) .nil) (.node (dk 12 P) .nil .nil)) (.node (o28_0 P) (.node (dk 4 P) (.node (dk 36 P) .nil .nil) .nil) (.node (dk 20 P) .nil .nil)))) (.node (o6_0 P) (.node (o10_0 P) (.node (o7_0 P) (.node (o8_0 P) (.node (dk 26 P) .nil .nil) .nil) (.node (dk 10 P) .nil .nil)) (.node (o7_0 P) (.node (dk 2 P) (.node (dk 34 P) .nil .nil) .nil) (.node (dk 18 P) .nil .nil))) (.node (o14_0 P) (.node (o22_0 P) (.node (o38_0 P) (.node (dk 30 P) .nil .nil) .nil) (.node (dk 14 P) .nil .nil)) (.node (o30_0 P) (.node (dk 6 P) (.node (dk 38 P) .nil .nil) .nil) (.node (dk 22 P) .nil .nil))))))
noncomputable def tF (P : Params) : BT := (.node (o0_0 P) (.node (o1_0 P) (.node (o3_5 P) (.node (o7_0 P) (.node (o7_0 P) (.node (o7_0 P) (.node (dk 23 P) (.node (o127_0 P) .nil .nil) .nil) (.node (o95_0 P) .nil .nil)) (.node (dk 7 P) (.node (o7_0 P) .nil .nil) (.node (o111_0 P) .nil .nil))) (.node (o23_0 P) (.node (o39_0 P) (.node (dk 31 P) .nil .nil) (.node (o103_0 P) .nil .nil)) (.node (dk 15 P) (.node (o8_0 P) .nil .nil) (.node (o119_0 P) .nil .nil)))) (.node (o7_0 P) (.node (o19_0 P) (.node (o35_0 P) (.node (dk 27 P) (.node (o131_0 P) .nil .nil) .nil) (.node (o99_0 P) .nil .nil)) (.node (dk 11 P) (.node (o83_0 P) .nil .nil) (.node (o115_0 P) .nil .nil))) (.node (o27_0 P) (.node (dk 3 P) (.node (dk 35 P) .nil .nil) (.node (o107_0 P) .nil .nil)) (.node (dk 19 P) (.node (o91_0 P) .nil .nil) (.node (o123_0 P) .nil .nil))))) (.node (o5_0 P) (.node (o9_0 P) (.node (o17_0 P) (.node (o7_0 P) (.node (dk 25 P) (.node (o7_0 P) .nil .nil) .nil) (.node (o97_0 P) .nil .nil)) (.node (dk 9 P) (.node (o81_0 P) .nil .nil) (.node (o8_0 P) .nil .nil))) (.node (o25_0 P) (.node (dk 1 P) (.node (dk 33 P) .nil .nil) (.node (o7_0 P) .nil .nil)) (.node (dk 17 P) (.node (o7_0 P) .nil .nil) (.node (o121_0 P) .nil .nil)))) (.node (o13_0 P) (.node (o21_0 P) (.node (o37_0 P) (.node (dk 29 P) (.node (o133_0 P) .nil .nil) .nil) (.node (o8_0 P) .nil .nil)) (.node (dk 13 P) (.node (o85_0 P) .nil .nil) (.node (o7_0 P) .nil .nil))) (.node (o29_0 P) (.node (dk 5 P) (.node (dk 37 P) .nil .nil) (.node (o109_0 P) .nil .nil)) (.node (dk 21 P) (.node (o7_0 P) .nil .nil) (.node (o8_0 P) .nil .nil)))))) (.node (o2_0 P) (.node (o4_0 P) (.node (o8_0 P) (.node (o8_0 P) (.node (o32_0 P) (.node (dk 24 P) (.node (o128_0 P) .nil .nil) .nil) (.node (o7_0 P) .nil .nil)) (.node (dk 8 P) (.node (o8_0 P) .nil .nil) (.node (o7_0 P) .nil .nil))) (.node (o24_0 P) (.node (dk 0 P) (.node (dk 32 P) .nil .nil) (.node (o104_0 P) .nil .nil)) (.node (dk 16 P) (.node (o88_0 P) .nil .nil) (.node (o7_0 P) .nil .nil)))) (.node (o12_2 P) (.node (o20_0 P) (.node (o7_0 P) (.node (dk 28 P) (.node (o132_0 P) .nil .nil) .nil) (.node (o7_0 P) .nil .nil)) (.node (dk 12 P) (.node (o84_0 P) .nil .nil) (.node (o116_0 P) .nil .nil))) (.node (o28_0 P) (.node (dk 4 P) (.node (dk 36 P) .nil .nil) (.node (o7_0 P) .nil .nil)) (.node (dk 20 P) (.node (o92_0 P) .nil .nil) (.node (o7_0 P) .nil .nil))))) (.node (o6_0 P) (.node (o10_0 P) (.node (o7_0 P) (.node (o8_0 P) (.node (dk 26 P) (.node (o8_0 P) .nil .nil) .nil) (.node (o98_0 P) .nil .nil)) (.node (dk 10 P) (.node (o7_0 P) .nil .nil) (.node (o114_0 P) .nil .nil))) (.node (o7_0 P) (.node (dk 2 P) (.node (dk 34 P) .nil .nil) (.node (o8_0 P) .nil .nil)) (.node (dk 18 P) (.node (o90_0 P) .nil .nil) (.node (o122_0 P) .nil .nil)))) (.node (o14_0 P) (.node (o22_0 P) (.node (o38_0 P) (.node (dk 30 P) .nil .nil) (.node (o102_0 P) .nil .nil)) (.node (dk 14 P) (.node (o7_0 P) .nil .nil) (.node (o8_0 P) .nil .nil))) (.node (o30_0 P) (.node (dk 6 P) (.node (dk 38 P) .nil .nil) (.node (o110_0 P) .nil .nil)) (.node (dk 22 P) (.node (o8_0 P) .nil .nil) (.node (o126_0 P) .nil .nil)))))))
noncomputable def envE (p : Program) : Env := { scope := p.main.scope, locals := mainNs, globals := mainNs, cells := [], code := .ref 13, frame := some 14 }
noncomputable def cE (p : Program) : Code := .body (behindTheImports p) (envE p)
noncomputable def p0 : Pos := ⟨0, 0, 0, 0⟩
noncomputable def B0 : List Frame := [topFrame p0]
noncomputable abbrev ann0 : Option Value := some (.ref 6)
noncomputable abbrev tSeg := PySem.W.Fast.tw10110043849684766642
noncomputable abbrev tGo := PySem.W.Fast.tw10295753902157049106
noncomputable abbrev tTab := PySem.W.Fast.tw14364793385576792824
noncomputable def sA (w : World) (os : OsState) : SharedT := ⟨tA w.params, 15, {}, #[], {}, 187, os⟩
noncomputable def s2 (w : World) (os : OsState) : SharedT := ⟨t2 w.params, 22, {}, #[], {}, 203, os⟩
noncomputable def s3 (w : World) (os : OsState) : SharedT := ⟨t3 w.params, 33, {}, #[], {}, 263, os⟩
noncomputable def s4 (w : World) (os : OsState) : SharedT := ⟨t4 w.params, 40, {}, #[], {}, 270, os⟩
noncomputable def sF (w : World) (os : OsState) : SharedT := ⟨tF w.params, 134, {}, #[], {}, 2292, os⟩
noncomputable def sts (p : Program) (i n : Nat) : List PySem.Stmt := ((behindTheImports p).drop i).take n

noncomputable def insAll : BT → Nat → List Obj → BT
  | t, _, [] => t
  | t, n, o :: r => insAll (t.ins n o) (n + 1) r
noncomputable def okIns : BT → Nat → List Obj → Bool
  | _, _, [] => true
  | t, n, o :: r => ((t.ins n o).get n).isSome && okIns (t.ins n o) (n + 1) r
theorem hp_hp (h : Heap) (a b : List Obj) : hp (hp h a) b = hp h (a ++ b) := by
  unfold hp
  simp
theorem insAll_abs {life : Life} : ∀ (l : List Obj) (t : BT) (n : Nat), okIns t n l = true → absHeap (insAll t n l) (n + l.length) life = hp (absHeap t n life) l
  | [], t, n, _ => by unfold hp insAll; simp
  | o :: r, t, n, h => by
    rw [okIns, Bool.and_eq_true] at h
    have ih := insAll_abs (life := life) r (t.ins n o) (n + 1) h.2
    rw [insAll, List.length_cons, show n + (r.length + 1) = n + 1 + r.length by omega, ih, absHeap_ins h.1]
    have : (absHeap t n life).push o = hp (absHeap t n life) [o] := by simp [hp, Heap.push]
    rw [this, hp_hp]
    rfl
noncomputable def s5 (w : World) (os : OsState) : SharedT := ⟨insAll (t4 w.params) 40 objsD, 79, {}, #[], {}, 2220, os⟩
noncomputable def s5' (w : World) (os : OsState) : SharedT := ⟨t5 w.params, 79, {}, #[], {}, 2221, os⟩
/-- the keys and values are plain -/
noncomputable def plainKV : List (Option PySem.Expr) → List PySem.Expr → Bool
  | some (.Constant (.int _) _ _) :: ks, .Constant (.str _) _ _ :: vs => plainKV ks vs
  | [], [] => true
  | _, _ => false
noncomputable def itemsOf (ks : List (Option PySem.Expr)) (vs : List PySem.Expr) (q : Pos) (env : Env) : List (Option (Sem Value) × Sem Value) := (evalEachOpt ks env).zip ((evalEach vs env).map fun v => do let x ← v; standAt q; pure x)
theorem plainKV_cons {k : Option PySem.Expr} {ks : List (Option PySem.Expr)} {vs : List PySem.Expr} (h : plainKV (k :: ks) vs = true) : ∃ i a c x d e vs', k = some (.Constant (.int i) a c) ∧ vs = .Constant (.str x) d e :: vs' ∧ plainKV ks vs' = true := by
  unfold plainKV at h
  split at h
  · rename_i e
    cases e
    exact ⟨_, _, _, _, _, _, _, rfl, rfl, h⟩
  · rename_i e
    cases e
  · cases h
theorem items_plain {p : Program} {w : World} {n₀ : Nat} {ann : Option Value} {b : List PySem.Stmt} {env env' : Env} {q dq : Pos} : ∀ (ks : List (Option PySem.Expr)) (vs : List PySem.Expr), plainKV ks vs = true → F2 (ItemIs p w n₀ ann b env q) (itemsOf ks vs dq env') (zipT ks vs)
  | [], [], _ => .nil
  | [], _ :: _, h => nomatch h
  | k :: ks, vs, h => by
    obtain ⟨i, _, _, x, _, _, vs', rfl, rfl, h'⟩ := plainKV_cons h
    refine .cons ⟨_, rfl, fun s => ?_, fun s => ?_⟩ (items_plain ks vs' h')
    · exact go_fresh (n := 0) go_pure
    · exact go_bind (n := 1) (m := 1) (go_fresh (n := 0) go_pure) (go_at (n := 0) go_pure)
noncomputable def risingB : List (Int × Str) → Bool
  | [] => true
  | [r] => decide (0 ≤ r.1) && decide (r.1 < 2 ^ 31)
  | r :: r' :: l => decide (0 ≤ r.1) && decide (r.1 < 2 ^ 31) && decide (r.1 < r'.1) && risingB (r' :: l)
theorem rising_of : ∀ {l : List (Int × Str)}, risingB l = true → Rising l
  | [], _ => ⟨.nil, fun _ h => nomatch h⟩
  | [r], h => by
    simp only [risingB, Bool.and_eq_true, decide_eq_true_eq] at h
    exact ⟨by simp, fun x hx => by rw [List.mem_singleton.mp hx]; exact h⟩
  | r :: r' :: l, h => by
    simp only [risingB, Bool.and_eq_true, decide_eq_true_eq] at h
    have ih := rising_of h.2
    refine ⟨List.pairwise_cons.mpr ⟨fun y hy => ?_, ih.1⟩, fun x hx => ?_⟩
    · rcases List.mem_cons.mp hy with rfl | hy
      · exact h.1.2
      · have := (List.pairwise_cons.mp ih.1).1 y hy
        have := h.1.2
        omega
    · rcases List.mem_cons.mp hx with rfl | hx
      · exact h.1.1
      · exact ih.2 x hx
theorem tab_len : tab.length = 650 := by kernel_rfl!
theorem tab_plain : plainKV dparts.1 dparts.2.1 = true := by kernel_rfl!
theorem tab_rising : Rising tab := rising_of (by kernel_rfl!)
theorem ok_ins (P : Params) : okIns (t4 P) 40 objsD = true := by kernel_rfl!
end
end Mine

open PySem PySem.W PyProof.Rows
set_option Elab.async false
set_option maxRecDepth 100000
set_option maxHeartbeats 0
set_option linter.unusedVariables false
namespace Mine
noncomputable section
noncomputable abbrev itemsT := itemsOf dparts.1 dparts.2.1 dparts.2.2 (envE pT)
noncomputable def asg : List PySem.Stmt → List PySem.Expr × PySem.Expr
  | .Assign ts v _ :: _ => (ts, v)
  | _ => ([], .Constant .none 0 default)
noncomputable def afterT (v : Value) : Sem Flow := do
  let sw ← swappedStores (asg (sts pT 5 1)).1 (asg (sts pT 5 1)).2 (envE pT)
  assignStores (envE pT) v sw ((assignEach (asg (sts pT 5 1)).1 (envE pT)).map (·.2))
noncomputable def execsK (f : Flow) : Sem Flow := match f with
  | .next => pure .next
  | f => pure f
noncomputable def thr0 : Thread := ⟨((dictDisplay itemsT >>= afterT) >>= execsK).wrap doneF deadEnd id id, cE pT, dparts.2.2, B0⟩
theorem q0 (w : World) (os : OsState) : segGoT treeTable pT w 11 ann0 1 2 (s4 w os) (piecesOf (sts pT 5 1) (envE pT) (cE pT) ⟨12, 0, 13, 30⟩ B0) = some (s4 w os, thr0) := by kernel_rfl!
theorem q2 (w : World) (os : OsState) (pos : Pos) : segRunT treeTable pT w 11 ann0 1 8 (s5 w os) ⟨(afterT (.ref 40) >>= execsK).wrap doneF deadEnd id id, cE pT, pos, B0⟩ = some (.next, s5' w os, cE pT, ⟨14, 0, 14, 13⟩) := by kernel_rfl!
end
end Mine

open PySem PySem.W PyProof.Rows
set_option Elab.async false
set_option maxRecDepth 100000
set_option maxHeartbeats 400000
set_option linter.unusedVariables false
namespace Mine
noncomputable section
theorem hp_nil (h : Heap) : hp h [] = h := by simp [hp]
theorem objsD_len : objsD.length = 39 := by kernel_rfl!
theorem s5_abs (w : World) (os : OsState) : (s5 w os).abs = ⟨hp (absHeap (t4 w.params) 40 {}) objsD, #[], {}, 2220, os⟩ := by
  have e := insAll_abs (life := {}) objsD (t4 w.params) 40 (ok_ins w.params)
  rw [objsD_len] at e
  unfold s5 SharedT.abs
  dsimp only
  rw [← e]
theorem objsD_eq {t n : Nat} (e1 : n = 37) (e2 : t = 321) : dObj (mainOf (n + 1) 270 tab) tab.length :: subsOf n t (tab.drop 17) = objsD := by
  subst e1 e2
  rfl
end
end Mine

open PySem PySem.W PyProof.Rows
set_option Elab.async false
set_option maxRecDepth 100000
set_option maxHeartbeats 400000
set_option linter.unusedVariables false
namespace Mine
noncomputable section
theorem gd (w : World) (os : OsState) : Go pT w 11 ann0 (behindTheImports pT) (envE pT) p0 (223 + (330 * 37 + (6 + 19 * (650 - 17 - 17 * 37)))) (dictDisplay itemsT) (s4 w os).abs (.ref 40) (s5 w os).abs := by
  have hs : (absHeap (t4 w.params) 40 {}).objs.size = 40 := absHeap_size _ _ _
  have hi : F2 (ItemIs pT w 11 ann0 (behindTheImports pT) (envE pT) p0) itemsT tab := items_plain _ _ tab_plain
  generalize itemsT = its at hi ⊢
  have hsz : ∀ h : Heap, h.objs.size = 40 → Go pT w 11 ann0 (behindTheImports pT) (envE pT) p0 (223 + (330 * 37 + (6 + 19 * (tab.length - 17 - 17 * 37)))) (dictDisplay its) ⟨hp h [], #[], {}, 270, os⟩ (.ref h.objs.size)
      ⟨hp h (dObj (mainOf (37 + 1) 270 tab) tab.length :: subsOf 37 (270 + 51) (tab.drop 17)), #[], {}, 270 + 3 * tab.length, os⟩ := fun h e =>
    dd_all (by rw [e]; rfl) (by rw [e]; decide) 37 its tab hi tab_rising (by rw [tab_len]; decide) (by rw [tab_len]; decide) (by rw [tab_len]; decide)
  have d := hsz _ hs
  rw [hs, hp_nil, objsD_eq rfl rfl, tab_len] at d
  rw [s5_abs]
  exact d
end
end Mine

open PySem PySem.W PyProof.Rows
set_option Elab.async false
set_option maxRecDepth 100000
set_option maxHeartbeats 400000
set_option linter.unusedVariables false
namespace Mine
noncomputable section
theorem wrap_it {α : Type} (x : Sem Value) (f : Value → Sem Flow) (g : Flow → Sem Flow) : ((x >>= f) >>= g).wrap doneF deadEnd id id = x.wrap (fun v => (f v >>= g).wrap doneF deadEnd id id) (fun e => ((Sem.raise e : Sem Flow)).wrap doneF deadEnd id id) id id := by
  rw [bind_assoc, Sem.bind_eq_wrap', Sem.wrap_wrap]
  rfl
theorem join5 {x : Sem Value} {f : Value → Sem Flow} {g : Flow → Sem Flow} {b : List PySem.Stmt} {env : Env} {q dq pe : Pos} {w : World} {s₀ s₁ s₂ : Shared} {v : Value} {n m k : Nat} {t : Thread}
    (h0 : segGo treeTable pT w 11 ann0 1 n s₀ t = some (s₀, ⟨((x >>= f) >>= g).wrap doneF deadEnd id id, .body b env, dq, [topFrame q]⟩)) (h1 : Go pT w 11 ann0 b env q m x s₀ v s₁)
    (h2 : ∀ pos, segRun treeTable pT w 11 ann0 1 k s₁ ⟨(f v >>= g).wrap doneF deadEnd id id, .body b env, pos, [topFrame q]⟩ = some (.next, s₂, .body b env, pe)) :
    segRun treeTable pT w 11 ann0 1 (n + (m + k)) s₀ t = some (.next, s₂, .body b env, pe) := by
  rw [wrap_it (α := Value)] at h0
  obtain ⟨pos', hd⟩ := h1 (fun v => (f v >>= g).wrap doneF deadEnd id id) (fun e => ((Sem.raise e : Sem Flow)).wrap doneF deadEnd id id) id id dq
  exact seg_go h0 (seg_go hd (h2 pos'))
noncomputable def M5 : Nat := 2 + ((223 + (330 * 37 + (6 + 19 * (650 - 17 - 17 * 37)))) + 8)
theorem g4 (w : World) (os : OsState) : segRun treeTable pT w 11 ann0 1 M5 (s4 w os).abs (piecesOf (sts pT 5 1) (envE pT) (cE pT) ⟨12, 0, 13, 30⟩ B0) = some (.next, (s5' w os).abs, cE pT, ⟨14, 0, 14, 13⟩) :=
  join5 (n := 2) (k := 8) (segGo_of (q0 w os)) (gd w os) (fun pos => segRun_of (q2 w os pos))
end
end Mine

open PySem PySem.W PyProof.Rows
set_option Elab.async false
set_option maxRecDepth 100000
set_option maxHeartbeats 400000
set_option linter.unusedVariables false
namespace Mine
noncomputable section
theorem tw1 {w : World} {n : Nat} {s : SharedT} {t : Thread} {r : Option (Flow × SharedT × Code × Pos)} (h : tSeg tTab pT w 11 ann0 1 n s t = r) : segRunT treeTable pT w 11 ann0 1 n s t = r := by
  have e1 := PySem.W.Fast.te10110043849684766642
  have e2 := PySem.W.Fast.te14364793385576792824
  rw [e1, e2]; exact h
theorem k1 (w : World) (os : OsState) : tSeg tTab pT w 11 ann0 1 53 (sA w os) (piecesOf (sts pT 0 3) (envE pT) (cE pT) p0 B0) = some (.next, s2 w os, cE pT, ⟨10, 0, 10, 8⟩) := by kernel_rfl!
theorem k3 (w : World) (os : OsState) : tSeg tTab pT w 11 ann0 1 30 (s3 w os) (piecesOf (sts pT 4 1) (envE pT) (cE pT) ⟨11, 0, 11, 6⟩ B0) = some (.next, s4 w os, cE pT, ⟨12, 0, 13, 30⟩) := by kernel_rfl!
theorem k5 (w : World) (os : OsState) : tSeg tTab pT w 11 ann0 1 269 (s5' w os) (piecesOf (sts pT 6 10) (envE pT) (cE pT) ⟨14, 0, 14, 13⟩ B0) = some (.next, sF w os, cE pT, ⟨80, 0, 91, 15⟩) := by kernel_rfl!
theorem kpre (w : World) (os : OsState) : topGo treeTable pT w 11 ann0 12 ⟨boot_heap w.params, Array.mk [], boot_drawn, boot_toks, os⟩ (topStub pT) = some ((sA w os).abs, ⟨denote treeTable (cE pT), cE pT, p0, B0⟩) := by kernel_rfl!
theorem kblock (w : World) (os : OsState) : segRun treeTable pT w 11 ann0 1 1 (sA w os).abs (blockOf (behindTheImports pT) (envE pT) (cE pT) p0 B0) = some (.next, (sA w os).abs, cE pT, p0) := by kernel_rfl!
theorem kfin (w : World) (os : OsState) : topRun treeTable pT w 11 ann0 2 (sF w os).abs ⟨doneF .next, cE pT, ⟨80, 0, 91, 15⟩, B0⟩ = some (sF w os).abs := by kernel_rfl!
end
end Mine

open PySem PySem.W PyProof.Rows
set_option Elab.async false
set_option maxRecDepth 100000
set_option maxHeartbeats 400000
set_option linter.unusedVariables false
namespace Mine
noncomputable section
noncomputable abbrev tEx := PySem.W.Fast.tw12563942051412417395
noncomputable def thT (l : List PySem.Stmt) (q : Pos) : Thread := ⟨(tEx l (envE pT)).wrap doneF deadEnd id id, cE pT, q, B0⟩
theorem thT_eq (l : List PySem.Stmt) (q : Pos) : piecesOf l (envE pT) (cE pT) q B0 = thT l q := by
  have e := PySem.W.Fast.te12563942051412417395
  unfold thT piecesOf
  rw [e]
noncomputable def P2 (w : World) : Prop := ∀ os : OsState, tSeg tTab pT w 11 ann0 1 999 (s2 w os) (thT (sts pT 3 1) ⟨10, 0, 10, 8⟩) = some (.next, s3 w os, cE pT, ⟨11, 0, 11, 6⟩)
theorem k2ff (w : World) : P2 ((w.withFollow "set-order" false).withFollow "special-get-raises" false) := by intro os; kernel_rfl!
theorem k2ft (w : World) : P2 ((w.withFollow "set-order" false).withFollow "special-get-raises" true) := by intro os; kernel_rfl!
theorem k2tf (w : World) : P2 ((w.withFollow "set-order" true).withFollow "special-get-raises" false) := by intro os; kernel_rfl!
theorem k2tt (w : World) : P2 ((w.withFollow "set-order" true).withFollow "special-get-raises" true) := by intro os; kernel_rfl!
theorem sgr (w : World) (P : World → Prop) (b : Bool) (f : P ((w.withFollow "set-order" b).withFollow "special-get-raises" false)) (t : P ((w.withFollow "set-order" b).withFollow "special-get-raises" true)) : P (w.withFollow "set-order" b) := by
  have e := World.withFollow_self (w.withFollow "set-order" b) "special-get-raises"
  rw [← e]
  cases (w.withFollow "set-order" b).params.followText "special-get-raises"
  · exact f
  · exact t
theorem k2 : ∀ w, P2 w := byRow2 "set-order" (fun w => sgr w P2 false (k2ff w) (k2ft w)) (fun w => sgr w P2 true (k2tf w) (k2tt w))
theorem g2 (w : World) (os : OsState) : segRunT treeTable pT w 11 ann0 1 999 (s2 w os) (piecesOf (sts pT 3 1) (envE pT) (cE pT) ⟨10, 0, 10, 8⟩ B0) = some (.next, s3 w os, cE pT, ⟨11, 0, 11, 6⟩) := by
  rw [thT_eq]
  exact tw1 (k2 w os)
end
end Mine

open PySem PySem.W PyProof.Rows
set_option Elab.async false
set_option maxRecDepth 100000
set_option maxHeartbeats 400000
set_option linter.unusedVariables false
namespace Mine
noncomputable section
theorem body_len : (behindTheImports pT).length = 16 := by kernel_rfl!
theorem cuts {α : Type} (l : List α) (h : l.length = 16) : l = (l.drop 0).take 3 ++ ((l.drop 3).take 1 ++ ((l.drop 4).take 1 ++ ((l.drop 5).take 1 ++ ((l.drop 6).take 10 ++ [])))) := by
  have e6 : (l.drop 6).take 10 = l.drop 6 := List.take_of_length_le (by rw [List.length_drop]; omega)
  rw [e6, List.append_nil]
  have a5 : (l.drop 5).take 1 ++ l.drop 6 = l.drop 5 := by
    have := List.take_append_drop 1 (l.drop 5); rwa [List.drop_drop] at this
  have a4 : (l.drop 4).take 1 ++ l.drop 5 = l.drop 4 := by
    have := List.take_append_drop 1 (l.drop 4); rwa [List.drop_drop] at this
  have a3 : (l.drop 3).take 1 ++ l.drop 4 = l.drop 3 := by
    have := List.take_append_drop 1 (l.drop 3); rwa [List.drop_drop] at this
  rw [a5, a4, a3, List.drop_zero, List.take_append_drop]
theorem body_cut : behindTheImports pT = sts pT 0 3 ++ (sts pT 3 1 ++ (sts pT 4 1 ++ (sts pT 5 1 ++ (sts pT 6 10 ++ [])))) := cuts _ body_len
noncomputable def topSteps : Nat := 12 + (1 + (53 + (999 + (30 + (M5 + (269 + 2))))))
theorem run_from {p : Program} {w : World} {s₀ sa sb sc sd se sf : Shared} {b l1 l2 l3 l4 l5 : List PySem.Stmt} {env : Env} {q p1 p2 p3 p4 p5 p6 : Pos} {n0 n1 n2 n3 n4 n5 n6 n7 : Nat} {t : Thread}
    (hb : b = l1 ++ (l2 ++ (l3 ++ (l4 ++ (l5 ++ [])))))
    (h0 : topGo treeTable p w 11 ann0 n0 s₀ t = some (sa, ⟨denote treeTable (.body b env), .body b env, p1, [topFrame q]⟩))
    (h1 : segRun treeTable p w 11 ann0 1 n1 sa (blockOf b env (.body b env) p1 [topFrame q]) = some (.next, sa, .body b env, p1))
    (h2 : segRun treeTable p w 11 ann0 1 n2 sa (piecesOf l1 env (.body b env) p1 [topFrame q]) = some (.next, sb, .body b env, p2))
    (h3 : segRun treeTable p w 11 ann0 1 n3 sb (piecesOf l2 env (.body b env) p2 [topFrame q]) = some (.next, sc, .body b env, p3))
    (h4 : segRun treeTable p w 11 ann0 1 n4 sc (piecesOf l3 env (.body b env) p3 [topFrame q]) = some (.next, sd, .body b env, p4))
    (h5 : segRun treeTable p w 11 ann0 1 n5 sd (piecesOf l4 env (.body b env) p4 [topFrame q]) = some (.next, se, .body b env, p5))
    (h6 : segRun treeTable p w 11 ann0 1 n6 se (piecesOf l5 env (.body b env) p5 [topFrame q]) = some (.next, sf, .body b env, p6))
    (h7 : topRun treeTable p w 11 ann0 n7 sf ⟨doneF .next, .body b env, p6, [topFrame q]⟩ = some sf) :
    topRun treeTable p w 11 ann0 (n0 + (n1 + (n2 + (n3 + (n4 + (n5 + (n6 + n7))))))) s₀ t = some sf := by
  refine go_top h0 (piece_block h1 ?_)
  have e : ∀ pos, restOf b env (.body b env) pos [topFrame q] = restOf (l1 ++ (l2 ++ (l3 ++ (l4 ++ (l5 ++ []))))) env (.body b env) pos [topFrame q] := fun pos => by
    show restOf b env _ pos _ = _
    conv => lhs; arg 1; rw [hb]
  rw [e]
  exact piece_app h2 (piece_app h3 (piece_app h4 (piece_app h5 (piece_app h6 (piece_nil h7)))))
theorem runT (w : World) (os : OsState) : topRun treeTable pT w 11 ann0 topSteps ⟨boot_heap w.params, Array.mk [], boot_drawn, boot_toks, os⟩ (topStub pT) = some (sF w os).abs :=
  run_from (n0 := 12) (n1 := 1) (n2 := 53) (n3 := 999) (n4 := 30) (n5 := M5) (n6 := 269) (n7 := 2) body_cut (kpre w os) (kblock w os) (segRun_of (tw1 (k1 w os))) (segRun_of (g2 w os)) (segRun_of (tw1 (k3 w os))) (g4 w os) (segRun_of (tw1 (k5 w os))) (kfin w os)
theorem runW (w : World) (os : OsState) : topRun treeTable pW w 11 ann0 topSteps ⟨boot_heap w.params, Array.mk [], boot_drawn, boot_toks, os⟩ (topStub pW) = some ⟨absHeap (tF w.params) 134 {}, #[], {}, 2292, os⟩ := by
  have e : pW = pT := PySem.W.Fast.te1139719299734052072
  rw [e]
  exact runT w os
end
end Mine

open PySem PySem.W PyProof.Rows
set_option Elab.async false
set_option maxRecDepth 100000
set_option maxHeartbeats 400000
set_option linter.unusedVariables false
namespace Mine
noncomputable section
noncomputable def KF (P : Params) : Frag := [(2, o2_0 P), (3, o3_5 P), (15, o7_0 P), (16, o8_0 P), (17, o17_0 P), (18, o7_0 P), (19, o19_0 P), (20, o20_0 P), (21, o21_0 P), (29, o29_0 P), (33, o7_0 P), (34, o8_0 P), (35, o35_0 P), (36, o7_0 P), (37, o37_0 P), (38, o38_0 P), (39, o39_0 P), (40, dk 0 P), (79, o7_0 P), (80, o8_0 P), (81, o81_0 P), (82, o7_0 P), (83, o83_0 P), (84, o84_0 P), (85, o85_0 P), (86, o7_0 P), (87, o8_0 P), (88, o88_0 P), (89, o7_0 P), (90, o90_0 P), (91, o91_0 P), (92, o92_0 P), (93, o7_0 P), (94, o8_0 P), (95, o95_0 P), (96, o7_0 P), (97, o97_0 P), (98, o98_0 P), (99, o99_0 P), (100, o7_0 P), (101, o8_0 P), (102, o102_0 P), (103, o103_0 P), (104, o104_0 P), (105, o7_0 P), (106, o8_0 P), (107, o107_0 P), (108, o7_0 P), (109, o109_0 P), (110, o110_0 P), (111, o111_0 P), (112, o7_0 P), (113, o8_0 P), (114, o114_0 P), (115, o115_0 P), (116, o116_0 P), (117, o7_0 P), (118, o8_0 P), (119, o119_0 P), (120, o7_0 P), (121, o121_0 P), (122, o122_0 P), (123, o123_0 P), (124, o7_0 P), (125, o8_0 P), (126, o126_0 P), (127, o127_0 P), (128, o128_0 P), (129, o7_0 P), (130, o8_0 P), (131, o131_0 P), (132, o132_0 P), (133, o133_0 P)]
noncomputable def asF (P : Params) : List Addr := (KF P).map (·.1)
noncomputable def asL : List Addr := [2, 3, 15, 16, 17, 18, 19, 20, 21, 29, 33, 34, 35, 36, 37, 38, 39, 40] ++ List.range' 79 55
theorem as_eq (P : Params) : asL = (KF P).map (·.1) := by kernel_rfl!
noncomputable def hookF : Hook := kHook KF asL as_eq
noncomputable def qV : Program := view pW [1, 4, 6, 7, 9, 10, 11, 12, 13, 14, 15]
noncomputable def looseV : List Str := ["b1_set", "b3_exceptions"]
abbrev rowV : OpenRow := PySem.Challenge.rw_rw0067_01.row
noncomputable def XtV (s : Shared) : Bool := xlAt qV [] s && recOk (RowW.records rowV.toRowW) s
noncomputable abbrev HF (P : Params) : Heap := absHeap (tF P) 134 {}
theorem lk0 (w : World) (os : OsState) : (staticsOk (importedModules pW.main.body) (boot_heap w.params) (HF w.params) && namesBound pW (HF w.params) && gensDone ⟨HF w.params, #[], {}, 2292, os⟩ && laidKept (boot_heap w.params) (HF w.params)) = true := by kernel_rfl!
theorem lk2 (w : World) (os : OsState) : hookF.obs ⟨HF w.params, #[], {}, 2292, os⟩ = hookF.val w := by kernel_rfl!
end
end Mine

open PySem PySem.W PyProof.Rows
set_option Elab.async false
set_option maxRecDepth 100000
set_option maxHeartbeats 400000
set_option linter.unusedVariables false
namespace Mine
noncomputable section
noncomputable abbrev SF (w : World) (os : OsState) : Shared := ⟨HF w.params, #[], {}, 2292, os⟩
theorem lk1 (w : World) (os : OsState) : openSeen qV looseV (importedModules pW.main.body) XtV true (SF w os) = openGood qV looseV := by
  unfold openSeen openGood
  refine looks_pair ?_ (looks_pair ?_ (looks_pair ?_ (looks_pair ?_ (looks_pair ?_ (looks_pair ?_ (looks_pair ?_ (looks_pair ?_ ?_)))))))
  · kernel_rfl!
  · kernel_rfl!
  · refine look_both (look_both (look_both (look_both (look_both (look_both ?_ ?_) ?_) ?_) ?_) ?_) ?_
    · kernel_rfl!
    · kernel_rfl!
    · kernel_rfl!
    · kernel_rfl!
    · kernel_rfl!
    · refine look_both ?_ ?_
      · kernel_rfl!
      · kernel_rfl!
    · kernel_rfl!
  · kernel_rfl!
  · kernel_rfl!
  · kernel_rfl!
  · kernel_rfl!
  · kernel_rfl!
  · kernel_rfl!
end
end Mine

open PySem PySem.W PyProof.Rows
set_option Elab.async false
set_option maxRecDepth 100000
set_option maxHeartbeats 400000
set_option linter.unusedVariables false
namespace Mine
noncomputable section
noncomputable def NV : Nat := 20000
theorem open_e : opening pW = plainProg pW.main.scope.names := by kernel_rfl!
theorem open_f (s : Shared) : fenceModules? pW s = some s := by kernel_rfl!
theorem size_e (w : World) : ((boot_heap w.params).isNs mainGlobals && (Array.mk [] : Array GenState).size == 0, (boot_heap w.params).objs.size, (boot_heap w.params).nsMap mainGlobals "__annotations__") = (true, 11, ann0) := by kernel_rfl!
theorem steps_le : Nat.ble topSteps NV = true := by kernel_rfl!
theorem boot_le : Nat.ble 600 NV = true := by kernel_rfl!
theorem left : LeftO pW qV looseV XtV hookF.obs hookF.val NV :=
  LeftO.of_pieces (H₀ := boot_heap) (H₁ := HF) (gs₀ := Array.mk []) (gs₁ := #[]) (d₀ := boot_drawn) (d₁ := {}) (k₀ := boot_toks) (k₁ := 2292) (m₀ := 11) (ann := ann0) (M := topSteps)
    (boot_open open_e boot_le open_f) size_e runW steps_le
    (fun w => funext fun os => looks_pair (lk0 w os) (looks_pair (lk1 w os) (lk2 w os)))
noncomputable def dparts2 := defOf qV "law"
theorem def_e : (defOf qV "law").isSome = true := by kernel_rfl!
end
end Mine

open PySem PySem.W PyProof.Rows
set_option Elab.async false
set_option maxRecDepth 100000
set_option maxHeartbeats 400000
set_option linter.unusedVariables false
namespace Mine
noncomputable section
noncomputable def dK : DefRec × List (Str × PySem.Expr) := (defOf qV rowV.name).get def_e
theorem dK_e : defOf qV rowV.name = some (dK.1, dK.2) := (Option.some_get def_e).symm
theorem dK_p : rowV.prog.theDef rowV.name = some (dK.1.params, dK.1.body, dK.1.scope) := by kernel_rfl!
theorem dK_k : kwWritten? dK.1.params.kwonlyargs dK.1.params.kw_defaults = some dK.2 := by kernel_rfl!
theorem row_ok : (chainsOk qV && opensWell rowV.prog && (frees rowV.toRowW && rowV.within.isEmpty)) = true := by kernel_rfl!
theorem row_bare : rowV.prog.bare := ⟨rfl, rfl, rfl, rfl, rfl, by decide +kernel⟩
theorem row_prom : rowV.toRowW.promised := by w_witness2
noncomputable abbrev WalkL : Prop := WalkO qV looseV (XL qV []) hookF.says rowV.toRowW dK.1 dK.2 fun f vs => PySem.call f vs
theorem holds_of_walk (call : WalkL) : PySem.Challenge.rw_rw0067_01.Holds :=
  holds_law said fun k1 => holds_open (r := rowV) (q := qV) (loose := looseV) (Xt := XtV) (XP := XL qV []) (Yf := hookF.obs) (Ya := hookF.val) (YP := hookF.says) (N := NV) left hookF.of hookF.keeps
    (fun s e => xl_of s (Bool.and_eq_true_iff.mp e).1) XL.keeps dK_e dK_p dK_k (fun s e => recFacts_of (Bool.and_eq_true_iff.mp e).2) rfl k1 row_ok row_bare row_prom call
end
end Mine

open PySem PySem.W PyProof.Rows PySem.Calls
set_option Elab.async false
set_option maxRecDepth 100000
set_option maxHeartbeats 400000
set_option linter.unusedVariables false
namespace Mine
noncomputable section
/-- data: a told value, an int, a text, a list, a tuple -/
inductive D where
  | val (v : Value)
  | int (i : Int)
  | str (x : Str)
  | list (l : List D)
  | tup (l : List D)
mutual
/-- in the heap h the value v is the datum; none of its lists stands at an address of av -/
inductive Den (av : List Addr) (h : Heap) : Value → D → Prop
  | val (v : Value) : Den av h v (.val v)
  | int (i : Int) (t : Tok) : Den av h (.int i t) (.int i)
  | str (x : Str) (t : Tok) : Den av h (.str x t) (.str x)
  | list (a : Addr) (vs : Array Value) (l : List D) : h.IsList a vs → a ∉ av → DenL av h vs.toList l → Den av h (.ref a) (.list l)
  | tup (a : Addr) (vs : Array Value) (l : List D) : h.IsTuple a vs → a ∉ av → DenL av h vs.toList l → Den av h (.ref a) (.tup l)
inductive DenL (av : List Addr) (h : Heap) : List Value → List D → Prop
  | nil : DenL av h [] []
  | cons {v d vs l} : Den av h v d → DenL av h vs l → DenL av h (v :: vs) (d :: l)
end
theorem isList_at {h h' : Heap} {a : Addr} {vs : Array Value} (x : h.IsList a vs) (k : ∀ o, h.get? a = some o → h'.get? a = some o) : h'.IsList a vs := let ⟨o, e, r⟩ := x; ⟨o, k o e, r⟩
theorem isTup_at {h h' : Heap} {a : Addr} {vs : Array Value} (x : h.IsTuple a vs) (k : ∀ o, h.get? a = some o → h'.get? a = some o) : h'.IsTuple a vs := let ⟨o, e, r⟩ := x; ⟨o, k o e, r⟩
mutual
theorem Den.mono {av : List Addr} {h h' : Heap} (k : ∀ b o, b ∉ av → h.get? b = some o → h'.get? b = some o) : ∀ {v : Value} {d : D}, Den av h v d → Den av h' v d
  | _, _, .val v => .val v
  | _, _, .int i t => .int i t
  | _, _, .str x t => .str x t
  | _, _, .list a vs l h1 h2 h3 => .list a vs l (isList_at h1 fun o e => k a o h2 e) h2 (DenL.mono k h3)
  | _, _, .tup a vs l h1 h2 h3 => .tup a vs l (isTup_at h1 fun o e => k a o h2 e) h2 (DenL.mono k h3)
theorem DenL.mono {av : List Addr} {h h' : Heap} (k : ∀ b o, b ∉ av → h.get? b = some o → h'.get? b = some o) : ∀ {vs : List Value} {l : List D}, DenL av h vs l → DenL av h' vs l
  | _, _, .nil => .nil
  | _, _, .cons a b => .cons (Den.mono k a) (DenL.mono k b)
end
mutual
/-- other addresses to avoid: such as bear no list and no tuple -/
theorem Den.avoid {av av' : List Addr} {h : Heap} (k : ∀ a, a ∈ av' → a ∈ av ∨ ∀ vs, ¬ h.IsList a vs ∧ ¬ h.IsTuple a vs) : ∀ {v : Value} {d : D}, Den av h v d → Den av' h v d
  | _, _, .val v => .val v
  | _, _, .int i t => .int i t
  | _, _, .str x t => .str x t
  | _, _, .list a vs l h1 h2 h3 => .list a vs l h1 (fun q => (k a q).elim h2 fun z => (z vs).1 h1) (DenL.avoid k h3)
  | _, _, .tup a vs l h1 h2 h3 => .tup a vs l h1 (fun q => (k a q).elim h2 fun z => (z vs).2 h1) (DenL.avoid k h3)
theorem DenL.avoid {av av' : List Addr} {h : Heap} (k : ∀ a, a ∈ av' → a ∈ av ∨ ∀ vs, ¬ h.IsList a vs ∧ ¬ h.IsTuple a vs) : ∀ {vs : List Value} {l : List D}, DenL av h vs l → DenL av' h vs l
  | _, _, .nil => .nil
  | _, _, .cons a b => .cons (Den.avoid k a) (DenL.avoid k b)
end
theorem Den.all {av : List Addr} {h : Heap} {v : Value} {d : D} (x : Den av h v d) : Den [] h v d := x.avoid (av' := []) fun a q => absurd q List.not_mem_nil
theorem DenL.all {av : List Addr} {h : Heap} {v : List Value} {d : List D} (x : DenL av h v d) : DenL [] h v d := x.avoid (av' := []) fun a q => absurd q List.not_mem_nil
theorem DenL.len {av : List Addr} {h : Heap} : ∀ {vs : List Value} {l : List D}, DenL av h vs l → vs.length = l.length
  | _, _, .nil => rfl
  | _, _, .cons _ b => by rw [List.length_cons, List.length_cons, b.len]
theorem DenL.at {av : List Addr} {h : Heap} : ∀ {vs : List Value} {l : List D}, DenL av h vs l → ∀ {i : Nat} {v : Value}, vs[i]? = some v → ∃ d, l[i]? = some d ∧ Den av h v d
  | [], _, _, i, v, e => by simp at e
  | x :: vs, l, x', i, v, e => by
    cases x' with
    | cons a b =>
      cases i with
      | zero => cases e; exact ⟨_, rfl, a⟩
      | succ i => exact b.at (i := i) e
theorem DenL.get {av : List Addr} {h : Heap} : ∀ {vs : List Value} {l : List D}, DenL av h vs l → ∀ {i : Nat} {d : D}, l[i]? = some d → ∃ v, vs[i]? = some v ∧ Den av h v d
  | _, [], _, i, v, e => by simp at e
  | _, x :: l, x', i, v, e => by
    cases x' with
    | cons a b =>
      cases i with
      | zero => cases e; exact ⟨_, rfl, a⟩
      | succ i => exact b.get (i := i) e
theorem DenL.app {av : List Addr} {h : Heap} : ∀ {vs ws : List Value} {l m : List D}, DenL av h vs l → DenL av h ws m → DenL av h (vs ++ ws) (l ++ m)
  | _, _, _, _, .nil, x => x
  | _, _, _, _, .cons a b, x => .cons a (b.app x)
theorem DenL.drop {av : List Addr} {h : Heap} : ∀ {vs : List Value} {l : List D} (k : Nat), DenL av h vs l → DenL av h (vs.drop k) (l.drop k)
  | _, _, 0, x => x
  | _, _, _ + 1, .nil => .nil
  | _, _, k + 1, .cons _ b => b.drop k
theorem DenL.take {av : List Addr} {h : Heap} : ∀ {vs : List Value} {l : List D} (k : Nat), DenL av h vs l → DenL av h (vs.take k) (l.take k)
  | _, _, 0, x => by simpa using DenL.nil
  | _, _, _ + 1, .nil => .nil
  | _, _, k + 1, .cons a b => .cons a (b.take k)

/-- the written-out part of the top and its two namespaces stand in the heap -/
structure Base (w : World) (h : Heap) : Prop where
  k : (KF w.params).In h
  t : ∃ mg mb, TopRead qV looseV mg mb h
theorem Base.keeps {w : World} {h h' : Heap} (x : Base w h) (k : ∀ b o, h.get? b = some o → h'.get? b = some o) : Base w h' := ⟨x.k.keeps k, let ⟨mg, mb, t⟩ := x.t; ⟨mg, mb, t.keeps k⟩⟩

noncomputable abbrev MW (w : World) : Model := model pW w
structure OkA (n : Nat) (A : Around) : Prop where
  handled : A.handled = none
  depth : A.depth + n < 1000
  units : A.units + 10 * n < 9900

noncomputable abbrev HP := Heap → Prop
/-- the addresses stand in the heap (so nothing new lies there) -/
noncomputable def Inn (av : List Addr) (h : Heap) : Prop := ∀ a ∈ av, ∃ o, h.get? a = some o
theorem Inn.keep {av : List Addr} {s s' : Shared} (x : Inn av s.heap) (k : Keeps s s') : Inn av s'.heap := fun a ha => let ⟨o, e⟩ := x a ha; ⟨o, by obtain ⟨h, t, rfl, k⟩ := k; exact k a o e⟩
theorem Inn.size {av : List Addr} {h : Heap} (x : Inn av h) : h.objs.size ∉ av := fun ha => let ⟨o, e⟩ := x _ ha; absurd (Heap.lt_size e) (Nat.lt_irrefl _)
noncomputable def Stable (C : HP) : Prop := ∀ h h' : Heap, (∀ b o, h.get? b = some o → h'.get? b = some o) → C h → C h'
/-- a tree that yields the datum and keeps what stands -/
structure Ev (w : World) (A : Around) (av : List Addr) (C : HP) (x : Sem Value) (d : D) : Prop where
  run : ∀ (s : Shared) (Q : Value → Shared → Prop) (E : Value → Shared → Prop), C s.heap → (∀ v s', Keeps s s' → Den av s'.heap v d → Q v s') → wpAny (MW w) A x Q E s
/-- a test -/
structure Tst (w : World) (A : Around) (C : HP) (x : Sem Bool) (b : Bool) : Prop where
  run : ∀ (s : Shared) (Q : Bool → Shared → Prop) (E : Value → Shared → Prop), C s.heap → (∀ s', Keeps s s' → Q b s') → wpAny (MW w) A x Q E s
/-- statements: from P to R -/
structure Tr (w : World) (A : Around) (P : HP) (x : Sem Flow) (R : Flow → HP) : Prop where
  run : ∀ (s : Shared) (Q : Flow → Shared → Prop) (E : Value → Shared → Prop), P s.heap → (∀ f h' tk, R f h' → Q f { s with heap := h', toks := tk }) → wpAny (MW w) A x Q E s
/-- a call -/
structure CallOk (w : World) (A : Around) (av : List Addr) (C : HP) (f : Value) (ds : List D) (d : D) : Prop where
  run : ∀ (s : Shared) (vs : List Value) (Q : Value → Shared → Prop) (E : Value → Shared → Prop), C s.heap → DenL av s.heap vs ds → (∀ v s', Keeps s s' → Den av s'.heap v d → Q v s') → wpAny (MW w) A (call f vs) Q E s

theorem keeps_refl (s : Shared) : Keeps s s := ⟨s.heap, s.toks, rfl, fun _ _ e => e⟩
theorem keeps_trans {s s' s'' : Shared} (a : Keeps s s') (b : Keeps s' s'') : Keeps s s'' := by
  obtain ⟨h, t, rfl, k⟩ := a
  obtain ⟨h', t', rfl, k'⟩ := b
  exact ⟨h', t', rfl, fun b o e => k' b o (k b o e)⟩
theorem keeps_heap {s s' : Shared} (a : Keeps s s') : ∀ b o, s.heap.get? b = some o → s'.heap.get? b = some o := by
  obtain ⟨h, t, rfl, k⟩ := a
  exact k
theorem keeps_toks {s : Shared} {k : Nat} : Keeps s { s with toks := k } := ⟨s.heap, k, rfl, fun _ _ e => e⟩
theorem Den.keep {av : List Addr} {s s' : Shared} {v : Value} {d : D} (x : Den av s.heap v d) (k : Keeps s s') : Den av s'.heap v d := x.mono fun b o _ e => keeps_heap k b o e
theorem DenL.keep {av : List Addr} {s s' : Shared} {v : List Value} {d : List D} (x : DenL av s.heap v d) (k : Keeps s s') : DenL av s'.heap v d := x.mono fun b o _ e => keeps_heap k b o e

section
variable {w : World} {A : Around} {av : List Addr} {C : HP} {env : Env}
theorem ev_mono {C' : HP} {x : Sem Value} {d : D} (h : Ev w A av C x d) (k : ∀ h, C' h → C h) : Ev w A av C' x d := .mk fun s Q E c q => h.run s Q E (k _ c) q
/-- two trees, one behind the other -/
theorem ev_two {x y : Sem Value} {d e : D} (hC : Stable C) (hx : Ev w A av C x d) (hy : Ev w A av C y e) {s : Shared} {Q : Value → Value → Shared → Prop} {E : Value → Shared → Prop} (c : C s.heap)
    (q : ∀ u v s', Keeps s s' → C s'.heap → Den av s'.heap u d → Den av s'.heap v e → Q u v s') : wpAny (MW w) A x (fun u s₁ => wpAny (MW w) A y (fun v s₂ => Q u v s₂) E s₁) E s :=
  hx.run s _ E c fun u s₁ k₁ du => hy.run s₁ _ E (hC _ _ (keeps_heap k₁) c) fun v s₂ k₂ dv => q u v s₂ (keeps_trans k₁ k₂) (hC _ _ (keeps_heap k₂) (hC _ _ (keeps_heap k₁) c)) (du.keep k₂) dv
theorem ev_int (i : Int) (k : Nat) (p : Pos) : Ev w A av C (eval (.Constant (.int i) k p) env) (.int i) := .mk fun s Q E c q => wpAny_Constant_int (q _ _ keeps_toks (.int _ _))
theorem ev_str (x : Str) (k : Nat) (p : Pos) : Ev w A av C (eval (.Constant (.str x) k p) env) (.str x) := .mk fun s Q E c q => wpAny_Constant_str (q _ _ keeps_toks (.str _ _))
theorem ev_none (k : Nat) (p : Pos) : Ev w A av C (eval (.Constant .none k p) env) (.val .none) := .mk fun s Q E c q => wpAny_Constant_none (q _ _ (keeps_refl s) (.val _))
theorem ev_bool (b : Bool) (k : Nat) (p : Pos) : Ev w A av C (eval (.Constant (.bool b) k p) env) (.val (.bool b)) := .mk fun s Q E c q => wpAny_Constant_bool (q _ _ (keeps_refl s) (.val _))
theorem ev_bin {l r : PySem.Expr} {op : Operator} {p : Pos} {a b d : D} (hC : Stable C) (hl : Ev w A av C (eval l env) a) (hr : Ev w A av C (eval r env) b)
    (ho : ∀ (s : Shared) u v (Q : Value → Shared → Prop) E, C s.heap → Den av s.heap u a → Den av s.heap v b → (∀ z s', Keeps s s' → Den av s'.heap z d → Q z s') → wpAny (MW w) A (binaryOp op u v) Q E s) : Ev w A av C (eval (.BinOp l op r p) env) d :=
  .mk fun s Q E c q => wpAny_BinOp (ev_two hC hl hr c fun u v s' k c' du dv => ho s' u v Q E c' du dv fun z s'' k' dz => q z s'' (keeps_trans k k') dz)
theorem ev_cmp {l r : PySem.Expr} {op : CmpOp} {p : Pos} {a b d : D} (hC : Stable C) (hl : Ev w A av C (eval l env) a) (hr : Ev w A av C (eval r env) b)
    (ho : ∀ (s : Shared) u v (Q : Value → Shared → Prop) E, C s.heap → Den av s.heap u a → Den av s.heap v b → (∀ z s', Keeps s s' → Den av s'.heap z d → Q z s') → wpAny (MW w) A (compareOp op u v) Q E s) (hm : behindInMarks op r = false) : Ev w A av C (eval (.Compare l [op] [r] p) env) d :=
  .mk fun s Q E c q => wpAny_Compare1 (ev_two hC hl hr c fun u v s' k c' du dv => ho s' u v Q E c' du dv fun z s'' k' dz => q z s'' (keeps_trans k k') dz) hm
/-- several -/
structure Evs (w : World) (A : Around) (av : List Addr) (C : HP) (x : Sem (List Value)) (ds : List D) : Prop where
  run : ∀ (s : Shared) (Q : List Value → Shared → Prop) (E : Value → Shared → Prop), C s.heap → (∀ vs s', Keeps s s' → DenL av s'.heap vs ds → Q vs s') → wpAny (MW w) A x Q E s
theorem evs_nil {p : Pos} : Evs w A av C (spliced (backTo p (starEach [] env))) [] := .mk fun s Q E c q => args_nil (q _ _ (keeps_refl s) .nil)
theorem evs_cons {e : PySem.Expr} {rest : List PySem.Expr} {p : Pos} {d : D} {ds : List D} (hC : Stable C) (he : Ev w A av C (eval e env) d) (hr : Evs w A av C (spliced (backTo p (starEach rest env))) ds)
    (hs : starEach (e :: rest) env = (false, eval e env) :: starEach rest env) : Evs w A av C (spliced (backTo p (starEach (e :: rest) env))) (d :: ds) :=
  .mk fun s Q E c q => args_cons (he.run s _ E c fun v s₁ k₁ dv => hr.run s₁ _ E (hC _ _ (keeps_heap k₁) c) fun vs s₂ k₂ dvs => q _ _ (keeps_trans k₁ k₂) (.cons (dv.keep k₂) dvs)) hs
theorem ev_call_b {f : PySem.Expr} {id : String} {e : PySem.Expr} {rest : List PySem.Expr} {p : Pos} {d : D} {ds : List D} (hC : Stable C) (hf : Ev w A av C (eval f env) (.val (.builtin id))) (ha : Evs w A av C (spliced (backTo p (starEach (e :: rest) env))) ds) (hc : CallOk w A av C (.builtin id) ds d)
    (he : eval (.Call f (e :: rest) [] p) env = (do callWith p (← eval f env) [] (backTo p (starEach (e :: rest) env)) (backToKw p (keywordEach [] env))))
    (hs : starEach (e :: rest) env = (false, eval e env) :: starEach rest env) (hpl : (backTo p (starEach rest env)).any (·.1) = false) : Ev w A av C (eval (.Call f (e :: rest) [] p) env) d :=
  .mk fun s Q E c q => Call_ (hf.run s _ E c fun v s₁ k₁ dv => by
    cases dv
    exact PyProof.Rows.callWith_builtin1 (ha.run s₁ _ E (hC _ _ (keeps_heap k₁) c) fun vs s₂ k₂ dvs => hc.run s₂ vs _ E (hC _ _ (keeps_heap k₂) (hC _ _ (keeps_heap k₁) c)) dvs fun z s₃ k₃ dz => q z s₃ (keeps_trans k₁ (keeps_trans k₂ k₃)) dz) hs hpl) he
theorem ev_call_t {f : PySem.Expr} {T : String} {e : PySem.Expr} {rest : List PySem.Expr} {p : Pos} {d : D} {ds : List D} (hC : Stable C) (hf : Ev w A av C (eval f env) (.val (.type T))) (ha : Evs w A av C (spliced (backTo p (starEach (e :: rest) env))) ds) (hc : CallOk w A av C (.type T) ds d)
    (he : eval (.Call f (e :: rest) [] p) env = (do callWith p (← eval f env) [] (backTo p (starEach (e :: rest) env)) (backToKw p (keywordEach [] env))))
    (hs : starEach (e :: rest) env = (false, eval e env) :: starEach rest env) (hpl : (backTo p (starEach rest env)).any (·.1) = false) : Ev w A av C (eval (.Call f (e :: rest) [] p) env) d :=
  .mk fun s Q E c q => Call_ (hf.run s _ E c fun v s₁ k₁ dv => by
    cases dv
    exact PyProof.Rows.callWith_type1 (ha.run s₁ _ E (hC _ _ (keeps_heap k₁) c) fun vs s₂ k₂ dvs => hc.run s₂ vs _ E (hC _ _ (keeps_heap k₂) (hC _ _ (keeps_heap k₁) c)) dvs fun z s₃ k₃ dz => q z s₃ (keeps_trans k₁ (keeps_trans k₂ k₃)) dz) hs hpl) he
theorem ev_call_f {f : PySem.Expr} {a : Addr} {o : Obj} {fd : FuncData} {e : PySem.Expr} {rest : List PySem.Expr} {p : Pos} {d : D} {ds : List D} (hC : Stable C) (hf : Ev w A av C (eval f env) (.val (.ref a))) (ha : Evs w A av C (spliced (backTo p (starEach (e :: rest) env))) ds) (hc : CallOk w A av C (.ref a) ds d)
    (ho : ∀ h, C h → h.get? a = some o) (hd : o.data = .func fd)
    (he : eval (.Call f (e :: rest) [] p) env = (do callWith p (← eval f env) [] (backTo p (starEach (e :: rest) env)) (backToKw p (keywordEach [] env))))
    (hs : starEach (e :: rest) env = (false, eval e env) :: starEach rest env) : Ev w A av C (eval (.Call f (e :: rest) [] p) env) d :=
  .mk fun s Q E c q => Call_ (hf.run s _ E c fun v s₁ k₁ dv => by
    cases dv
    exact callWith_def hd (ha.run s₁ _ E (hC _ _ (keeps_heap k₁) c) fun vs s₂ k₂ dvs => ⟨ho _ (hC _ _ (keeps_heap k₂) (hC _ _ (keeps_heap k₁) c)), hc.run s₂ vs _ E (hC _ _ (keeps_heap k₂) (hC _ _ (keeps_heap k₁) c)) dvs fun z s₃ k₃ dz => q z s₃ (keeps_trans k₁ (keeps_trans k₂ k₃)) dz⟩) hs) he
theorem ev_list {es : List PySem.Expr} {p : Pos} {ds : List D} (hC : Stable C) (hI : ∀ h, C h → Inn av h) (ha : Evs w A av C (spliced (backTo p (starEach es env))) ds) (hz : ds.length ≤ 1000) : Ev w A av C (eval (.List es p) env) (.list ds) :=
  .mk fun s Q E c q => List_ (ha.run s _ E c fun vs s₁ k₁ dvs => by
    have hi := (hI _ (hC _ _ (keeps_heap k₁) c)).size
    have hn : vs.length ≤ 1000 := by rw [dvs.len]; exact hz
    have hl : (s₁.heap.push { cls := .type "list", data := .seq vs.toArray }).get? s₁.heap.objs.size = some { cls := .type "list", data := .seq vs.toArray } := Heap.get?_push_size _ rfl
    refine wpAny_newObj_type (q (.ref s₁.heap.objs.size) _ (keeps_trans k₁ ⟨_, s₁.toks, rfl, fun b o e => Heap.get?_push_of_some _ e⟩) ?_) ?_
    · exact .list _ vs.toArray ds ⟨_, hl, rfl, _, rfl⟩ hi (dvs.mono fun b o _ e => Heap.get?_push_of_some _ e)
    · show vs.toArray.size ≤ sizeLine
      rw [List.size_toArray, sizeLine_eq]; omega)
theorem ev_tuple {es : List PySem.Expr} {k : Nat} {p : Pos} {ds : List D} (hC : Stable C) (hI : ∀ h, C h → Inn av h) (ha : Evs w A av C (spliced (backTo p (starEach es env))) ds) (hz : ds.length ≤ 1000) : Ev w A av C (eval (.Tuple es k p) env) (.tup ds) :=
  .mk fun s Q E c q => Tuple_ (ha.run s _ E c fun vs s₁ k₁ dvs => by
    have hi := (hI _ (hC _ _ (keeps_heap k₁) c)).size
    have hn : vs.length ≤ 1000 := by rw [dvs.len]; exact hz
    have hl : (s₁.heap.push { cls := .type "tuple", data := .seq vs.toArray }).get? s₁.heap.objs.size = some { cls := .type "tuple", data := .seq vs.toArray } := Heap.get?_push_size _ rfl
    refine wpAny_newObj_type (q (.ref s₁.heap.objs.size) _ (keeps_trans k₁ ⟨_, s₁.toks, rfl, fun b o e => Heap.get?_push_of_some _ e⟩) ?_) ?_
    · exact .tup _ vs.toArray ds ⟨_, hl, rfl, _, rfl⟩ hi (dvs.mono fun b o _ e => Heap.get?_push_of_some _ e)
    · show vs.toArray.size ≤ sizeLine
      rw [List.size_toArray, sizeLine_eq]; omega)
end
end
end Mine

open PySem PySem.W PyProof.Rows PySem.Calls
set_option Elab.async false
set_option maxRecDepth 100000
set_option maxHeartbeats 400000
set_option linter.unusedVariables false
namespace Mine
noncomputable section
/-- what a frame knows: its names' data (l), all that stood before it (h₀) -/
structure Vs (w : World) (av : List Addr) (K : Addr → Option Obj) (L : Addr) (cl : List (Str × Addr)) (l : List (Str × D)) (h : Heap) : Prop where
  base₀ : ∃ hb, Base w hb ∧ ∀ b o, hb.get? b = some o → K b = some o
  inn : Inn av h
  old : ∀ b o, K b = some o → h.get? b = some o
  new : K L = none
  cells : ∀ x c, cl.lookup x = some c → ∃ v, h.IsCell c v
  vars : ∃ m, h.Ns L m ∧ ∀ x d, l.lookup x = some d → ∃ v, (match cl.lookup x with | some c => h.IsCell c (some v) | none => m x = some v) ∧ Den av h v d
theorem Vs.base {w : World} {av : List Addr} {K : Addr → Option Obj} {L : Addr} {cl : List (Str × Addr)} {l : List (Str × D)} {h : Heap} (x : Vs w av K L cl l h) : Base w h := let ⟨_, y, k⟩ := x.base₀; y.keeps fun b o e => x.old b o (k b o e)
theorem isCell_at {h h' : Heap} {c : Addr} {v : Option Value} (x : h.IsCell c v) (k : ∀ o, h.get? c = some o → h'.get? c = some o) : h'.IsCell c v := let ⟨o, e, r⟩ := x; ⟨o, k o e, r⟩
theorem Vs.stable {w : World} {av : List Addr} {K : Addr → Option Obj} {L : Addr} {cl : List (Str × Addr)} {l : List (Str × D)} : Stable (Vs w av K L cl l) := fun h h' k x => by
  refine ⟨x.base₀, fun a ha => let ⟨o, e⟩ := x.inn a ha; ⟨o, k a o e⟩, fun b o e => k b o (x.old b o e), x.new, fun z c e => (x.cells z c e).imp fun v y => isCell_at y fun o e => k _ o e, ?_⟩
  obtain ⟨m, hn, hv⟩ := x.vars
  refine ⟨m, hn.at' fun o e => k _ o e, fun y d e => ?_⟩
  obtain ⟨v, hm, dv⟩ := hv y d e
  refine ⟨v, ?_, dv.mono fun b o _ e => k b o e⟩
  cases hc : cl.lookup y with
  | some c => rw [hc] at hm; exact isCell_at hm fun o e => k _ o e
  | none => rw [hc] at hm; exact hm
structure EnvOk (env : Env) (L : Addr) (cl : List (Str × Addr)) : Prop where
  locals : env.locals = L
  cells : env.cells = cl
  globals : env.globals = mainGlobals
  builtins : env.builtins = builtinsNs
  kind : env.scope.kind = .function
section
variable {w : World} {A : Around} {av : List Addr} {env : Env} {K : Addr → Option Obj} {L : Addr} {cl : List (Str × Addr)} {l : List (Str × D)} {x : Str} {p : Pos} {d : D}
theorem ev_local (hE : EnvOk env L cl) (hx : l.lookup x = some d) (hk : env.kindOf x = some .local) (hc : cl.lookup x = none) (hd : (x == ("__debug__" : Str)) = false) : Ev w A av (Vs w av K L cl l) (eval (.Name x p) env) d := .mk fun s Q E c q => by
  obtain ⟨m, hn, hv⟩ := c.vars
  obtain ⟨v, hm, dv⟩ := hv x d hx
  rw [hc] at hm
  exact wpAny_Name (wpAny_loadName_local hE.kind hk (hE.locals ▸ hn) hm (q v s (keeps_refl s) dv)) hd
theorem ev_cell {c : Addr} (hE : EnvOk env L cl) (hx : l.lookup x = some d) (hk : env.kindOf x = some .cell) (hc : cl.lookup x = some c) (hd : (x == ("__debug__" : Str)) = false) : Ev w A av (Vs w av K L cl l) (eval (.Name x p) env) d := .mk fun s Q E z q => by
  obtain ⟨m, hn, hv⟩ := z.vars
  obtain ⟨v, hm, dv⟩ := hv x d hx
  rw [hc] at hm
  exact wpAny_Name (wpAny_loadName_cell hE.kind hk (hE.cells ▸ hc) hm (q v s (keeps_refl s) dv)) hd
theorem ev_free {c : Addr} (hE : EnvOk env L cl) (hx : l.lookup x = some d) (hk : env.kindOf x = some .free) (hc : cl.lookup x = some c) (hd : (x == ("__debug__" : Str)) = false) (hcd : (x == ("__classdict__" : Str)) = false) : Ev w A av (Vs w av K L cl l) (eval (.Name x p) env) d := .mk fun s Q E z q => by
  obtain ⟨m, hn, hv⟩ := z.vars
  obtain ⟨v, hm, dv⟩ := hv x d hx
  rw [hc] at hm
  exact wpAny_Name (wpAny_loadName_free hE.kind hk (hE.cells ▸ hc) hm (q v s (keeps_refl s) dv) hcd) hd
theorem ev_global {C : HP} {v : Value} (hE : EnvOk env L cl) (hB : ∀ h, C h → Base w h) (hk : env.kindOf x = some .globalImplicit) (hn : nsIn (KF w.params) mainGlobals x = some (some v)) (hd : (x == ("__debug__" : Str)) = false) : Ev w A av C (eval (.Name x p) env) (.val v) := .mk fun s Q E c q => by
  obtain ⟨mg, mb, t⟩ := (hB _ c).t
  exact Name_function_global hE.kind hk (loadGlobal_global (hE.globals ▸ t.g) (mg_of (hB _ c).k t.g hn) (q v s (keeps_refl s) (.val v))) hd
theorem ev_builtin {C : HP} {v : Value} (hE : EnvOk env L cl) (hB : ∀ h, C h → Base w h) (hk : env.kindOf x = some .globalImplicit) (hn : nsIn (KF w.params) mainGlobals x = some none) (hb : bootBuiltins x = some v) (hx : x ≠ "__name__") (hd : (x == ("__debug__" : Str)) = false) : Ev w A av C (eval (.Name x p) env) (.val v) := .mk fun s Q E c q => by
  obtain ⟨mg, mb, t⟩ := (hB _ c).t
  exact Name_function_global hE.kind hk (loadGlobal_builtin (hE.globals ▸ t.g) (mg_none_of (hB _ c).k t.g hn) (hE.builtins ▸ t.b) ((t.builtins x hx).trans hb) (q v s (keeps_refl s) (.val v))) hd
/-- a name gets a datum -/
theorem vs_store {s : Shared} {v : Value} {Q : Unit → Shared → Prop} {E : Value → Shared → Prop} (hE : EnvOk env L cl) (c : Vs w av K L cl l s.heap) (dv : Den av s.heap v d) (hk : env.kindOf x = some .local) (hc : cl.lookup x = none)
    (q : ∀ h' tk, Vs w av K L cl ((x, d) :: l) h' → (∀ b o, b ≠ L → s.heap.get? b = some o → h'.get? b = some o) → Q () { s with heap := h', toks := tk }) : wpAny (MW w) A (storeName env x v) Q E s := by
  obtain ⟨m, hn, hv⟩ := c.vars
  refine wpAny_storeName_local hk (hE.locals ▸ hn) (fun h' hn' hs => ?_) (by rw [hE.kind]; rfl)
  rw [hE.locals] at hn' hs
  have up : ∀ b o, b ≠ L → s.heap.get? b = some o → h'.get? b = some o := fun b o hb e => (hs.2 b hb).trans e
  have notL : ∀ vs, ¬ s.heap.IsList L vs ∧ ¬ s.heap.IsTuple L vs := fun vs => by
    obtain ⟨o, es, ep, ho, hd, _⟩ := hn
    constructor
    · rintro ⟨o', e', _, n, hd'⟩; rw [ho] at e'; cases e'; rw [hd] at hd'; cases hd'
    · rintro ⟨o', e', _, n, hd'⟩; rw [ho] at e'; cases e'; rw [hd] at hd'; cases hd'
  have den : ∀ {u e}, Den av s.heap u e → Den av h' u e := fun z => by
    have z' : Den (L :: av) s.heap _ _ := z.avoid fun a q => (List.mem_cons.mp q).elim (fun e => .inr (e ▸ notL)) .inl
    exact (z'.mono fun b o hb e => up b o (fun q => hb (q ▸ List.mem_cons_self)) e).avoid fun a q => .inl (List.mem_cons_of_mem _ q)
  have keepB : ∀ b o, K b = some o → h'.get? b = some o := fun b o e => up b o (by rintro rfl; rw [c.new] at e; cases e) (c.old b o e)
  have cel' : ∀ z cc, cl.lookup z = some cc → ∃ v, h'.IsCell cc v := fun z cc e => by
    obtain ⟨u, hu⟩ := c.cells z cc e
    refine ⟨u, isCell_at hu fun o eo => up _ o ?_ eo⟩
    rintro rfl
    obtain ⟨o', es, ep, ho, hd, _⟩ := hn
    obtain ⟨o'', e'', hd''⟩ := hu
    rw [ho] at e''
    cases e''
    rw [hd] at hd''
    cases hd''
  have inn' : Inn av h' := fun a ha => by
    by_cases e : a = L
    · obtain ⟨o, _, _, ho, _⟩ := hn'
      exact ⟨o, e ▸ ho⟩
    · obtain ⟨o, ho⟩ := c.inn a ha
      exact ⟨o, up a o e ho⟩
  refine q h' _ ⟨c.base₀, inn', keepB, c.new, cel', _, hn', fun y e hy => ?_⟩ up
  rw [List.lookup_cons] at hy
  cases hyx : y == x with
  | true =>
    rw [hyx] at hy
    cases hy
    obtain rfl : y = x := beq_iff_eq.mp hyx
    refine ⟨v, ?_, den dv⟩
    rw [hc]
    simp
  | false =>
    rw [hyx] at hy
    obtain ⟨u, hu, du⟩ := hv y e hy
    refine ⟨u, ?_, den du⟩
    have hne : y ≠ x := beq_eq_false_iff_ne.mp hyx
    cases hcy : cl.lookup y with
    | some cc =>
      rw [hcy] at hu
      refine isCell_at hu fun o eo => up _ o ?_ eo
      rintro rfl
      obtain ⟨o', es, ep, ho, hd, _⟩ := hn
      obtain ⟨o'', e'', hd''⟩ := hu
      rw [ho] at e''
      cases e''
      rw [hd] at hd''
      cases hd''
    | none =>
      rw [hcy] at hu
      simp only [hne, if_false]
      exact hu
/-- a name's statement -/
theorem tr_assign {e : PySem.Expr} {p' : Pos} (hE : EnvOk env L cl) (he : Ev w A av (Vs w av K L cl l) (eval e env) d) (hk : env.kindOf x = some .local) (hc : cl.lookup x = none) (hs : swapsWith e (some (.Name x p')) p.line env = pure false) :
    Tr w A (Vs w av K L cl l) (exec (.Assign [.Name x p'] e p) env) (fun f h => f = .next ∧ Vs w av K L cl ((x, d) :: l) h) := .mk fun s Q E c q =>
  wpAny_Assign_Name (he.run s _ E c fun v s₁ k₁ dv => by
    have c₁ := Vs.stable _ _ (keeps_heap k₁) c
    obtain ⟨h₁, t₁, rfl, _⟩ := k₁
    exact vs_store hE c₁ dv hk hc fun h' tk z _ => q _ h' tk ⟨rfl, z⟩) hs
theorem tr_cons {P P1 : HP} {R : Flow → HP} {st : PySem.Stmt} {rest : List PySem.Stmt} (h1 : Tr w A P (exec st env) (fun f h => match f with | .next => P1 h | f => R f h)) (h2 : Tr w A P1 (execs rest env) R) : Tr w A P (execs (st :: rest) env) R := .mk fun s Q E c q =>
  wpAny_execs_cons (h1.run s _ E c fun f h' tk z => by
    cases f with
    | next => exact h2.run _ Q E z fun f h'' tk' z' => q f h'' tk' z'
    | brk => exact q _ h' tk z
    | cont => exact q _ h' tk z
    | ret v => exact q _ h' tk z)
theorem tr_nil {P : HP} : Tr w A P (execs [] env) (fun f h => f = .next ∧ P h) := .mk fun s Q E c q => wpAny_execs_nil (q .next s.heap s.toks ⟨rfl, c⟩)
theorem tr_mono {P P' : HP} {x : Sem Flow} {R R' : Flow → HP} (h : Tr w A P x R) (hp : ∀ h, P' h → P h) (hr : ∀ f h, R f h → R' f h) : Tr w A P' x R' := .mk fun s Q E c q => h.run s Q E (hp _ c) fun f h' tk z => q f h' tk (hr _ _ z)
theorem tr_step {P P1 : HP} {R : Flow → HP} {st : PySem.Stmt} {rest : List PySem.Stmt} (h1 : Tr w A P (exec st env) (fun f h => f = .next ∧ P1 h)) (h2 : Tr w A P1 (execs rest env) R) : Tr w A P (execs (st :: rest) env) R :=
  tr_cons (tr_mono h1 (fun _ x => x) fun f h z => by obtain ⟨rfl, z⟩ := z; exact z) h2
theorem tr_if {P : HP} {R : Flow → HP} {test : PySem.Expr} {body orelse : List PySem.Stmt} {b : Bool} (hP : Stable P) (ht : Tst w A P (isTrue test env (eval test env)) b) (hb : Tr w A P (execs (if b then body else orelse) env) R) : Tr w A P (exec (.If test body orelse p) env) R := .mk fun s Q E c q =>
  wpAny_If (ht.run s _ E c fun s₁ k₁ => by
    have c₁ := hP _ _ (keeps_heap k₁) c
    obtain ⟨h₁, t₁, rfl, _⟩ := k₁
    cases b
    · exact hb.run _ Q E c₁ fun f h' tk z => q f h' tk z
    · exact hb.run _ Q E c₁ fun f h' tk z => q f h' tk z)
theorem tr_ret {P : HP} {e : PySem.Expr} (hP : Stable P) (he : Ev w A av P (eval e env) d) : Tr w A P (exec (.Return (some e) p) env) (fun f h => ∃ v, f = .ret v ∧ Den av h v d ∧ P h) := .mk fun s Q E c q =>
  wpAny_Return_some (he.run s _ E c fun v s₁ k₁ dv => by
    have c₁ := hP _ _ (keeps_heap k₁) c
    obtain ⟨h₁, t₁, rfl, _⟩ := k₁
    exact q _ h₁ t₁ ⟨v, rfl, dv, c₁⟩)
theorem tst_val {P : HP} {e : PySem.Expr} {whole : Sem Value} {b : Bool} (he : Ev w A av P whole (.val (.bool b)))
    (hn : ∀ {Q : Bool → Shared → Prop} {E : Value → Shared → Prop} {s : Shared}, wpAny (MW w) A whole (fun v s₁ => wpAny (MW w) A (truthy v) Q E s₁) E s → wpAny (MW w) A (isTrue e env whole) Q E s) : Tst w A P (isTrue e env whole) b := .mk fun s Q E c q =>
  hn (he.run s _ E c fun v s₁ k₁ dv => by
    cases dv
    exact wpAny_truthy_bool (q s₁ k₁))
theorem tst_cmp {P : HP} {l' r : PySem.Expr} {op : CmpOp} {whole : Sem Value} {a c : D} {b : Bool} (hP : Stable P) (hl : Ev w A av P (eval l' env) a) (hr : Ev w A av P (eval r env) c)
    (ho : ∀ (s : Shared) u v (Q : Value → Shared → Prop) E, P s.heap → Den av s.heap u a → Den av s.heap v c → (∀ s', Keeps s s' → Q (.bool b) s') → wpAny (MW w) A (compareOp op u v) Q E s) (hm : behindInMarks op r = false) : Tst w A P (isTrue (.Compare l' [op] [r] p) env whole) b := .mk fun s Q E z q =>
  wpAny_isTrue_Compare1 (ev_two hP hl hr z fun u v s' k c' du dv => ho s' u v _ E c' du dv fun s'' k' => wpAny_truthy_bool (q s'' (keeps_trans k k'))) hm
/-- a def of one parameter, from its body -/
theorem call_body {f cd : Addr} {name : Str} {params : Arguments} {body : List PySem.Stmt} {scope : Scope} {pm doc : Value} {dx : D} {C : HP} {co : Obj} {cvs : Array Value} {ct : Tok} (hB : ∀ h, C h → Base w h) (hI : ∀ h, C h → Inn av h) (hA : A.depth < 1000)
    (ho : (KF w.params).lookup f = some ⟨.type "function", none, .func (docDef name params body scope pm (.ref cd) doc), #[]⟩)
    (hco : (KF w.params).lookup cd = some co) (hcd : co.data = .fields cvs) (hc1 : cvs[1]? = some (.str name ct))
    (hbind : ∀ v, bindArgs (docDef name params body scope pm (.ref cd) doc) ⟨[v], []⟩ = pure [(x, v)]) (hx : scope.names.lookup x = some .local)
    (hbody : ∀ K L, Tr w (A.deeper (envOf name scope L f (.ref cd))) (Vs w av K L [] [(x, dx)]) (execs body (envOf name scope L f (.ref cd))) (fun fl h => ∃ v, fl = .ret v ∧ Den av h v d ∧ ∀ b o, K b = some o → h.get? b = some o))
    (h1 : scope.isCoroutine = false) (h2 : scope.isGenerator = false) (h3 : scope.kind = .function) (h4 : ∀ x ∈ scope.names, x.2 ≠ .cell) : CallOk w A av C (.ref f) [dx] d := .mk fun s vs Q E c dvs q => by
  obtain ⟨v, rfl⟩ : ∃ v, vs = [v] := by
    have := dvs.len
    match vs, this with
    | [v], _ => exact ⟨v, rfl⟩
  have dv : Den av s.heap v dx := by cases dvs with | cons a b => exact a
  have B := hB _ c
  obtain ⟨mg, mb, t⟩ := B.t
  refine wpAny_call (call_plain_ret (binds := [(x, v)]) hA (B.k _ _ ho) rfl t.nolimit ⟨cd, co, cvs, ct, rfl, B.k _ _ hco, hcd, hc1⟩ (hbind v) (fun y hy => by rw [List.mem_singleton.mp hy]; exact hx) (fun h₁ F => ?_) h1 h2 h3 h4)
  refine (hbody s.heap.get? s.heap.objs.size).run _ _ _ ⟨⟨_, B, fun _ _ e => e⟩, fun a ha => (hI _ c a ha).imp fun o e => F.keep a o e, F.keep, ?_, (fun z c e => by cases e), _, F.ns, fun y e hy => ?_⟩ (fun fl h' tk z => ?_)
  · exact Heap.get?_none_of_le (Nat.le_refl _)
  · rw [List.lookup_cons] at hy
    cases hyx : y == x with
    | false => rw [hyx] at hy; cases hy
    | true =>
      rw [hyx] at hy
      cases hy
      refine ⟨v, ?_, dv.mono fun b o _ e => F.keep b o e⟩
      show List.lookup y [(x, v)] = some v
      rw [List.lookup_cons, hyx]
  · obtain ⟨u, rfl, du, kp⟩ := z
    exact q u _ ⟨h', tk, rfl, kp⟩ du
end
end
end Mine

open PySem PySem.W PyProof.Rows PySem.Calls
set_option Elab.async false
set_option maxRecDepth 100000
set_option maxHeartbeats 400000
set_option linter.unusedVariables false
namespace Mine
noncomputable section
noncomputable def fSt (i : Nat) : Str × Arguments × List PySem.Stmt × Scope := match pW.main.body.drop i with
  | .FunctionDef name args body _ _ _ scope _ _ _ :: _ => (name, args, body, scope)
  | _ => default
noncomputable def fldsOf : Obj → Array Value
  | ⟨_, _, .fields vs, _⟩ => vs
  | _ => #[]
noncomputable abbrev fObj (n : Str) (i : Nat) (pm : Value) (cd : Addr) : Obj := ⟨.type "function", none, .func (docDef n (fSt i).2.1 (fSt i).2.2.1 (fSt i).2.2.2 pm (.ref cd) .none), #[]⟩
/-- the code object of a def, as a call asks for it -/
noncomputable def CodeIs (P : Params) (cd : Addr) (n : Str) : Prop := ∃ co cvs ct, (KF P).lookup cd = some co ∧ co.data = .fields cvs ∧ cvs[1]? = some (.str n ct)
theorem lk21 (P : Params) : (KF P).lookup 21 = some (fObj "_dedent" 1 (.str "cpy313.enum" 187) 20) := by kernel_rfl!
theorem gl21 (P : Params) : nsIn (KF P) mainGlobals "_dedent" = some (some (.ref 21)) := by kernel_rfl!
theorem cd21 (P : Params) : CodeIs P 20 "_dedent" := ⟨o20_0 P, fldsOf (o20_0 P), 190, by kernel_rfl!, by kernel_rfl!, by kernel_rfl!⟩
theorem lk39 (P : Params) : (KF P).lookup 39 = some (fObj "in_table_b1" 4 (.str "cpy313.stringprep" 201) 38) := by kernel_rfl!
theorem gl39 (P : Params) : nsIn (KF P) mainGlobals "in_table_b1" = some (some (.ref 39)) := by kernel_rfl!
theorem cd39 (P : Params) : CodeIs P 38 "in_table_b1" := ⟨o38_0 P, fldsOf (o38_0 P), 264, by kernel_rfl!, by kernel_rfl!, by kernel_rfl!⟩
theorem lk85 (P : Params) : (KF P).lookup 85 = some (fObj "map_table_b3" 6 (.str "cpy313.stringprep" 201) 84) := by kernel_rfl!
theorem gl85 (P : Params) : nsIn (KF P) mainGlobals "map_table_b3" = some (some (.ref 85)) := by kernel_rfl!
theorem cd85 (P : Params) : CodeIs P 84 "map_table_b3" := ⟨o84_0 P, fldsOf (o84_0 P), 2222, by kernel_rfl!, by kernel_rfl!, by kernel_rfl!⟩
theorem lk92 (P : Params) : (KF P).lookup 92 = some (fObj "in_table_c11" 7 (.str "cpy313.stringprep" 201) 91) := by kernel_rfl!
theorem gl92 (P : Params) : nsIn (KF P) mainGlobals "in_table_c11" = some (some (.ref 92)) := by kernel_rfl!
theorem cd92 (P : Params) : CodeIs P 91 "in_table_c11" := ⟨o91_0 P, fldsOf (o91_0 P), 2230, by kernel_rfl!, by kernel_rfl!, by kernel_rfl!⟩
theorem lk99 (P : Params) : (KF P).lookup 99 = some (fObj "_law_drawn" 9 (.str "law_rw0067_01" 2236) 98) := by kernel_rfl!
theorem gl99 (P : Params) : nsIn (KF P) mainGlobals "_law_drawn" = some (some (.ref 99)) := by kernel_rfl!
theorem cd99 (P : Params) : CodeIs P 98 "_law_drawn" := ⟨o98_0 P, fldsOf (o98_0 P), 2239, by kernel_rfl!, by kernel_rfl!, by kernel_rfl!⟩
theorem lk104 (P : Params) : (KF P).lookup 104 = some (fObj "_law_prepared" 10 (.str "law_rw0067_01" 2236) 103) := by kernel_rfl!
theorem gl104 (P : Params) : nsIn (KF P) mainGlobals "_law_prepared" = some (some (.ref 104)) := by kernel_rfl!
theorem cd104 (P : Params) : CodeIs P 103 "_law_prepared" := ⟨o103_0 P, fldsOf (o103_0 P), 2252, by kernel_rfl!, by kernel_rfl!, by kernel_rfl!⟩
theorem lk111 (P : Params) : (KF P).lookup 111 = some (fObj "_law_dedented" 11 (.str "law_rw0067_01" 2236) 110) := by kernel_rfl!
theorem gl111 (P : Params) : nsIn (KF P) mainGlobals "_law_dedented" = some (some (.ref 111)) := by kernel_rfl!
theorem cd111 (P : Params) : CodeIs P 110 "_law_dedented" := ⟨o110_0 P, fldsOf (o110_0 P), 2258, by kernel_rfl!, by kernel_rfl!, by kernel_rfl!⟩
theorem lk116 (P : Params) : (KF P).lookup 116 = some (fObj "_law_margin" 12 (.str "law_rw0067_01" 2236) 115) := by kernel_rfl!
theorem gl116 (P : Params) : nsIn (KF P) mainGlobals "_law_margin" = some (some (.ref 116)) := by kernel_rfl!
theorem cd116 (P : Params) : CodeIs P 115 "_law_margin" := ⟨o115_0 P, fldsOf (o115_0 P), 2265, by kernel_rfl!, by kernel_rfl!, by kernel_rfl!⟩
theorem lk123 (P : Params) : (KF P).lookup 123 = some (fObj "_law_rows" 13 (.str "law_rw0067_01" 2236) 122) := by kernel_rfl!
theorem gl123 (P : Params) : nsIn (KF P) mainGlobals "_law_rows" = some (some (.ref 123)) := by kernel_rfl!
theorem cd123 (P : Params) : CodeIs P 122 "_law_rows" := ⟨o122_0 P, fldsOf (o122_0 P), 2271, by kernel_rfl!, by kernel_rfl!, by kernel_rfl!⟩
theorem lk128 (P : Params) : (KF P).lookup 128 = some (fObj "_law_steps" 14 (.str "law_rw0067_01" 2236) 127) := by kernel_rfl!
theorem gl128 (P : Params) : nsIn (KF P) mainGlobals "_law_steps" = some (some (.ref 128)) := by kernel_rfl!
theorem cd128 (P : Params) : CodeIs P 127 "_law_steps" := ⟨o127_0 P, fldsOf (o127_0 P), 2281, by kernel_rfl!, by kernel_rfl!, by kernel_rfl!⟩
theorem lk133 (P : Params) : (KF P).lookup 133 = some (fObj "law" 15 (.str "law_rw0067_01" 2236) 132) := by kernel_rfl!
theorem gl133 (P : Params) : nsIn (KF P) mainGlobals "law" = some (some (.ref 133)) := by kernel_rfl!
theorem cd133 (P : Params) : CodeIs P 132 "law" := ⟨o132_0 P, fldsOf (o132_0 P), 2287, by kernel_rfl!, by kernel_rfl!, by kernel_rfl!⟩
theorem gl29 (P : Params) : nsIn (KF P) mainGlobals "b1_set" = some (some (.ref 29)) := by kernel_rfl!
theorem gl40 (P : Params) : nsIn (KF P) mainGlobals "b3_exceptions" = some (some (.ref 40)) := by kernel_rfl!
theorem gn_enumerate (P : Params) : nsIn (KF P) mainGlobals "enumerate" = some none := by kernel_rfl!
theorem gb_enumerate : bootBuiltins "enumerate" = some (.type "enumerate") := by kernel_rfl!
theorem gn_ord (P : Params) : nsIn (KF P) mainGlobals "ord" = some none := by kernel_rfl!
theorem gb_ord : bootBuiltins "ord" = some (.builtin "ord") := by kernel_rfl!
theorem gn_chr (P : Params) : nsIn (KF P) mainGlobals "chr" = some none := by kernel_rfl!
theorem gb_chr : bootBuiltins "chr" = some (.builtin "chr") := by kernel_rfl!
theorem gn_divmod (P : Params) : nsIn (KF P) mainGlobals "divmod" = some none := by kernel_rfl!
theorem gb_divmod : bootBuiltins "divmod" = some (.builtin "divmod") := by kernel_rfl!
theorem gn_list (P : Params) : nsIn (KF P) mainGlobals "list" = some none := by kernel_rfl!
theorem gb_list : bootBuiltins "list" = some (.type "list") := by kernel_rfl!
theorem gn_range (P : Params) : nsIn (KF P) mainGlobals "range" = some none := by kernel_rfl!
theorem gb_range : bootBuiltins "range" = some (.type "range") := by kernel_rfl!
theorem gn_len (P : Params) : nsIn (KF P) mainGlobals "len" = some none := by kernel_rfl!
theorem gb_len : bootBuiltins "len" = some (.builtin "len") := by kernel_rfl!
theorem gn_isinstance (P : Params) : nsIn (KF P) mainGlobals "isinstance" = some none := by kernel_rfl!
theorem gb_isinstance : bootBuiltins "isinstance" = some (.builtin "isinstance") := by kernel_rfl!
theorem gn_bool (P : Params) : nsIn (KF P) mainGlobals "bool" = some none := by kernel_rfl!
theorem gb_bool : bootBuiltins "bool" = some (.type "bool") := by kernel_rfl!
theorem gn_UnboundLocalError (P : Params) : nsIn (KF P) mainGlobals "UnboundLocalError" = some none := by kernel_rfl!
theorem gb_UnboundLocalError : bootBuiltins "UnboundLocalError" = some (.type "UnboundLocalError") := by kernel_rfl!
end
end Mine

open PySem PySem.W PyProof.Rows PySem.Calls
set_option Elab.async false
set_option maxRecDepth 100000
set_option maxHeartbeats 400000
set_option linter.unusedVariables false
namespace Mine
noncomputable section
theorem sizeLine_at {n : Nat} (h : n ≤ 16777216) : n ≤ sizeLine := h
theorem keeps_push {s : Shared} (o : Obj) (k : Nat) : Keeps s { s with heap := s.heap.push o, toks := k } := ⟨_, k, rfl, fun b o' e => Heap.get?_push_of_some _ e⟩
theorem size_lt {n : Nat} (h : n ≤ 16777216) : (n : Int) < 2 ^ 63 := by omega
/-- operators and comparisons on data -/
structure BinOk (w : World) (A : Around) (av : List Addr) (C : HP) (op : Operator) (a b d : D) : Prop where
  run : ∀ (s : Shared) u v (Q : Value → Shared → Prop) (E : Value → Shared → Prop), C s.heap → Den av s.heap u a → Den av s.heap v b → (∀ z s', Keeps s s' → Den av s'.heap z d → Q z s') → wpAny (MW w) A (binaryOp op u v) Q E s
structure CmpB (w : World) (A : Around) (av : List Addr) (C : HP) (op : CmpOp) (a b : D) (r : Bool) : Prop where
  run : ∀ (s : Shared) u v (Q : Value → Shared → Prop) (E : Value → Shared → Prop), C s.heap → Den av s.heap u a → Den av s.heap v b → (∀ s', Keeps s s' → Q (.bool r) s') → wpAny (MW w) A (compareOp op u v) Q E s
section
variable {w : World} {A : Around} {av : List Addr} {C : HP} {i j : Int} {x y : Str}
theorem bin_add_int : BinOk w A av C .Add (.int i) (.int j) (.int (i + j)) := .mk fun s u v Q E c du dv q => by
  cases du; cases dv
  exact add_int (q _ _ keeps_toks (.int _ _))
theorem bin_sub_int : BinOk w A av C .Sub (.int i) (.int j) (.int (i - j)) := .mk fun s u v Q E c du dv q => by
  cases du; cases dv
  exact PyProof.Rows.sub_int (q _ _ keeps_toks (.int _ _))
theorem noPy (h : j.natAbs < 2 ^ 64) : Builtin.divisionGoesByPylong i j = false := by
  unfold Builtin.divisionGoesByPylong
  have : (if (j == 0) = true then 0 else j.natAbs.log2 / 30 + 1) ≤ 300 := by
    split
    · omega
    · have : j.natAbs.log2 < 64 := by
        by_cases h0 : j.natAbs = 0
        · rw [h0]; decide
        · exact (Nat.log2_lt h0).mpr h
      omega
  simp only [gt_iff_lt, Bool.and_eq_false_iff, decide_eq_false_iff_not, Nat.not_lt]
  exact .inl this
theorem bin_mod_int (hh : A.handled = none) (hj : j ≠ 0) : BinOk w A av C .Mod (.int i) (.int j) (.int (i.fmod j)) := .mk fun s u v Q E c du dv q => by
  cases du; cases dv
  exact mod_int_or hh (fun e => absurd e hj) fun _ => q _ _ keeps_toks (.int _ _)
theorem bin_floordiv_int (hh : A.handled = none) (hj : j ≠ 0) (hs : j.natAbs < 2 ^ 64) : BinOk w A av C .FloorDiv (.int i) (.int j) (.int (i.fdiv j)) := .mk fun s u v Q E c du dv q => by
  cases du; cases dv
  exact floordiv_int_or hh (fun e => absurd e hj) (fun _ => q _ _ keeps_toks (.int _ _)) fun _ => .inl (noPy hs)
theorem bin_add_list {l m : List D} (hI : ∀ h, C h → Inn av h) (hz : l.length + m.length ≤ 16777216) : BinOk w A av C .Add (.list l) (.list m) (.list (l ++ m)) := .mk fun s u v Q E c du dv q => by
  cases du with
  | list a vs l hl _ dl =>
  cases dv with
  | list b ws m hm _ dm =>
  obtain ⟨⟨cls, dd, data, sl⟩, ho, hc, n, hd⟩ := id hl
  obtain ⟨⟨cls2, dd2, data2, sl2⟩, ho2, hc2, n2, hd2⟩ := id hm
  have e1 := dl.len
  have e2 := dm.len
  rw [Array.length_toList] at e1 e2
  have hs : vs.size + ws.size ≤ sizeLine := sizeLine_at (by omega)
  simp only at hc hd hc2 hd2
  subst hc hd hc2 hd2
  refine concat_meets ⟨_, ho, rfl⟩ ⟨_, ho2, rfl⟩ noFill_list_add seq_list_add PySem.F.slot_list_add PySem.F.entry_list_add (PySem.F.args_list_add_2 _ _) (list_addW a b vs ws n n2 dd dd2 sl sl2 hs) ⟨ho, ho2, ?_⟩
  refine q (.ref s.heap.objs.size) _ (keeps_push _ _) (.list _ (vs ++ ws) _ ⟨_, Heap.get?_push_size _ rfl, rfl, _, rfl⟩ (hI _ c).size ?_)
  rw [Array.toList_append]
  exact (dl.app dm).mono fun b o _ e => Heap.get?_push_of_some _ e
theorem cmp_lt : CmpB w A av C .Lt (.int i) (.int j) (decide (i < j)) := .mk fun s u v Q E c du dv q => by
  cases du; cases dv
  exact PyProof.Rows.lt_int (q _ (keeps_refl s))
theorem cmp_gt : CmpB w A av C .Gt (.int i) (.int j) (decide (j < i)) := .mk fun s u v Q E c du dv q => by
  cases du; cases dv
  exact PyProof.Rows.gt_int (q _ (keeps_refl s))
theorem cmp_ge : CmpB w A av C .GtE (.int i) (.int j) (decide (j ≤ i)) := .mk fun s u v Q E c du dv q => by
  cases du; cases dv
  exact PyProof.Rows.ge_int (q _ (keeps_refl s))
theorem cmp_eq_int : CmpB w A av C .Eq (.int i) (.int j) (i == j) := .mk fun s u v Q E c du dv q => by
  cases du; cases dv
  exact eq_int (q _ (keeps_refl s))
theorem cmp_eq_str : CmpB w A av C .Eq (.str x) (.str y) (x == y) := .mk fun s u v Q E c du dv q => by
  cases du; cases dv
  exact eq_str (q _ (keeps_refl s))
theorem cmp_ne_str : CmpB w A av C .NotEq (.str x) (.str y) (x != y) := .mk fun s u v Q E c du dv q => by
  cases du; cases dv
  exact PyProof.Rows.ne_str (q _ (keeps_refl s))
theorem cmp_isnot_str : CmpB w A av C .IsNot (.str x) (.val .none) true := .mk fun s u v Q E c du dv q => by
  cases du; cases dv
  exact isnot_str_none (q _ (keeps_refl s))
theorem cmp_isnot_none : CmpB w A av C .IsNot (.val .none) (.val .none) false := .mk fun s u v Q E c du dv q => by
  cases du; cases dv
  exact isnot_none_none (q _ (keeps_refl s))
noncomputable def pyV : Value → PyData
  | .bool b => .bool b
  | _ => .none
noncomputable def plainV : Value → Bool
  | .none => true
  | .bool _ => true
  | _ => false
mutual
noncomputable def D.py : D → PyData
  | .val v => pyV v
  | .int i => .int i
  | .str x => .str x
  | .list l => .list (D.pys l)
  | .tup l => .tuple (D.pys l)
noncomputable def D.pys : List D → List PyData
  | [] => []
  | d :: l => d.py :: D.pys l
end
mutual
/-- plain to the depth n, texts of code points -/
noncomputable def D.plain : Nat → D → Bool
  | _, .val v => plainV v
  | _, .int _ => true
  | _, .str x => PyData.strOk x
  | 0, _ => false
  | n + 1, .list l => D.plains n l
  | n + 1, .tup l => D.plains n l
noncomputable def D.plains : Nat → List D → Bool
  | _, [] => true
  | n, d :: l => d.plain n && D.plains n l
end
mutual
theorem Den.reads {h : Heap} : ∀ {n : Nat} {v : Value} {d : D}, Den av h v d → d.plain n = true → ∃ as, Reads h v d.py as
  | n, _, _, .val v, e => by
    have e' : plainV v = true := by cases n <;> simpa [D.plain] using e
    rw [D.py]
    cases v <;> first | exact ⟨_, Reads.none⟩ | exact ⟨_, Reads.bool _⟩ | cases e'
  | _, _, _, .int i t, _ => ⟨_, by rw [D.py]; exact Reads.int i t⟩
  | _, _, _, .str x t, _ => ⟨_, by rw [D.py]; exact Reads.str x t⟩
  | n + 1, _, _, .list a vs l h1 _ h3, e => by
    rw [D.plain] at e
    obtain ⟨as, r⟩ := DenL.reads h3 e
    obtain ⟨o, ho, hc, k, hd⟩ := h1
    rw [D.py]
    exact ⟨_, Reads.list ho hc hd r⟩
  | n + 1, _, _, .tup a vs l h1 _ h3, e => by
    rw [D.plain] at e
    obtain ⟨as, r⟩ := DenL.reads h3 e
    obtain ⟨o, ho, hc, k, hd⟩ := h1
    rw [D.py]
    exact ⟨_, Reads.tuple ho hc hd r⟩
  | 0, _, _, .list _ _ _ _ _ _, e => by simp [D.plain] at e
  | 0, _, _, .tup _ _ _ _ _ _, e => by simp [D.plain] at e
theorem DenL.reads {h : Heap} : ∀ {n : Nat} {v : List Value} {d : List D}, DenL av h v d → D.plains n d = true → ∃ as, ReadsAll h v (D.pys d) as
  | _, _, _, .nil, _ => ⟨_, by rw [D.pys]; exact ReadsAll.nil⟩
  | n, _, _, .cons a b, e => by
    rw [D.plains, Bool.and_eq_true] at e
    obtain ⟨as, r⟩ := Den.reads a e.1
    obtain ⟨bs, q⟩ := DenL.reads b e.2
    rw [D.pys]
    exact ⟨_, ReadsAll.cons r q⟩
end
mutual
theorem plain_lay : ∀ (n : Nat) (d : D), d.plain n = true → d.py.canLay0 = true ∧ d.py.depth ≤ n
  | n, .val v, e => by
    have e' : plainV v = true := by cases n <;> simpa [D.plain] using e
    rw [D.py]
    cases v <;> first | (simp [pyV, PyData.canLay0, PyData.depth]; done) | cases e'
  | _, .int i, _ => by simp [D.py, PyData.canLay0, PyData.depth]
  | n, .str x, e => by cases n <;> (simp [D.plain] at e; simp [D.py, PyData.canLay0, PyData.depth, e])
  | n + 1, .list l, e => by
    rw [D.plain] at e
    have := plains_lay n l e
    simp only [D.py, PyData.canLay0, PyData.depth]
    exact ⟨this.1, by omega⟩
  | n + 1, .tup l, e => by
    rw [D.plain] at e
    have := plains_lay n l e
    simp only [D.py, PyData.canLay0, PyData.depth]
    exact ⟨this.1, by omega⟩
  | 0, .list l, e => by simp [D.plain] at e
  | 0, .tup l, e => by simp [D.plain] at e
theorem plains_lay : ∀ (n : Nat) (l : List D), D.plains n l = true → PyData.canLayAll0 (D.pys l) = true ∧ PyData.depthAll (D.pys l) ≤ n
  | _, [], _ => by simp [D.pys, PyData.canLayAll0, PyData.depthAll]
  | n, d :: l, e => by
    rw [D.plains, Bool.and_eq_true] at e
    have a := plain_lay n d e.1
    have b := plains_lay n l e.2
    simp only [D.pys, PyData.canLayAll0, PyData.depthAll, a.1, b.1, Bool.and_self, true_and]
    omega
end
theorem plain_shaped {n : Nat} {d : D} (hn : n ≤ 64) (e : d.plain n = true) : SeqAt.shaped d.py = true := by
  have := plain_lay n d e
  simp only [SeqAt.shaped, this.1, Bool.true_and, decide_eq_true_eq]
  omega
theorem cmp_ne_data {a b : D} (hu : A.units + 64 < cLine) (ha : a.plain 9 = true) (hb : b.plain 9 = true) : CmpB w A av C .NotEq a b (!(a.py.eqv b.py)) := .mk fun s u v Q E c du dv q => by
  obtain ⟨as, ra⟩ := du.reads ha
  obtain ⟨bs, rb⟩ := dv.reads hb
  exact ne_dataH ra rb (plain_shaped (by omega) ha) (plain_shaped (by omega) hb) hu (q _ (keeps_refl s))
theorem cmp_eq_data {a b : D} (hu : A.units + 64 < cLine) (ha : a.plain 9 = true) (hb : b.plain 9 = true) : CmpB w A av C .Eq a b (a.py.eqv b.py) := .mk fun s u v Q E c du dv q => by
  obtain ⟨as, ra⟩ := du.reads ha
  obtain ⟨bs, rb⟩ := dv.reads hb
  exact eq_dataH ra rb (plain_shaped (by omega) ha) (plain_shaped (by omega) hb) hu (q _ (keeps_refl s))
end
end
end Mine

open PySem PySem.W PyProof.Rows PySem.Calls
set_option Elab.async false
set_option maxRecDepth 100000
set_option maxHeartbeats 400000
set_option linter.unusedVariables false
namespace Mine
noncomputable section
noncomputable abbrev one (c : Nat) : Str := ⟨#[c]⟩
section
variable {w : World} {A : Around} {av : List Addr} {C : HP} {i j : Int} {x y : Str} {env : Env}
theorem keepsBy (s : Shared) : KeptByPush (Keeps s) := fun s' o k h => keeps_trans h (keeps_push o k)
theorem den1 {h : Heap} {vs : List Value} {a : D} : DenL av h vs [a] → ∃ u, vs = [u] ∧ Den av h u a
  | .cons x .nil => ⟨_, rfl, x⟩
theorem den2 {h : Heap} {vs : List Value} {a b : D} : DenL av h vs [a, b] → ∃ u v, vs = [u, v] ∧ Den av h u a ∧ Den av h v b
  | .cons x (.cons y .nil) => ⟨_, _, rfl, x, y⟩
theorem ord_ok (c : Nat) : CallOk w A av C (.builtin "ord") [.str (one c)] (.int c) := .mk fun s vs Q E z dv q => by
  obtain ⟨u, rfl, du⟩ := den1 dv
  cases du
  exact P.ord_of_char (q _ _ keeps_toks (.int _ _))
theorem chr_ok (h0 : 0 ≤ i) (h1 : i ≤ 1114111) : CallOk w A av C (.builtin "chr") [.int i] (.str (one i.toNat)) := .mk fun s vs Q E z dv q => by
  obtain ⟨u, rfl, du⟩ := den1 dv
  cases du
  exact chr_of_range h0 h1 (q _ _ keeps_toks (.str _ _))
theorem divmod_ok (hI : ∀ h, C h → Inn av h) (hj : j ≠ 0) (hs : j.natAbs < 2 ^ 64) : CallOk w A av C (.builtin "divmod") [.int i, .int j] (.tup [.int (i.fdiv j), .int (i.fmod j)]) := .mk fun s vs Q E z dvs q => by
  obtain ⟨u, v, rfl, du, dv⟩ := den2 dvs
  cases du
  cases dv
  refine divmod_int hj (q (.ref s.heap.objs.size) _ (keeps_push _ _) ?_) (.inl (noPy hs))
  exact .tup _ _ _ ⟨_, Heap.get?_push_size _ rfl, rfl, _, rfl⟩ (hI _ z).size (.cons (.int _ _) (.cons (.int _ _) .nil))
theorem len_str_ok (hz : x.length ≤ 16777216) : CallOk w A av C (.builtin "len") [.str x] (.int x.length) := .mk fun s vs Q E z dvs q => by
  obtain ⟨u, rfl, du⟩ := den1 dvs
  cases du
  exact P.len_str (by omega) (q _ _ keeps_toks (.int _ _))
theorem len_list_ok {l : List D} (hz : l.length ≤ 16777216) : CallOk w A av C (.builtin "len") [.list l] (.int l.length) := .mk fun s vs Q E z dvs q => by
  obtain ⟨u, rfl, du⟩ := den1 dvs
  cases du with | list a vs l hl _ dl =>
  have e := dl.len
  rw [Array.length_toList] at e
  refine call_len_list hl (by omega) ?_
  rw [e]
  exact q _ _ keeps_toks (.int _ _)
theorem isi_bool_ok (b : Bool) : CallOk w A av C (.builtin "isinstance") [.val (.bool b), .val (.type "bool")] (.val (.bool true)) := .mk fun s vs Q E z dvs q => by
  obtain ⟨u, v, rfl, du, dv⟩ := den2 dvs
  cases du
  cases dv
  exact IsiPair.bool_bool (q _ _ (keeps_refl s) (.val _))
theorem lower_ok (hz : x.length ≤ 5592405) : CallOk w A av C (.builtin "str.lower") [.str x] (.str (Txt.lower x)) := .mk fun s vs Q E z dvs q => by
  obtain ⟨u, rfl, du⟩ := den1 dvs
  cases du
  exact SCL.lower hz fun _ => q _ _ keeps_toks (.str _ _)
theorem strVals : ∀ {h : Heap} {l : List (Str × Tok)}, DenL av h (strValues l) ((l.map (·.1)).map .str)
  | _, [] => .nil
  | _, (x, t) :: l => .cons (.str x t) strVals
/-- split: a list of its own, at the heap's end -/
theorem split_new {s : Shared} {t u : Tok} {Q : Value → Shared → Prop} {E : Value → Shared → Prop} (hy : (y.length == 0) = false) (hz : x.length ≤ 1000000)
    (q : ∀ (l : List (Str × Tok)) k, l.map (·.1) = Txt.split x y → Q (.ref s.heap.objs.size) { s with heap := s.heap.push { cls := .type "list", data := .seq (strValues l).toArray }, toks := k }) :
    wpAny (MW w) A (call (.builtin "str.split") [.str x t, .str y u]) Q E s := by
  have hp := split_le x y
  cases h1 : (decide (x.length < y.length) || decide (Builtin.Str.strKind x < Builtin.Str.strKind y))
  · cases hf : (Builtin.Str.occurrences x y 0 x.length (x.length + 1)).isEmpty
    · have e : Txt.split x y = Builtin.Str.partsBetween x (Builtin.Str.occurrences x y 0 x.length (x.length + 1)) y.length := (if_neg (ne_true_of_eq_false h1)).trans (if_neg (ne_true_of_eq_false hf))
      refine call_meets F.slot_str_split (typeIs_str _ _ _) F.entry_str_split (F.args_str_split_2 _ _) (meets_str_split_sep x y t u h1 hy hf (sizeLine_at (by omega)) (sizeLine_at (by rw [← e]; omega))) ?_
      show wants Q E _ { s with toks := _, heap := s.heap.push { cls := .type "list", data := .seq (strsFrom s.toks (Builtin.Str.partsBetween x (Builtin.Str.occurrences x y 0 x.length (x.length + 1)) y.length)).toArray } }
      rw [strsFrom_eq]
      exact q (numbered s.toks _) _ ((numbered_texts _ _).trans e.symm)
    · exact call_meets F.slot_str_split (typeIs_str _ _ _) F.entry_str_split (F.args_str_split_2 _ _) (meets_str_split_not_found x y t u h1 hy hf)
        (q [(x, t)] _ ((if_neg (ne_true_of_eq_false h1)).trans (if_pos hf)).symm)
  · exact call_meets F.slot_str_split (typeIs_str _ _ _) F.entry_str_split (F.args_str_split_2 _ _) (meets_str_split_cannot_occur x y t u h1)
      (q [(x, t)] _ (if_pos h1).symm)
theorem strsAre : ∀ {h : Heap} {vs : List Value} {ss : List Str}, DenL av h vs (ss.map .str) → StrsAre vs ss
  | _, [], [], _ => .nil
  | _, [], _ :: _, x => nomatch x
  | _, _ :: _, [], x => nomatch x
  | _, _ :: _, _ :: _, .cons (.str x t) b => .cons x t (strsAre b)
theorem join_ok {ss : List Str} (hz : (ss.map (·.length)).sum + ss.length * x.length ≤ 16777216) : CallOk w A av C (.builtin "str.join") [.str x, .list (ss.map .str)] (.str (Txt.join x ss)) := .mk fun s vs Q E z dvs q => by
  obtain ⟨u, v, rfl, du, dv⟩ := den2 dvs
  cases du
  cases dv with | list a vs l hl _ dl => exact join_list hl (strsAre dl) hz fun t' k => q _ _ keeps_toks (.str _ _)
end
end
end Mine

open PySem PySem.W PyProof.Rows PySem.Calls
set_option Elab.async false
set_option maxRecDepth 100000
set_option maxHeartbeats 400000
set_option linter.unusedVariables false
namespace Mine
noncomputable section
section
variable {w : World} {A : Around} {av : List Addr} {C : HP} {i j : Int} {x y : Str} {env : Env} {a b d : D} {pos apos p : Pos} {name : Str} {id : String} {pl : Sem Bool}
/-- how a method is found -/
structure MethOk (w : World) (A : Around) (av : List Addr) (C : HP) (pl : Sem Bool) (name : Str) (a : D) (id : String) : Prop where
  run : ∀ (s : Shared) u (Q : Value × List Value → Shared → Prop) (E : Value → Shared → Prop), C s.heap → Den av s.heap u a → Q (.builtin id, [u]) s → wpAny (MW w) A (getMethod u name pl) Q E s
theorem meth_join : MethOk w A av C pl "join" (.str x) "str.join" := .mk fun s u Q E c du q => by
  cases du; exact GM.join q
theorem meth_split : MethOk w A av C pl "split" (.str x) "str.split" := .mk fun s u Q E c du q => by
  cases du; exact GM.split q
theorem meth_lower : MethOk w A av C pl "lower" (.str x) "str.lower" := .mk fun s u Q E c du q => by
  cases du; exact GM.lower q
theorem ev_meth1 {o e : PySem.Expr} (hC : Stable C) (ho : Ev w A av C (eval o env) a) (ha : Ev w A av C (eval e env) b) (hm : MethOk w A av C pl name a id) (hc : CallOk w A av C (.builtin id) [a, b] d)
    (he : eval (.Call (.Attribute o name apos) [e] [] pos) env = (do
          let ov ← eval o env
          standAt apos.atName
          let __x ← holding [ov] (getMethod ov name pl)
          match __x with
            | (f, first) => callWith pos f first (backTo pos (starEach [e] env)) []))
    (hs : starEach (e :: []) env = (false, eval e env) :: starEach [] env) (hpl : (backTo pos (starEach [] env)).any (·.1) = false) : Ev w A av C (eval (.Call (.Attribute o name apos) [e] [] pos) env) d := .mk fun s Q E c q =>
  MethodCall_ (pl := pl) (ho.run s _ E c fun ov s₁ k₁ dv => hm.run s₁ ov _ E (hC _ _ (keeps_heap k₁) c) dv (callWith_method1 ((evs_cons hC ha evs_nil hs).run s₁ _ E (hC _ _ (keeps_heap k₁) c) fun vs s₂ k₂ dvs =>
    hc.run s₂ _ _ E (hC _ _ (keeps_heap k₂) (hC _ _ (keeps_heap k₁) c)) (.cons (dv.keep k₂) dvs) fun z s₃ k₃ dz => q z s₃ (keeps_trans k₁ (keeps_trans k₂ k₃)) dz) hs hpl)) he
theorem ev_meth0 {o : PySem.Expr} (hC : Stable C) (ho : Ev w A av C (eval o env) a) (hm : MethOk w A av C pl name a id) (hc : CallOk w A av C (.builtin id) [a] d)
    (he : eval (.Call (.Attribute o name apos) [] [] pos) env = (do
          let ov ← eval o env
          standAt apos.atName
          let __x ← holding [ov] (getMethod ov name pl)
          match __x with
            | (f, first) => callWith pos f first (backTo pos (starEach [] env)) [])) : Ev w A av C (eval (.Call (.Attribute o name apos) [] [] pos) env) d := .mk fun s Q E c q =>
  MethodCall_ (pl := pl) (ho.run s _ E c fun ov s₁ k₁ dv => hm.run s₁ ov _ E (hC _ _ (keeps_heap k₁) c) dv (callWith_method0 (
    hc.run s₁ _ _ E (hC _ _ (keeps_heap k₁) c) (.cons dv .nil) fun z s₃ k₃ dz => q z s₃ (keeps_trans k₁ k₃) dz))) he
theorem seqIndex_nat {k n : Nat} (h : k < n) : seqIndex? (k : Int) n = some k := by
  have h1 : ¬ ((k : Int) < 0) := by omega
  unfold seqIndex?
  rw [if_neg h1]
  have h2 : ((k : Int) < (n : Int)) := by omega
  simp [h2]
/-- an item -/
structure ItemOk (w : World) (A : Around) (av : List Addr) (C : HP) (value slice : PySem.Expr) (a b d : D) : Prop where
  run : ∀ (s : Shared) u v (Q : Value → Shared → Prop) (E : Value → Shared → Prop), C s.heap → Den av s.heap u a → Den av s.heap v b → (∀ z s', Keeps s s' → Den av s'.heap z d → Q z s') → wpAny (MW w) A (subscriptTail value slice u v) Q E s
theorem ev_sub {value slice : PySem.Expr} (hC : Stable C) (hv : Ev w A av C (eval value env) a) (hi : Ev w A av C (eval slice env) b) (hit : ItemOk w A av C value slice a b d) : Ev w A av C (eval (.Subscript value slice pos) env) d := .mk fun s Q E c q =>
  Subscript_ (ev_two hC hv hi c fun u v s₁ k₁ c₁ du dv => hit.run s₁ u v Q E c₁ du dv fun z s₂ k₂ dz => q z s₂ (keeps_trans k₁ k₂) dz)
theorem item_list {value slice : PySem.Expr} {l : List D} {k : Nat} (hk : l[k]? = some d) (hz : k < 2 ^ 60)
    (hs : ∀ (a : Addr) (i : Int) t, subscripted slice false (.ref a) (.int i t) = operate [.ref a, .int i t] (getItem (.ref a) (.int i t))) : ItemOk w A av C value slice (.list l) (.int k) d := .mk fun s u v Q E c du dv q => by
  cases dv
  cases du with | list a vs l hl _ dl =>
  obtain ⟨z, hz', dz⟩ := dl.get hk
  rw [Array.getElem?_toList] at hz'
  exact tail_any hl.typeIs slot_list_getitem.lookup (wpAny_getItem_list hl (by omega) (by omega) (by simpa using hz') (q z s (keeps_refl s) dz)) (hs _ _ _)
theorem item_tup {value slice : PySem.Expr} {l : List D} {k : Nat} (hk : l[k]? = some d) (hz : k < 2 ^ 60)
    (hs : ∀ (a : Addr) (i : Int) t, subscripted slice false (.ref a) (.int i t) = operate [.ref a, .int i t] (getItem (.ref a) (.int i t))) : ItemOk w A av C value slice (.tup l) (.int k) d := .mk fun s u v Q E c du dv q => by
  cases dv
  cases du with | tup a vs l hl _ dl =>
  obtain ⟨z, hz', dz⟩ := dl.get hk
  rw [Array.getElem?_toList] at hz'
  have hlt : k < vs.size := (Array.getElem?_eq_some_iff.mp hz').1
  have ht : IsTup s.heap a vs := by
    obtain ⟨o, ho, hc, n, hd⟩ := hl
    exact ⟨o, ho, hc, n, hd⟩
  exact tail_any ht.typeIs slot_tuple_getitem.lookup (getItem_tuple ht (by omega) (by omega) (j := k) (seqIndex_nat hlt) hz' (q z s (keeps_refl s) dz)) (hs _ _ _)
theorem item_str {value slice : PySem.Expr} {c k : Nat} (hk : x.cps[k]? = some c) (hz : k < 2 ^ 60)
    (hs : ∀ (a : Str) t' (i : Int) t, subscripted slice false (.str a t') (.int i t) = operate [.str a t', .int i t] (getItem (.str a t') (.int i t))) : ItemOk w A av C value slice (.str x) (.int k) (.str (one c)) := .mk fun s u v Q E cc du dv q => by
  cases dv
  cases du
  have hlt : k < x.cps.size := (Array.getElem?_eq_some_iff.mp hk).1
  exact tail_any (typeIs_str s _ _) F.slot_str_getitem.lookup (P.getItem_str (c := c) (by simp; omega) (by rw [show x.length = x.cps.size from rfl, seqIndex_nat hlt]; exact hk) (q _ _ keeps_toks (.str _ _))) (hs _ _ _ _)
theorem keeps_push0 {s : Shared} (o : Obj) : Keeps s { s with heap := s.heap.push o } := keeps_push o s.toks
/-- a text from a place on -/
theorem ev_slice_str {value lower : PySem.Expr} (hC : Stable C) (hv : Ev w A av C (eval value env) (.str x)) (hl : Ev w A av C (eval lower env) (.int i)) (hz : x.length ≤ 16777216)
    (hs : ∀ (a : Str) t' (r : Addr), subscripted (.Slice (some lower) none none p) false (.str a t') (.ref r) = operate [.ref r, .str a t'] (getItem (.str a t') (.ref r))) :
    Ev w A av C (eval (.Subscript value (.Slice (some lower) none none p) pos) env) (.str (Txt.slice x (some i) none)) := .mk fun s Q E c q =>
  Subscript_ (hv.run s _ E c fun u s₁ k₁ du => wpAny_Slice (hl.run s₁ _ E (hC _ _ (keeps_heap k₁) c) fun v s₂ k₂ dv => wpAny_pure (wpAny_pure (by
    cases du with | str _ t =>
    cases dv with | int _ ti =>
    obtain ⟨T, id', hlk, hT, hg⟩ := SBG.sliceItem_sn (prog := pW) (w := w) (A := A) (E := E) (x := x) (t := t) (ui := ti) (i := i) (keepsBy s₂) (keeps_refl s₂) (fun s' t' k => q (.str _ t') s' (keeps_trans k₁ (keeps_trans k₂ k)) (.str _ _)) (sizeLine_at hz)
    exact tail_any hT hlk hg (hs _ _ _)))))
/-- the first items of a list -/
noncomputable def upto (n : Nat) (i : Int) : Nat := if i < 0 then n - (-i).toNat else i.toNat
theorem slicePick_up (items : Array Value) (i : Int) : slicePick items none (some i) none = (items.toList.take (upto items.size i)).toArray := by
  unfold upto
  split
  · rename_i h
    have e : i = -(((-i).toNat : Nat) : Int) := by omega
    conv => lhs; rw [e]
    exact slicePick_butLast items _ (by omega)
  · rename_i h
    have e : i = ((i.toNat : Nat) : Int) := by omega
    conv => lhs; rw [e]
    exact slicePick_upto' items _
theorem ev_slice_list {value upper : PySem.Expr} {l : List D} (hC : Stable C) (hI : ∀ h, C h → Inn av h) (hv : Ev w A av C (eval value env) (.list l)) (hl : Ev w A av C (eval upper env) (.int i)) (hz : l.length ≤ 16777216)
    (hs : ∀ (a r : Addr), subscripted (.Slice none (some upper) none p) false (.ref a) (.ref r) = operate [.ref r, .ref a] (getItem (.ref a) (.ref r))) :
    Ev w A av C (eval (.Subscript value (.Slice none (some upper) none p) pos) env) (.list (l.take (upto l.length i))) := .mk fun s Q E c q =>
  Subscript_ (hv.run s _ E c fun u s₁ k₁ du => wpAny_Slice (wpAny_pure (hl.run s₁ _ E (hC _ _ (keeps_heap k₁) c) fun v s₂ k₂ dv => wpAny_pure (by
    have c₂ := hC _ _ (keeps_heap k₂) (hC _ _ (keeps_heap k₁) c)
    replace du := du.keep k₂
    cases du with | list a vs _ hl' hav dl =>
    cases dv with | int _ ti =>
    have e := dl.len
    rw [Array.length_toList] at e
    refine tail_any (Heap.IsList.typeIs (s := { s₂ with heap := s₂.heap.push { cls := .type "slice", data := .fields #[.none, .int i ti, .none] } }) (hl'.push _)) list_getitem_lookup
      (wpAny_getItem_list_slice (hl'.push _) (Heap.IsSliceOf.new ..) .none (.int i ti) .none (by simp) ?_ (sizeLine_at (by omega))) (hs _ _)
    have kk : Keeps s₂ { s₂ with heap := (s₂.heap.push { cls := .type "slice", data := .fields #[.none, .int i ti, .none] }).push { cls := .type "list", data := .seq (slicePick vs none (some i) none) } } := keeps_trans (keeps_push0 _) (keeps_push0 _)
    refine q (.ref _) _ (keeps_trans k₁ (keeps_trans k₂ kk)) ?_
    refine .list _ (slicePick vs none (some i) none) _ ⟨_, Heap.get?_push_size _ rfl, rfl, _, rfl⟩ ?_ ?_
    · exact (Inn.keep (hI _ c₂) (keeps_push0 _)).size
    · have dd := (dl.take (upto l.length i)).keep kk
      have e2 : (slicePick vs none (some i) none).toList = vs.toList.take (upto l.length i) := by rw [slicePick_up, List.toList_toArray, e]
      rw [← e2] at dd
      exact dd))))
end
end
end Mine

open PySem PySem.W PyProof.Rows PySem.Calls
set_option Elab.async false
set_option maxRecDepth 100000
set_option maxHeartbeats 400000
set_option linter.unusedVariables false
namespace Mine
noncomputable section
/-- an iterator that hands out the data ds, one after the other -/
structure It (w : World) (A : Around) (av ch : List Addr) (target : PySem.Expr) (ds : List D) (h₁ : Heap) (I : Addr) (St : Nat → Heap → Prop) : Prop where
  item : ∀ i (s : Shared) (Q : Option Value → Shared → Prop) (E : Value → Shared → Prop), i < ds.length → St i s.heap →
    (∀ v h' tk d, ds[i]? = some d → Den av h₁ v d → St (i + 1) h' → (∀ b o, b ≠ I → s.heap.get? b = some o → h'.get? b = some o) → Q (some v) { s with heap := h', toks := tk }) → wpAny (MW w) A (pyNext (.ref I)) Q E s
  done : ∀ (s : Shared) (Q : Option Value → Shared → Prop) (E : Value → Shared → Prop), St ds.length s.heap →
    (∀ h' tk, (∀ b o, b ≠ I → s.heap.get? b = some o → h'.get? b = some o) → Q none { s with heap := h', toks := tk }) → wpAny (MW w) A (pyNext (.ref I)) Q E s
  self : ∀ i (s : Shared) (Q : Value → Shared → Prop) (E : Value → Shared → Prop), St i s.heap → Q (.ref I) s → wpAny (MW w) A (pyIter (.ref I)) Q E s
  frame : ∀ i (h h' : Heap), St i h → (∀ o, h.get? I = some o → h'.get? I = some o) → (∀ b o, b ∉ ch → h₁.get? b = some o → h'.get? b = some o) → St i h'
  here : ∀ i (h : Heap), St i h → ∃ o, h.get? I = some o
  go : ∀ i (s : Shared) v (Q : Unit → Shared → Prop) (E : Value → Shared → Prop), St i s.heap → Q () s → wpAny (MW w) A (letOwnedTupleGo target (.ref I) v) Q E s
/-- a tree whose value is walked -/
structure Src (w : World) (A : Around) (av : List Addr) (C : HP) (x : Sem Value) (target : PySem.Expr) (ds : List D) : Prop where
  run : ∀ (s : Shared) (Q : Value → Shared → Prop) (E : Value → Shared → Prop), C s.heap →
    (∀ h₁ h₂ tk I St, (∀ b o, s.heap.get? b = some o → h₁.get? b = some o) → (∀ b o, h₁.get? b = some o → h₂.get? b = some o) → h₁.objs.size ≤ I → (∃ o, h₂.get? I = some o) →
      (∀ ch : List Addr, (∀ a ∈ ch, a ∈ av ∨ ∀ vs, ¬ h₁.IsList a vs ∧ ¬ h₁.IsTuple a vs) → It w A av ch target ds h₁ I St) → St 0 h₂ → Q (.ref I) { s with heap := h₂, toks := tk }) → wpAny (MW w) A x (fun v s₁ => wpAny (MW w) A (pyIter v) Q E s₁) E s
section
variable {w : World} {A : Around} {av : List Addr} {C : HP} {target : PySem.Expr} {ds : List D} {x : Sem Value}
/-- a target's part in the walk of a list -/
structure GoL (w : World) (A : Around) (target : PySem.Expr) : Prop where
  run : ∀ (I l : Addr) (i : Nat) (s : Shared) v (Q : Unit → Shared → Prop) (E : Value → Shared → Prop), s.heap.IsListIter I l i → Q () s → wpAny (MW w) A (letOwnedTupleGo target (.ref I) v) Q E s
theorem go_name {n : Str} {p : Pos} : GoL w A (.Name n p) := .mk fun I l i s v Q E hit q => wpAny_pure q
theorem go_tuple {es : List PySem.Expr} {k : Nat} {p : Pos} : GoL w A (.Tuple es k p) := .mk fun I l i s v Q E hit q => by
  cases v <;> first | exact wpAny_letOwnedTupleGo_listiter hit q | exact wpAny_pure q
theorem src_list (hh : A.handled = none) (hx : Ev w A av C x (.list ds)) (hgo : GoL w A target) : Src w A av C x target ds := .mk fun s Q E c q =>
  hx.run s _ E c fun v s₁ k₁ dv => by
    obtain ⟨h₁, t₁, rfl, k₁⟩ := k₁
    cases dv with | list ax vs _ hl hav dl =>
    refine wpAny_pyIter_list hl ?_
    have hlt : ax ≠ h₁.objs.size := by obtain ⟨o, e, _⟩ := hl; exact Nat.ne_of_lt (Heap.lt_size e)
    have e := dl.len
    rw [Array.length_toList] at e
    have W := Walks.list (prog := pW) (w := w) hh h₁.objs.size ax hlt vs
    refine q h₁ _ t₁ h₁.objs.size (fun i h => h.IsListIter h₁.objs.size ax i ∧ h.IsList ax vs) k₁ (fun b o e => Heap.get?_push_of_some _ e) (Nat.le_refl _) ⟨_, Heap.get?_push_size _ rfl⟩ (fun ch hch => ?_) ⟨⟨_, Heap.get?_push_size _ rfl, rfl, rfl⟩, hl.push _⟩
    refine ⟨fun i s Q E hi st qq => W.item i s Q E (e ▸ hi) st fun v h' tk hv st' kk => ?_, fun s Q E st qq => W.done s Q E (e ▸ st) fun h' tk kk => qq h' tk fun b o hb e => kk b o (by simpa using hb) e, W.self,
      fun i h h' st a b => ⟨st.1.at a, hl.at fun o e => b _ o (fun q => (hch _ q).elim hav fun z => (z vs).1 hl) e⟩, fun i h st => st.1.imp fun _ r => r.1, fun i s v Q E st q => hgo.run _ _ _ _ _ _ _ st.1 q⟩
    obtain ⟨d, hd, dd⟩ := dl.at (i := i) (by rw [Array.getElem?_toList]; exact hv)
    exact qq v h' tk d hd dd st' fun b o hb e => kk b o (by simpa using hb) e
theorem src_str {xs : Str} {n : Str} {p : Pos} (hh : A.handled = none) (hx : Ev w A av C x (.str xs)) : Src w A av C x (.Name n p) (xs.cps.toList.map fun c => .str (one c)) := .mk fun s Q E c q =>
  hx.run s _ E c fun v s₁ k₁ dv => by
    obtain ⟨h₁, t₁, rfl, k₁⟩ := k₁
    cases dv with | str _ t =>
    have val : ∀ {i : Nat} {v : Value}, SignAt xs i v → ∃ d, (xs.cps.toList.map fun c => D.str (one c))[i]? = some d ∧ Den av h₁ v d := fun {i v} hs => by
      obtain ⟨c, u, hc, rfl⟩ := hs
      exact ⟨.str (one c), by rw [List.getElem?_map, Array.getElem?_toList, hc]; rfl, .str _ _⟩
    have hlen : (xs.cps.toList.map fun c => D.str (one c)).length = xs.cps.size := by simp
    have put : ∀ (St : Nat → Heap → Prop) (o : Obj), (∀ i (h : Heap), St i h → ∃ o, h.get? h₁.objs.size = some o) → Walks pW w A h₁.objs.size [h₁.objs.size] [h₁.objs.size] xs.cps.size (SignAt xs) St → St 0 (h₁.push o) → (o.isFreed = false) →
        Q (.ref h₁.objs.size) { s with heap := h₁.push o, toks := t₁ } := fun St o hr W st hf => by
      refine q h₁ _ t₁ h₁.objs.size St k₁ (fun b o e => Heap.get?_push_of_some _ e) (Nat.le_refl _) ⟨_, Heap.get?_push_size _ hf⟩ (fun ch _ => ?_) st
      refine ⟨fun i s Q E hi st qq => W.item i s Q E (hlen ▸ hi) st fun v h' tk hv st' kk => ?_, fun s Q E st qq => W.done s Q E (hlen ▸ st) fun h' tk kk => qq h' tk fun b o hb e => kk b o (by simpa using hb) e, W.self,
        fun i h h' st a b => W.frame i h h' st fun b hb o e => by rw [List.mem_singleton.mp hb] at e ⊢; exact a o e, hr, fun i s v Q E st q => wpAny_pure q⟩
      obtain ⟨d, hd, dd⟩ := val hv
      exact qq v h' tk d hd dd st' fun b o hb e => kk b o (by simpa using hb) e
    cases ha : xs.cps.all (· < 128)
    · exact wpAny_pyIter_wide ha (put _ _ (fun i h st => st.imp fun _ r => r.1) (Walks.strWide hh _ xs t) ⟨_, Heap.get?_push_size _ rfl, rfl, rfl⟩ rfl)
    · exact wpAny_pyIter_ascii ha (put _ _ (fun i h st => st.imp fun _ r => r.1) (Walks.strAscii hh _ xs t) ⟨_, Heap.get?_push_size _ rfl, rfl, rfl⟩ rfl)
/-- a tree that makes a range -/
structure EvR (w : World) (A : Around) (C : HP) (x : Sem Value) (n : Nat) : Prop where
  run : ∀ (s : Shared) (Q : Value → Shared → Prop) (E : Value → Shared → Prop), C s.heap → (∀ r s' t u v, Keeps s s' → IsRange s'.heap r 0 n 1 t u v → Q (.ref r) s') → wpAny (MW w) A x Q E s
theorem src_range {m : Nat} {n : Str} {p : Pos} (hh : A.handled = none) (hz : m ≤ 16777216) (hx : EvR w A C x m) : Src w A av C x (.Name n p) ((List.range m).map fun k : Nat => D.int k) := .mk fun s Q E c q =>
  hx.run s _ E c fun r s₁ t u v k₁ hr => by
    obtain ⟨h₁, t₁, rfl, k₁⟩ := k₁
    have hsz : Builtin.Range.rangeSize 0 m 1 = ((m : Nat) : Int) := by rw [rangeSize_one]; split <;> omega
    refine wpAny_pyIter_range hr (small_one (by omega) (by omega) (by omega) (by omega)) ?_
    have W := LCg.range_walks (prog := pW) (w := w) (I := h₁.objs.size) hh 0 m
    have hlen : ((List.range m).map fun k : Nat => D.int k).length = m := by simp
    refine q h₁ _ t₁ h₁.objs.size (fun i h => IsRangeIter h h₁.objs.size (0 + (i : Nat) * 1) ((m : Int) - (i : Nat)) 1) k₁ (fun b o e => Heap.get?_push_of_some _ e) (Nat.le_refl _) ⟨_, Heap.get?_push_size _ rfl⟩ (fun ch _ => ?_) (by show IsRangeIter _ _ _ _ _; rw [hsz]; simpa using Heap.get?_push_size _ rfl)
    refine ⟨fun i s Q E hi st qq => W.item i s Q E (hlen ▸ hi) st fun v h' tk hv st' kk => ?_, fun s Q E st qq => W.done s Q E (by have z := st; simp only [hlen] at z; exact z) fun h' tk kk => qq h' tk fun b o hb e => kk b o (by simpa using hb) e, W.self,
      fun i h h' st a b => a _ st, fun i h st => ⟨_, st⟩, fun i s v Q E st q => wpAny_pure q⟩
    obtain ⟨t, rfl⟩ := hv
    refine qq _ h' tk (.int i) (by rw [hlen] at hi; simp [hi]) ?_ st' fun b o hb e => kk b o (by simpa using hb) e
    rw [Int.zero_add]
    exact .int _ _
end
end
end Mine

open PySem PySem.W PyProof.Rows PySem.Calls
set_option Elab.async false
set_option maxRecDepth 100000
set_option maxHeartbeats 400000
set_option linter.unusedVariables false
namespace Mine
noncomputable section
noncomputable abbrev testsOf (ifs : List PySem.Expr) (env : Env) : Sem Bool := forIn ifs true fun c r => if r = true then do let ok ← isTrue c env (eval c env); pure (ForInStep.yield ok) else pure (ForInStep.yield r)
/-- a comprehension's turns: any target, tests -/
theorem comp_loop {w : World} {A : Around} {elt target iter : PySem.Expr} {ifs : List PySem.Expr} {scope : Scope} {pos : Pos} {it acc : Value} {env : Env} {R : Result → Shared → Prop} (I : Nat → Shared → Prop)
    (turn : ∀ n s, I n s → ∀ E : Value → Shared → Prop, wpAny (MW w) A (pyNext it) (fun r s₁ => match r with
      | none => R (.ok .next) s₁
      | some v => wpAny (MW w) A (letOwnedTupleGo target it v) (fun _ s₀ => wpAny (MW w) A (assign target env v) (fun _ s₂ => wpAny (MW w) A (testsOf ifs env) (fun ok s₃ =>
          if ok = true then wpAny (MW w) A (eval elt env) (fun x s₄ => wpAny (MW w) A (call (.builtin "list.append") [acc, x]) (fun _ s₅ => ∃ m, m < n ∧ I m s₅) E s₄) E s₃ else ∃ m, m < n ∧ I m s₃) E s₂) E s₀) E s₁) E s)
    (n : Nat) {s : Shared} (h : I n s) : codeAny (MW w) A (.compLoop (.ListComp elt [⟨target, iter, ifs, 0⟩] scope pos) 0 it acc env) R s := by
  refine codeAny_loop rfl I (fun n s hI => ?_) n h
  show wpAny _ A ((compTurn (.ListComp elt [⟨target, iter, ifs, 0⟩] scope pos) 0 it acc env).onRaise (fun x => do noteFrame x env; theTreesLotGoes x)) _ _ s
  refine wpAny_noted ?_
  rw [compTurn_list]
  refine wpAny_bind (wpAny_standAt (wpAny_bind (wpAny_mono (turn n s hI _) (fun r s₁ h₁ => ?_) fun _ _ h' => h')))
  cases r with
  | none => exact wpAny_pure h₁
  | some v =>
    refine wpAny_bind (wpAny_mono h₁ (fun _ s₀ h₀ => ?_) fun _ _ h' => h')
    refine wpAny_bind (wpAny_mono h₀ (fun _ s₂ h₂ => wpAny_bind (wpAny_mono h₂ (fun ok s₃ h₃ => ?_) fun _ _ h' => h')) fun _ _ h' => h')
    cases ok with
    | false => exact wpAny_pure ⟨rfl, h₃⟩
    | true => exact wpAny_bind (wpAny_bind (wpAny_mono h₃ (fun x s₄ h₄ => wpAny_bind (wpAny_mono h₄ (fun _ s₅ h₅ => wpAny_pure (wpAny_pure ⟨rfl, h₅⟩)) fun _ _ h' => h')) fun _ _ h' => h'))
/-- the target takes the datum -/
structure AsgOk (w : World) (A : Around) (target : PySem.Expr) (env : Env) (d : D) (bs : List (Str × D)) : Prop where
  run : ∀ (s : Shared) v m av (Q : Unit → Shared → Prop) (E : Value → Shared → Prop), Den av s.heap v d → s.heap.Ns env.locals m →
    (∀ h' tk m', h'.Ns env.locals m' → (∀ b o, b ≠ env.locals → s.heap.get? b = some o → h'.get? b = some o) → (∀ x e, bs.lookup x = some e → ∃ u, m' x = some u ∧ Den av s.heap u e) → (∀ x, bs.lookup x = none → m' x = m x) → Q () { s with heap := h', toks := tk }) →
    wpAny (MW w) A (assign target env v) Q E s
noncomputable abbrev TestsOk (w : World) (A : Around) (C : HP) (x : Sem Bool) (b : Bool) : Prop := Tst w A C x b
section
variable {w : World} {A : Around} {av : List Addr} {env : Env} {target iter elt : PySem.Expr} {ifs : List PySem.Expr} {scope : Scope} {cl : List (Str × Addr)} {pos : Pos} {ds : List D} {p : D → Bool} {f : D → D} {bind : D → List (Str × D)}
  {fr : List (Str × D)} {h₁ : Heap} {s₂ : Shared} {I : Addr} {St : Nat → Heap → Prop}
theorem take_filter_map {i : Nat} {d : D} (hd : ds[i]? = some d) : ((ds.take (i + 1)).filter p).map f = ((ds.take i).filter p).map f ++ (if p d then [f d] else []) := by
  rw [take_succ_filter p ds i d hd, List.map_append]
  cases p d <;> rfl
theorem comp_code {R : Result → Shared → Prop} {Dl Cc : Addr} {s : Shared} {m₀ : Str → Option Value} (W : It w A av [] target ds h₁ I St) (st : St 0 s.heap) (k1 : ∀ b o, h₁.get? b = some o → s.heap.get? b = some o) (inn : Inn av h₁) (base : Base w h₁) (hz : ds.length ≤ 16777216)
    (hI1 : h₁.objs.size ≤ I) (hD1 : h₁.objs.size ≤ Dl) (hC1 : h₁.objs.size ≤ Cc) (hID : I ≠ Dl) (hIC : I ≠ Cc) (hDC : Dl ≠ Cc)
    (hacc : s.heap.PlainList Dl #[]) (hn : s.heap.Ns Cc m₀)
    (hcs : ∀ x c, cl.lookup x = some c → ∃ v, h₁.IsCell c v) (hfr : ∀ x d, fr.lookup x = some d → ∃ c v, cl.lookup x = some c ∧ h₁.IsCell c (some v) ∧ Den av h₁ v d) (hbc : ∀ d ∈ ds, ∀ x e, (bind d).lookup x = some e → cl.lookup x = none)
    (hasg : ∀ d ∈ ds, AsgOk w A target (compEnvC scope cl Cc env) d (bind d))
    (htest : ∀ d ∈ ds, ∀ av', TestsOk w A (Vs w av' h₁.get? Cc cl (bind d ++ fr)) (testsOf ifs (compEnvC scope cl Cc env)) (p d))
    (helt : ∀ d ∈ ds, p d = true → ∀ av', Ev w A av' (Vs w av' h₁.get? Cc cl (bind d ++ fr)) (eval elt (compEnvC scope cl Cc env)) (f d))
    (hR : ∀ h' tk m' ys, h'.Ns Cc m' → h'.IsList Dl ys → DenL (I :: Cc :: Dl :: av) h' ys.toList ((ds.filter p).map f) → (∀ b o, b ≠ I → b ≠ Cc → b ≠ Dl → s.heap.get? b = some o → h'.get? b = some o) → R (.ok .next) { s with heap := h', toks := tk }) :
    codeAny (MW w) A (.compLoop (.ListComp elt [⟨target, iter, ifs, 0⟩] scope pos) 0 (.ref I) (.ref Dl) (compEnvC scope cl Cc env)) R s := by
  refine comp_loop
    (fun k s' => ∃ h' tk m' ys i, s' = { s with heap := h', toks := tk } ∧ St i h' ∧ h'.PlainList Dl ys ∧ h'.Ns Cc m' ∧ DenL (I :: Cc :: Dl :: av) h' ys.toList (((ds.take i).filter p).map f) ∧
      i ≤ ds.length ∧ k = ds.length + 1 - i ∧ (∀ b o, b ≠ I → b ≠ Cc → b ≠ Dl → s.heap.get? b = some o → h'.get? b = some o)) ?_ (ds.length + 1)
    ⟨s.heap, s.toks, m₀, #[], 0, rfl, st, hacc, hn, by simpa using DenL.nil, Nat.zero_le _, rfl, fun _ _ _ _ _ e => e⟩
  rintro k s' ⟨H, tk, m', ys, i, rfl, st', hacc', hn', hF, hi, rfl, hk⟩ E
  have lo : ∀ {b o}, h₁.get? b = some o → b ≠ I ∧ b ≠ Cc ∧ b ≠ Dl := fun {b o} e => by
    have := Heap.lt_size e
    exact ⟨by rintro rfl; exact absurd this (Nat.not_lt.mpr hI1), by rintro rfl; exact absurd this (Nat.not_lt.mpr hC1), by rintro rfl; exact absurd this (Nat.not_lt.mpr hD1)⟩
  have old : ∀ b o, h₁.get? b = some o → H.get? b = some o := fun b o e => hk b o (lo e).1 (lo e).2.1 (lo e).2.2 (k1 b o e)
  by_cases hlt : i < ds.length
  · refine W.item i _ _ _ hlt st' fun v h2 tk2 d hd dv st2 k2 => ?_
    have hmem : d ∈ ds := List.mem_of_getElem? hd
    have old2 : ∀ b o, h₁.get? b = some o → h2.get? b = some o := fun b o e => k2 b o (lo e).1 (old b o e)
    refine W.go _ _ _ _ _ st2 ?_
    have non : ∀ {a : Addr}, (a = I ∨ a = Cc ∨ a = Dl) → ∀ vs, ¬ h₁.IsList a vs ∧ ¬ h₁.IsTuple a vs := fun q vs => ⟨fun ⟨o, e, _⟩ => by
      have := lo e
      rcases q with q | q | q
      · exact this.1 q
      · exact this.2.1 q
      · exact this.2.2 q, fun ⟨o, e, _⟩ => by
      have := lo e
      rcases q with q | q | q
      · exact this.1 q
      · exact this.2.1 q
      · exact this.2.2 q⟩
    have dv2 : Den (I :: Cc :: Dl :: av) h2 v d := by
      refine (dv.avoid (av' := I :: Cc :: Dl :: av) fun a q => ?_).mono fun b o _ e => old2 b o e
      simp only [List.mem_cons] at q
      rcases q with q | q | q | q
      · exact .inr (non (.inl q))
      · exact .inr (non (.inr (.inl q)))
      · exact .inr (non (.inr (.inr q)))
      · exact .inl q
    refine (hasg d hmem).run _ v m' (I :: Cc :: Dl :: av) _ _ dv2 (hn'.at' fun o e => k2 _ o (Ne.symm hIC) e) fun h3 tk3 m3 hn3 k3 hb3 _ => ?_
    replace k3 : ∀ b o, b ≠ Cc → h2.get? b = some o → h3.get? b = some o := k3
    replace hn3 : h3.Ns Cc m3 := hn3
    have old3 : ∀ b o, h₁.get? b = some o → h3.get? b = some o := fun b o e => k3 b o (lo e).2.1 (old2 b o e)
    have st3 : St (i + 1) h3 := W.frame _ _ _ st2 (fun o e => k3 _ o hIC e) fun b o _ => old3 b o
    have up3 : ∀ b o, b ≠ I → b ≠ Cc → H.get? b = some o → h3.get? b = some o := fun b o a c e => k3 b o c (k2 b o a e)
    have hacc3 : h3.PlainList Dl ys := hacc'.at fun o e => up3 _ o (Ne.symm hID) hDC e
    have vs3 : Vs w (I :: Cc :: Dl :: av) h₁.get? Cc cl (bind d ++ fr) h3 := by
      refine ⟨⟨_, base, fun _ _ e => e⟩, fun a q => ?_, old3, Heap.get?_none_of_le hC1, fun z c e => (hcs z c e).imp fun v y => isCell_at y fun o e => old3 _ o e, m3, hn3, fun x e hx => ?_⟩
      · simp only [List.mem_cons] at q
        rcases q with rfl | rfl | rfl | q
        · exact W.here _ _ st3
        · obtain ⟨o, _, _, ho, _⟩ := hn3; exact ⟨o, ho⟩
        · obtain ⟨n, ho⟩ := hacc3; exact ⟨_, ho⟩
        · obtain ⟨o, ho⟩ := inn a q; exact ⟨o, old3 a o ho⟩
      · rw [List.lookup_append] at hx
        cases hbx : (bind d).lookup x with
        | some e' =>
          rw [hbx] at hx
          cases hx
          obtain ⟨u, hu, du⟩ := hb3 x e hbx
          refine ⟨u, by rw [hbc d hmem x e hbx]; exact hu, du.mono fun b o hb e => k3 b o (fun q => hb (by simp [q])) e⟩
        | none =>
          rw [hbx] at hx
          obtain ⟨c, u, hc, hcell, du⟩ := hfr x e hx
          refine ⟨u, by rw [hc]; exact isCell_at hcell fun o e => old3 _ o e, ?_⟩
          refine (du.avoid (av' := I :: Cc :: Dl :: av) fun a q => ?_).mono fun b o _ e => old3 b o e
          simp only [List.mem_cons] at q
          rcases q with q | q | q | q
          · exact .inr (non (.inl q))
          · exact .inr (non (.inr (.inl q)))
          · exact .inr (non (.inr (.inr q)))
          · exact .inl q
    have hF3 : DenL (I :: Cc :: Dl :: av) h3 ys.toList (((ds.take i).filter p).map f) := hF.mono fun b o hb e => up3 b o (fun q => hb (by simp [q])) (fun q => hb (by simp [q])) e
    have kk3 : ∀ b o, b ≠ I → b ≠ Cc → b ≠ Dl → s.heap.get? b = some o → h3.get? b = some o := fun b o a c e g => up3 b o a c (hk b o a c e g)
    refine (htest d hmem (I :: Cc :: Dl :: av)).run _ _ _ vs3 fun s4 k4 => ?_
    obtain ⟨h4, tk4, rfl, k4⟩ := k4
    replace k4 : ∀ b o, h3.get? b = some o → h4.get? b = some o := k4
    have st4 : St (i + 1) h4 := W.frame _ _ _ st3 (fun o e => k4 _ o e) fun b o _ e => k4 _ o (old3 b o e)
    have hacc4 : h4.PlainList Dl ys := hacc3.at fun o e => k4 _ o e
    have hn4 : h4.Ns Cc m3 := hn3.at' fun o e => k4 _ o e
    have hF4 := hF3.mono fun b o hb e => k4 b o e
    cases hp : p d with
    | false =>
      simp only [Bool.false_eq_true, if_false]
      refine ⟨ds.length + 1 - (i + 1), by omega, h4, tk4, m3, ys, i + 1, rfl, st4, hacc4, hn4, ?_, hlt, rfl, fun b o a c e g => k4 b o (kk3 b o a c e g)⟩
      rw [take_filter_map hd, hp]
      simpa using hF4
    | true =>
      simp only [if_true]
      refine (helt d hmem hp (I :: Cc :: Dl :: av)).run _ _ _ (Vs.stable _ _ k4 vs3) fun z s5 k5 dz => ?_
      obtain ⟨h5, tk5, rfl, k5⟩ := k5
      replace k5 : ∀ b o, h4.get? b = some o → h5.get? b = some o := k5
      have hys : ys.size ≤ sizeLine := by
        have e1 := hF.len
        have e2 : ((ds.take i).filter p).length ≤ (ds.take i).length := List.length_filter_le _ _
        have e3 : (ds.take i).length ≤ ds.length := by rw [List.length_take]; omega
        rw [List.length_map] at e1
        have e4 : ys.toList.length = ys.size := by simp
        exact sizeLine_at (by omega)
      refine wpAny_list_append_plain (hsz := hys) (hacc4.at fun o e => k5 _ o e) fun h6 hl6 hs6 => ?_
      have k6 : ∀ b o, b ≠ Dl → h5.get? b = some o → h6.get? b = some o := fun b o hb e => hs6.extBut b o hb e
      refine ⟨ds.length + 1 - (i + 1), by omega, h6, tk5, m3, ys.push z, i + 1, rfl, ?_, hl6, ?_, ?_, hlt, rfl, fun b o a c e g => k6 b o e (k5 b o (k4 b o (kk3 b o a c e g)))⟩
      · exact W.frame _ _ _ st4 (fun o e => k6 _ o hID (k5 _ o e)) fun b o _ e => k6 b o (lo e).2.2 (k5 _ o (k4 _ o (old3 b o e)))
      · exact hn4.at' fun o e => k6 _ o (Ne.symm hDC) (k5 _ o e)
      · rw [take_filter_map hd, hp, Array.toList_push]
        refine ((hF4.mono fun b o hb e => k5 b o e).app (.cons dz .nil)).mono fun b o hb e => k6 b o (fun q => hb (by simp [q])) e
  · have hin : i = ds.length := Nat.le_antisymm hi (Nat.not_lt.mp hlt)
    subst hin
    rw [List.take_length] at hF
    refine W.done _ _ _ st' fun h2 tk2 k2 => ?_
    refine hR h2 tk2 m' ys (hn'.at' fun o e => k2 _ o (Ne.symm hIC) e) (hacc'.at fun o e => k2 _ o (Ne.symm hID) e).isList (hF.mono fun b o hb e => k2 b o (fun q => hb (q ▸ List.mem_cons_self)) e) fun b o a b' c e => k2 b o a (hk b o a b' c e)
end
end
end Mine

open PySem PySem.W PyProof.Rows PySem.Calls
set_option Elab.async false
set_option maxRecDepth 100000
set_option maxHeartbeats 400000
set_option linter.unusedVariables false
namespace Mine
noncomputable section
section
variable {w : World} {A : Around} {av : List Addr} {env : Env} {target iter elt : PySem.Expr} {ifs : List PySem.Expr} {scope : Scope} {cl : List (Str × Addr)} {pos : Pos} {ds : List D} {p : D → Bool} {f : D → D} {bind : D → List (Str × D)}
  {fr : List (Str × D)} {h₁ : Heap} {s₂ : Shared} {I : Addr} {St : Nat → Heap → Prop} {C : HP}
/-- what a comprehension's parts must do -/
structure CompOk (w : World) (A : Around) (env : Env) (target : PySem.Expr) (ifs : List PySem.Expr) (elt : PySem.Expr) (scope : Scope) (cl : List (Str × Addr)) (ds : List D) (p : D → Bool) (f : D → D) (bind : D → List (Str × D)) (fr : List (Str × D)) : Prop where
  bc : ∀ d ∈ ds, ∀ x e, (bind d).lookup x = some e → cl.lookup x = none
  asg : ∀ d ∈ ds, ∀ Cc, AsgOk w A target (compEnvC scope cl Cc env) d (bind d)
  test : ∀ d ∈ ds, ∀ av' K Cc, TestsOk w A (Vs w av' K Cc cl (bind d ++ fr)) (testsOf ifs (compEnvC scope cl Cc env)) (p d)
  elt : ∀ d ∈ ds, p d = true → ∀ av' K Cc, Ev w A av' (Vs w av' K Cc cl (bind d ++ fr)) (eval elt (compEnvC scope cl Cc env)) (f d)
theorem comp_block {RR : Value → Addr → Result → Shared → Prop} {E : Value → Shared → Prop} (W : It w A av [] target ds h₁ I St) (st : St 0 s₂.heap) (k1 : ∀ b o, h₁.get? b = some o → s₂.heap.get? b = some o) (inn : Inn av h₁) (base : Base w h₁) (hz : ds.length ≤ 16777216)
    (hI1 : h₁.objs.size ≤ I) (hcell : ∀ y ∈ scope.names, y.2 ≠ .cell) (hkind : scope.kind = .function)
    (hcs : ∀ x c, cl.lookup x = some c → ∃ v, h₁.IsCell c v) (hfr : ∀ x d, fr.lookup x = some d → ∃ c v, cl.lookup x = some c ∧ h₁.IsCell c (some v) ∧ Den av h₁ v d) (K : CompOk w A env target ifs elt scope cl ds p f bind fr)
    (hRR : ∀ Dl Cc h' tk m' ys, s₂.heap.get? Dl = none → s₂.heap.get? Cc = none → Dl ≠ Cc → h'.Ns Cc m' → h'.IsList Dl ys → DenL (Cc :: Dl :: av) h' ys.toList ((ds.filter p).map f) → (∀ b o, b ≠ I → s₂.heap.get? b = some o → h'.get? b = some o) →
      RR (.ref Dl) Cc (.ok .next) { s₂ with heap := h', toks := tk }) :
    wpAny (MW w) A (newList []) (fun acc s₃ => wpAny (MW w) A (newFunctionEnv scope env.globals cl [] env.qual none .none (some env)) (fun cenv s₄ =>
      codeAny (MW w) A (.compStart (.ListComp elt [⟨target, iter, ifs, 0⟩] scope pos) 0 (.ref I) acc { cenv with scope := relabel scope env }) (RR acc cenv.locals) s₄) E s₃) E s₂ := by
  refine wpAny_newObj_type (wpAny_newFunctionEnv hcell (by intro y hy; simp at hy) (fun h4 hns hsb => ?_) hkind)
  dsimp only at hns hsb ⊢
  generalize hH2 : s₂.heap.push { cls := .type "list", dict := none, data := .seq ([] : List Value).toArray } = H2 at hns hsb ⊢
  have hC : H2.objs.size = s₂.heap.objs.size + 1 := by rw [← hH2, Heap.size_push]
  have hDC : s₂.heap.objs.size ≠ H2.objs.size := by rw [hC]; exact Nat.ne_of_lt (Nat.lt_succ_self _)
  have below : ∀ b, b < s₂.heap.objs.size → b ≠ H2.objs.size ∧ b ≠ s₂.heap.objs.size := fun b hb => ⟨by rw [hC]; exact Nat.ne_of_lt (Nat.lt_succ_of_lt hb), Nat.ne_of_lt hb⟩
  have hIo := W.here _ _ st
  have hIlt : I < s₂.heap.objs.size := hIo.elim fun o e => Heap.lt_size e
  have h1le : h₁.objs.size ≤ s₂.heap.objs.size := Nat.le_trans hI1 (Nat.le_of_lt hIlt)
  have old : ∀ b o, s₂.heap.get? b = some o → h4.get? b = some o := fun b o e => hsb.extBut b o (below b (Heap.lt_size e)).1 (Heap.get?_push_of_some _ (hH2 ▸ Heap.get?_push_of_some _ e))
  have fresh : ∀ a, s₂.heap.objs.size ≤ a → s₂.heap.get? a = none := fun a ha => Heap.get?_none_of_le ha
  have hacc : h4.PlainList s₂.heap.objs.size #[] := ⟨_, hsb.extBut _ _ hDC (Heap.get?_push_of_some _ (hH2 ▸ Heap.get?_push_size _ rfl))⟩
  have st4 : St 0 h4 := W.frame _ _ _ st (fun o e => old _ o e) fun b o _ e => old b o (k1 b o e)
  have loop : ∀ s₃ : Shared, s₃ = { s₂ with heap := h4, toks := s₂.toks + ([] : List (Str × Value)).length } →
      codeAny (MW w) A (.compLoop (.ListComp elt [⟨target, iter, ifs, 0⟩] scope pos) 0 (.ref I) (.ref s₂.heap.objs.size) (compEnvC scope cl H2.objs.size env)) (RR (.ref s₂.heap.objs.size) H2.objs.size) s₃ := by
    rintro s₃ rfl
    refine comp_code W st4 (fun b o e => old b o (k1 b o e)) inn base hz hI1 h1le (by rw [hC]; exact Nat.le_succ_of_le h1le) (below I hIlt).2 (below I hIlt).1 hDC hacc hns hcs hfr K.bc (fun d hd => K.asg d hd _) (fun d hd av' => K.test d hd av' _ _)
      (fun d hd hp av' => K.elt d hd hp av' _ _) fun h' tk m' ys hn hl hF hk => ?_
    refine hRR _ _ h' tk m' ys (fresh _ (Nat.le_refl _)) (fresh _ (by rw [hC]; exact Nat.le_succ _)) hDC hn hl (hF.avoid fun a q => .inl (List.mem_cons_of_mem _ q)) fun b o hb e => hk b o hb (below b (Heap.lt_size e)).1 (below b (Heap.lt_size e)).2 (old b o e)
  exact codeAny_compStart_list (loop _ rfl) (W.self 0 _ _ _ st4 (loop _ rfl))
theorem ev_comp (hsrc : Src w A av C (eval iter env) target ds) (hB : ∀ h, C h → Base w h) (hI : ∀ h, C h → Inn av h) (hz : ds.length ≤ 16777216) (hclos : closureFor scope env = pure cl) (hcell : ∀ y ∈ scope.names, y.2 ≠ .cell) (hkind : scope.kind = .function)
    (hnames : ∀ y ∈ scope.names, y.2 = .local → scope.names.lookup y.1 = some .local) (hcs : ∀ h, C h → ∀ x c, cl.lookup x = some c → ∃ v, h.IsCell c v) (hfr : ∀ h, C h → ∀ x d, fr.lookup x = some d → ∃ c v, cl.lookup x = some c ∧ h.IsCell c (some v) ∧ Den av h v d) (K : CompOk w A env target ifs elt scope cl ds p f bind fr)
    (hs : ∀ x, foldedSetIterable iter env x = pure x) : Ev w A av C (eval (.ListComp elt [⟨target, iter, ifs, 0⟩] scope pos) env) (.list ((ds.filter p).map f)) := .mk fun s Q E c q => by
  rw [eval_ListComp]
  refine wpAny_comprehension_free (use := none) rfl hs hclos hkind hnames (hsrc.run s _ E c fun h₁ h₂ tk I St k1 k2 hI1 _ W st => ?_)
  have inn : Inn av h₁ := fun a ha => (hI _ c a ha).imp fun o e => k1 a o e
  refine comp_block (RR := fun acc C => compPost (MW w) A E none Q acc C) (W [] fun a q => nomatch q) st k2 inn ((hB _ c).keeps k1) hz hI1 hcell hkind (fun x cc e => (hcs _ c x cc e).imp fun v y => isCell_at y fun o e => k1 _ o e) (fun x d hx => ?_) K ?_
  · obtain ⟨cc, v, hc, hv, dv⟩ := hfr _ c x d hx
    exact ⟨cc, v, hc, isCell_at hv fun o e => k1 _ o e, dv.mono fun b o _ e => k1 b o e⟩
  · intro Dl Cc h' tk' m' ys hD hC' hDC hn hl hF hk
    have keep : ∀ b o, s.heap.get? b = some o → b ≠ Cc ∧ h'.get? b = some o := fun b o e => by
      have e1 := k1 b o e
      have e2 := k2 b o e1
      refine ⟨fun q => ?_, hk b o (fun q => ?_) e2⟩
      · rw [q] at e2
        have : (some o : Option Obj) = none := e2.symm.trans hC'
        cases this
      · rw [q] at e1; exact absurd (Heap.lt_size e1) (Nat.not_lt.mpr hI1)
    refine ⟨m', hn, fun h'' hs'' => ?_⟩
    refine q (.ref Dl) _ ⟨h'', tk', rfl, fun b o e => hs''.extBut b o (keep b o e).1 (keep b o e).2⟩ ?_
    refine .list Dl ys _ (hl.extBut hs''.extBut hDC) (fun q => ?_) ?_
    · obtain ⟨o, e⟩ := inn Dl q
      have e2 := k2 _ o e
      have : (some o : Option Obj) = none := e2.symm.trans hD
      cases this
    · exact (hF.mono fun b o hb e => hs''.extBut b o (fun q => hb (by simp [q])) e).avoid fun a q => .inl (by simp [q])
end
end
end Mine

open PySem PySem.W PyProof.Rows PySem.Calls
set_option Elab.async false
set_option maxRecDepth 100000
set_option maxHeartbeats 400000
set_option linter.unusedVariables false
namespace Mine
noncomputable section
section
variable {w : World} {A : Around} {av : List Addr} {env : Env} {K : Addr → Option Obj} {h h' : Heap} {L : Addr} {cl : List (Str × Addr)} {l : List (Str × D)}
/-- a new address is hidden -/
theorem Vs.hide {a : Addr} (x : Vs w av K L cl l h) (k : ∀ b o, h.get? b = some o → h'.get? b = some o) (hn : h.get? a = none) (hs : ∃ o, h'.get? a = some o) : Vs w (a :: av) K L cl l h' := by
  have y := Vs.stable _ _ k x
  refine ⟨y.base₀, fun b q => (List.mem_cons.mp q).elim (fun e => e ▸ hs) (y.inn b), y.old, y.new, y.cells, ?_⟩
  obtain ⟨m, hm, hv⟩ := x.vars
  refine ⟨m, hm.at' fun o e => k _ o e, fun z e hz => ?_⟩
  obtain ⟨v, hv, dv⟩ := hv z e hz
  refine ⟨v, ?_, (dv.avoid (av' := a :: av) fun b q => ?_).mono fun b o _ e => k b o e⟩
  · cases hc : cl.lookup z with
    | some c => rw [hc] at hv; exact isCell_at hv fun o e => k _ o e
    | none => rw [hc] at hv; exact hv
  · rcases List.mem_cons.mp q with rfl | q
    · refine .inr fun vs => ⟨fun ⟨o, e, _⟩ => ?_, fun ⟨o, e, _⟩ => ?_⟩ <;> (rw [hn] at e; cases e)
    · exact .inl q
/-- the hidden address changes and is shown again -/
theorem Vs.bare {a : Addr} (x : Vs w (a :: av) K L cl l h) (k : ∀ b o, b ≠ a → h.get? b = some o → h'.get? b = some o) (ha : K a = none) (haL : a ≠ L) (hcell : ∀ c v, cl.lookup c = some a → ¬ h.IsCell a v) (hav : a ∉ av) : Vs w av K L cl l h' := by
  obtain ⟨m, hm, hv⟩ := x.vars
  refine ⟨x.base₀, fun b q => ?_, fun b o e => k b o (fun q => by rw [q, ha] at e; cases e) (x.old b o e), x.new, fun z c e => ?_, m, hm.at' fun o e => k _ o (Ne.symm haL) e, fun z e hz => ?_⟩
  · obtain ⟨o, e⟩ := x.inn b (List.mem_cons_of_mem _ q)
    exact ⟨o, k b o (fun e => hav (e ▸ q)) e⟩
  · obtain ⟨v, y⟩ := x.cells z c e
    exact ⟨v, isCell_at y fun o eo => k _ o (fun q => hcell z v (q ▸ e) (q ▸ y)) eo⟩
  · obtain ⟨v, hx, dv⟩ := hv z e hz
    refine ⟨v, ?_, (dv.mono fun b o hb e => k b o (fun q => hb (q ▸ List.mem_cons_self)) e).avoid fun b q => .inl (List.mem_cons_of_mem _ q)⟩
    cases hc : cl.lookup z with
    | some c =>
      rw [hc] at hx
      by_cases hca : c = a
      · exact absurd (hca ▸ hx) (hcell z _ (hca ▸ hc))
      · exact isCell_at hx fun o e => k _ o hca e
    | none => rw [hc] at hx; exact hx
theorem ns_not_cell {a : Addr} {m : Str → Option Value} {v : Option Value} (x : h.Ns a m) : ¬ h.IsCell a v := fun y => by
  obtain ⟨o, es, ep, ho, hd, _⟩ := x
  obtain ⟨o', e', hd'⟩ := y
  rw [ho] at e'
  cases e'
  rw [hd] at hd'
  cases hd'
variable {target iter elt : PySem.Expr} {ifs : List PySem.Expr} {scope : Scope} {cl' : List (Str × Addr)} {pos spos py : Pos} {ds : List D} {p : D → Bool} {f : D → D} {bind : D → List (Str × D)} {fr : List (Str × D)} {y : Str}
/-- a name gets a made list -/
theorem tr_assign_comp (hE : EnvOk env L cl) (hsrc : Src w A av (Vs w av K L cl l) (eval iter env) target ds) (hz : ds.length ≤ 16777216) (hclos : closureFor scope env = pure cl') (hcell : ∀ y ∈ scope.names, y.2 ≠ .cell) (hkind : scope.kind = .function)
    (hnames : ∀ y ∈ scope.names, y.2 = .local → scope.names.lookup y.1 = some .local) (hcs : ∀ h, Vs w av K L cl l h → ∀ x c, cl'.lookup x = some c → ∃ v, h.IsCell c v) (hfr : ∀ h, Vs w av K L cl l h → ∀ x d, fr.lookup x = some d → ∃ c v, cl'.lookup x = some c ∧ h.IsCell c (some v) ∧ Den av h v d) (KO : CompOk w A env target ifs elt scope cl' ds p f bind fr)
    (hy : env.kindOf y = some .local) (hyc : cl.lookup y = none) (hsw : swapsWith (.ListComp elt [⟨target, iter, ifs, 0⟩] scope pos) (some (.Name y py)) spos.line env = pure true) (hs : ∀ x, foldedSetIterable iter env x = pure x) :
    Tr w A (Vs w av K L cl l) (exec (.Assign [.Name y py] (.ListComp elt [⟨target, iter, ifs, 0⟩] scope pos) spos) env) (fun fl h => fl = .next ∧ Vs w av K L cl ((y, .list ((ds.filter p).map f)) :: l) h) := .mk fun s Q E c q => by
  rw [exec_Assign_Name_used _ _ _ _ hsw]
  refine wpAny_bind (wpAny_standAt (wpAny_bind ?_))
  show wpAny _ A (do let _ ← comprehension (.ListComp elt [⟨target, iter, ifs, 0⟩] scope pos) scope env _ (newList []) false (eval iter env) (some (assign (.Name y py) env))) _ _ s
  refine wpAny_bind (wpAny_mono (wpAny_comprehension_free (use := some (assign (.Name y py) env)) (Q := fun _ s' => Q .next s') rfl hs hclos hkind hnames (hsrc.run s _ E c fun h₁ h₂ tk I St k1 k2 hI1 _ W st => ?_))
    (fun _ s' hq => wpAny_pure (wpAny_pure hq)) fun _ _ e => e)
  have inn : Inn av h₁ := fun a ha => (c.inn a ha).imp fun o e => k1 a o e
  refine comp_block (RR := fun acc C => compPost (MW w) A E (some (assign (.Name y py) env)) _ acc C) (W [] fun a q => nomatch q) st k2 inn (c.base.keeps k1) hz hI1 hcell hkind (fun x cc e => (hcs _ c x cc e).imp fun v y => isCell_at y fun o e => k1 _ o e) (fun x d hx => ?_) KO ?_
  · obtain ⟨cc, v, hc, hv, dv⟩ := hfr _ c x d hx
    exact ⟨cc, v, hc, isCell_at hv fun o e => k1 _ o e, dv.mono fun b o _ e => k1 b o e⟩
  · intro Dl Cc h' tk' m' ys hD hC' hDC hn hl hF hk
    have keep : ∀ b o, s.heap.get? b = some o → h'.get? b = some o := fun b o e => by
      have e1 := k1 b o e
      have e2 := k2 b o e1
      exact hk b o (fun q => by rw [q] at e1; exact absurd (Heap.lt_size e1) (Nat.not_lt.mpr hI1)) e2
    have hCs : s.heap.get? Cc = none := by
      cases e : s.heap.get? Cc with
      | none => rfl
      | some o => have := k2 _ o (k1 _ o e); exact (by cases this.symm.trans hC')
    have hDs : s.heap.get? Dl = none := by
      cases e : s.heap.get? Dl with
      | none => rfl
      | some o => have := k2 _ o (k1 _ o e); exact (by cases this.symm.trans hD)
    have hCo : ∃ o, h'.get? Cc = some o := by obtain ⟨o, _, _, ho, _⟩ := hn; exact ⟨o, ho⟩
    have c' : Vs w (Cc :: av) K L cl l h' := c.hide keep hCs hCo
    have hCL : Cc ≠ L := by
      rintro rfl
      obtain ⟨m, hm, _⟩ := c.vars
      obtain ⟨o, _, _, ho, _⟩ := hm
      rw [hCs] at ho
      cases ho
    have hav : Cc ∉ av := fun q => by obtain ⟨o, e⟩ := c.inn Cc q; rw [hCs] at e; cases e
    have hC0 : K Cc = none := by
      cases e : K Cc with
      | none => rfl
      | some o => have := c.old _ o e; rw [hCs] at this; cases this
    have dl : Den (Cc :: av) h' (.ref Dl) (.list ((ds.filter p).map f)) := .list Dl ys _ hl (fun q => by
      rcases List.mem_cons.mp q with q | q
      · exact hDC q
      · obtain ⟨o, e⟩ := c.inn Dl q; rw [hDs] at e; cases e) (hF.avoid fun a q => .inl (by
      rcases List.mem_cons.mp q with q | q
      · simp [q]
      · simp [q]))
    show wpAny _ A (assign (.Name y py) env (.ref Dl)) _ _ _
    refine wpAny_assign_Name (vs_store hE c' dl hy hyc fun h'' tk'' z up => ?_)
    refine ⟨m', hn.at' fun o e => up _ o hCL e, fun h3 hs3 => ?_⟩
    exact q .next h3 tk'' ⟨rfl, z.bare (fun b o hb e => hs3.extBut b o hb e) hC0 hCL (fun x v _ => ns_not_cell (hn.at' fun o e => up _ o hCL e)) hav⟩
end
end
end Mine

open PySem PySem.W PyProof.Rows PySem.Calls
set_option Elab.async false
set_option maxRecDepth 100000
set_option maxHeartbeats 400000
set_option linter.unusedVariables false
namespace Mine
noncomputable section
section
variable {w : World} {A : Around} {av : List Addr} {env : Env}
theorem asg_name {x : Str} {p : Pos} {d : D} (hk : env.kindOf x = some .local) (hp : env.scope.kind = .function) : AsgOk w A (.Name x p) env d [(x, d)] := .mk fun s v m av Q E dv hn q =>
  wpAny_assign_Name (wpAny_storeName_local hk hn (fun h' hn' hs => q h' _ _ hn' (fun b o hb e => hs.extBut b o hb e) (fun y e hy => by
    rw [List.lookup_cons] at hy
    cases hyx : y == x with
    | true =>
      rw [hyx] at hy
      cases hy
      exact ⟨v, by simp [beq_iff_eq.mp hyx], dv⟩
    | false => rw [hyx] at hy; cases hy) fun y hy => by
    rw [List.lookup_cons] at hy
    cases hyx : y == x with
    | true => rw [hyx] at hy; cases hy
    | false => simp [beq_eq_false_iff_ne.mp hyx]) (by rw [hp]; rfl))
theorem asg_order (hp : env.scope.kind = .function) : ∀ (ns : List (Str × Pos)) (vs : List Value) (s : Shared) (m : Str → Option Value) (Q : Unit → Shared → Prop) (E : Value → Shared → Prop), (∀ n ∈ ns, env.kindOf n.1 = some .local) → (ns.map (·.1)).Nodup → ns.length = vs.length → s.heap.Ns env.locals m →
    (∀ h' tk m', h'.Ns env.locals m' → (∀ b o, b ≠ env.locals → s.heap.get? b = some o → h'.get? b = some o) → (∀ x u, ((ns.map (·.1)).zip vs).lookup x = some u → m' x = some u) → (∀ x, ((ns.map (·.1)).zip vs).lookup x = none → m' x = m x) → Q () { s with heap := h', toks := tk }) →
    wpAny (MW w) A (assignInOrder (ns.map fun n => assign (.Name n.1 n.2) env) vs) Q E s
  | [], [], s, m, Q, E, _, _, _, hn, q => assignInOrder_nil (q s.heap s.toks m hn (fun _ _ _ e => e) (fun _ _ h => by cases h) fun _ _ => rfl)
  | [], _ :: _, _, _, _, _, _, _, e, _, _ => by simp at e
  | _ :: _, [], _, _, _, _, _, _, e, _, _ => by simp at e
  | n :: ns, v :: vs, s, m, Q, E, hk, hd, hl, hn, q => by
    rw [List.map_cons, List.nodup_cons] at hd
    refine assignInOrder_cons (wpAny_assign_Name (wpAny_storeName_local (hk n List.mem_cons_self) hn (fun h₁ hn₁ hs₁ => ?_) (by rw [hp]; rfl)))
    refine asg_order hp ns vs _ _ Q E (fun z hz => hk z (List.mem_cons_of_mem _ hz)) hd.2 (by simpa using hl) hn₁ fun h' tk m' hn' k a b => ?_
    refine q h' tk m' hn' (fun b o hb e => k b o hb (hs₁.extBut b o hb e)) (fun x u hx => ?_) fun x hx => ?_
    · rw [List.map_cons, List.zip_cons_cons, List.lookup_cons] at hx
      cases hxn : x == n.1 with
      | true =>
        rw [hxn] at hx
        cases hx
        have e := beq_iff_eq.mp hxn
        have hno : ((ns.map (·.1)).zip vs).lookup x = none := by
          rw [List.lookup_eq_none_iff]
          intro p hpz
          have := (List.of_mem_zip hpz).1
          rw [bne_iff_ne]
          rintro h
          exact hd.1 (by rw [← e, h]; exact this)
        rw [b x hno]
        simp [e]
      | false => rw [hxn] at hx; exact a x u hx
    · rw [List.map_cons, List.zip_cons_cons, List.lookup_cons] at hx
      cases hxn : x == n.1 with
      | true => rw [hxn] at hx; cases hx
      | false =>
        rw [hxn] at hx
        rw [b x hx]
        simp [beq_eq_false_iff_ne.mp hxn]
theorem lookup_den {h : Heap} {x : Str} {e : D} : ∀ {ns : List Str} {vs : List Value} {ds : List D}, DenL av h vs ds → (ns.zip ds).lookup x = some e → ∃ u, (ns.zip vs).lookup x = some u ∧ Den av h u e
  | [], _, _, _, q => by simp at q
  | n :: ns, _, _, .nil, q => by simp at q
  | n :: ns, _, _, .cons (v := v) a b, q => by
    rw [List.zip_cons_cons, List.lookup_cons] at q ⊢
    cases hxn : x == n with
    | true => rw [hxn] at q; cases q; exact ⟨v, rfl, a⟩
    | false => rw [hxn] at q; exact lookup_den b q
theorem lookup_non {x : Str} : ∀ {ns : List Str} {vs : List Value} {ds : List D}, vs.length = ds.length → (ns.zip ds).lookup x = none → (ns.zip vs).lookup x = none
  | [], _, _, _, q => by simp
  | n :: ns, [], _, _, q => by simp
  | n :: ns, v :: vs, [], e, q => by simp at e
  | n :: ns, v :: vs, d :: ds, e, q => by
    rw [List.zip_cons_cons, List.lookup_cons] at q ⊢
    cases hxn : x == n with
    | true => rw [hxn] at q; cases q
    | false => rw [hxn] at q; exact lookup_non (by simpa using e) q
/-- several names take a list's items -/
theorem asg_list {ns : List (Str × Pos)} {k : Nat} {p : Pos} {ds : List D} (hh : A.handled = none) (hp : env.scope.kind = .function) (hk : ∀ n ∈ ns, env.kindOf n.1 = some .local) (hd : (ns.map (·.1)).Nodup) (hl : ns.length = ds.length)
    (he : assignEach (ns.map fun n => .Name n.1 n.2) env = ns.map fun n => (false, assign (.Name n.1 n.2) env)) : AsgOk w A (.Tuple (ns.map fun n => .Name n.1 n.2) k p) env (.list ds) ((ns.map (·.1)).zip ds) := .mk fun s v m av Q E dv hn q => by
  cases dv with | list a vs _ hl' _ dl =>
  have e := dl.len
  rw [Array.length_toList] at e
  rw [PyProof.Rows.assign_Tuple]
  refine wpAny_bind (wpAny_standAt ?_)
  unfold unpack
  have h1 : (assignEach (ns.map fun n => PySem.Expr.Name n.1 n.2) env).length = vs.size := by rw [he, List.length_map, hl, e]
  have h2 : (assignEach (ns.map fun n => PySem.Expr.Name n.1 n.2) env).findIdx? (·.1) = none := by rw [he, List.findIdx?_eq_none_iff]; simp
  have h3 : (assignEach (ns.map fun n => PySem.Expr.Name n.1 n.2) env).map (·.2) = ns.map fun n => assign (.Name n.1 n.2) env := by rw [he, List.map_map]; rfl
  rw [h1, h2, h3]
  refine wpAny_bind (wpAny_holding (kun_itemsOf hh hl' fun h₁ he₁ => ?_))
  have hL : env.locals ≠ s.heap.objs.size := Nat.ne_of_lt hn.lt
  refine asg_order hp ns vs.toList _ m Q E hk hd (hl.trans (by rw [Array.length_toList]; exact e.symm)) (hn.at' fun o e => he₁ _ o hL e) fun h' tk m' hn' kk a b => ?_
  refine q h' tk m' hn' (fun b o hb e => kk b o hb (he₁ b o (Nat.ne_of_lt (Heap.lt_size e)) e)) (fun x e' hx => ?_) fun x hx => b x (lookup_non dl.len hx)
  obtain ⟨u, hu, du⟩ := lookup_den dl hx
  exact ⟨u, a x u hu, du⟩
theorem asg_tup {ns : List (Str × Pos)} {k : Nat} {p : Pos} {ds : List D} (hh : A.handled = none) (hp : env.scope.kind = .function) (hk : ∀ n ∈ ns, env.kindOf n.1 = some .local) (hd : (ns.map (·.1)).Nodup) (hl : ns.length = ds.length)
    (he : assignEach (ns.map fun n => .Name n.1 n.2) env = ns.map fun n => (false, assign (.Name n.1 n.2) env)) : AsgOk w A (.Tuple (ns.map fun n => .Name n.1 n.2) k p) env (.tup ds) ((ns.map (·.1)).zip ds) := .mk fun s v m av Q E dv hn q => by
  cases dv with | tup a vs _ hl' _ dl =>
  have e := dl.len
  rw [Array.length_toList] at e
  rw [PyProof.Rows.assign_Tuple]
  refine wpAny_bind (wpAny_standAt ?_)
  unfold unpack
  have h1 : (assignEach (ns.map fun n => PySem.Expr.Name n.1 n.2) env).length = vs.size := by rw [he, List.length_map, hl, e]
  have h2 : (assignEach (ns.map fun n => PySem.Expr.Name n.1 n.2) env).findIdx? (·.1) = none := by rw [he, List.findIdx?_eq_none_iff]; simp
  have h3 : (assignEach (ns.map fun n => PySem.Expr.Name n.1 n.2) env).map (·.2) = ns.map fun n => assign (.Name n.1 n.2) env := by rw [he, List.map_map]; rfl
  rw [h1, h2, h3]
  refine wpAny_bind (wpAny_holding (wpAny_unpackItems_tuple hh hl' fun h₁ he₁ => ?_))
  have hL : env.locals ≠ s.heap.objs.size := Nat.ne_of_lt hn.lt
  refine asg_order hp ns vs.toList _ m Q E hk hd (hl.trans (by rw [Array.length_toList]; exact e.symm)) (hn.at' fun o e => he₁ _ o hL e) fun h' tk m' hn' kk a b => ?_
  refine q h' tk m' hn' (fun b o hb e => kk b o hb (he₁ b o (Nat.ne_of_lt (Heap.lt_size e)) e)) (fun x e' hx => ?_) fun x hx => b x (lookup_non dl.len hx)
  obtain ⟨u, hu, du⟩ := lookup_den dl hx
  exact ⟨u, a x u hu, du⟩
end
end
end Mine

open PySem PySem.W PyProof.Rows PySem.Calls
set_option Elab.async false
set_option maxRecDepth 100000
set_option maxHeartbeats 400000
set_option linter.unusedVariables false
namespace Mine
noncomputable section
/-- the frame's cells are its own and apart -/
structure Own (K : Addr → Option Obj) (L : Addr) (cl : List (Str × Addr)) : Prop where
  apart : cl.Pairwise fun x y => x.2 ≠ y.2
  own : ∀ x c, (x, c) ∈ cl → K c = none ∧ c ≠ L
section
variable {w : World} {A : Around} {av : List Addr} {env : Env} {K : Addr → Option Obj} {L : Addr} {cl : List (Str × Addr)} {l : List (Str × D)} {x : Str} {p p' : Pos} {d : D}
theorem vs_store_cell {s : Shared} {v : Value} {c : Addr} {Q : Unit → Shared → Prop} {E : Value → Shared → Prop} (hE : EnvOk env L cl) (hO : Own K L cl) (z : Vs w av K L cl l s.heap) (dv : Den av s.heap v d) (hk : env.kindOf x = some .cell) (hc : cl.lookup x = some c)
    (q : ∀ h', Vs w av K L cl ((x, d) :: l) h' → Q () { s with heap := h' }) : wpAny (MW w) A (storeName env x v) Q E s := by
  obtain ⟨v₀, hv₀⟩ := z.cells x c hc
  refine wpAny_storeName_cell hE.kind hk (hE.cells ▸ hc) hv₀ fun h' hv hs => ?_
  have up : ∀ b o, b ≠ c → s.heap.get? b = some o → h'.get? b = some o := fun b o hb e => (hs.2 b hb).trans e
  have notc : ∀ vs, ¬ s.heap.IsList c vs ∧ ¬ s.heap.IsTuple c vs := fun vs => by
    obtain ⟨o, ho, hd⟩ := hv₀
    constructor
    · rintro ⟨o', e', _, n, hd'⟩; rw [ho] at e'; cases e'; rw [hd] at hd'; cases hd'
    · rintro ⟨o', e', _, n, hd'⟩; rw [ho] at e'; cases e'; rw [hd] at hd'; cases hd'
  have den : ∀ {u e}, Den av s.heap u e → Den av h' u e := fun z => by
    have z' : Den (c :: av) s.heap _ _ := z.avoid fun a q => (List.mem_cons.mp q).elim (fun e => .inr (e ▸ notc)) .inl
    exact (z'.mono fun b o hb e => up b o (fun q => hb (q ▸ List.mem_cons_self)) e).avoid fun a q => .inl (List.mem_cons_of_mem _ q)
  have oc := hO.own x c (mem_of_lookup hc)
  obtain ⟨m, hn, hm⟩ := z.vars
  refine q h' ⟨z.base₀, fun a ha => ?_, fun b o e => up b o (fun q => by rw [q, oc.1] at e; cases e) (z.old b o e), z.new, fun y cc e => ?_, m, hn.at' fun o e => up _ o (Ne.symm oc.2) e, fun y e hy => ?_⟩
  · obtain ⟨o, e⟩ := z.inn a ha
    by_cases hac : a = c
    · obtain ⟨o', ho', _⟩ := hv; exact ⟨o', hac ▸ ho'⟩
    · exact ⟨o, up a o hac e⟩
  · by_cases hcc : cc = c
    · exact ⟨_, hcc ▸ hv⟩
    · obtain ⟨u, hu⟩ := z.cells y cc e
      exact ⟨u, isCell_at hu fun o eo => up _ o hcc eo⟩
  · rw [List.lookup_cons] at hy
    cases hyx : y == x with
    | true =>
      rw [hyx] at hy
      cases hy
      obtain rfl : y = x := beq_iff_eq.mp hyx
      exact ⟨v, by rw [hc]; exact hv, den dv⟩
    | false =>
      rw [hyx] at hy
      obtain ⟨u, hu, du⟩ := hm y e hy
      refine ⟨u, ?_, den du⟩
      have hne : y ≠ x := beq_eq_false_iff_ne.mp hyx
      cases hcy : cl.lookup y with
      | none => rw [hcy] at hu; exact hu
      | some cc =>
        rw [hcy] at hu
        refine isCell_at hu fun o eo => up _ o (fun q => hne ?_) eo
        exact name_of_addr hO.apart (mem_of_lookup hcy) (q ▸ mem_of_lookup hc)
theorem tr_assign_cell {c : Addr} {e : PySem.Expr} (hE : EnvOk env L cl) (hO : Own K L cl) (he : Ev w A av (Vs w av K L cl l) (eval e env) d) (hk : env.kindOf x = some .cell) (hc : cl.lookup x = some c) (hs : swapsWith e (some (.Name x p')) p.line env = pure false) :
    Tr w A (Vs w av K L cl l) (exec (.Assign [.Name x p'] e p) env) (fun f h => f = .next ∧ Vs w av K L cl ((x, d) :: l) h) := .mk fun s Q E c q =>
  wpAny_Assign_Name (he.run s _ E c fun v s₁ k₁ dv => by
    have c₁ := Vs.stable _ _ (keeps_heap k₁) c
    obtain ⟨h₁, t₁, rfl, _⟩ := k₁
    exact vs_store_cell hE hO c₁ dv hk hc fun h' z => q _ h' _ ⟨rfl, z⟩) hs
/-- a target takes a datum, in a frame -/
theorem vs_asg {target : PySem.Expr} {bs : List (Str × D)} {s : Shared} {v : Value} {Q : Unit → Shared → Prop} {E : Value → Shared → Prop} (hE : EnvOk env L cl) (c : Vs w av K L cl l s.heap) (dv : Den av s.heap v d) (ha : AsgOk w A target env d bs) (hb : ∀ x e, bs.lookup x = some e → cl.lookup x = none)
    (q : ∀ h' tk, Vs w av K L cl (bs ++ l) h' → (∀ b o, b ≠ L → s.heap.get? b = some o → h'.get? b = some o) → Q () { s with heap := h', toks := tk }) : wpAny (MW w) A (assign target env v) Q E s := by
  obtain ⟨m, hn, hm⟩ := c.vars
  refine ha.run s v m av Q E dv (hE.locals ▸ hn) fun h' tk m' hn' up bnd non => ?_
  rw [hE.locals] at hn' up
  have notL : ∀ vs, ¬ s.heap.IsList L vs ∧ ¬ s.heap.IsTuple L vs := fun vs => by
    obtain ⟨o, es, ep, ho, hd, _⟩ := hn
    constructor
    · rintro ⟨o', e', _, n, hd'⟩; rw [ho] at e'; cases e'; rw [hd] at hd'; cases hd'
    · rintro ⟨o', e', _, n, hd'⟩; rw [ho] at e'; cases e'; rw [hd] at hd'; cases hd'
  have den : ∀ {u e}, Den av s.heap u e → Den av h' u e := fun z => by
    have z' : Den (L :: av) s.heap _ _ := z.avoid fun a q => (List.mem_cons.mp q).elim (fun e => .inr (e ▸ notL)) .inl
    exact (z'.mono fun b o hb e => up b o (fun q => hb (q ▸ List.mem_cons_self)) e).avoid fun a q => .inl (List.mem_cons_of_mem _ q)
  have cel : ∀ {cc v}, s.heap.IsCell cc v → h'.IsCell cc v := fun {cc v} hu => isCell_at hu fun o eo => up _ o (by
    rintro rfl
    exact ns_not_cell hn hu) eo
  refine q h' tk ⟨c.base₀, fun a ha => ?_, fun b o e => up b o (by rintro rfl; rw [c.new] at e; cases e) (c.old b o e), c.new, fun y cc e => (c.cells y cc e).imp fun v z => cel z, m', hn', fun y e hy => ?_⟩ up
  · obtain ⟨o, e⟩ := c.inn a ha
    by_cases haL : a = L
    · obtain ⟨o', _, _, ho', _⟩ := hn'; exact ⟨o', haL ▸ ho'⟩
    · exact ⟨o, up a o haL e⟩
  · rw [List.lookup_append] at hy
    cases hbx : bs.lookup y with
    | some e' =>
      rw [hbx] at hy
      cases hy
      obtain ⟨u, hu, du⟩ := bnd y e hbx
      exact ⟨u, by rw [hb y e hbx]; exact hu, den du⟩
    | none =>
      rw [hbx] at hy
      obtain ⟨u, hu, du⟩ := hm y e hy
      refine ⟨u, ?_, den du⟩
      cases hcy : cl.lookup y with
      | some cc => rw [hcy] at hu; exact cel hu
      | none => rw [hcy] at hu; show m' y = some u; rw [non y hbx]; exact hu
theorem tr_assign_tgt {elts : List PySem.Expr} {k : Nat} {tp : Pos} {e : PySem.Expr} {bs : List (Str × D)} (hE : EnvOk env L cl) (he : Ev w A av (Vs w av K L cl l) (eval e env) d) (ha : AsgOk w A (.Tuple elts k tp) env d bs) (hb : ∀ x e, bs.lookup x = some e → cl.lookup x = none)
    (hs : swapsWithSole [.Tuple elts k tp] e p.line env = pure false) (hw : swappedStores [.Tuple elts k tp] e env = pure none) :
    Tr w A (Vs w av K L cl l) (exec (.Assign [.Tuple elts k tp] e p) env) (fun f h => f = .next ∧ Vs w av K L cl (bs ++ l) h) := .mk fun s Q E c q =>
  PyProof.Rows.Assign_Tuple (he.run s _ E c fun v s₁ k₁ dv => by
    have c₁ := Vs.stable _ _ (keeps_heap k₁) c
    obtain ⟨h₁, t₁, rfl, _⟩ := k₁
    exact vs_asg hE c₁ dv ha hb fun h' tk z _ => q _ h' tk ⟨rfl, z⟩) hs hw
end
end
end Mine

open PySem PySem.W PyProof.Rows PySem.Calls
set_option Elab.async false
set_option maxRecDepth 100000
set_option maxHeartbeats 400000
set_option linter.unusedVariables false
namespace Mine
noncomputable section
section
variable {w : World} {A : Around} {av : List Addr} {env : Env} {K : Addr → Option Obj} {L : Addr} {cl : List (Str × Addr)} {l : List (Str × D)} {x : Str} {p p' : Pos} {d : D}
/-- a def of one parameter, with cells, from its body -/
theorem call_bodyC {f cd : Addr} {name : Str} {params : Arguments} {body : List PySem.Stmt} {scope : Scope} {pm doc : Value} {dx : D} {C : HP} {co : Obj} {cvs : Array Value} {ct : Tok} (hB : ∀ h, C h → Base w h) (hI : ∀ h, C h → Inn av h) (hA : A.depth < 1000)
    (ho : (KF w.params).lookup f = some ⟨.type "function", none, .func (docDef name params body scope pm (.ref cd) doc), #[]⟩)
    (hco : (KF w.params).lookup cd = some co) (hcd : co.data = .fields cvs) (hc1 : cvs[1]? = some (.str name ct))
    (hbind : ∀ v, bindArgs (docDef name params body scope pm (.ref cd) doc) ⟨[v], []⟩ = pure [(x, v)])
    (hx : ∀ L, (scope.names.lookup x = some .local ∧ (cellsFrom (L + 1) scope.names []).lookup x = none) ∨ (scope.names.lookup x = some .cell ∧ ((cellsFrom (L + 1) scope.names []).lookup x).isSome = true))
    (hbody : ∀ K L, Own K L (cellsFrom (L + 1) scope.names []) → Tr w (A.deeper (envOfC name scope L f (.ref cd))) (Vs w av K L (cellsFrom (L + 1) scope.names []) [(x, dx)]) (execs body (envOfC name scope L f (.ref cd))) (fun fl h => ∃ v, fl = .ret v ∧ Den av h v d ∧ ∀ b o, K b = some o → h.get? b = some o))
    (h1 : scope.isCoroutine = false) (h2 : scope.isGenerator = false) (h3 : scope.kind = .function) : CallOk w A av C (.ref f) [dx] d := .mk fun s vs Q E c dvs q => by
  obtain ⟨v, rfl, dv⟩ := den1 dvs
  have B := hB _ c
  obtain ⟨mg, mb, t⟩ := B.t
  refine wpAny_call (call_cells_ret (binds := [(x, v)]) hA (B.k _ _ ho) rfl t.nolimit ⟨cd, co, cvs, ct, rfl, B.k _ _ hco, hcd, hc1⟩ (hbind v) (fun y hy => by rw [List.mem_singleton.mp hy]; exact (hx _).imp (fun z => z.1) fun z => z) (fun h₁ tk F X => ?_) h1 h2 h3)
  have hge : ∀ n cc, (n, cc) ∈ cellsFrom (s.heap.objs.size + 1) scope.names [] → s.heap.objs.size < cc := X.above
  refine (hbody s.heap.get? s.heap.objs.size ⟨X.apart, fun y cc hm => ⟨Heap.get?_none_of_le (Nat.le_of_lt (hge y cc hm)), Nat.ne_of_gt (hge y cc hm)⟩⟩).run _ _ _ ⟨⟨_, B, fun _ _ e => e⟩, fun a ha => (hI _ c a ha).imp fun o e => F.keep a o e, F.keep, Heap.get?_none_of_le (Nat.le_refl _), fun z c e => ⟨_, X.cell z c e⟩, _, F.ns, fun y e hy => ?_⟩ (fun fl h' tk z => ?_)
  · rw [List.lookup_cons] at hy
    cases hyx : y == x with
    | false => rw [hyx] at hy; cases hy
    | true =>
      rw [hyx] at hy
      cases hy
      obtain rfl : y = x := beq_iff_eq.mp hyx
      refine ⟨v, ?_, dv.mono fun b o _ e => F.keep b o e⟩
      rcases hx s.heap.objs.size with ⟨h4, h5⟩ | ⟨h4, h5⟩
      · rw [h5]
        have h4' : (envOfC name scope s.heap.objs.size f (.ref cd)).kindOf y = some .local := h4
        show bindL _ [(y, v)] (fun _ => none) y = some v
        simp only [bindL, h4', if_true]
      · obtain ⟨cc, hcc⟩ := Option.isSome_iff_exists.mp h5
        rw [hcc]
        have z := X.cell y cc hcc
        have h4' : (envOfC name scope s.heap.objs.size f (.ref cd)).kindOf y = some .cell := h4
        have e : bindC (envOfC name scope s.heap.objs.size f (.ref cd)).kindOf [(y, v)] (fun _ => none) y = some v := by
          simp [bindC, h4']
        rw [e] at z
        exact z
  · obtain ⟨u, rfl, du, kp⟩ := z
    exact q u _ ⟨h', tk, rfl, kp⟩ du
/-- what is kept in a loop: all that stood, but the iterator and ch -/
noncomputable def Kept (h : Heap) (ch : List Addr) : Addr → Option Obj := fun b => if b ∈ ch then none else h.get? b
theorem kept_some {h : Heap} {ch : List Addr} {b : Addr} {o : Obj} : Kept h ch b = some o ↔ b ∉ ch ∧ h.get? b = some o := by
  unfold Kept
  split
  · rename_i q; simp [q]
  · rename_i q; simp [q]
variable {iter target : PySem.Expr} {body : List PySem.Stmt} {ds : List D} {P : HP} {R : Flow → HP}
/-- a loop's state: ahead of the turn i, with hidden addresses and kept objects; ch may change -/
structure LoopS (w : World) (A : Around) (av : List Addr) (K : Addr → Option Obj) (ch : List Addr) (P : HP) (S : Nat → List Addr → (Addr → Option Obj) → HP) : Prop where
  chs : ∀ (h h' : Heap), P h → (∀ b o, h.get? b = some o → h'.get? b = some o) → ∀ a ∈ ch, a ∈ av ∨ ∀ vs, ¬ h'.IsList a vs ∧ ¬ h'.IsTuple a vs
  at' : ∀ (h : Heap) (a : Addr), P h → a ∈ ch → ∃ o, h.get? a = some o
  inn : ∀ h : Heap, P h → Inn av h
  kept : ∀ h : Heap, P h → (∀ b o, K b = some o → h.get? b = some o) ∧ ∀ a ∈ ch, K a = none
  start : ∀ (h h' : Heap) (I : Addr), P h → (∀ b o, h.get? b = some o → h'.get? b = some o) → h.get? I = none → (∃ o, h'.get? I = some o) → S 0 (I :: av) K h'
  keep : ∀ i av' K' (h : Heap), S i av' K' h → ∀ b o, K' b = some o → h.get? b = some o
  up : ∀ i av' (K' K'' : Addr → Option Obj) (h : Heap), S i av' K' h → (∀ b o, K' b = some o → K'' b = some o) → (∀ b o, K'' b = some o → h.get? b = some o) → (∀ a ∈ ch, K'' a = none) → S i av' K'' h
  down : ∀ i av' (K' : Addr → Option Obj) (h : Heap), (∃ hp, P hp) → S i av' K' h → (∀ b o, K b = some o → K' b = some o) → S i av' K h
  hid : ∀ i I (h h' : Heap), (∃ hp : Heap, P hp ∧ hp.get? I = none) → S i (I :: av) K h → (∀ b o, b ≠ I → h.get? b = some o → h'.get? b = some o) → (∃ o, h'.get? I = some o) → S i (I :: av) K h'
theorem tr_for {S : Nat → List Addr → (Addr → Option Obj) → HP} {ch : List Addr} (hsrc : Src w A av P (eval iter env) target ds) (H : LoopS w A av K ch P S)
    (step : ∀ i d, ds[i]? = some d → ∀ I K' (s : Shared) (v : Value) (Q : Flow → Shared → Prop) (E : Value → Shared → Prop), S i (I :: av) K' s.heap → Den (I :: av) s.heap v d →
      (∀ h' tk, S (i + 1) (I :: av) K' h' → Q .next { s with heap := h', toks := tk }) → wpAny (MW w) A (assign target env v) (fun _ s₂ => wpAny (MW w) A (execs body env) Q E s₂) E s)
    (fin : ∀ (h h3 h4 : Heap) I, P h → h.get? I = none → S ds.length (I :: av) K h3 → (∀ b o, b ≠ I → h3.get? b = some o → h4.get? b = some o) → R .next h4)
    (hs : ∀ x, foldedSetIterable iter env x = pure x) : Tr w A P (exec (.For target iter body [] p) env) R := .mk fun s Q E c q => by
  refine wpAny_For (hsrc.run s _ E c fun h₁ h₂ tk I St k1 k2 hI1 hI2 W st => ?_) hs
  have hK := H.kept _ c
  have kk : ∀ b o, s.heap.get? b = some o → h₂.get? b = some o := fun b o e => k2 b o (k1 b o e)
  have hIs : s.heap.get? I = none := by
    cases e : s.heap.get? I with
    | none => rfl
    | some o => exact absurd (Heap.lt_size (k1 _ o e)) (Nat.not_lt.mpr hI1)
  have hIch : I ∉ ch := fun q => by obtain ⟨o, e⟩ := H.at' _ _ c q; rw [hIs] at e; cases e
  have W := W ch (H.chs _ _ c k1)
  have lo : ∀ {b o}, h₁.get? b = some o → b ≠ I := fun {b o} e => by rintro rfl; exact absurd (Heap.lt_size e) (Nat.not_lt.mpr hI1)
  refine codeAny_forLoop_any
    (fun k s' => ∃ h' tk i, s' = { s with heap := h', toks := tk } ∧ St i h' ∧ S i (I :: av) K h' ∧ (∀ b o, b ∉ ch → h₁.get? b = some o → h'.get? b = some o) ∧ i ≤ ds.length ∧ k = ds.length + 1 - i) ?_ (ds.length + 1)
    ⟨h₂, tk, 0, rfl, st, H.start _ _ I c kk hIs hI2, fun b o _ e => k2 b o e, Nat.zero_le _, rfl⟩
  rintro k s' ⟨h', tk', i, rfl, st', hS, hk, hi, rfl⟩
  by_cases hlt : i < ds.length
  · refine W.item i _ _ _ hlt st' fun v h3 tk3 d hd dv st3 k3 => ?_
    refine W.go _ _ _ _ _ st3 ?_
    have hS3 := H.hid i I _ _ ⟨_, c, hIs⟩ hS k3 (W.here _ _ st3)
    have hk3 : ∀ b o, b ∉ ch → h₁.get? b = some o → h3.get? b = some o := fun b o hb e => k3 b o (lo e) (hk b o hb e)
    have hS4 : S i (I :: av) (Kept h3 ch) h3 := H.up _ _ _ _ _ hS3 (fun b o e => kept_some.mpr ⟨fun q => (by rw [hK.2 b q] at e; cases e), H.keep _ _ _ _ hS3 b o e⟩) (fun b o e => (kept_some.mp e).2) fun a ha => by unfold Kept; rw [if_pos ha]
    have dv3 : Den (I :: av) h3 v d := by
      have d1 : Den (I :: (ch ++ av)) h₁ v d := dv.avoid fun a q => by
        rcases List.mem_cons.mp q with rfl | q
        · exact .inr fun vs => ⟨fun ⟨o, e, _⟩ => lo e rfl, fun ⟨o, e, _⟩ => lo e rfl⟩
        · rcases List.mem_append.mp q with q | q
          · exact H.chs _ _ c k1 a q
          · exact .inl q
      exact (d1.mono fun b o hb e => hk3 b o (fun q => hb (by simp [q])) e).avoid fun a q => .inl (by
        rcases List.mem_cons.mp q with rfl | q
        · simp
        · simp [q])
    refine step i d hd I _ _ v _ _ hS4 dv3 fun h5 tk5 hS5 => ?_
    have kp := H.keep _ _ _ _ hS5
    refine ⟨ds.length + 1 - (i + 1), by omega, h5, tk5, i + 1, rfl, ?_, H.down _ _ _ _ ⟨_, c⟩ hS5 (fun b o e => kept_some.mpr ⟨fun q => (by rw [hK.2 b q] at e; cases e), H.keep _ _ _ _ hS3 b o e⟩), fun b o hb e => kp b o (kept_some.mpr ⟨hb, hk3 b o hb e⟩), hlt, rfl⟩
    exact W.frame _ _ _ st3 (fun o e => kp _ o (kept_some.mpr ⟨hIch, e⟩)) fun b o hb e => kp b o (kept_some.mpr ⟨hb, hk3 b o hb e⟩)
  · have hin : i = ds.length := Nat.le_antisymm hi (Nat.not_lt.mp hlt)
    subst hin
    refine W.done _ _ _ st' fun h3 tk3 k3 => wpAny_execs_nil ?_
    exact q .next h3 tk3 (fin _ _ _ I c hIs hS k3)
end
end
end Mine

open PySem PySem.W PyProof.Rows PySem.Calls
set_option Elab.async false
set_option maxRecDepth 100000
set_option maxHeartbeats 400000
set_option linter.unusedVariables false
namespace Mine
noncomputable section
section
variable {w : World} {A : Around} {av : List Addr} {env : Env} {K : Addr → Option Obj} {L : Addr} {cl : List (Str × Addr)} {l l' : List (Str × D)} {x : Str} {p : Pos} {d : D} {P : HP} {whole : Sem Value} {b c : Bool}
theorem tst_cmpB {l' r : PySem.Expr} {op : CmpOp} {a e : D} (hP : Stable P) (hl : Ev w A av P (eval l' env) a) (hr : Ev w A av P (eval r env) e) (ho : CmpB w A av P op a e b) (hm : behindInMarks op r = false) : Tst w A P (isTrue (.Compare l' [op] [r] p) env whole) b :=
  tst_cmp hP hl hr (fun s u v Q E c du dv q => ho.run s u v Q E c du dv fun s' k => q s' k) hm
theorem ev_cmpB {l' r : PySem.Expr} {op : CmpOp} {a e : D} (hP : Stable P) (hl : Ev w A av P (eval l' env) a) (hr : Ev w A av P (eval r env) e) (ho : CmpB w A av P op a e b) (hm : behindInMarks op r = false) : Ev w A av P (eval (.Compare l' [op] [r] p) env) (.val (.bool b)) :=
  ev_cmp hP hl hr (fun s u v Q E c du dv q => ho.run s u v Q E c du dv fun s' k => q _ s' k (.val _)) hm
theorem ev_binB {l' r : PySem.Expr} {op : Operator} {a e : D} (hP : Stable P) (hl : Ev w A av P (eval l' env) a) (hr : Ev w A av P (eval r env) e) (ho : BinOk w A av P op a e d) : Ev w A av P (eval (.BinOp l' op r p) env) d := ev_bin hP hl hr ho.run
theorem tst_plain {e : PySem.Expr} (he : Ev w A av P whole (.val (.bool b))) (hp : isTrue e env whole = (do let v ← whole; standAt e.pos; holding [v] (truthy v))) : Tst w A P (isTrue e env whole) b :=
  tst_val he fun h => isTrue_plain h hp
theorem tst_not {e : PySem.Expr} (ht : Tst w A P (isTrue e env (eval e env)) b) : Tst w A P (isTrue (.UnaryOp .Not e p) env whole) (!b) := .mk fun s Q E c q => isTrue_not (ht.run s _ E c q)
theorem tst_or2 {e f : PySem.Expr} (hP : Stable P) (h1 : Tst w A P (isTrue e env (eval e env)) b) (h2 : b = false → Tst w A P (isTrue f env (eval f env)) c) : Tst w A P (isTrue (.BoolOp .Or [e, f] p) env whole) (b || c) := .mk fun s Q E z q =>
  PyProof.Rows.isTrue_or (h1.run s _ E z fun s₁ k₁ => by
    cases b
    · simp only [Bool.false_eq_true, if_false]
      refine PyProof.Rows.isTrue_or ((h2 rfl).run s₁ _ E (hP _ _ (keeps_heap k₁) z) fun s₂ k₂ => ?_)
      cases c
      · simp only [Bool.false_eq_true, if_false]
        exact isTrue_or_nil (q s₂ (keeps_trans k₁ k₂))
      · exact q s₂ (keeps_trans k₁ k₂)
    · exact q s₁ k₁)
theorem tst_and2 {e f : PySem.Expr} (hP : Stable P) (h1 : Tst w A P (isTrue e env (eval e env)) b) (h2 : b = true → Tst w A P (isTrue f env (eval f env)) c) : Tst w A P (isTrue (.BoolOp .And [e, f] p) env whole) (b && c) := .mk fun s Q E z q =>
  PyProof.Rows.isTrue_and (h1.run s _ E z fun s₁ k₁ => by
    cases b
    · exact q s₁ k₁
    · simp only [if_true]
      refine PyProof.Rows.isTrue_and ((h2 rfl).run s₁ _ E (hP _ _ (keeps_heap k₁) z) fun s₂ k₂ => ?_)
      cases c
      · exact q s₂ (keeps_trans k₁ k₂)
      · simp only [if_true]
        exact isTrue_and_nil (q s₂ (keeps_trans k₁ k₂)))
theorem ev_ifexp {t e f : PySem.Expr} (hP : Stable P) (ht : Tst w A P (isTrue t env (eval t env)) b) (he : b = true → Ev w A av P (eval e env) d) (hf : b = false → Ev w A av P (eval f env) d) : Ev w A av P (eval (.IfExp t e f p) env) d := .mk fun s Q E z q =>
  wpAny_IfExp (ht.run s _ E z fun s₁ k₁ => by
    cases b
    · exact (hf rfl).run s₁ _ E (hP _ _ (keeps_heap k₁) z) fun v s₂ k₂ dv => q v s₂ (keeps_trans k₁ k₂) dv
    · exact (he rfl).run s₁ _ E (hP _ _ (keeps_heap k₁) z) fun v s₂ k₂ dv => q v s₂ (keeps_trans k₁ k₂) dv)
theorem tests_nil : TestsOk w A P (testsOf [] env) true := .mk fun s Q E z q => wpAny_tests_nil (q s (keeps_refl s))
theorem tests_one {e : PySem.Expr} (ht : Tst w A P (isTrue e env (eval e env)) b) : TestsOk w A P (testsOf [e] env) b := .mk fun s Q E z q => wpAny_tests_one (ht.run s _ E z q)
/-- fewer names -/
theorem Vs.sub {h : Heap} (x : Vs w av K L cl l h) (k : ∀ y e, l'.lookup y = some e → l.lookup y = some e) : Vs w av K L cl l' h :=
  ⟨x.base₀, x.inn, x.old, x.new, x.cells, let ⟨m, hm, hv⟩ := x.vars; ⟨m, hm, fun y e q => hv y e (k y e q)⟩⟩
theorem Vs.less {h : Heap} {av' : List Addr} (x : Vs w av K L cl l h) (k : ∀ a ∈ av', a ∈ av) : Vs w av' K L cl l h :=
  ⟨x.base₀, fun a q => x.inn a (k a q), x.old, x.new, x.cells, let ⟨m, hm, hv⟩ := x.vars; ⟨m, hm, fun y e q => let ⟨v, a, b⟩ := hv y e q; ⟨v, a, b.avoid fun a q => .inl (k a q)⟩⟩⟩
theorem Vs.rekey {h : Heap} {K' : Addr → Option Obj} (x : Vs w av K L cl l h) (hb : ∃ hb, Base w hb ∧ ∀ b o, hb.get? b = some o → K' b = some o) (ho : ∀ b o, K' b = some o → h.get? b = some o) (hn : K' L = none) : Vs w av K' L cl l h :=
  ⟨hb, x.inn, ho, hn, x.cells, x.vars⟩
theorem Vs.lc {h : Heap} {a : Addr} (x : Vs w av K L cl l h) (ha : h.get? a = none) : a ≠ L ∧ ∀ z c, cl.lookup z = some c → c ≠ a := by
  obtain ⟨m, hm, _⟩ := x.vars
  refine ⟨?_, fun z c e q => ?_⟩
  · rintro rfl
    obtain ⟨o, _, _, ho, _⟩ := hm
    rw [ha] at ho
    cases ho
  · obtain ⟨v, o, ho, _⟩ := x.cells z c e
    rw [q, ha] at ho
    cases ho
/-- a hidden address changes, and stays hidden -/
theorem Vs.turn {h h' : Heap} {a : Addr} (x : Vs w (a :: av) K L cl l h) (k : ∀ b o, b ≠ a → h.get? b = some o → h'.get? b = some o) (hs : ∃ o, h'.get? a = some o) (ha : K a = none) (hl : a ≠ L ∧ ∀ z c, cl.lookup z = some c → c ≠ a) : Vs w (a :: av) K L cl l h' := by
  obtain ⟨m, hm, hv⟩ := x.vars
  refine ⟨x.base₀, fun b q => ?_, fun b o e => k b o (fun q => by rw [q, ha] at e; cases e) (x.old b o e), x.new, fun z c e => (x.cells z c e).imp fun v y => isCell_at y fun o eo => k _ o (hl.2 z c e) eo, m, hm.at' fun o e => k _ o (Ne.symm hl.1) e, fun z e hz => ?_⟩
  · by_cases e : b = a
    · exact e ▸ hs
    · obtain ⟨o, ho⟩ := x.inn b q
      exact ⟨o, k b o e ho⟩
  · obtain ⟨v, hx, dv⟩ := hv z e hz
    refine ⟨v, ?_, dv.mono fun b o hb e => k b o (fun q => hb (q ▸ List.mem_cons_self)) e⟩
    cases hc : cl.lookup z with
    | some c => rw [hc] at hx; exact isCell_at hx fun o eo => k _ o (hl.2 z c hc) eo
    | none => rw [hc] at hx; exact hx
theorem loop_vs {J : Nat → List (Str × D)} (h0 : ∀ y e, (J 0).lookup y = some e → l.lookup y = some e) : LoopS w A av K [L] (Vs w av K L cl l) (fun i av' K' => Vs w av' K' L cl (J i)) where
  chs := fun h h' z k a ha => by
    rw [List.mem_singleton.mp ha]
    obtain ⟨m, hm, _⟩ := z.vars
    obtain ⟨o, es, ep, ho, hd, _⟩ := hm
    have ho' := k _ _ ho
    refine .inr fun vs => ⟨?_, ?_⟩
    · rintro ⟨o', e', _, n, hd'⟩; rw [ho'] at e'; cases e'; rw [hd] at hd'; cases hd'
    · rintro ⟨o', e', _, n, hd'⟩; rw [ho'] at e'; cases e'; rw [hd] at hd'; cases hd'
  at' := fun h a z ha => by
    rw [List.mem_singleton.mp ha]
    obtain ⟨m, ⟨o, _, _, ho, _⟩, _⟩ := z.vars
    exact ⟨o, ho⟩
  inn := fun h z => z.inn
  kept := fun h z => ⟨z.old, fun a ha => by rw [List.mem_singleton.mp ha]; exact z.new⟩
  start := fun h h' I z k hn hs => (z.sub h0).hide k hn hs
  keep := fun i av' K' h z => z.old
  up := fun i av' K' K'' h z k1 k2 k3 => z.rekey (let ⟨hb, y, k⟩ := z.base₀; ⟨hb, y, fun b o e => k1 b o (k b o e)⟩) k2 (k3 L (List.mem_singleton.mpr rfl))
  down := fun i av' K' h ⟨hp, y⟩ z k => z.rekey y.base₀ (fun b o e => z.old b o (k b o e)) y.new
  hid := fun i I h h' ⟨hp, y, hI⟩ z k hs => z.turn k hs (by
    cases e : K I with
    | none => rfl
    | some o => have := y.old _ _ e; rw [hI] at this; cases this) (y.lc hI)
end
end
end Mine

open PySem PySem.W PyProof.Rows PySem.Calls
set_option Elab.async false
set_option maxRecDepth 100000
set_option maxHeartbeats 400000
set_option linter.unusedVariables false
namespace Mine
noncomputable section
section
variable {w : World} {A : Around} {av : List Addr} {env : Env} {K : Addr → Option Obj} {L : Addr} {cl : List (Str × Addr)} {l : List (Str × D)} {x : Str} {p : Pos} {d : D} {C : HP}
theorem tr_return {P : HP} {R : Flow → HP} {e : PySem.Expr} {rest : List PySem.Stmt} (hP : Stable P) (he : Ev w A av P (eval e env) d) (hr : ∀ v h, Den av h v d → P h → R (.ret v) h) : Tr w A P (execs (.Return (some e) p :: rest) env) R := .mk fun s Q E c q =>
  wpAny_execs_cons ((tr_ret hP he).run s _ E c fun f h' tk z => by
    obtain ⟨v, rfl, dv, z⟩ := z
    exact q _ h' tk (hr v h' dv z))
theorem one_eq (c k : Nat) : (one c == one k) = (c == k) := by
  rw [Bool.eq_iff_iff, beq_iff_eq, beq_iff_eq]
  constructor
  · intro h; simpa [one] using h
  · rintro rfl; rfl
theorem blank_one : (" " : Str) = one 32 := by decide +kernel
theorem c11_ok (hB : ∀ h, C h → Base w h) (hI : ∀ h, C h → Inn av h) (hA : OkA 1 A) (c : Nat) : CallOk w A av C (.ref 92) [.str (one c)] (.val (.bool (c == 32))) := by
  obtain ⟨co, cvs, ct, e1, e2, e3⟩ := cd92 w.params
  refine call_body (x := "code") hB hI (by have := hA.depth; omega) (lk92 w.params) e1 e2 e3 (fun v => by kernel_rfl!) (by kernel_rfl!) (fun K L => ?_) (by kernel_rfl!) (by kernel_rfl!) (by kernel_rfl!) (by decide +kernel)
  have hE : EnvOk (envOf "in_table_c11" (fSt 7).2.2.2 L 92 (.ref 91)) L [] := ⟨rfl, rfl, rfl, rfl, by kernel_rfl!⟩
  refine tr_return (d := .val (.bool (c == 32))) Vs.stable ?_ (fun v h dv z => ⟨v, rfl, dv, z.old⟩)
  refine ev_cmp Vs.stable (a := .str (one c)) (b := .str " ") ?_ ?_ ?_ (by with_unfolding_all rfl)
  · exact ev_local hE (by kernel_rfl!) (by kernel_rfl!) (by kernel_rfl!) (by kernel_rfl!)
  · exact ev_str _ _ _
  · intro s u v Q E z du dv q
    cases du
    cases dv
    refine eq_str (q _ _ (keeps_refl s) ?_)
    rw [blank_one, one_eq]
    exact .val _
end
end
end Mine

open PySem PySem.W PyProof.Rows PySem.Calls
set_option Elab.async false
set_option maxRecDepth 100000
set_option maxHeartbeats 400000
set_option linter.unusedVariables false
namespace Mine
noncomputable section
noncomputable def b1E : List (Int × Value) := [(65024, .int (65024) 219), (65025, .int (65025) 220), (65026, .int (65026) 221), (65027, .int (65027) 222), (65028, .int (65028) 223), (65029, .int (65029) 224), (6150, .int (6150) 205), (65030, .int (65030) 225), (65031, .int (65031) 226), (65032, .int (65032) 227), (65033, .int (65033) 228), (6155, .int (6155) 206), (6156, .int (6156) 207), (6157, .int (6157) 208), (8203, .int (8203) 209), (8204, .int (8204) 210), (8205, .int (8205) 211), (65034, .int (65034) 229), (65035, .int (65035) 230), (65036, .int (65036) 231), (65037, .int (65037) 232), (65038, .int (65038) 233), (65039, .int (65039) 234), (173, .int (173) 203), (847, .int (847) 204), (8288, .int (8288) 212), (65279, .int (65279) 213)]
noncomputable def isB1 (c : Nat) : Bool := b1E.any fun e => Value.isInt (c : Int) e.2
noncomputable def elemOk (e : Int × Value) : Bool := match e.2 with
  | .int k _ => e.1 == hashInt k && e.2.scannable
  | _ => false
theorem b1_all : b1E.all elemOk = true := by kernel_rfl!
theorem b1_set {w : World} {h : Heap} (x : (KF w.params).In h) : h.SetOf (PySem.intKind pW w) 29 (fun k => b1E.any fun e => Value.isInt k e.2) 27 := by
  have ho : (KF w.params).lookup 29 = some (o29_0 w.params) := by kernel_rfl!
  refine ⟨o29_0 w.params, b1E.toArray, 29, _, x 29 _ ho, ⟨rfl, rfl, rfl⟩, rfl, ?_, fun k => ?_, ?_, ?_, rfl⟩
  · intro e he
    have := List.all_eq_true.mp b1_all e (by simpa using he)
    unfold elemOk at this
    split at this
    · rename_i k t hk
      simp only [Bool.and_eq_true, beq_iff_eq] at this
      refine ⟨⟨k, ?_, this.1⟩, this.2⟩
      show Value.isInt k e.2 = true
      rw [hk]
      simp [Value.isInt]
    · cases this
  · rw [List.any_eq_true]
    rfl
  · show (27 : Nat) < 4096
    omega
  · rfl
end
end Mine

open PySem PySem.W PyProof.Rows PySem.Calls
set_option Elab.async false
set_option maxRecDepth 100000
set_option maxHeartbeats 400000
set_option linter.unusedVariables false
namespace Mine
noncomputable section
section
variable {w : World} {A : Around} {av : List Addr} {C : HP}
theorem vsB {K L cl l} : ∀ h, Vs w av K L cl l h → Base w h := fun h z => z.base
theorem vsI {K L cl l} : ∀ h, Vs w av K L cl l h → Inn av h := fun h z => z.inn
theorem ev_call_b1 {f : PySem.Expr} {env : Env} {id : String} {e : PySem.Expr} {p : Pos} {a d : D} (hC : Stable C) (hf : Ev w A av C (eval f env) (.val (.builtin id))) (ha : Ev w A av C (eval e env) a) (hc : CallOk w A av C (.builtin id) [a] d)
    (he : eval (.Call f [e] [] p) env = (do callWith p (← eval f env) [] (backTo p (starEach [e] env)) (backToKw p (keywordEach [] env))))
    (hs : starEach [e] env = (false, eval e env) :: starEach [] env) (hpl : (backTo p (starEach [] env)).any (·.1) = false) : Ev w A av C (eval (.Call f [e] [] p) env) d :=
  ev_call_b hC hf (evs_cons hC ha evs_nil hs) hc he hs hpl
theorem b1_ok (hB : ∀ h, C h → Base w h) (hI : ∀ h, C h → Inn av h) (hA : OkA 1 A) (c : Nat) : CallOk w A av C (.ref 39) [.str (one c)] (.val (.bool (isB1 c))) := by
  obtain ⟨co, cvs, ct, e1, e2, e3⟩ := cd39 w.params
  refine call_body (x := "code") hB hI (by have := hA.depth; omega) (lk39 w.params) e1 e2 e3 (fun v => by kernel_rfl!) (by kernel_rfl!) (fun K L => ?_) (by kernel_rfl!) (by kernel_rfl!) (by kernel_rfl!) (by decide +kernel)
  have hE : EnvOk (envOf "in_table_b1" (fSt 4).2.2.2 L 39 (.ref 38)) L [] := ⟨rfl, rfl, rfl, rfl, by kernel_rfl!⟩
  refine tr_return (d := .val (.bool (isB1 c))) Vs.stable ?_ (fun v h dv z => ⟨v, rfl, dv, z.old⟩)
  refine ev_cmp Vs.stable (a := .int c) (b := .val (.ref 29)) ?_ ?_ ?_ (by with_unfolding_all rfl)
  · refine ev_call_b1 Vs.stable (id := "ord") (a := .str (one c)) ?_ ?_ (ord_ok c) (by with_unfolding_all rfl) (by with_unfolding_all rfl) (by with_unfolding_all rfl)
    · exact ev_builtin hE vsB (by kernel_rfl!) (gn_ord _) gb_ord (by decide) (by kernel_rfl!)
    · exact ev_local hE (by kernel_rfl!) (by kernel_rfl!) (by kernel_rfl!) (by kernel_rfl!)
  · exact ev_global hE vsB (by kernel_rfl!) (gl29 _) (by kernel_rfl!)
  · intro s u v Q E z du dv q
    cases du
    cases dv
    refine wpAny_inSet_of (knd := PySem.intKind pW w) (k := (c : Int)) (by simp [PySem.intKind, Value.isInt]) rfl (b1_set z.base.k) ?_
    exact q _ _ keeps_toks (.val _)
end
end
end Mine

open PySem PySem.W PyProof.Rows PySem.Calls
set_option Elab.async false
set_option maxRecDepth 100000
set_option maxHeartbeats 400000
set_option linter.unusedVariables false
namespace Mine
noncomputable section
noncomputable def b3E : List DictEntry := mainOf 38 270 tab
noncomputable def b3Ok (e : DictEntry) : Bool := match e.key, e.val with
  | .int k _, .str _ _ => e.hash == hashInt k
  | _, _ => false
theorem b3_all : b3E.all b3Ok = true := by kernel_rfl!
noncomputable def b3At (c : Nat) : Option Value := findBy Value.isInt b3E.toArray (c : Int)
noncomputable def b3D (c : Nat) : D := match b3At c with
  | some (.str x _) => .str x
  | _ => .val .none
/-- what a sign folds to -/
noncomputable def fold (c : Nat) : Str := match b3At c with
  | some (.str x _) => x
  | _ => Txt.lower (one c)
theorem b3_at {c : Nat} : b3At c = none ∨ ∃ x t, b3At c = some (.str x t) := by
  unfold b3At findBy
  cases e : b3E.toArray.find? fun e => Value.isInt (c : Int) e.key with
  | none => exact .inl rfl
  | some y =>
    have hm := Array.mem_of_find?_eq_some e
    have := List.all_eq_true.mp b3_all y (by simpa using hm)
    unfold b3Ok at this
    split at this
    · rename_i k t x u hk hv
      exact .inr ⟨x, u, by rw [Option.map_some, hv]⟩
    · cases this
section
variable {w : World} {A : Around} {av : List Addr} {C : HP}
theorem tr_if_ret {env : Env} {P : HP} {R : Flow → HP} {test : PySem.Expr} {body rest : List PySem.Stmt} {p : Pos} {b : Bool} (hP : Stable P) (ht : Tst w A P (isTrue test env (eval test env)) b) (h1 : b = true → Tr w A P (execs body env) (fun f h => f ≠ .next ∧ R f h)) (h2 : b = false → Tr w A P (execs rest env) R) : Tr w A P (execs (.If test body [] p :: rest) env) R := by
  cases b with
  | true =>
    refine tr_cons (P1 := fun _ => False) (tr_if hP ht (tr_mono (h1 rfl) (fun _ z => z) fun f h z => ?_)) (.mk fun s Q E z => z.elim)
    cases f with
    | next => exact z.1 rfl
    | _ => exact z.2
  | false => exact tr_cons (P1 := P) (tr_if hP ht (tr_mono tr_nil (fun _ z => z) fun f h z => by obtain ⟨rfl, z⟩ := z; exact z)) (h2 rfl)
theorem tr_ite {env : Env} {P P1 : HP} {R : Flow → HP} {test : PySem.Expr} {body rest : List PySem.Stmt} {p : Pos} {b : Bool} (hP : Stable P) (ht : Tst w A P (isTrue test env (eval test env)) b) (h1 : b = true → Tr w A P (execs body env) (fun f h => f = .next ∧ P1 h)) (h0 : b = false → ∀ h, P h → P1 h) (h2 : Tr w A P1 (execs rest env) R) : Tr w A P (execs (.If test body [] p :: rest) env) R := by
  refine tr_step (P1 := P1) (tr_if hP ht ?_) h2
  cases b with
  | true => exact h1 rfl
  | false => exact tr_mono tr_nil (fun _ z => z) fun f h z => ⟨z.1, h0 rfl h z.2⟩
theorem b3_map {h : Heap} (x : (KF w.params).In h) : h.MapOf (PySem.intKind pW w) 40 (fun k => findBy Value.isInt b3E.toArray k) := by
  have ho : (KF w.params).lookup 40 = some (dk 0 w.params) := by kernel_rfl!
  refine ⟨dk 0 w.params, b3E.toArray, _, x 40 _ ho, ⟨rfl, rfl, rfl⟩, rfl, ?_, fun k => rfl⟩
  intro e he
  have := List.all_eq_true.mp b3_all e (by simpa using he)
  unfold b3Ok at this
  split at this
  · rename_i k t x u hk hv
    refine ⟨k, ?_, beq_iff_eq.mp this⟩
    show Value.isInt k e.key = true
    rw [hk]
    simp [Value.isInt]
  · cases this
theorem get_ok (hB : ∀ h, C h → Base w h) (c : Nat) : CallOk w A av C (.builtin "dict.get") [.val (.ref 40), .int c] (b3D c) := .mk fun s vs Q E z dvs q => by
  obtain ⟨u, v, rfl, du, dv⟩ := den2 dvs
  cases du
  cases dv
  have hm := b3_map (hB _ z).k
  refine call_meetsIn PySem.F.slot_dict_get hm.typeIs PySem.F.entry_dict_get (PySem.F.args_dict_get_2 _ _) (meets_dict_get (PySem.intKind pW w) 40 (k := (c : Int)) (by simp [PySem.intKind, Value.isInt]) (by decide)) ⟨_, hm, ?_⟩
  refine q _ _ keeps_toks ?_
  show Den av s.heap ((b3At c).getD .none) (b3D c)
  unfold b3D
  rcases b3_at (c := c) with e | ⟨x, t, e⟩
  · rw [e]; exact .val _
  · rw [e]; exact .str _ _
theorem meth_get {pl : Sem Bool} (hB : ∀ h, C h → Base w h) : MethOk w A av C pl "get" (.val (.ref 40)) "dict.get" := .mk fun s u Q E c du q => by
  cases du
  have hm := b3_map (hB _ c).k
  exact getMethod_builtin hm.typeIs PySem.F.plainAttrs_dict PySem.F.slot_dict_get PySem.F.type_dict_get hm.noDict q
theorem b3_ok (hB : ∀ h, C h → Base w h) (hI : ∀ h, C h → Inn av h) (hA : OkA 1 A) (c : Nat) : CallOk w A av C (.ref 85) [.str (one c)] (.str (fold c)) := by
  obtain ⟨co, cvs, ct, e1, e2, e3⟩ := cd85 w.params
  refine call_body (x := "code") hB hI (by have := hA.depth; omega) (lk85 w.params) e1 e2 e3 (fun v => by kernel_rfl!) (by kernel_rfl!) (fun K L => ?_) (by kernel_rfl!) (by kernel_rfl!) (by kernel_rfl!) (by decide +kernel)
  have hE : EnvOk (envOf "map_table_b3" (fSt 6).2.2.2 L 85 (.ref 84)) L [] := ⟨rfl, rfl, rfl, rfl, by kernel_rfl!⟩
  have hcode : ∀ {l : List (Str × D)} {p : Pos}, l.lookup ("code" : Str) = some (.str (one c)) → Ev w (A.deeper (envOf "map_table_b3" (fSt 6).2.2.2 L 85 (.ref 84))) av (Vs w av K L [] l) (eval (.Name "code" p) (envOf "map_table_b3" (fSt 6).2.2.2 L 85 (.ref 84))) (.str (one c)) := fun hl => ev_local hE hl (by kernel_rfl!) (by kernel_rfl!) (by kernel_rfl!)
  refine tr_step (tr_assign (d := b3D c) (x := "r") hE ?_ (by kernel_rfl!) rfl (by with_unfolding_all rfl)) ?_
  · refine ev_meth1 Vs.stable (a := .val (.ref 40)) (b := .int c) ?_ ?_ (meth_get vsB) (get_ok vsB c) (by with_unfolding_all rfl) (by with_unfolding_all rfl) (by with_unfolding_all rfl)
    · exact ev_global hE vsB (by kernel_rfl!) (gl40 _) (by kernel_rfl!)
    · refine ev_call_b1 Vs.stable (id := "ord") (a := .str (one c)) ?_ (hcode (by kernel_rfl!)) (ord_ok c) (by with_unfolding_all rfl) (by with_unfolding_all rfl) (by with_unfolding_all rfl)
      exact ev_builtin hE vsB (by kernel_rfl!) (gn_ord _) gb_ord (by decide) (by kernel_rfl!)
  · refine tr_if_ret (b := (b3At c).isSome) Vs.stable ?_ (fun hb => ?_) (fun hb => ?_)
    · rcases b3_at (c := c) with e | ⟨x, t, e⟩
      · refine tst_cmpB (av := av) Vs.stable (a := .val .none) (e := .val .none) ?_ (ev_none _ _) ?_ (by with_unfolding_all rfl)
        · exact ev_local hE (by unfold b3D; rw [e]; kernel_rfl!) (by kernel_rfl!) (by kernel_rfl!) (by kernel_rfl!)
        · rw [e]; exact cmp_isnot_none
      · refine tst_cmpB (av := av) Vs.stable (a := .str x) (e := .val .none) ?_ (ev_none _ _) ?_ (by with_unfolding_all rfl)
        · exact ev_local hE (by unfold b3D; rw [e]; kernel_rfl!) (by kernel_rfl!) (by kernel_rfl!) (by kernel_rfl!)
        · rw [e]; exact cmp_isnot_str
    · refine tr_return (d := .str (fold c)) Vs.stable ?_ (fun v h dv z => ⟨fun q => (by cases q), v, rfl, dv, z.old⟩)
      rcases b3_at (c := c) with e | ⟨x, t, e⟩
      · rw [e] at hb; cases hb
      · exact ev_local hE (by unfold b3D fold; rw [e]; kernel_rfl!) (by kernel_rfl!) (by kernel_rfl!) (by kernel_rfl!)
    · have e : b3At c = none := by cases e : b3At c with
        | none => rfl
        | some y => rw [e] at hb; cases hb
      have ef : fold c = Txt.lower (one c) := by unfold fold; rw [e]
      rw [ef]
      refine tr_return (d := .str (Txt.lower (one c))) Vs.stable ?_ (fun v h dv z => ⟨v, rfl, dv, z.old⟩)
      exact ev_meth0 Vs.stable (a := .str (one c)) (hcode (by kernel_rfl!)) meth_lower (lower_ok (by show (1 : Nat) ≤ _; omega)) (by with_unfolding_all rfl)
end
end
end Mine

open PySem PySem.W PyProof.Rows PySem.Calls
set_option Elab.async false
set_option maxRecDepth 100000
set_option maxHeartbeats 400000
set_option linter.unusedVariables false
namespace Mine
noncomputable section
noncomputable def noiseL : List Int := [173, 847, 6150, 6155, 6156, 6157, 8203, 8204, 8205, 8288, 65279, 65024, 65025, 65026, 65027, 65028, 65029, 65030, 65031, 65032, 65033, 65034, 65035, 65036, 65037, 65038, 65039]
noncomputable def basesL : List Int := [97, 65, 119808, 119860, 119912, 120016, 120172, 120224, 120276, 120328, 120380, 120432]
noncomputable def wordsL : List (Int × Str) := [(223, "ss"), (304, "i\u0307"), (329, "\u02bcn"), (8360, "rs"), (8451, "\u00b0c"), (8470, "no"), (8480, "sm"), (8481, "tel"), (8482, "tm"), (13255, "co."), (64256, "ff"), (64257, "fi"), (64258, "fl"), (64259, "ffi"), (64260, "ffl"), (64261, "st"), (64262, "st")]
noncomputable def whiteL : List Nat := [9, 13, 11, 12, 28, 133, 160, 5760, 8195, 8232, 12288]
noncomputable def wordsD : List D := wordsL.map fun x => .tup [.int x.1, .str x.2]
/-- a number's sign and what it means -/
noncomputable def drawnC (n : Int) : Nat × Str :=
  let rest := n.fdiv 8
  let kind := n.fmod 8
  if kind < 2 then (32, one 32)
  else if kind = 2 then (10, one 10)
  else if kind = 3 then ((noiseL.getD (rest.fmod 27).toNat 0).toNat, ("" : Str))
  else if kind = 4 then ((basesL.getD (rest.fmod 12).toNat 0 + (rest.fdiv 12).fmod 26).toNat, one (97 + (rest.fdiv 12).fmod 26).toNat)
  else if kind = 5 then ((wordsL.getD (rest.fmod 17).toNat (0, ("" : Str))).1.toNat, (wordsL.getD (rest.fmod 17).toNat (0, ("" : Str))).2)
  else if kind = 6 then (890, ⟨#[32, 953]⟩)
  else (whiteL.getD (rest.fmod 11).toNat 0, one (whiteL.getD (rest.fmod 11).toNat 0))
noncomputable abbrev drawnD (n : Int) : D := .list [.str (one (drawnC n).1), .str (drawnC n).2]
section
variable {w : World} {A : Around} {av : List Addr} {C : HP}
theorem fmod_range {a b : Int} (h : 0 < b) : 0 ≤ a.fmod b ∧ a.fmod b < b := ⟨Int.fmod_nonneg_of_pos a h, Int.fmod_lt_of_pos a h⟩
noncomputable abbrev e99 (L : Addr) : Env := envOf "_law_drawn" (fSt 9).2.2.2 L 99 (.ref 98)
theorem deeper_handled {E : Env} (h : A.handled = none) : (A.deeper E).handled = none := h
/-- a tree that makes a range from a to b -/
structure EvR2 (w : World) (A : Around) (C : HP) (x : Sem Value) (a b : Int) : Prop where
  run : ∀ (s : Shared) (Q : Value → Shared → Prop) (E : Value → Shared → Prop), C s.heap → (∀ r s' t u v, Keeps s s' → IsRange s'.heap r a b 1 t u v → Q (.ref r) s') → wpAny (MW w) A x Q E s
theorem ev_range2 {f : PySem.Expr} {env : Env} {e e' : PySem.Expr} {p : Pos} {a b : Int} (hC : Stable C) (hf : Ev w A av C (eval f env) (.val (.type "range"))) (ha : Evs w A av C (spliced (backTo p (starEach [e, e'] env))) [.int a, .int b])
    (he : eval (.Call f [e, e'] [] p) env = (do callWith p (← eval f env) [] (backTo p (starEach [e, e'] env)) (backToKw p (keywordEach [] env))))
    (hs : starEach [e, e'] env = (false, eval e env) :: starEach [e'] env) (hpl : (backTo p (starEach [e'] env)).any (·.1) = false) : EvR2 w A C (eval (.Call f [e, e'] [] p) env) a b := .mk fun s Q E c q =>
  Call_ (hf.run s _ E c fun v s₁ k₁ dv => by
    cases dv
    exact PyProof.Rows.callWith_type1 (ha.run s₁ _ E (hC _ _ (keeps_heap k₁) c) fun vs s₂ k₂ dvs => by
      obtain ⟨u, v, rfl, du, dv⟩ := den2 dvs
      cases du
      cases dv
      exact call_range_2 (q _ _ _ _ _ (keeps_trans k₁ (keeps_trans k₂ (keeps_push _ _))) (IsRange.new ..))) hs hpl) he
theorem ev_range1 {f : PySem.Expr} {env : Env} {e : PySem.Expr} {p : Pos} {n : Nat} (hC : Stable C) (hf : Ev w A av C (eval f env) (.val (.type "range"))) (ha : Ev w A av C (eval e env) (.int n))
    (he : eval (.Call f [e] [] p) env = (do callWith p (← eval f env) [] (backTo p (starEach [e] env)) (backToKw p (keywordEach [] env))))
    (hs : starEach [e] env = (false, eval e env) :: starEach [] env) (hpl : (backTo p (starEach [] env)).any (·.1) = false) : EvR w A C (eval (.Call f [e] [] p) env) n := .mk fun s Q E c q =>
  Call_ (hf.run s _ E c fun v s₁ k₁ dv => by
    cases dv
    exact PyProof.Rows.callWith_type1 ((evs_cons hC ha evs_nil hs).run s₁ _ E (hC _ _ (keeps_heap k₁) c) fun vs s₂ k₂ dvs => by
      obtain ⟨u, rfl, du⟩ := den1 dvs
      cases du
      exact call_range_1 (q _ _ _ _ _ (keeps_trans k₁ (keeps_trans k₂ (keeps_push _ _))) (IsRange.new ..))) hs hpl) he
theorem ev_list_range {f : PySem.Expr} {env : Env} {e : PySem.Expr} {p : Pos} {a b : Int} {n : Nat} (hC : Stable C) (hI : ∀ h, C h → Inn av h) (hh : A.handled = none) (hf : Ev w A av C (eval f env) (.val (.type "list"))) (hr : EvR2 w A C (eval e env) a b) (hsm : Builtin.Range.small a b 1 = true) (hn : Builtin.Range.rangeSize a b 1 = (n : Int)) (hz : n ≤ 2 ^ 24)
    (he : eval (.Call f [e] [] p) env = (do callWith p (← eval f env) [] (backTo p (starEach [e] env)) (backToKw p (keywordEach [] env))))
    (hs : starEach [e] env = (false, eval e env) :: starEach [] env) (hpl : (backTo p (starEach [] env)).any (·.1) = false) : Ev w A av C (eval (.Call f [e] [] p) env) (.list ((List.range n).map fun i : Nat => D.int (a + i * 1))) := .mk fun s Q E c q =>
  Call_ (hf.run s _ E c fun v s₁ k₁ dv => by
    cases dv
    refine PyProof.Rows.callWith_type1 (args_cons (hr.run s₁ _ E (hC _ _ (keeps_heap k₁) c) fun r s₂ t u v k₂ hr' => args_nil ?_) hs) hs hpl
    refine call_list_range hh hr' hsm hn hz fun h' tk acc' c' hk hS hacc => ?_
    refine q _ _ (keeps_trans k₁ (keeps_trans k₂ ⟨h', tk, rfl, hk⟩)) (.list _ acc' _ ⟨_, hS, rfl, _, rfl⟩ (hI _ (hC _ _ (keeps_heap k₂) (hC _ _ (keeps_heap k₁) c))).size ?_)
    obtain ⟨e1, e2⟩ := hacc
    have : ∀ (l : List Value) (k : Nat), (∀ i v, l[i]? = some v → ∃ t : Tok, v = Value.int (a + ((k + i : Nat) : Int) * 1) t) → DenL av h' l ((List.range' k l.length).map fun i : Nat => D.int (a + i * 1)) := by
      intro l
      induction l with
      | nil => intro k _; exact .nil
      | cons x l ih =>
        intro k hx
        obtain ⟨t, rfl⟩ := hx 0 x rfl
        rw [List.length_cons, List.range'_succ, List.map_cons]
        refine .cons (.int _ _) (ih (k + 1) fun i v hv => ?_)
        have := hx (i + 1) v (by simpa using hv)
        rwa [show k + (i + 1) = k + 1 + i by omega] at this
    have z := this acc'.toList 0 fun i v hv => by
      rw [Nat.zero_add]
      exact e2 i v (by simpa using hv)
    rw [Array.length_toList, e1, ← List.range_eq_range'] at z
    exact z) he
/-- the value of the first assignment in an if's body -/
noncomputable def asgVal (st : PySem.Stmt) (i : Nat) : PySem.Expr := match st with
  | .If _ body _ _ => match body.drop i with
    | .Assign _ v _ :: _ => v
    | _ => default
  | _ => default
theorem tr_let {env : Env} {K : Addr → Option Obj} {L : Addr} {cl : List (Str × Addr)} {l : List (Str × D)} {x : Str} {p p' : Pos} {e : PySem.Expr} {rest : List PySem.Stmt} {R : Flow → HP} (d : D) (hE : EnvOk env L cl) (he : Ev w A av (Vs w av K L cl l) (eval e env) d) (hk : env.kindOf x = some .local) (hc : cl.lookup x = none) (hs : swapsWith e (some (.Name x p')) p.line env = pure false)
    (h2 : Tr w A (Vs w av K L cl ((x, d) :: l)) (execs rest env) R) : Tr w A (Vs w av K L cl l) (execs (.Assign [.Name x p'] e p :: rest) env) R := tr_step (tr_assign hE he hk hc hs) h2
theorem getD_some {α : Type} {l : List α} {k : Nat} {d : α} (h : k < l.length) : l[k]? = some (l.getD k d) := by
  rw [List.getD_eq_getElem?_getD, List.getElem?_eq_getElem h]; rfl
theorem drawn_ok (hB : ∀ h, C h → Base w h) (hI : ∀ h, C h → Inn av h) (hA : OkA 1 A) (n : Int) : CallOk w A av C (.ref 99) [.int n] (drawnD n) := by
  obtain ⟨co, cvs, ct, e1, e2, e3⟩ := cd99 w.params
  refine call_body (x := "number") hB hI (by have := hA.depth; omega) (lk99 w.params) e1 e2 e3 (fun v => by kernel_rfl!) (by kernel_rfl!) (fun K L => ?_) (by kernel_rfl!) (by kernel_rfl!) (by kernel_rfl!) (by decide +kernel)
  have hE : EnvOk (e99 L) L [] := ⟨rfl, rfl, rfl, rfl, by kernel_rfl!⟩
  have hh : (A.deeper (e99 L)).handled = none := hA.handled
  obtain ⟨r0, r1⟩ := fmod_range (a := n) (b := 8) (by decide)
  refine tr_step (tr_assign_tgt (bs := [("rest", .int (n.fdiv 8)), ("kind", .int (n.fmod 8))]) hE (ev_call_b Vs.stable (ev_builtin hE vsB (by kernel_rfl!) (gn_divmod _) gb_divmod (by decide) (by kernel_rfl!)) (evs_cons Vs.stable (ev_local (d := (D.int (n))) hE (by kernel_rfl!) (by kernel_rfl!) (by kernel_rfl!) (by kernel_rfl!)) (evs_cons Vs.stable (ev_int 8 _ _) evs_nil (by with_unfolding_all rfl)) (by with_unfolding_all rfl)) (divmod_ok vsI (by decide) (by decide)) (by with_unfolding_all rfl) (by with_unfolding_all rfl) (by with_unfolding_all rfl)) (asg_tup (ns := [("rest", _), ("kind", _)]) hh (by kernel_rfl!) (fun x hx => by
    simp only [List.mem_cons, List.not_mem_nil, or_false] at hx
    rcases hx with rfl | rfl <;> kernel_rfl!) (by decide) rfl (by with_unfolding_all rfl)) (fun x e q => rfl) (by with_unfolding_all rfl) (by with_unfolding_all rfl)) ?_
  have fin : ∀ {l : List (Str × D)} {e : PySem.Expr} {p : Pos} {rest : List PySem.Stmt} {d : D}, Ev w (A.deeper (e99 L)) av (Vs w av K L [] l) (eval e (e99 L)) d → Tr w (A.deeper (e99 L)) (Vs w av K L [] l) (execs (.Return (some e) p :: rest) (e99 L)) (fun f h => f ≠ .next ∧ ∃ v, f = .ret v ∧ Den av h v d ∧ ∀ b o, K b = some o → h.get? b = some o) := fun he => tr_return Vs.stable he fun v h dv z => ⟨fun q => (by cases q), v, rfl, dv, z.old⟩
  have dn : drawnD n = .list [.str (one (drawnC n).1), .str (drawnC n).2] := rfl
  have bl : (" " : Str) = one 32 := by decide +kernel
  have nl : ("\n" : Str) = one 10 := by decide +kernel
  refine tr_if_ret (b := decide (n.fmod 8 < 2)) Vs.stable (tst_cmpB (av := av) Vs.stable (ev_local (d := (D.int (n.fmod 8))) hE (by kernel_rfl!) (by kernel_rfl!) (by kernel_rfl!) (by kernel_rfl!)) (ev_int 2 _ _) cmp_lt (by with_unfolding_all rfl)) (fun hb => ?_) (fun hb => ?_)
  · have hb := of_decide_eq_true hb
    have e : drawnC n = (32, one 32) := by unfold drawnC; simp only [hb, if_true]
    rw [dn, e]
    exact fin (by rw [← bl]; exact (ev_list Vs.stable vsI (evs_cons Vs.stable (ev_str _ _ _) (evs_cons Vs.stable (ev_str _ _ _) evs_nil (by with_unfolding_all rfl)) (by with_unfolding_all rfl)) (Nat.le_of_ble_eq_true rfl)))
  have h2 : ¬ (n.fmod 8 < 2) := of_decide_eq_false hb
  refine tr_if_ret (b := (n.fmod 8 == 2)) Vs.stable (tst_cmpB (av := av) Vs.stable (ev_local (d := (D.int (n.fmod 8))) hE (by kernel_rfl!) (by kernel_rfl!) (by kernel_rfl!) (by kernel_rfl!)) (ev_int 2 _ _) cmp_eq_int (by with_unfolding_all rfl)) (fun hb => ?_) (fun hb => ?_)
  · have hb := beq_iff_eq.mp hb
    have e : drawnC n = (10, one 10) := by unfold drawnC; dsimp only; rw [hb]; rfl
    rw [dn, e]
    exact fin (by rw [← nl]; exact (ev_list Vs.stable vsI (evs_cons Vs.stable (ev_str _ _ _) (evs_cons Vs.stable (ev_str _ _ _) evs_nil (by with_unfolding_all rfl)) (by with_unfolding_all rfl)) (Nat.le_of_ble_eq_true rfl)))
  have h3 : ¬ (n.fmod 8 = 2) := fun q => by rw [q] at hb; cases hb
  refine tr_if_ret (b := (n.fmod 8 == 3)) Vs.stable (tst_cmpB (av := av) Vs.stable (ev_local (d := (D.int (n.fmod 8))) hE (by kernel_rfl!) (by kernel_rfl!) (by kernel_rfl!) (by kernel_rfl!)) (ev_int 3 _ _) cmp_eq_int (by with_unfolding_all rfl)) (fun hb => ?_) (fun hb => ?_)
  · have hb := beq_iff_eq.mp hb
    have e : drawnC n = ((noiseL.getD ((n.fdiv 8).fmod 27).toNat 0).toNat, ("" : Str)) := by unfold drawnC; dsimp only; rw [hb]; rfl
    rw [dn, e]
    obtain ⟨k, hk, hk27⟩ : ∃ k : Nat, (n.fdiv 8).fmod 27 = k ∧ k < 27 := ⟨((n.fdiv 8).fmod 27).toNat, by have := fmod_range (a := n.fdiv 8) (b := 27) (by decide); omega, by have := fmod_range (a := n.fdiv 8) (b := 27) (by decide); omega⟩
    rw [hk, Int.toNat_natCast]
    have z : D.list (noiseL.map D.int) = D.list ([D.int 173, D.int 847, D.int 6150, D.int 6155, D.int 6156, D.int 6157, D.int 8203, D.int 8204, D.int 8205, D.int 8288, D.int 65279] ++ (List.range 16).map (fun i : Nat => D.int (65024 + i * 1))) := by rfl
    refine @tr_let w (A.deeper (e99 L)) av (e99 L) K L [] _ _ _ _ _ _ _ (D.list (noiseL.map D.int)) hE ?_ (by kernel_rfl!) rfl (by kernel_rfl!) ?_
    · rw [z]
      exact (ev_binB Vs.stable (ev_list Vs.stable vsI (evs_cons Vs.stable (ev_int 173 _ _) (evs_cons Vs.stable (ev_int 847 _ _) (evs_cons Vs.stable (ev_int 6150 _ _) (evs_cons Vs.stable (ev_int 6155 _ _) (evs_cons Vs.stable (ev_int 6156 _ _) (evs_cons Vs.stable (ev_int 6157 _ _) (evs_cons Vs.stable (ev_int 8203 _ _) (evs_cons Vs.stable (ev_int 8204 _ _) (evs_cons Vs.stable (ev_int 8205 _ _) (evs_cons Vs.stable (ev_int 8288 _ _) (evs_cons Vs.stable (ev_int 65279 _ _) evs_nil (by with_unfolding_all rfl)) (by with_unfolding_all rfl)) (by with_unfolding_all rfl)) (by with_unfolding_all rfl)) (by with_unfolding_all rfl)) (by with_unfolding_all rfl)) (by with_unfolding_all rfl)) (by with_unfolding_all rfl)) (by with_unfolding_all rfl)) (by with_unfolding_all rfl)) (by with_unfolding_all rfl)) (Nat.le_of_ble_eq_true rfl)) (ev_list_range (n := 16) Vs.stable vsI hh (ev_builtin hE vsB (by kernel_rfl!) (gn_list _) gb_list (by decide) (by kernel_rfl!)) (ev_range2 (av := av) Vs.stable (ev_builtin hE vsB (by kernel_rfl!) (gn_range _) gb_range (by decide) (by kernel_rfl!)) (evs_cons Vs.stable (ev_int 65024 _ _) (evs_cons Vs.stable (ev_int 65040 _ _) evs_nil (by with_unfolding_all rfl)) (by with_unfolding_all rfl)) (by with_unfolding_all rfl) (by with_unfolding_all rfl) (by with_unfolding_all rfl)) (by decide +kernel) (by decide +kernel) (by decide) (by with_unfolding_all rfl) (by with_unfolding_all rfl) (by with_unfolding_all rfl)) (bin_add_list vsI (Nat.le_of_ble_eq_true rfl)))
    have hit : (noiseL.map D.int)[k]? = some (D.int (noiseL.getD k 0)) := by rw [List.getElem?_map, getD_some (d := 0) (show k < noiseL.length from hk27)]; rfl
    have hbd : 0 ≤ noiseL.getD k 0 ∧ noiseL.getD k 0 ≤ 1114111 := by
      have := List.mem_of_getElem? (getD_some (d := 0) (show k < noiseL.length from hk27))
      exact (by decide : ∀ x ∈ noiseL, 0 ≤ x ∧ x ≤ 1114111) _ this
    exact fin (ev_list Vs.stable vsI (evs_cons Vs.stable (ev_call_b Vs.stable (ev_builtin hE vsB (by kernel_rfl!) (gn_chr _) gb_chr (by decide) (by kernel_rfl!)) (evs_cons Vs.stable (ev_sub Vs.stable (ev_local (d := (D.list (noiseL.map D.int))) hE (by kernel_rfl!) (by kernel_rfl!) (by kernel_rfl!) (by kernel_rfl!)) (hk ▸ (ev_binB Vs.stable (ev_local (d := (D.int (n.fdiv 8))) hE (by kernel_rfl!) (by kernel_rfl!) (by kernel_rfl!) (by kernel_rfl!)) (ev_int 27 _ _) (bin_mod_int hh (by decide)))) (item_list hit (by omega) (fun _ _ _ => by with_unfolding_all rfl))) evs_nil (by with_unfolding_all rfl)) (chr_ok (by omega) (by omega)) (by with_unfolding_all rfl) (by with_unfolding_all rfl) (by with_unfolding_all rfl)) (evs_cons Vs.stable (ev_str _ _ _) evs_nil (by with_unfolding_all rfl)) (by with_unfolding_all rfl)) (Nat.le_of_ble_eq_true rfl))
  have h4 : ¬ (n.fmod 8 = 3) := fun q => by rw [q] at hb; cases hb
  refine tr_if_ret (b := (n.fmod 8 == 4)) Vs.stable (tst_cmpB (av := av) Vs.stable (ev_local (d := (D.int (n.fmod 8))) hE (by kernel_rfl!) (by kernel_rfl!) (by kernel_rfl!) (by kernel_rfl!)) (ev_int 4 _ _) cmp_eq_int (by with_unfolding_all rfl)) (fun hb => ?_) (fun hb => ?_)
  · have hb := beq_iff_eq.mp hb
    have e : drawnC n = ((basesL.getD ((n.fdiv 8).fmod 12).toNat 0 + ((n.fdiv 8).fdiv 12).fmod 26).toNat, one (97 + ((n.fdiv 8).fdiv 12).fmod 26).toNat) := by unfold drawnC; dsimp only; rw [hb]; rfl
    rw [dn, e]
    obtain ⟨k, hk, hk12⟩ : ∃ k : Nat, (n.fdiv 8).fmod 12 = k ∧ k < 12 := ⟨((n.fdiv 8).fmod 12).toNat, by have := fmod_range (a := n.fdiv 8) (b := 12) (by decide); omega, by have := fmod_range (a := n.fdiv 8) (b := 12) (by decide); omega⟩
    have ho := fmod_range (a := (n.fdiv 8).fdiv 12) (b := 26) (by decide)
    rw [hk, Int.toNat_natCast]
    refine @tr_let w (A.deeper (e99 L)) av (e99 L) K L [] _ _ _ _ _ _ _ (D.list (basesL.map D.int)) hE ?_ (by kernel_rfl!) rfl (by kernel_rfl!) ?_
    · exact (ev_list Vs.stable vsI (evs_cons Vs.stable (ev_int 97 _ _) (evs_cons Vs.stable (ev_int 65 _ _) (evs_cons Vs.stable (ev_int 119808 _ _) (evs_cons Vs.stable (ev_int 119860 _ _) (evs_cons Vs.stable (ev_int 119912 _ _) (evs_cons Vs.stable (ev_int 120016 _ _) (evs_cons Vs.stable (ev_int 120172 _ _) (evs_cons Vs.stable (ev_int 120224 _ _) (evs_cons Vs.stable (ev_int 120276 _ _) (evs_cons Vs.stable (ev_int 120328 _ _) (evs_cons Vs.stable (ev_int 120380 _ _) (evs_cons Vs.stable (ev_int 120432 _ _) evs_nil (by with_unfolding_all rfl)) (by with_unfolding_all rfl)) (by with_unfolding_all rfl)) (by with_unfolding_all rfl)) (by with_unfolding_all rfl)) (by with_unfolding_all rfl)) (by with_unfolding_all rfl)) (by with_unfolding_all rfl)) (by with_unfolding_all rfl)) (by with_unfolding_all rfl)) (by with_unfolding_all rfl)) (by with_unfolding_all rfl)) (Nat.le_of_ble_eq_true rfl))
    have hit : (basesL.map D.int)[k]? = some (D.int (basesL.getD k 0)) := by rw [List.getElem?_map, getD_some (d := 0) (show k < basesL.length from hk12)]; rfl
    have hbd : 0 ≤ basesL.getD k 0 ∧ basesL.getD k 0 ≤ 1114000 := by
      have := List.mem_of_getElem? (getD_some (d := 0) (show k < basesL.length from hk12))
      exact (by decide : ∀ x ∈ basesL, 0 ≤ x ∧ x ≤ 1114000) _ this
    exact fin (ev_list Vs.stable vsI (evs_cons Vs.stable (ev_call_b Vs.stable (ev_builtin hE vsB (by kernel_rfl!) (gn_chr _) gb_chr (by decide) (by kernel_rfl!)) (evs_cons Vs.stable (ev_binB Vs.stable (ev_sub Vs.stable (ev_local (d := (D.list (basesL.map D.int))) hE (by kernel_rfl!) (by kernel_rfl!) (by kernel_rfl!) (by kernel_rfl!)) (hk ▸ (ev_binB Vs.stable (ev_local (d := (D.int (n.fdiv 8))) hE (by kernel_rfl!) (by kernel_rfl!) (by kernel_rfl!) (by kernel_rfl!)) (ev_int 12 _ _) (bin_mod_int hh (by decide)))) (item_list hit (by omega) (fun _ _ _ => by with_unfolding_all rfl))) (ev_binB Vs.stable (ev_binB Vs.stable (ev_local (d := (D.int (n.fdiv 8))) hE (by kernel_rfl!) (by kernel_rfl!) (by kernel_rfl!) (by kernel_rfl!)) (ev_int 12 _ _) (bin_floordiv_int hh (by decide) (by decide))) (ev_int 26 _ _) (bin_mod_int hh (by decide))) bin_add_int) evs_nil (by with_unfolding_all rfl)) (chr_ok (by omega) (by omega)) (by with_unfolding_all rfl) (by with_unfolding_all rfl) (by with_unfolding_all rfl)) (evs_cons Vs.stable (ev_call_b Vs.stable (ev_builtin hE vsB (by kernel_rfl!) (gn_chr _) gb_chr (by decide) (by kernel_rfl!)) (evs_cons Vs.stable (ev_binB Vs.stable (ev_int 97 _ _) (ev_binB Vs.stable (ev_binB Vs.stable (ev_local (d := (D.int (n.fdiv 8))) hE (by kernel_rfl!) (by kernel_rfl!) (by kernel_rfl!) (by kernel_rfl!)) (ev_int 12 _ _) (bin_floordiv_int hh (by decide) (by decide))) (ev_int 26 _ _) (bin_mod_int hh (by decide))) bin_add_int) evs_nil (by with_unfolding_all rfl)) (chr_ok (by omega) (by omega)) (by with_unfolding_all rfl) (by with_unfolding_all rfl) (by with_unfolding_all rfl)) evs_nil (by with_unfolding_all rfl)) (by with_unfolding_all rfl)) (Nat.le_of_ble_eq_true rfl))
  have h5 : ¬ (n.fmod 8 = 4) := fun q => by rw [q] at hb; cases hb
  refine tr_if_ret (b := (n.fmod 8 == 5)) Vs.stable (tst_cmpB (av := av) Vs.stable (ev_local (d := (D.int (n.fmod 8))) hE (by kernel_rfl!) (by kernel_rfl!) (by kernel_rfl!) (by kernel_rfl!)) (ev_int 5 _ _) cmp_eq_int (by with_unfolding_all rfl)) (fun hb => ?_) (fun hb => ?_)
  · have hb := beq_iff_eq.mp hb
    have e : drawnC n = ((wordsL.getD ((n.fdiv 8).fmod 17).toNat (0, ("" : Str))).1.toNat, (wordsL.getD ((n.fdiv 8).fmod 17).toNat (0, ("" : Str))).2) := by unfold drawnC; dsimp only; rw [hb]; rfl
    rw [dn, e]
    obtain ⟨k, hk, hk17⟩ : ∃ k : Nat, (n.fdiv 8).fmod 17 = k ∧ k < 17 := ⟨((n.fdiv 8).fmod 17).toNat, by have := fmod_range (a := n.fdiv 8) (b := 17) (by decide); omega, by have := fmod_range (a := n.fdiv 8) (b := 17) (by decide); omega⟩
    rw [hk, Int.toNat_natCast]
    have hlen : wordsD.length = 17 := rfl
    refine @tr_let w (A.deeper (e99 L)) av (e99 L) K L [] _ _ _ _ _ _ _ (D.list (wordsD.take 6)) hE ?_ (by kernel_rfl!) rfl (by kernel_rfl!) ?_
    · exact (ev_list Vs.stable vsI (evs_cons Vs.stable (ev_tuple Vs.stable vsI (evs_cons Vs.stable (ev_int 223 _ _) (evs_cons Vs.stable (ev_str _ _ _) evs_nil (by with_unfolding_all rfl)) (by with_unfolding_all rfl)) (Nat.le_of_ble_eq_true rfl)) (evs_cons Vs.stable (ev_tuple Vs.stable vsI (evs_cons Vs.stable (ev_int 304 _ _) (evs_cons Vs.stable (ev_str _ _ _) evs_nil (by with_unfolding_all rfl)) (by with_unfolding_all rfl)) (Nat.le_of_ble_eq_true rfl)) (evs_cons Vs.stable (ev_tuple Vs.stable vsI (evs_cons Vs.stable (ev_int 329 _ _) (evs_cons Vs.stable (ev_str _ _ _) evs_nil (by with_unfolding_all rfl)) (by with_unfolding_all rfl)) (Nat.le_of_ble_eq_true rfl)) (evs_cons Vs.stable (ev_tuple Vs.stable vsI (evs_cons Vs.stable (ev_int 8360 _ _) (evs_cons Vs.stable (ev_str _ _ _) evs_nil (by with_unfolding_all rfl)) (by with_unfolding_all rfl)) (Nat.le_of_ble_eq_true rfl)) (evs_cons Vs.stable (ev_tuple Vs.stable vsI (evs_cons Vs.stable (ev_int 8451 _ _) (evs_cons Vs.stable (ev_str _ _ _) evs_nil (by with_unfolding_all rfl)) (by with_unfolding_all rfl)) (Nat.le_of_ble_eq_true rfl)) (evs_cons Vs.stable (ev_tuple Vs.stable vsI (evs_cons Vs.stable (ev_int 8470 _ _) (evs_cons Vs.stable (ev_str _ _ _) evs_nil (by with_unfolding_all rfl)) (by with_unfolding_all rfl)) (Nat.le_of_ble_eq_true rfl)) evs_nil (by with_unfolding_all rfl)) (by with_unfolding_all rfl)) (by with_unfolding_all rfl)) (by with_unfolding_all rfl)) (by with_unfolding_all rfl)) (by with_unfolding_all rfl)) (Nat.le_of_ble_eq_true rfl))
    have z1 : wordsD.take 12 = wordsD.take 6 ++ (wordsD.drop 6).take 6 := by rfl
    refine @tr_let w (A.deeper (e99 L)) av (e99 L) K L [] _ _ _ _ _ _ _ (D.list (wordsD.take 12)) hE ?_ (by kernel_rfl!) rfl (by kernel_rfl!) ?_
    · rw [z1]
      exact (ev_binB Vs.stable (ev_local (d := (D.list (wordsD.take 6))) hE (by kernel_rfl!) (by kernel_rfl!) (by kernel_rfl!) (by kernel_rfl!)) (ev_list Vs.stable vsI (evs_cons Vs.stable (ev_tuple Vs.stable vsI (evs_cons Vs.stable (ev_int 8480 _ _) (evs_cons Vs.stable (ev_str _ _ _) evs_nil (by with_unfolding_all rfl)) (by with_unfolding_all rfl)) (Nat.le_of_ble_eq_true rfl)) (evs_cons Vs.stable (ev_tuple Vs.stable vsI (evs_cons Vs.stable (ev_int 8481 _ _) (evs_cons Vs.stable (ev_str _ _ _) evs_nil (by with_unfolding_all rfl)) (by with_unfolding_all rfl)) (Nat.le_of_ble_eq_true rfl)) (evs_cons Vs.stable (ev_tuple Vs.stable vsI (evs_cons Vs.stable (ev_int 8482 _ _) (evs_cons Vs.stable (ev_str _ _ _) evs_nil (by with_unfolding_all rfl)) (by with_unfolding_all rfl)) (Nat.le_of_ble_eq_true rfl)) (evs_cons Vs.stable (ev_tuple Vs.stable vsI (evs_cons Vs.stable (ev_int 13255 _ _) (evs_cons Vs.stable (ev_str _ _ _) evs_nil (by with_unfolding_all rfl)) (by with_unfolding_all rfl)) (Nat.le_of_ble_eq_true rfl)) (evs_cons Vs.stable (ev_tuple Vs.stable vsI (evs_cons Vs.stable (ev_int 64256 _ _) (evs_cons Vs.stable (ev_str _ _ _) evs_nil (by with_unfolding_all rfl)) (by with_unfolding_all rfl)) (Nat.le_of_ble_eq_true rfl)) (evs_cons Vs.stable (ev_tuple Vs.stable vsI (evs_cons Vs.stable (ev_int 64257 _ _) (evs_cons Vs.stable (ev_str _ _ _) evs_nil (by with_unfolding_all rfl)) (by with_unfolding_all rfl)) (Nat.le_of_ble_eq_true rfl)) evs_nil (by with_unfolding_all rfl)) (by with_unfolding_all rfl)) (by with_unfolding_all rfl)) (by with_unfolding_all rfl)) (by with_unfolding_all rfl)) (by with_unfolding_all rfl)) (Nat.le_of_ble_eq_true rfl)) (bin_add_list vsI (Nat.le_of_ble_eq_true rfl)))
    have z2 : wordsD = wordsD.take 12 ++ wordsD.drop 12 := by rfl
    refine @tr_let w (A.deeper (e99 L)) av (e99 L) K L [] _ _ _ _ _ _ _ (D.list wordsD) hE ?_ (by kernel_rfl!) rfl (by kernel_rfl!) ?_
    · rw [z2]
      exact (ev_binB Vs.stable (ev_local (d := (D.list (wordsD.take 12))) hE (by kernel_rfl!) (by kernel_rfl!) (by kernel_rfl!) (by kernel_rfl!)) (ev_list Vs.stable vsI (evs_cons Vs.stable (ev_tuple Vs.stable vsI (evs_cons Vs.stable (ev_int 64258 _ _) (evs_cons Vs.stable (ev_str _ _ _) evs_nil (by with_unfolding_all rfl)) (by with_unfolding_all rfl)) (Nat.le_of_ble_eq_true rfl)) (evs_cons Vs.stable (ev_tuple Vs.stable vsI (evs_cons Vs.stable (ev_int 64259 _ _) (evs_cons Vs.stable (ev_str _ _ _) evs_nil (by with_unfolding_all rfl)) (by with_unfolding_all rfl)) (Nat.le_of_ble_eq_true rfl)) (evs_cons Vs.stable (ev_tuple Vs.stable vsI (evs_cons Vs.stable (ev_int 64260 _ _) (evs_cons Vs.stable (ev_str _ _ _) evs_nil (by with_unfolding_all rfl)) (by with_unfolding_all rfl)) (Nat.le_of_ble_eq_true rfl)) (evs_cons Vs.stable (ev_tuple Vs.stable vsI (evs_cons Vs.stable (ev_int 64261 _ _) (evs_cons Vs.stable (ev_str _ _ _) evs_nil (by with_unfolding_all rfl)) (by with_unfolding_all rfl)) (Nat.le_of_ble_eq_true rfl)) (evs_cons Vs.stable (ev_tuple Vs.stable vsI (evs_cons Vs.stable (ev_int 64262 _ _) (evs_cons Vs.stable (ev_str _ _ _) evs_nil (by with_unfolding_all rfl)) (by with_unfolding_all rfl)) (Nat.le_of_ble_eq_true rfl)) evs_nil (by with_unfolding_all rfl)) (by with_unfolding_all rfl)) (by with_unfolding_all rfl)) (by with_unfolding_all rfl)) (by with_unfolding_all rfl)) (Nat.le_of_ble_eq_true rfl)) (bin_add_list vsI (Nat.le_of_ble_eq_true rfl)))
    have hx : wordsL[k]? = some (wordsL.getD k (0, ("" : Str))) := getD_some (show k < wordsL.length from hk17)
    have hit : wordsD[k]? = some (.tup [.int (wordsL.getD k (0, ("" : Str))).1, .str (wordsL.getD k (0, ("" : Str))).2]) := by rw [wordsD, List.getElem?_map, hx]; rfl
    generalize hw : wordsL.getD k (0, ("" : Str)) = y at hit hx ⊢
    have hbd : 0 ≤ y.1 ∧ y.1 ≤ 1114000 := (by decide : ∀ x ∈ wordsL, 0 ≤ x.1 ∧ x.1 ≤ 1114000) _ (List.mem_of_getElem? hx)
    exact fin (ev_list Vs.stable vsI (evs_cons Vs.stable (ev_call_b Vs.stable (ev_builtin hE vsB (by kernel_rfl!) (gn_chr _) gb_chr (by decide) (by kernel_rfl!)) (evs_cons Vs.stable (ev_sub Vs.stable (ev_sub Vs.stable (ev_local (d := (D.list (wordsD))) hE (by kernel_rfl!) (by kernel_rfl!) (by kernel_rfl!) (by kernel_rfl!)) (hk ▸ (ev_binB Vs.stable (ev_local (d := (D.int (n.fdiv 8))) hE (by kernel_rfl!) (by kernel_rfl!) (by kernel_rfl!) (by kernel_rfl!)) (ev_int 17 _ _) (bin_mod_int hh (by decide)))) (item_list hit (by omega) (fun _ _ _ => by with_unfolding_all rfl))) (ev_int 0 _ _) (item_tup (k := 0) (l := [D.int y.1, D.str y.2]) rfl (by omega) (fun _ _ _ => by with_unfolding_all rfl))) evs_nil (by with_unfolding_all rfl)) (chr_ok (by omega) (by omega)) (by with_unfolding_all rfl) (by with_unfolding_all rfl) (by with_unfolding_all rfl)) (evs_cons Vs.stable (ev_sub Vs.stable (ev_sub Vs.stable (ev_local (d := (D.list (wordsD))) hE (by kernel_rfl!) (by kernel_rfl!) (by kernel_rfl!) (by kernel_rfl!)) (hk ▸ (ev_binB Vs.stable (ev_local (d := (D.int (n.fdiv 8))) hE (by kernel_rfl!) (by kernel_rfl!) (by kernel_rfl!) (by kernel_rfl!)) (ev_int 17 _ _) (bin_mod_int hh (by decide)))) (item_list hit (by omega) (fun _ _ _ => by with_unfolding_all rfl))) (ev_int 1 _ _) (item_tup (k := 1) (l := [D.int y.1, D.str y.2]) rfl (by omega) (fun _ _ _ => by with_unfolding_all rfl))) evs_nil (by with_unfolding_all rfl)) (by with_unfolding_all rfl)) (Nat.le_of_ble_eq_true rfl))
  have h6 : ¬ (n.fmod 8 = 5) := fun q => by rw [q] at hb; cases hb
  refine tr_if_ret (b := (n.fmod 8 == 6)) Vs.stable (tst_cmpB (av := av) Vs.stable (ev_local (d := (D.int (n.fmod 8))) hE (by kernel_rfl!) (by kernel_rfl!) (by kernel_rfl!) (by kernel_rfl!)) (ev_int 6 _ _) cmp_eq_int (by with_unfolding_all rfl)) (fun hb => ?_) (fun hb => ?_)
  · have hb := beq_iff_eq.mp hb
    have e : drawnC n = (890, ⟨#[32, 953]⟩) := by unfold drawnC; dsimp only; rw [hb]; rfl
    have y1 : ("\u037a" : Str) = one 890 := by decide +kernel
    have y2 : (" \u03b9" : Str) = ⟨#[32, 953]⟩ := by decide +kernel
    rw [dn, e]
    exact fin (by rw [← y1, ← y2]; exact (ev_list Vs.stable vsI (evs_cons Vs.stable (ev_str _ _ _) (evs_cons Vs.stable (ev_str _ _ _) evs_nil (by with_unfolding_all rfl)) (by with_unfolding_all rfl)) (Nat.le_of_ble_eq_true rfl)))
  have h7 : ¬ (n.fmod 8 = 6) := fun q => by rw [q] at hb; cases hb
  have e : drawnC n = (whiteL.getD ((n.fdiv 8).fmod 11).toNat 0, one (whiteL.getD ((n.fdiv 8).fmod 11).toNat 0)) := by unfold drawnC; dsimp only; rw [if_neg h2, if_neg h3, if_neg h4, if_neg h5, if_neg h6, if_neg h7]
  rw [dn, e]
  obtain ⟨k, hk, hk11⟩ : ∃ k : Nat, (n.fdiv 8).fmod 11 = k ∧ k < 11 := ⟨((n.fdiv 8).fmod 11).toNat, by have := fmod_range (a := n.fdiv 8) (b := 11) (by decide); omega, by have := fmod_range (a := n.fdiv 8) (b := 11) (by decide); omega⟩
  rw [hk, Int.toNat_natCast]
  have ws : ("\t\r\u000b\u000c\u001c\u0085\u00a0\u1680\u2003\u2028\u3000" : Str) = ⟨whiteL.toArray⟩ := by decide +kernel
  have hit : (⟨whiteL.toArray⟩ : Str).cps[k]? = some (whiteL.getD k 0) := by
    show whiteL.toArray[k]? = _
    rw [List.getElem?_toArray]
    exact getD_some hk11
  refine @tr_let w (A.deeper (e99 L)) av (e99 L) K L [] _ _ _ _ _ _ _ (D.str (one (whiteL.getD k 0))) hE (ev_sub Vs.stable (ws ▸ ev_str _ _ _) (hk ▸ (ev_binB Vs.stable (ev_local (d := (D.int (n.fdiv 8))) hE (by kernel_rfl!) (by kernel_rfl!) (by kernel_rfl!) (by kernel_rfl!)) (ev_int 11 _ _) (bin_mod_int hh (by decide)))) (item_str hit (by omega) (fun _ _ _ _ => by with_unfolding_all rfl))) (by kernel_rfl!) rfl (by kernel_rfl!) ?_
  exact tr_mono (fin (ev_list Vs.stable vsI (evs_cons Vs.stable (ev_local (d := (D.str (one (whiteL.getD k 0)))) hE (by kernel_rfl!) (by kernel_rfl!) (by kernel_rfl!) (by kernel_rfl!)) (evs_cons Vs.stable (ev_local (d := (D.str (one (whiteL.getD k 0)))) hE (by kernel_rfl!) (by kernel_rfl!) (by kernel_rfl!) (by kernel_rfl!)) evs_nil (by with_unfolding_all rfl)) (by with_unfolding_all rfl)) (Nat.le_of_ble_eq_true rfl))) (fun _ z => z) fun f h z => z.2
end
end
end Mine

open PySem PySem.W PyProof.Rows PySem.Calls
set_option Elab.async false
set_option maxRecDepth 100000
set_option maxHeartbeats 400000
set_option linter.unusedVariables false
namespace Mine
noncomputable section
/-- a one-sign text's sign -/
noncomputable def chOf : D → Nat
  | .str s => s.cps.getD 0 0
  | _ => 0
noncomputable def signsD (x : Str) : List D := x.cps.toList.map fun c => .str (one c)
/-- what is left of a text, folded -/
noncomputable def prepL (x : Str) : List Str := (x.cps.toList.filter fun c => !isB1 c).map fold
noncomputable def prep (x : Str) : Str := Txt.join "" (prepL x)
theorem prepL_eq (x : Str) : (prepL x).map D.str = ((signsD x).filter fun d => !isB1 (chOf d)).map fun d => .str (fold (chOf d)) := by
  unfold prepL signsD
  rw [List.filter_map, List.map_map, List.map_map]
  rfl
theorem OkA.deeper {n : Nat} {A : Around} (x : OkA (n + 1) A) (E : Env) : OkA n (A.deeper E) := ⟨x.handled, by show A.depth + 1 + n < 1000; have := x.depth; omega, by show A.units + 3 + 10 * n < 9900; have := x.units; omega⟩
section
variable {w : World} {A : Around} {av : List Addr} {C : HP}
theorem compEnv_ok {scope : Scope} {cl : List (Str × Addr)} {Cc : Addr} {env : Env} (hg : env.globals = mainGlobals) (hb : env.builtins = builtinsNs) (hk : scope.kind = .function) : EnvOk (compEnvC scope cl Cc env) Cc cl := ⟨rfl, rfl, hg, hb, hk⟩
noncomputable abbrev e104 (L : Addr) : Env := envOf "_law_prepared" (fSt 10).2.2.2 L 104 (.ref 103)
theorem prep_ok (hB : ∀ h, C h → Base w h) (hI : ∀ h, C h → Inn av h) (hA : OkA 2 A) {x : Str} (hx : x.length ≤ 1000000) (hz : ((prepL x).map (·.length)).sum ≤ 10000000) : CallOk w A av C (.ref 104) [.str x] (.str (prep x)) := by
  obtain ⟨co, cvs, ct, e1, e2, e3⟩ := cd104 w.params
  refine call_body (x := "text") hB hI (by have := hA.depth; omega) (lk104 w.params) e1 e2 e3 (fun v => by kernel_rfl!) (by kernel_rfl!) (fun K L => ?_) (by kernel_rfl!) (by kernel_rfl!) (by kernel_rfl!) (by decide +kernel)
  have hE : EnvOk (e104 L) L [] := ⟨rfl, rfl, rfl, rfl, by kernel_rfl!⟩
  have hh : (A.deeper (e104 L)).handled = none := hA.handled
  have hA1 : OkA 1 (A.deeper (e104 L)) := hA.deeper _
  have em : ("" : Str).length = 0 := rfl
  refine tr_return (d := .str (prep x)) Vs.stable ?_ (fun v h dv z => ⟨v, rfl, dv, z.old⟩)
  refine ev_meth1 Vs.stable (a := .str "") (b := .list ((prepL x).map .str)) (ev_str _ _ _) ?_ meth_join (join_ok (by rw [em]; omega)) (by with_unfolding_all rfl) (by with_unfolding_all rfl) (by with_unfolding_all rfl)
  rw [prepL_eq]
  refine ev_comp (bind := fun d => [("sign", d)]) (fr := []) (cl := []) (src_str hh (ev_local (d := (D.str (x))) hE (by kernel_rfl!) (by kernel_rfl!) (by kernel_rfl!) (by kernel_rfl!))) vsB vsI (by rw [signsD, List.length_map, Array.length_toList]; exact Nat.le_trans hx (by omega)) (by kernel_rfl!) (by decide +kernel) rfl (by decide +kernel) (fun _ _ _ _ e => by cases e) (fun _ _ _ _ e => by cases e) ?_ (fun _ => rfl)
  constructor
  · intro d hd x e _; rfl
  · intro d hd Cc; exact asg_name (by kernel_rfl!) rfl
  · intro d hd av' K' Cc
    obtain ⟨c, rfl⟩ : ∃ c, d = .str (one c) := by
      obtain ⟨c, _, rfl⟩ := List.mem_map.mp hd
      exact ⟨c, rfl⟩
    exact tests_one (tst_not (tst_plain (av := av') (ev_call_f Vs.stable (ev_global (compEnv_ok rfl rfl (by kernel_rfl!)) vsB (by kernel_rfl!) (gl39 _) (by kernel_rfl!)) (evs_cons Vs.stable (ev_local (d := (D.str (one c))) (compEnv_ok rfl rfl (by kernel_rfl!)) (by kernel_rfl!) (by kernel_rfl!) (by kernel_rfl!) (by kernel_rfl!)) evs_nil (by with_unfolding_all rfl)) (b1_ok vsB vsI hA1 c) (fun h z => (vsB h z).k _ _ (lk39 _)) rfl (by with_unfolding_all rfl) (by with_unfolding_all rfl)) (by with_unfolding_all rfl)))
  · intro d hd hp av' K' Cc
    obtain ⟨c, rfl⟩ : ∃ c, d = .str (one c) := by
      obtain ⟨c, _, rfl⟩ := List.mem_map.mp hd
      exact ⟨c, rfl⟩
    exact (ev_call_f Vs.stable (ev_global (compEnv_ok rfl rfl (by kernel_rfl!)) vsB (by kernel_rfl!) (gl85 _) (by kernel_rfl!)) (evs_cons Vs.stable (ev_local (d := (D.str (one c))) (compEnv_ok rfl rfl (by kernel_rfl!)) (by kernel_rfl!) (by kernel_rfl!) (by kernel_rfl!) (by kernel_rfl!)) evs_nil (by with_unfolding_all rfl)) (b3_ok vsB vsI hA1 c) (fun h z => (vsB h z).k _ _ (lk85 _)) rfl (by with_unfolding_all rfl) (by with_unfolding_all rfl))
end
end
end Mine

open PySem PySem.W PyProof.Rows PySem.Calls
set_option Elab.async false
set_option maxRecDepth 100000
set_option maxHeartbeats 400000
set_option linter.unusedVariables false
namespace Mine
noncomputable section
section
variable {w : World} {A : Around} {av : List Addr} {C : HP} {K : Addr → Option Obj} {L : Addr} {cl cl' : List (Str × Addr)} {l fr : List (Str × D)}
theorem mem_lookup {α : Type} {x : Str} {v : α} : ∀ {l : List (Str × α)}, l.lookup x = some v → (x, v) ∈ l
  | [], e => by cases e
  | (y, u) :: l, e => by
    rw [List.lookup_cons] at e
    cases hyx : x == y with
    | true =>
      rw [hyx] at e
      cases e
      rw [beq_iff_eq.mp hyx]
      exact List.mem_cons_self
    | false => rw [hyx] at e; exact List.mem_cons_of_mem _ (mem_lookup e)
theorem cl_of (h1 : ∀ p ∈ cl', cl.lookup p.1 = some p.2) (h : Heap) (z : Vs w av K L cl l h) (x : Str) (c : Addr) (e : cl'.lookup x = some c) : ∃ v, h.IsCell c v := z.cells x c (h1 _ (mem_lookup e))
theorem fr_of (h1 : ∀ p ∈ cl', cl.lookup p.1 = some p.2) (h2 : ∀ p ∈ fr, l.lookup p.1 = some p.2 ∧ (cl'.lookup p.1).isSome = true) (h : Heap) (z : Vs w av K L cl l h) (x : Str) (d : D) (e : fr.lookup x = some d) : ∃ c v, cl'.lookup x = some c ∧ h.IsCell c (some v) ∧ Den av h v d := by
  obtain ⟨a, b⟩ := h2 _ (mem_lookup e)
  obtain ⟨c, hc⟩ := Option.isSome_iff_exists.mp b
  obtain ⟨m, hm, hv⟩ := z.vars
  obtain ⟨v, hx, dv⟩ := hv x d a
  rw [h1 _ (mem_lookup hc)] at hx
  exact ⟨c, v, hc, hx, dv⟩
theorem OkA.less {n m : Nat} (x : OkA n A) (h : m ≤ n) : OkA m A := ⟨x.handled, by have := x.depth; omega, by have := x.units; omega⟩
theorem eqv_nil (l : List PyData) : (PyData.list l).eqv (.list []) = l.isEmpty := by
  cases l <;> simp [PyData.eqv, PyData.eqvAll]
theorem pys_nil : D.pys [] = [] := by rw [D.pys]
theorem pys_isEmpty (l : List D) : (D.pys l).isEmpty = l.isEmpty := by
  cases l <;> simp [D.pys]
theorem plains_ints (n : Nat) (l : List Int) : D.plains n (l.map D.int) = true := by
  induction l with
  | nil => simp [D.plains]
  | cons a l ih => rw [List.map_cons, D.plains, ih]; cases n <;> simp [D.plain]
/-- the places of other signs than the blank -/
noncomputable def marL (x : Str) : List Nat := (List.range x.length).filter fun k => !(x.cps.getD k 0 == 32)
noncomputable def margin (x : Str) : Int := match marL x with
  | k :: _ => k
  | [] => (x.length : Int) - 1
noncomputable def atInt (x : Str) : D → Bool
  | .int k => !(x.cps.getD k.toNat 0 == 32)
  | _ => false
theorem marL_eq (x : Str) : ((((List.range x.length).map fun k : Nat => D.int k).filter (atInt x)).map fun d => d) = (marL x).map fun k : Nat => D.int k := by
  unfold marL
  rw [List.filter_map, List.map_map]
  rfl
noncomputable abbrev e116 (L : Addr) : Env := envOfC "_law_margin" (fSt 12).2.2.2 L 116 (.ref 115)
noncomputable abbrev c116 (L : Addr) : List (Str × Addr) := cellsFrom (L + 1) (fSt 12).2.2.2.names []
theorem c116_eq (L : Addr) : c116 L = [(("row" : Str), L + 1)] := by kernel_rfl!
theorem margin_ok (hB : ∀ h, C h → Base w h) (hI : ∀ h, C h → Inn av h) (hA : OkA 10 A) {x : Str} (hx : x.length ≤ 1000000) : CallOk w A av C (.ref 116) [.str x] (.int (margin x)) := by
  obtain ⟨co, cvs, ct, e1, e2, e3⟩ := cd116 w.params
  refine call_bodyC (x := "row") hB hI (by have := hA.depth; omega) (lk116 w.params) e1 e2 e3 (fun v => by kernel_rfl!) (fun L => .inr ⟨by kernel_rfl!, by kernel_rfl!⟩) (fun K L hO => ?_) (by kernel_rfl!) (by kernel_rfl!) (by kernel_rfl!)
  replace hO : Own K L (c116 L) := hO
  show Tr w (A.deeper (e116 L)) (Vs w av K L (c116 L) [("row", .str x)]) (execs (fSt 12).2.2.1 (e116 L)) _
  have hE : EnvOk (e116 L) L (c116 L) := ⟨rfl, rfl, rfl, rfl, by kernel_rfl!⟩
  have hh : (A.deeper (e116 L)).handled = none := hA.handled
  have hA1 : OkA 9 (A.deeper (e116 L)) := hA.deeper _
  have hcl : ∀ p ∈ c116 L, (c116 L).lookup p.1 = some p.2 := by
    rw [c116_eq]
    intro p hp
    rw [List.mem_singleton.mp hp]
    rfl
  refine tr_step (tr_assign_comp (cl' := c116 L) (fr := [("row", .str x)]) (ds := (List.range x.length).map fun k : Nat => D.int k) (p := atInt x) (f := fun d => d) (bind := fun d => [("place", d)]) hE (src_range hh (by omega) (ev_range1 (av := av) Vs.stable (ev_builtin hE vsB (by kernel_rfl!) (gn_range _) gb_range (by decide) (by kernel_rfl!)) (ev_call_b Vs.stable (ev_builtin hE vsB (by kernel_rfl!) (gn_len _) gb_len (by decide) (by kernel_rfl!)) (evs_cons Vs.stable (ev_cell (d := (D.str (x))) (c := L + 1) hE (by kernel_rfl!) (by kernel_rfl!) (by kernel_rfl!) (by kernel_rfl!)) evs_nil (by with_unfolding_all rfl)) (len_str_ok (by omega)) (by with_unfolding_all rfl) (by with_unfolding_all rfl) (by with_unfolding_all rfl)) (by with_unfolding_all rfl) (by with_unfolding_all rfl) (by with_unfolding_all rfl))) (by simp; omega) (by kernel_rfl!) (by decide +kernel) rfl (by decide +kernel)
    (cl_of hcl) (fr_of hcl (by
      intro p hp
      rw [List.mem_singleton.mp hp]
      exact ⟨rfl, by rw [c116_eq]; rfl⟩)) ?_ (by kernel_rfl!) (by rw [c116_eq]; rfl) (by kernel_rfl!) (fun _ => rfl)) ?_
  · constructor
    · intro d hd y e he
      obtain rfl : y = "place" := by
        have := mem_lookup he
        simp only [List.mem_singleton, Prod.mk.injEq] at this
        exact this.1
      rw [c116_eq]
      rfl
    · intro d hd Cc; exact asg_name (by kernel_rfl!) rfl
    · intro d hd av' K' Cc
      obtain ⟨k, hk, rfl⟩ := List.mem_map.mp hd
      have hlt : k < x.length := List.mem_range.mp hk
      have hit : x.cps[k]? = some (x.cps.getD k 0) := by
        have : k < x.cps.size := hlt
        rw [Array.getD_eq_getD_getElem?, Array.getElem?_eq_getElem this]; rfl
      exact tests_one (tst_not (tst_plain (av := av') (ev_call_f Vs.stable (ev_global (compEnv_ok rfl rfl (by kernel_rfl!)) vsB (by kernel_rfl!) (gl92 _) (by kernel_rfl!)) (evs_cons Vs.stable (ev_sub Vs.stable (ev_cell (d := (D.str (x))) (c := L + 1) (compEnv_ok rfl rfl (by kernel_rfl!)) (by kernel_rfl!) (by kernel_rfl!) (by kernel_rfl!) (by kernel_rfl!)) (ev_local (d := (D.int ((k : Int)))) (compEnv_ok rfl rfl (by kernel_rfl!)) (by kernel_rfl!) (by kernel_rfl!) (by kernel_rfl!) (by kernel_rfl!)) (item_str hit (by omega) (fun _ _ _ _ => by with_unfolding_all rfl))) evs_nil (by with_unfolding_all rfl)) (c11_ok vsB vsI (hA1.less (by decide)) (x.cps.getD k 0)) (fun h z => (vsB h z).k _ _ (lk92 _)) rfl (by with_unfolding_all rfl) (by with_unfolding_all rfl)) (by with_unfolding_all rfl)))
    · intro d hd hp av' K' Cc
      obtain ⟨k, hk, rfl⟩ := List.mem_map.mp hd
      exact (ev_local (d := (D.int ((k : Int)))) (compEnv_ok rfl rfl (by kernel_rfl!)) (by kernel_rfl!) (by kernel_rfl!) (by kernel_rfl!) (by kernel_rfl!))
  rw [marL_eq]
  refine tr_return (d := .int (margin x)) Vs.stable ?_ (fun v h dv z => ⟨v, rfl, dv, z.old⟩)
  refine ev_ifexp (b := !(marL x).isEmpty) Vs.stable ?_ (fun hb => ?_) (fun hb => ?_)
  · have hp : D.plain 9 (.list ((marL x).map fun k : Nat => D.int k)) = true := by
      rw [D.plain]
      have := plains_ints 8 ((marL x).map fun k : Nat => (k : Int))
      rwa [List.map_map] at this
    have e : (D.list ((marL x).map fun k : Nat => D.int k)).py.eqv (D.list []).py = (marL x).isEmpty := by
      rw [D.py, D.py, pys_nil, eqv_nil, pys_isEmpty]
      cases marL x <;> rfl
    have z := cmp_ne_data (w := w) (av := av) (C := Vs w av K L (c116 L) [("places", .list ((marL x).map fun k : Nat => D.int k)), ("row", .str x)]) (A := A.deeper (e116 L)) (show _ < 9900 by have := hA1.units; omega) hp (show D.plain 9 (.list []) = true by rw [D.plain, D.plains])
    rw [e] at z
    exact tst_cmpB (av := av) Vs.stable (ev_local (d := (D.list ((marL x).map fun k : Nat => D.int k))) hE (by kernel_rfl!) (by kernel_rfl!) (by kernel_rfl!) (by kernel_rfl!)) (ev_list Vs.stable vsI evs_nil (Nat.le_of_ble_eq_true rfl)) z (by with_unfolding_all rfl)
  · obtain ⟨k, r, hm⟩ : ∃ k r, marL x = k :: r := by
      cases hm : marL x with
      | nil => rw [hm] at hb; cases hb
      | cons k r => exact ⟨k, r, rfl⟩
    have em : margin x = k := by unfold margin; rw [hm]
    rw [em]
    refine ev_sub Vs.stable (ev_local (d := (D.list ((marL x).map fun k : Nat => D.int k))) hE (by kernel_rfl!) (by kernel_rfl!) (by kernel_rfl!) (by kernel_rfl!)) (ev_int 0 _ _) (item_list (k := 0) ?_ (by decide) (fun _ _ _ => by with_unfolding_all rfl))
    rw [hm]
    rfl
  · have em : margin x = (x.length : Int) - 1 := by
      unfold margin
      cases hm : marL x with
      | nil => rfl
      | cons k r => rw [hm] at hb; cases hb
    rw [em]
    exact (ev_binB Vs.stable (ev_call_b Vs.stable (ev_builtin hE vsB (by kernel_rfl!) (gn_len _) gb_len (by decide) (by kernel_rfl!)) (evs_cons Vs.stable (ev_cell (d := (D.str (x))) (c := L + 1) hE (by kernel_rfl!) (by kernel_rfl!) (by kernel_rfl!) (by kernel_rfl!)) evs_nil (by with_unfolding_all rfl)) (len_str_ok (by omega)) (by with_unfolding_all rfl) (by with_unfolding_all rfl) (by with_unfolding_all rfl)) (ev_int 1 _ _) bin_sub_int)
end
end
end Mine

open PySem PySem.W PyProof.Rows PySem.Calls
set_option Elab.async false
set_option maxRecDepth 100000
set_option maxHeartbeats 400000
set_option linter.unusedVariables false
namespace Mine
noncomputable section
/-- lists of their own, each with its data -/
inductive InnL (H : List Addr) (h : Heap) : List Addr → List (List D) → Prop
  | nil : InnL H h [] []
  | cons {a vs l as ls} : h.PlainList a vs → DenL H h vs.toList l → InnL H h as ls → InnL H h (a :: as) (l :: ls)
theorem InnL.mono {H : List Addr} {h h' : Heap} : ∀ {as : List Addr} {ls : List (List D)}, InnL H h as ls → (∀ b o, b ∉ H ∨ b ∈ as → h.get? b = some o → h'.get? b = some o) → InnL H h' as ls
  | _, _, .nil, _ => .nil
  | _, _, .cons p d r, k => .cons (p.at fun o e => k _ o (.inr List.mem_cons_self) e) (d.mono fun b o hb e => k b o (.inl hb) e) (r.mono fun b o hb e => k b o (hb.imp id (List.mem_cons_of_mem _)) e)
theorem InnL.avoid {H H' : List Addr} {h : Heap} (k : ∀ a, a ∈ H' → a ∈ H ∨ ∀ vs, ¬ h.IsList a vs ∧ ¬ h.IsTuple a vs) : ∀ {as : List Addr} {ls : List (List D)}, InnL H h as ls → InnL H' h as ls
  | _, _, .nil => .nil
  | _, _, .cons p d r => .cons p (d.avoid k) (r.avoid k)
theorem InnL.snoc {H : List Addr} {h : Heap} {a : Addr} {vs : Array Value} {l : List D} (p : h.PlainList a vs) (d : DenL H h vs.toList l) : ∀ {as : List Addr} {ls : List (List D)}, InnL H h as ls → InnL H h (as ++ [a]) (ls ++ [l])
  | _, _, .nil => .cons p d .nil
  | _, _, .cons p' d' r => .cons p' d' (r.snoc p d)
theorem InnL.den {H av : List Addr} {h : Heap} (k : ∀ a ∈ av, a ∈ H) : ∀ {as : List Addr} {ls : List (List D)}, InnL H h as ls → (∀ a ∈ as, a ∉ av) → DenL av h (as.map .ref) (ls.map .list)
  | _, _, .nil, _ => .nil
  | _, _, .cons p d r, n => .cons (.list _ _ _ p.isList (n _ List.mem_cons_self) (d.avoid fun a q => .inl (k a q))) (r.den k fun a q => n a (List.mem_cons_of_mem _ q))
theorem InnL.len {H : List Addr} {h : Heap} : ∀ {as : List Addr} {ls : List (List D)}, InnL H h as ls → as.length = ls.length
  | _, _, .nil => rfl
  | _, _, .cons _ _ r => by rw [List.length_cons, List.length_cons, r.len]
/-- the rows so far: R the outer list, as the closed rows' lists, a the open row's -/
structure RowsAt (h : Heap) (H : List Addr) (R : Addr) (as : List Addr) (a : Addr) (ini : List (List D)) (last : List D) : Prop where
  outer : h.PlainList R ((as ++ [a]).map Value.ref).toArray
  inner : InnL H h as ini
  cur : ∃ vs, h.PlainList a vs ∧ DenL H h vs.toList last
  nd : a ∉ as ∧ R ≠ a ∧ R ∉ as
section
variable {h h' : Heap} {H H' : List Addr} {R a a' : Addr} {as : List Addr} {ini : List (List D)} {last : List D} {d : D}
theorem RowsAt.mono (z : RowsAt h H R as a ini last) (k : ∀ b o, b ∉ H ∨ b = R ∨ b = a ∨ b ∈ as → h.get? b = some o → h'.get? b = some o) : RowsAt h' H R as a ini last :=
  ⟨z.outer.at fun o e => k _ o (.inr (.inl rfl)) e, z.inner.mono fun b o hb e => k b o (hb.imp id fun q => .inr (.inr q)) e, let ⟨vs, p, d⟩ := z.cur; ⟨vs, p.at fun o e => k _ o (.inr (.inr (.inl rfl))) e, d.mono fun b o hb e => k b o (.inl hb) e⟩, z.nd⟩
theorem RowsAt.addRow (z : RowsAt h H R as a ini last) (hn : h.get? a' = none) (hR : h'.PlainList R (((as ++ [a]).map Value.ref).toArray.push (.ref a'))) (ha : h'.PlainList a' #[]) (k : ∀ b o, b ≠ R → h.get? b = some o → h'.get? b = some o)
    (hRH : R ∈ H) (hH : ∀ x ∈ H', x ∈ H ∨ x = a') (hH' : ∀ x ∈ H, x ∈ H') : RowsAt h' H' R (as ++ [a]) a' (ini ++ [last]) [] := by
  obtain ⟨vs, p, dl⟩ := z.cur
  obtain ⟨n1, n2, n3⟩ := z.nd
  have lv : ∀ {x}, (∃ o, h.get? x = some o) → x ≠ a' := fun ⟨o, e⟩ q => by rw [q, hn] at e; cases e
  have av : ∀ x, x ∈ H' → x ∈ H ∨ ∀ vs, ¬ h.IsList x vs ∧ ¬ h.IsTuple x vs := fun x q => (hH x q).imp id fun q vs => ⟨fun ⟨o, e, _⟩ => lv ⟨o, e⟩ q, fun ⟨o, e, _⟩ => lv ⟨o, e⟩ q⟩
  have kH : ∀ b o, b ∉ H' ∨ b ∈ as ∨ b = a → h.get? b = some o → h'.get? b = some o := fun b o hb e => k b o (by
    rcases hb with q | q | q
    · exact fun e => q (hH' _ (e ▸ hRH))
    · exact fun e => n3 (e ▸ q)
    · exact fun e => n2 (e ▸ q)) e
  have aex : ∀ x ∈ as, ∃ o, h.get? x = some o := by
    have : ∀ {as : List Addr} {ls : List (List D)}, InnL H h as ls → ∀ x ∈ as, ∃ o, h.get? x = some o := by
      intro as ls r
      induction r with
      | nil => intro x q; cases q
      | cons p d r ih => intro x q; exact (List.mem_cons.mp q).elim (fun e => e ▸ ⟨_, p.choose_spec⟩) (ih x)
    exact this z.inner
  refine ⟨?_, (z.inner.avoid av).snoc p (dl.avoid av) |>.mono fun b o hb e => kH b o ?_ e, ⟨#[], ha, .nil⟩, ?_, ?_, ?_⟩
  · have : (((as ++ [a]) ++ [a']).map Value.ref).toArray = ((as ++ [a]).map Value.ref).toArray.push (.ref a') := by simp
    rw [this]; exact hR
  · rcases hb with q | q
    · exact .inl q
    · rcases List.mem_append.mp q with q | q
      · exact .inr (.inl q)
      · exact .inr (.inr (List.mem_singleton.mp q))
  · intro q
    rcases List.mem_append.mp q with q | q
    · exact lv (aex _ q) rfl
    · exact lv ⟨_, p.choose_spec⟩ (List.mem_singleton.mp q).symm
  · obtain ⟨n, e⟩ := z.outer
    exact lv ⟨_, e⟩
  · intro q
    rcases List.mem_append.mp q with q | q
    · exact n3 q
    · exact n2 (List.mem_singleton.mp q)
theorem RowsAt.addItem {vs : Array Value} {v : Value} (z : RowsAt h H R as a ini last) (p : h.PlainList a vs) (dl : DenL H h vs.toList last) (p' : h'.PlainList a (vs.push v)) (dv : Den H h' v d) (k : ∀ b o, b ≠ a → h.get? b = some o → h'.get? b = some o) (haH : a ∈ H) : RowsAt h' H R as a ini (last ++ [d]) := by
  obtain ⟨n1, n2, n3⟩ := z.nd
  refine ⟨z.outer.at fun o e => k _ o n2 e, z.inner.mono fun b o hb e => k b o ?_ e, ⟨_, p', ?_⟩, z.nd⟩
  · rcases hb with q | q
    · exact fun e => q (e ▸ haH)
    · exact fun e => n1 (e ▸ q)
  · rw [Array.toList_push]
    exact (dl.mono fun b o hb e => k b o (fun q => hb (q ▸ haH)) e).app (.cons dv .nil)
theorem RowsAt.den {av : List Addr} (z : RowsAt h H R as a ini last) (k : ∀ x ∈ av, x ∈ H) (n : ∀ x ∈ av, x ≠ R ∧ x ≠ a ∧ x ∉ as) : Den av h (.ref R) (.list ((ini ++ [last]).map .list)) := by
  obtain ⟨vs, p, dl⟩ := z.cur
  refine .list R _ _ z.outer.isList (fun q => (n R q).1 rfl) ?_
  have := (z.inner.snoc p dl).den k (av := av) fun x hx q => by
    rcases List.mem_append.mp hx with e | e
    · exact (n x q).2.2 e
    · exact (n x q).2.1 (List.mem_singleton.mp e)
  simpa using this
end
section
variable {w : World} {A : Around} {av : List Addr} {C : HP} {K : Addr → Option Obj} {L : Addr} {cl : List (Str × Addr)} {l l' : List (Str × D)}
theorem Vs.freshK {h : Heap} {x : Addr} (z : Vs w av K L cl l h) (hx : h.get? x = none) : K x = none ∧ x ≠ L ∧ x ∉ av := by
  refine ⟨?_, (z.lc hx).1, fun q => ?_⟩
  · cases e : K x with
    | none => rfl
    | some o => have := z.old _ _ e; rw [hx] at this; cases this
  · obtain ⟨o, e⟩ := z.inn x q
    rw [hx] at e
    cases e
theorem Vs.notL {h : Heap} (z : Vs w av K L cl l h) (vs : Array Value) : ¬ h.IsList L vs ∧ ¬ h.IsTuple L vs := by
  obtain ⟨m, hm, _⟩ := z.vars
  obtain ⟨o, es, ep, ho, hd, _⟩ := hm
  constructor
  · rintro ⟨o', e', _, n, hd'⟩; rw [ho] at e'; cases e'; rw [hd] at hd'; cases hd'
  · rintro ⟨o', e', _, n, hd'⟩; rw [ho] at e'; cases e'; rw [hd] at hd'; cases hd'
theorem Vs.hideL {h : Heap} (z : Vs w av K L cl l h) : Vs w (L :: av) K L cl l h := by
  have nl := z.notL
  obtain ⟨m, hm, hv⟩ := z.vars
  refine ⟨z.base₀, fun b q => ?_, z.old, z.new, z.cells, m, hm, fun y e q => let ⟨v, a, b⟩ := hv y e q; ⟨v, a, b.avoid fun a q => (List.mem_cons.mp q).elim (fun e => .inr (e ▸ nl)) .inl⟩⟩
  rcases List.mem_cons.mp q with rfl | q
  · obtain ⟨o, _, _, ho, _⟩ := hm
    exact ⟨o, ho⟩
  · exact z.inn b q
theorem Vs.turn1 {h h' : Heap} {a : Addr} (x : Vs w av K L [] l h) (hm : a ∈ av) (k : ∀ b o, b ≠ a → h.get? b = some o → h'.get? b = some o) (hs : ∃ o, h'.get? a = some o) (ha : K a = none) (hl : a ≠ L) : Vs w av K L [] l h' :=
  Vs.less (Vs.turn (av := av) (x.less fun b q => (List.mem_cons.mp q).elim (fun e => e ▸ hm) id) k hs ha ⟨hl, fun z c e => by cases e⟩) fun b q => List.mem_cons_of_mem _ q
theorem Vs.sub_of {h : Heap} (x : Vs w av K L cl l h) (k : ∀ p ∈ l', l.lookup p.1 = some p.2) : Vs w av K L cl l' h := x.sub fun y e q => k _ (mem_lookup q)
/-- the rows of what was drawn -/
noncomputable def rowsGo : List (Nat × Str) → List (List (Nat × Str)) → List (Nat × Str) → List (List (Nat × Str))
  | [], ini, last => ini ++ [last]
  | p :: r, ini, last => if p.1 = 10 then rowsGo r (ini ++ [last]) [] else rowsGo r ini (last ++ [p])
noncomputable def rowsOf (ds : List (Nat × Str)) : List (List (Nat × Str)) := rowsGo ds [] []
noncomputable abbrev pairD (p : Nat × Str) : D := .list [.str (one p.1), .str p.2]
noncomputable abbrev e123 (L : Addr) : Env := envOf "_law_rows" (fSt 13).2.2.2 L 123 (.ref 122)
theorem nl_one : ("\n" : Str) = one 10 := by decide +kernel
theorem rows_ok (hB : ∀ h, C h → Base w h) (hI : ∀ h, C h → Inn av h) (hA : OkA 2 A) {ds : List (Nat × Str)} (hn : ds.length ≤ 1000) : CallOk w A av C (.ref 123) [.list (ds.map pairD)] (.list ((rowsOf ds).map fun r => .list (r.map pairD))) := by
  obtain ⟨co, cvs, ct, e1, e2, e3⟩ := cd123 w.params
  refine call_body (x := "drawn") hB hI (by have := hA.depth; omega) (lk123 w.params) e1 e2 e3 (fun v => by kernel_rfl!) (by kernel_rfl!) (fun K L => ?_) (by kernel_rfl!) (by kernel_rfl!) (by kernel_rfl!) (by decide +kernel)
  have hE : EnvOk (e123 L) L [] := ⟨rfl, rfl, rfl, rfl, by kernel_rfl!⟩
  have hh : (A.deeper (e123 L)).handled = none := hA.handled
  refine .mk fun s Q E c q => ?_
  refine wpAny_execs_cons (wpAny_Assign_Name (List_ (args_cons (List_ (args_nil (wpAny_newObj_type (args_nil (wpAny_newObj_type ?_ ?_)) ?_))) (by with_unfolding_all rfl))) (by with_unfolding_all rfl))
  rotate_left
  · show 1 ≤ sizeLine
    exact sizeLine_at (by omega)
  · show 0 ≤ sizeLine
    exact sizeLine_at (by omega)
  obtain ⟨hp, g, d₀, tk₀, os₀⟩ := s
  dsimp only at q c ⊢
  have hp0 : (hp.push { cls := .type "list", data := .seq ([] : List Value).toArray }).get? hp.objs.size = some { cls := .type "list", data := .seq ([] : List Value).toArray } := Heap.get?_push_size _ rfl
  have c1 := c.hide (fun b o e => Heap.get?_push_of_some { cls := .type "list", data := .seq ([] : List Value).toArray } e) (Heap.get?_none_of_le (Nat.le_refl _)) ⟨_, hp0⟩
  generalize hh1 : hp.push { cls := .type "list", data := .seq ([] : List Value).toArray } = h1 at c1 hp0 ⊢
  generalize ha0 : hp.objs.size = a0 at c1 hp0 ⊢
  have hp1 : (h1.push { cls := .type "list", data := .seq [Value.ref a0].toArray }).get? h1.objs.size = some { cls := .type "list", data := .seq [Value.ref a0].toArray } := Heap.get?_push_size _ rfl
  have c2 := c1.hide (fun b o e => Heap.get?_push_of_some { cls := .type "list", data := .seq [Value.ref a0].toArray } e) (Heap.get?_none_of_le (Nat.le_refl _)) ⟨_, hp1⟩
  have hp01 : (h1.push { cls := .type "list", data := .seq [Value.ref a0].toArray }).get? a0 = _ := Heap.get?_push_of_some _ hp0
  have fR := c1.freshK (x := h1.objs.size) (Heap.get?_none_of_le (Nat.le_refl _))
  have fa := c.freshK (x := a0) (Heap.get?_none_of_le (Nat.le_of_eq ha0))
  have hRa : h1.objs.size ≠ a0 := fun e => fR.2.2 (e ▸ List.mem_cons_self)
  generalize hh2 : h1.push { cls := .type "list", data := .seq [Value.ref a0].toArray } = h2 at c2 hp1 hp01 ⊢
  generalize hR0 : h1.objs.size = R at c2 hp1 hp01 fR hRa ⊢
  refine vs_store (x := "rows") (d := .val (.ref R)) hE c2 (.val _) (by kernel_rfl!) rfl fun h3 tk3 c3 up3 => ?_
  have hpR : h3.PlainList R #[.ref a0] := ⟨_, up3 _ _ fR.2.1 hp1⟩
  have hpa : h3.PlainList a0 #[] := ⟨_, up3 _ _ fa.2.1 hp01⟩
  dsimp only
  clear hp0 hp1 hp01 c1 c2 up3 hh1 hh2 hR0 ha0 h1 h2 c
  refine wpAny_execs_cons (wpAny_For ?_ (fun _ => rfl))
  refine (src_list (av := R :: a0 :: av) (target := .Tuple [.Name "sign" ⟨56, 8, 56, 12⟩, .Name "meant" ⟨56, 14, 56, 19⟩] 0 ⟨56, 8, 56, 19⟩) hh (ev_local (d := (D.list (ds.map pairD))) hE (by kernel_rfl!) (by kernel_rfl!) (by kernel_rfl!) (by kernel_rfl!)) go_tuple).run _ _ _ c3 fun h₁ h₂ tk I St k1 k2 hI1 hI2 W st => ?_
  dsimp only at k1
  have c31 := Vs.stable _ _ k1 c3
  have hIs : h₁.get? I = none := Heap.get?_none_of_le hI1
  have fI := c31.freshK hIs
  have W := W [L, R, a0] (fun x hx => by
    simp only [List.mem_cons, List.not_mem_nil, or_false] at hx
    rcases hx with rfl | rfl | rfl
    · exact .inr c31.notL
    · exact .inl (by simp)
    · exact .inl (by simp))
  have lo : ∀ {b o}, h₁.get? b = some o → b ≠ I := fun {b o} e => by rintro rfl; rw [hIs] at e; cases e
  have hRI : R ≠ I := by obtain ⟨n, e⟩ := hpR; exact lo (k1 _ _ e)
  have haI : a0 ≠ I := by obtain ⟨n, e⟩ := hpa; exact lo (k1 _ _ e)
  have c4 : Vs w (I :: R :: a0 :: av) K L [] _ h₂ := c31.hide k2 hIs hI2
  refine codeAny_forLoop_any
    (fun k s' => ∃ h' tk i as a ini last, s' = ⟨h', g, d₀, tk, os₀⟩ ∧ St i h' ∧ Vs w (L :: I :: R :: (as ++ a :: av)) K L [] [("rows", .val (.ref R)), ("drawn", .list (ds.map pairD))] h' ∧
      RowsAt h' (L :: I :: R :: (as ++ a :: av)) R as a (ini.map fun r => r.map pairD) (last.map pairD) ∧ a0 ∈ as ++ [a] ∧ (∀ x ∈ as ++ [a], (x = a0 ∨ h₁.get? x = none) ∧ x ≠ I ∧ x ≠ L ∧ x ∉ av ∧ K x = none) ∧
      (∀ b o, b ∉ [L, R, a0] → h₁.get? b = some o → h'.get? b = some o) ∧ rowsGo (ds.drop i) ini last = rowsOf ds ∧ ini.length + last.length ≤ i ∧ i ≤ ds.length ∧ k = ds.length + 1 - i) ?_ (ds.length + 1)
    ⟨h₂, tk, 0, [], a0, [], [], rfl, st, ?_, ⟨?_, .nil, ⟨#[], ?_, .nil⟩, ?_⟩, by simp, ?_, fun b o _ e => k2 b o e, rfl, Nat.le_refl _, Nat.zero_le _, rfl⟩
  rotate_left
  · exact c4.hideL
  · exact hpR.at fun o e => k2 _ o (k1 _ o e)
  · exact hpa.at fun o e => k2 _ o (k1 _ o e)
  · exact ⟨List.not_mem_nil, hRa, List.not_mem_nil⟩
  · intro x hx
    obtain rfl : x = a0 := by simpa using hx
    exact ⟨.inl rfl, haI, fa.2.1, fa.2.2, fa.1⟩
  rintro k s' ⟨h', tk', i, as, a, ini, last, rfl, st', z', ra, ha0m, hnew, old, hgo, hlen, hi, rfl⟩
  have hIH : ∀ x, x ∈ (L :: I :: R :: (as ++ a :: av)) → x = L ∨ x = I ∨ x = R ∨ x ∈ as ++ [a] ∨ x ∈ av := fun x hx => by
    simp only [List.mem_cons, List.mem_append, List.not_mem_nil, or_false] at hx ⊢
    rcases hx with q | q | q | q | q | q <;> simp [q]
  have hAH : ∀ x, x ∈ as ++ [a] → x ∈ (L :: I :: R :: (as ++ a :: av)) := fun x hx => by
    simp only [List.mem_cons, List.mem_append, List.not_mem_nil, or_false] at hx ⊢
    rcases hx with q | q <;> simp [q]
  by_cases hlt : i < ds.length
  · refine W.item i _ _ _ (by simpa using hlt) st' fun v h4 tk4 d hd dv st4 k4 => ?_
    refine W.go _ _ _ _ _ st4 ?_
    obtain ⟨p, hp, rfl⟩ : ∃ p, ds[i]? = some p ∧ pairD p = d := by
      rw [List.getElem?_map] at hd
      cases e : ds[i]? with
      | none => rw [e] at hd; cases hd
      | some p => rw [e] at hd; exact ⟨p, rfl, by cases hd; rfl⟩
    have z4 := z'.turn1 (a := I) (by simp) k4 (W.here _ _ st4) fI.1 fI.2.1
    have ra4 : RowsAt h4 (L :: I :: R :: (as ++ a :: av)) R as a (ini.map fun r => r.map pairD) (last.map pairD) := ra.mono fun b o hb e => k4 b o (by
      rintro rfl
      rcases hb with hb | hb | hb | hb
      · exact hb (by simp)
      · exact hRI hb.symm
      · exact (hnew a (by simp)).2.1 hb.symm
      · exact (hnew _ (by simp [hb])).2.1 rfl) e
    have old4 : ∀ b o, b ∉ [L, R, a0] → h₁.get? b = some o → h4.get? b = some o := fun b o hb e => k4 b o (lo e) (old b o hb e)
    have dv4 : Den (L :: I :: R :: (as ++ a :: av)) h4 v (pairD p) := by
      refine (dv.avoid (av' := L :: I :: R :: (as ++ a :: av)) fun x hx => ?_).mono fun b o hb e => old4 b o (fun q => ?_) e
      · rcases hIH x hx with rfl | rfl | rfl | q | q
        · exact .inr c31.notL
        · exact .inr fun vs => ⟨fun ⟨o, e, _⟩ => lo e rfl, fun ⟨o, e, _⟩ => lo e rfl⟩
        · exact .inl (by simp)
        · rcases (hnew x q).1 with rfl | q
          · exact .inl (by simp)
          · exact .inr fun vs => ⟨fun ⟨o, e, _⟩ => (by rw [q] at e; cases e), fun ⟨o, e, _⟩ => (by rw [q] at e; cases e)⟩
        · exact .inl (by simp [q])
      · simp only [List.mem_cons, List.not_mem_nil, or_false] at q
        rcases q with rfl | rfl | rfl
        · exact hb (by simp)
        · exact hb (by simp)
        · exact hb (hAH _ ha0m)
    refine vs_asg hE z4 dv4 (asg_list (ns := [("sign", _), ("meant", _)]) hh (by kernel_rfl!) (fun x hx => by
      simp only [List.mem_cons, List.not_mem_nil, or_false] at hx
      rcases hx with rfl | rfl <;> kernel_rfl!) (by decide) rfl (by with_unfolding_all rfl)) (fun _ _ _ => rfl) fun h5 tk5 z5 k5 => ?_
    have ra5 : RowsAt h5 (L :: I :: R :: (as ++ a :: av)) R as a (ini.map fun r => r.map pairD) (last.map pairD) := ra4.mono fun b o hb e => k5 b o (by
      rintro rfl
      rcases hb with hb | hb | hb | hb
      · exact hb (by simp)
      · exact fR.2.1 hb.symm
      · exact (hnew a (by simp)).2.2.1 hb.symm
      · exact (hnew _ (by simp [hb])).2.2.1 rfl) e
    have st5 : St (i + 1) h5 := W.frame _ _ _ st4 (fun o e => k5 _ o (fun q => fI.2.1 q) e) fun b o hb e => k5 b o (fun q => hb (by simp [q])) (old4 b o hb e)
    have old5 : ∀ b o, b ∉ [L, R, a0] → h₁.get? b = some o → h5.get? b = some o := fun b o hb e => k5 b o (fun q => hb (by simp [q])) (old4 b o hb e)
    obtain ⟨hdr, hdr'⟩ : ds.drop i = p :: ds.drop (i + 1) ∧ True := ⟨by
      rw [List.drop_eq_getElem_cons hlt]
      rw [List.getElem?_eq_getElem hlt] at hp
      cases hp
      rfl, trivial⟩
    rw [hdr, rowsGo] at hgo
    refine wpAny_execs_cons (wpAny_If ((tst_cmpB (av := L :: I :: R :: (as ++ a :: av)) Vs.stable (ev_local (d := (D.str (one p.1))) hE (by kernel_rfl!) (by kernel_rfl!) (by kernel_rfl!) (by kernel_rfl!)) (ev_str _ _ _) cmp_eq_str (by with_unfolding_all rfl)).run _ _ _ z5 fun s6 k6 => ?_))
    obtain ⟨h6, tk6, rfl, k6⟩ := k6
    dsimp only at k6 ⊢
    have z6 := Vs.stable _ _ k6 z5
    have ra6 := ra5.mono fun b o _ e => k6 b o e
    have st6 := W.frame _ _ _ st5 (fun o e => k6 _ o e) fun b o hb e => k6 b o (old5 b o hb e)
    have old6 : ∀ b o, b ∉ [L, R, a0] → h₁.get? b = some o → h6.get? b = some o := fun b o hb e => k6 b o (old5 b o hb e)
    clear ra4 ra5 z4 z5 st4 st5 old4 old5 k4 k5 k6 dv4 ra z' st' old
    rw [nl_one, one_eq]
    cases hb : p.1 == 10 with
    | true =>
      have hb := beq_iff_eq.mp hb
      rw [if_pos hb] at hgo
      refine wpAny_execs_cons (wpAny_Expr (MethodCall_ (((ev_local (d := (D.val (.ref R))) hE (by kernel_rfl!) (by kernel_rfl!) (by kernel_rfl!) (by kernel_rfl!))).run _ _ _ z6 fun ov s7 k7 dv7 => ?_) (by with_unfolding_all rfl)) (by with_unfolding_all rfl) (by with_unfolding_all rfl))
      cases dv7
      obtain ⟨h7, tk7, rfl, k7⟩ := k7
      dsimp only at k7 ⊢
      have z7 := Vs.stable _ _ k7 z6
      have ra7 := ra6.mono fun b o _ e => k7 b o e
      have st7 := W.frame _ _ _ st6 (fun o e => k7 _ o e) fun b o hb e => k7 b o (old6 b o hb e)
      have old7 : ∀ b o, b ∉ [L, R, a0] → h₁.get? b = some o → h7.get? b = some o := fun b o hb e => k7 b o (old6 b o hb e)
      obtain ⟨nR, hoR⟩ := id ra7.outer
      refine getMethod_list_append hoR rfl rfl (callWith_method1 (args_cons (List_ (args_nil (wpAny_newObj_type (args_nil ?_) ?_))) (by with_unfolding_all rfl)) (by with_unfolding_all rfl) (by with_unfolding_all rfl))
      rotate_left
      · exact sizeLine_at (by simp)
      dsimp only
      have hn7 : h7.get? h7.objs.size = none := Heap.get?_none_of_le (Nat.le_refl _)
      have f7 := z7.freshK hn7
      have hpn : (h7.push { cls := .type "list", data := .seq ([] : List Value).toArray }).get? h7.objs.size = some { cls := .type "list", data := .seq ([] : List Value).toArray } := Heap.get?_push_size _ rfl
      have kp : ∀ b o, h7.get? b = some o → (h7.push { cls := .type "list", data := .seq ([] : List Value).toArray }).get? b = some o := fun b o e => Heap.get?_push_of_some _ e
      have zp := z7.hide kp hn7 ⟨_, hpn⟩
      generalize h7.push { cls := .type "list", data := .seq ([] : List Value).toArray } = hq at hpn kp zp ⊢
      generalize h7.objs.size = a' at hpn hn7 zp f7 ⊢
      have exR : ∃ o, h7.get? R = some o := ⟨_, hoR⟩
      have haR : a' ≠ R := fun e => by obtain ⟨o, eo⟩ := exR; rw [← e, hn7] at eo; cases eo
      have haI' : a' ≠ I := fun e => f7.2.2 (by simp [e])
      refine wpAny_list_append_plain (ra7.outer.at fun o e => kp _ o e) (fun h8 hp8 hs8 => ?_) (sizeLine_at ?_)
      · have k8 : ∀ b o, b ≠ R → hq.get? b = some o → h8.get? b = some o := fun b o hb e => hs8.extBut b o hb e
        have exR8 : ∃ o, h8.get? R = some o := ⟨_, hp8.choose_spec⟩
        have k78 : ∀ b o, b ≠ R → h7.get? b = some o → h8.get? b = some o := fun b o hb e => k8 b o hb (kp b o e)
        refine wpAny_execs_nil (wpAny_execs_nil ?_)
        have mem' : ∀ x, x ∈ (L :: I :: R :: ((as ++ [a]) ++ a' :: av)) ↔ x ∈ (L :: I :: R :: (as ++ a :: av)) ∨ x = a' := fun x => by
          simp only [List.mem_cons, List.mem_append, List.not_mem_nil, or_false]
          constructor
          · rintro (q | q | q | (q | q) | q | q) <;> simp [q]
          · rintro ((q | q | q | q | q | q) | q) <;> simp [q]
        refine ⟨_, ?_, h8, tk7, i + 1, as ++ [a], a', ini ++ [last], [], rfl, ?_, ?_, ?_, ?_, ?_, ?_, ?_, ?_, hlt, rfl⟩
        · omega
        · exact W.frame _ _ _ st7 (fun o e => k78 _ o hRI.symm e) fun b o hb e => k78 b o (fun q => hb (by simp [q])) (old7 b o hb e)
        · have z8 := zp.turn1 (a := R) (by simp) k8 exR8 fR.1 fR.2.1
          refine (z8.sub_of fun x hx => ?_).less fun x hx => ?_
          · simp only [List.mem_cons, List.not_mem_nil, or_false] at hx
            rcases hx with rfl | rfl <;> rfl
          · rcases (mem' x).mp hx with q | q
            · exact List.mem_cons_of_mem _ q
            · rw [q]; exact List.mem_cons_self
        · have r8 := ra7.addRow (a' := a') (h' := h8) (H' := L :: I :: R :: ((as ++ [a]) ++ a' :: av)) hn7 hp8 ⟨_, k8 _ _ haR hpn⟩ k78 (by simp) (fun x hx => (mem' x).mp hx) (fun x hx => (mem' x).mpr (.inl hx))
          simpa using r8
        · exact List.mem_append_left _ ha0m
        · intro x hx
          rcases List.mem_append.mp hx with q | q
          · exact hnew x q
          · obtain rfl := List.mem_singleton.mp q
            refine ⟨.inr ?_, haI', f7.2.1, fun q => f7.2.2 (by simp [q]), f7.1⟩
            cases e : h₁.get? x with
            | none => rfl
            | some o =>
              by_cases hx : x ∈ [L, R, a0]
              · exact absurd (by
                  simp only [List.mem_cons, List.not_mem_nil, or_false] at hx
                  rcases hx with rfl | rfl | rfl
                  · simp
                  · simp
                  · exact hAH _ ha0m) f7.2.2
              · have := old7 x o hx e
                rw [hn7] at this
                cases this
        · exact fun b o hb e => k78 b o (fun q => hb (by simp [q])) (old7 b o hb e)
        · exact hgo
        · simp; omega
      · have e := ra7.inner.len
        rw [List.length_map] at e
        simp
        omega
    | false =>
      have hb := beq_eq_false_iff_ne.mp hb
      rw [if_neg hb] at hgo
      refine wpAny_execs_cons (wpAny_Expr (MethodCall_ (Subscript_ (((ev_local (d := (D.val (.ref R))) hE (by kernel_rfl!) (by kernel_rfl!) (by kernel_rfl!) (by kernel_rfl!))).run _ _ _ z6 fun ov s7 k7 dv7 => UnaryOp_ (wpAny_Constant_int (neg_int ?_)))) (by with_unfolding_all rfl)) (by with_unfolding_all rfl) (by with_unfolding_all rfl))
      cases dv7
      obtain ⟨h7, tk7, rfl, k7⟩ := k7
      dsimp only at k7 ⊢
      have z7 := Vs.stable _ _ k7 z6
      have ra7 := ra6.mono fun b o _ e => k7 b o e
      have st7 := W.frame _ _ _ st6 (fun o e => k7 _ o e) fun b o hb e => k7 b o (old6 b o hb e)
      have old7 : ∀ b o, b ∉ [L, R, a0] → h₁.get? b = some o → h7.get? b = some o := fun b o hb e => k7 b o (old6 b o hb e)
      have eln := ra7.inner.len
      rw [List.length_map] at eln
      refine tail_any ra7.outer.isList.typeIs slot_list_getitem.lookup (wpAny_getItem_list_neg (x := .ref a) ra7.outer.isList (by decide) (by simp; omega) (by decide) ?_ ?_) (by with_unfolding_all rfl)
      · have : ((-1 : Int) + (((as ++ [a]).map Value.ref).toArray.size : Int)).toNat = as.length := by simp; omega
        rw [this]
        simp
      obtain ⟨vs, hpa7, dl7⟩ := ra7.cur
      obtain ⟨na, hoa⟩ := id hpa7
      refine getMethod_list_append hoa rfl rfl (callWith_method1 (args_cons (((ev_list Vs.stable vsI (evs_cons Vs.stable (ev_local (d := (D.str (one p.1))) hE (by kernel_rfl!) (by kernel_rfl!) (by kernel_rfl!) (by kernel_rfl!)) (evs_cons Vs.stable (ev_local (d := (D.str (p.2))) hE (by kernel_rfl!) (by kernel_rfl!) (by kernel_rfl!) (by kernel_rfl!)) evs_nil (by with_unfolding_all rfl)) (by with_unfolding_all rfl)) (Nat.le_of_ble_eq_true rfl))).run _ _ _ z7 fun u s8 k8 du8 => args_nil ?_) (by with_unfolding_all rfl)) (by with_unfolding_all rfl) (by with_unfolding_all rfl))
      obtain ⟨h8, tk8, rfl, k8⟩ := k8
      dsimp only at k8 du8 ⊢
      have lvs : vs.size ≤ 1000 := by
        have e := dl7.len
        rw [Array.length_toList, List.length_map] at e
        omega
      refine wpAny_list_append_plain (hpa7.at fun o e => k8 _ o e) (fun h9 hp9 hs9 => ?_) (sizeLine_at (by omega))
      have k9 : ∀ b o, b ≠ a → h8.get? b = some o → h9.get? b = some o := fun b o hb e => hs9.extBut b o hb e
      have hA := hnew a (by simp)
      refine wpAny_execs_nil (wpAny_execs_nil ⟨_, ?_, h9, tk8, i + 1, as, a, ini, last ++ [p], rfl, ?_, ?_, ?_, ha0m, hnew, ?_, hgo, ?_, hlt, rfl⟩)
      · omega
      · refine W.frame _ _ _ st7 (fun o e => k9 _ o hA.2.1.symm (k8 _ o e)) fun b o hb e => k9 b o ?_ (k8 b o (old7 b o hb e))
        rintro rfl
        rcases hA.1 with q | q
        · exact hb (by simp [q])
        · rw [q] at e; cases e
      · refine ((Vs.stable _ _ k8 z7).turn1 (a := a) (by simp) k9 ⟨_, hp9.choose_spec⟩ hA.2.2.2.2 hA.2.2.1).sub_of fun x hx => ?_
        simp only [List.mem_cons, List.not_mem_nil, or_false] at hx
        rcases hx with rfl | rfl <;> rfl
      · have ra8 := ra7.mono (h' := h8) fun b o _ e => k8 b o e
        have du9 : Den (L :: I :: R :: (as ++ a :: av)) h9 u (pairD p) := du8.mono fun b o hb e => k9 b o (fun q => hb (by simp [q])) e
        have r9 := ra8.addItem (h' := h9) (hpa7.at fun o e => k8 _ o e) (dl7.mono fun b o _ e => k8 b o e) hp9 du9 k9 (by simp)
        simpa using r9
      · refine fun b o hb e => k9 b o ?_ (k8 b o (old7 b o hb e))
        rintro rfl
        rcases hA.1 with q | q
        · exact hb (by simp [q])
        · rw [q] at e; cases e
      · simp; omega
  · have hin : i = ds.length := Nat.le_antisymm hi (Nat.not_lt.mp hlt)
    subst hin
    rw [List.drop_length] at hgo
    refine W.done _ _ _ (by simpa using st') fun h4 tk4 k4 => wpAny_execs_nil ?_
    have nI : I ∉ R :: (as ++ a :: av) := fun q => by
      rcases List.mem_cons.mp q with q | q
      · exact hRI q.symm
      · rcases List.mem_append.mp q with q | q
        · exact (hnew _ (List.mem_append_left _ q)).2.1 rfl
        · rcases List.mem_cons.mp q with q | q
          · exact (hnew a (by simp)).2.1 q.symm
          · exact fI.2.2 (by simp [q])
    have z4 : Vs w (R :: (as ++ a :: av)) K L [] _ h4 := Vs.bare (z'.less fun b q => List.mem_cons_of_mem _ q) k4 fI.1 fI.2.1 (fun c v e => by cases e) nI
    have ra4 : RowsAt h4 (L :: I :: R :: (as ++ a :: av)) R as a (ini.map fun r => r.map pairD) (last.map pairD) := ra.mono fun b o hb e => k4 b o (by
      rintro rfl
      rcases hb with hb | hb | hb | hb
      · exact hb (by simp)
      · exact hRI hb.symm
      · exact (hnew a (by simp)).2.1 hb.symm
      · exact (hnew _ (by simp [hb])).2.1 rfl) e
    have fin := ra4.den (av := av) (fun x hx => by simp [hx]) (fun x hx => ⟨fun e => fR.2.2 (by simp [← e, hx]), fun e => (hnew a (by simp)).2.2.2.1 (e ▸ hx), fun e => (hnew x (by simp [e])).2.2.2.1 hx⟩)
    have e0 : (ini.map (fun r => r.map pairD) ++ [last.map pairD]).map D.list = (rowsOf ds).map fun r => .list (r.map pairD) := by
      rw [← hgo, rowsGo]
      simp
    rw [e0] at fin
    refine wpAny_execs_cons (wpAny_Return_some (((ev_local (d := (D.val (.ref R))) hE (by kernel_rfl!) (by kernel_rfl!) (by kernel_rfl!) (by kernel_rfl!))).run _ _ _ z4 fun v s5 k5 dv => ?_))
    cases dv
    obtain ⟨h5, tk5, rfl, k5⟩ := k5
    exact q _ h5 tk5 ⟨_, rfl, fin.mono fun b o _ e => k5 b o e, fun b o e => k5 b o (z4.old b o e)⟩
end
end
end Mine

open PySem PySem.W PyProof.Rows PySem.Calls
set_option Elab.async false
set_option maxRecDepth 100000
set_option maxHeartbeats 400000
set_option linter.unusedVariables false
namespace Mine
noncomputable section
noncomputable abbrev rowD (r : List (Nat × Str)) : D := .list (r.map pairD)
noncomputable def unpairD : D → Nat × Str
  | .list [.str s, .str m] => (s.cps.getD 0 0, m)
  | _ => (0, "")
noncomputable def rowOfD : D → List (Nat × Str)
  | .list l => l.map unpairD
  | _ => []
noncomputable def strOfD : D → Str
  | .str s => s
  | _ => ""
noncomputable def natOfD : D → Nat
  | .int i => i.toNat
  | _ => 0
theorem unpair_pair (p : Nat × Str) : unpairD (pairD p) = p := by obtain ⟨c, m⟩ := p; rfl
theorem rowOf_row (r : List (Nat × Str)) : rowOfD (rowD r) = r := by
  show (r.map pairD).map unpairD = r
  rw [List.map_map]
  conv => rhs; rw [← List.map_id r]
  exact List.map_congr_left fun p _ => unpair_pair p
/-- the rows' texts -/
noncomputable def rawS (r : List (Nat × Str)) : Str := Txt.join "" (r.map fun p => one p.1)
noncomputable def madeS (r : List (Nat × Str)) : Str := Txt.join "" (r.map fun p => p.2)
section
variable (rows : List (List (Nat × Str)))
noncomputable def sizeI : Int := margin (rawS (rows.headD []))
noncomputable def grownI : Int := margin (madeS (rows.headD []))
noncomputable def lostN (r : List (Nat × Str)) : Nat := (madeS (r.take (upto r.length (sizeI rows)))).length
noncomputable def firstS : Str := Txt.join "\n" (rows.map rawS)
noncomputable def foldS : Str := Txt.join "\n" (rows.map madeS)
noncomputable def cutS : Str := Txt.join "\n" (rows.map fun r => Txt.slice (rawS r) (some (sizeI rows)) none)
noncomputable def cutFoldS : Str := Txt.join "\n" (rows.map fun r => Txt.slice (madeS r) (some (lostN rows r : Int)) none)
noncomputable def lastS : Str := Txt.join "\n" (rows.map fun r => Txt.slice (madeS r) (some ((lostN rows r : Int) + grownI rows - sizeI rows)) none)
noncomputable def foldCutS : Str := Txt.join "\n" (rows.map fun r => Txt.slice (madeS r) (some (grownI rows)) none)
noncomputable def cutO : Option Str := if 0 ≤ sizeI rows then some (cutS rows) else none
noncomputable def cutFoldO : Option Str := if 0 ≤ sizeI rows then some (cutFoldS rows) else none
noncomputable def lastO : Option Str := if 0 ≤ sizeI rows then if sizeI rows < ((madeS (rows.headD [])).length : Int) then some (lastS rows) else none else none
noncomputable def foldCutO : Option Str := if 0 ≤ grownI rows then some (foldCutS rows) else none
noncomputable def stepsL : List (Option Str × Option Str × Option Str) :=
  [(some (firstS rows), cutO rows, some (foldS rows)), (some (foldS rows), foldCutO rows, some (foldS rows)), (cutO rows, cutO rows, cutFoldO rows), (cutFoldO rows, lastO rows, cutFoldO rows), (foldCutO rows, foldCutO rows, foldCutO rows), (lastO rows, lastO rows, lastO rows)]
end
noncomputable def optS : Option Str → D
  | none => .val .none
  | some x => .str x
noncomputable abbrev stepD (p : Option Str × Option Str × Option Str) : D := .list [optS p.1, optS p.2.1, optS p.2.2]
/-- few and short rows -/
structure RowsB (rows : List (List (Nat × Str))) : Prop where
  len : rows.length ≤ 100
  row : ∀ r ∈ rows, r.length ≤ 100
  meant : ∀ r ∈ rows, ∀ p ∈ r, p.2.length ≤ 10
theorem join_len (sep : Str) (ss : List Str) : (Txt.join sep ss).length = (ss.map (·.length)).sum + (ss.length - 1) * sep.length := size_glued sep ss
theorem sum_le {α : Type} {l : List α} {f : α → Nat} {B : Nat} (h : ∀ x ∈ l, f x ≤ B) : (l.map f).sum ≤ l.length * B := by
  induction l with
  | nil => simp
  | cons a l ih =>
    have h1 := h a List.mem_cons_self
    have h2 := ih fun x hx => h x (List.mem_cons_of_mem _ hx)
    rw [List.map_cons, List.sum_cons, List.length_cons, Nat.succ_mul]
    omega
theorem empty_len : ("" : Str).length = 0 := rfl
theorem nl_len : ("\n" : Str).length = 1 := rfl
theorem rawS_len (r : List (Nat × Str)) : (rawS r).length = r.length := by
  unfold rawS
  rw [join_len, empty_len, Nat.mul_zero, Nat.add_zero, List.map_map]
  induction r with
  | nil => rfl
  | cons a r ih => rw [List.map_cons, List.sum_cons, List.length_cons, ih]; show 1 + _ = _; omega
theorem madeS_le {r : List (Nat × Str)} (h : ∀ p ∈ r, p.2.length ≤ 10) : (madeS r).length ≤ r.length * 10 := by
  unfold madeS
  rw [join_len, empty_len, Nat.mul_zero, Nat.add_zero, List.map_map]
  exact sum_le h
theorem RowsB.made {rows : List (List (Nat × Str))} (z : RowsB rows) {r : List (Nat × Str)} (h : r ∈ rows) : (madeS r).length ≤ 1000 := by
  have := madeS_le (z.meant r h)
  have := z.row r h
  omega
theorem RowsB.joins {rows : List (List (Nat × Str))} (z : RowsB rows) {f : List (Nat × Str) → Str} (h : ∀ r ∈ rows, (f r).length ≤ 1000) : ((rows.map f).map (·.length)).sum + (rows.map f).length * ("\n" : Str).length ≤ 1000000 := by
  rw [List.map_map, nl_len, List.length_map]
  have := sum_le (l := rows) (f := (fun x => Str.length x) ∘ f) (B := 1000) (fun r hr => h r hr)
  have := z.len
  omega
theorem range_getD {α β : Type} (G : α → β) (d : α) (l : List α) : (List.range l.length).map (fun k => G (l.getD k d)) = l.map G := by
  refine List.ext_getElem (by simp) fun i h1 h2 => ?_
  rw [List.length_map, List.length_range] at h1
  rw [List.getElem_map, List.getElem_map, List.getElem_range, List.getD_eq_getElem?_getD, List.getElem?_eq_getElem h1]
  rfl
section
variable {w : World} {A : Around} {av : List Addr} {C : HP} {env : Env} {K : Addr → Option Obj} {L : Addr} {cl cl' : List (Str × Addr)} {l l' fr : List (Str × D)} {d d' : D}
theorem Ev.as {x : Sem Value} (h : Ev w A av C x d) (e : d = d') : Ev w A av C x d' := e ▸ h
/-- a target of two names takes a pair -/
theorem asg_pair {p1 p2 p3 : Pos} {k : Nat} {p : Nat × Str} (hh : A.handled = none) (hp : env.scope.kind = .function) (h1 : env.kindOf "sign" = some .local) (h2 : env.kindOf "meant" = some .local)
    (he : assignEach [.Name "sign" p1, .Name "meant" p2] env = [(false, assign (.Name "sign" p1) env), (false, assign (.Name "meant" p2) env)]) :
    AsgOk w A (.Tuple [.Name "sign" p1, .Name "meant" p2] k p3) env (pairD p) [("sign", .str (one p.1)), ("meant", .str p.2)] :=
  asg_list (ns := [("sign", p1), ("meant", p2)]) hh hp (fun x hx => by
    simp only [List.mem_cons, List.not_mem_nil, or_false] at hx
    rcases hx with rfl | rfl
    · exact h1
    · exact h2) (show ([("sign" : Str), "meant"] : List Str).Nodup by decide) rfl he
variable {X : Type} {xs : List X} {g F : X → D} {inv : D → X} {B : X → List (Str × D)} {target iter elt : PySem.Expr} {scope : Scope} {pos spos py : Pos} {y : Str}
theorem compOk0 (hinv : ∀ x, inv (g x) = x) (bc : ∀ x ∈ xs, ∀ y e, (B x).lookup y = some e → cl'.lookup y = none) (asg : ∀ x ∈ xs, ∀ Cc, AsgOk w A target (compEnvC scope cl' Cc env) (g x) (B x))
    (el : ∀ x ∈ xs, ∀ av' K Cc, Ev w A av' (Vs w av' K Cc cl' (B x ++ fr)) (eval elt (compEnvC scope cl' Cc env)) (F x)) : CompOk w A env target [] elt scope cl' (xs.map g) (fun _ => true) (F ∘ inv) (B ∘ inv) fr where
  bc := fun d hd y e q => by
    obtain ⟨x, hx, rfl⟩ := List.mem_map.mp hd
    rw [Function.comp_apply, hinv] at q
    exact bc x hx y e q
  asg := fun d hd Cc => by
    obtain ⟨x, hx, rfl⟩ := List.mem_map.mp hd
    rw [Function.comp_apply, hinv]
    exact asg x hx Cc
  test := fun d hd av' K Cc => tests_nil
  elt := fun d hd _ av' K Cc => by
    obtain ⟨x, hx, rfl⟩ := List.mem_map.mp hd
    rw [Function.comp_apply, Function.comp_apply, hinv]
    exact el x hx av' K Cc
theorem comp0_eq (hinv : ∀ x, inv (g x) = x) : ((xs.map g).filter fun _ => true).map (F ∘ inv) = xs.map F := by
  rw [List.filter_eq_self.mpr fun _ _ => rfl, List.map_map]
  exact List.map_congr_left fun x _ => by rw [Function.comp_apply, Function.comp_apply, hinv]
theorem ev_comp0 (hinv : ∀ x, inv (g x) = x) (hsrc : Src w A av C (eval iter env) target (xs.map g)) (hB : ∀ h, C h → Base w h) (hI : ∀ h, C h → Inn av h) (hz : xs.length ≤ 16777216) (hclos : closureFor scope env = pure cl') (hcell : ∀ y ∈ scope.names, y.2 ≠ .cell) (hkind : scope.kind = .function)
    (hnames : ∀ y ∈ scope.names, y.2 = .local → scope.names.lookup y.1 = some .local) (hcs : ∀ h, C h → ∀ x c, cl'.lookup x = some c → ∃ v, h.IsCell c v) (hfr : ∀ h, C h → ∀ x d, fr.lookup x = some d → ∃ c v, cl'.lookup x = some c ∧ h.IsCell c (some v) ∧ Den av h v d)
    (bc : ∀ x ∈ xs, ∀ y e, (B x).lookup y = some e → cl'.lookup y = none) (asg : ∀ x ∈ xs, ∀ Cc, AsgOk w A target (compEnvC scope cl' Cc env) (g x) (B x))
    (el : ∀ x ∈ xs, ∀ av' K Cc, Ev w A av' (Vs w av' K Cc cl' (B x ++ fr)) (eval elt (compEnvC scope cl' Cc env)) (F x))
    (hs : ∀ x, foldedSetIterable iter env x = pure x) : Ev w A av C (eval (.ListComp elt [⟨target, iter, [], 0⟩] scope pos) env) (.list (xs.map F)) :=
  (ev_comp hsrc hB hI (by rw [List.length_map]; exact hz) hclos hcell hkind hnames hcs hfr (compOk0 hinv bc asg el) hs).as (by rw [comp0_eq hinv])
theorem tr_assign_comp0 (hinv : ∀ x, inv (g x) = x) (hE : EnvOk env L cl) (hsrc : Src w A av (Vs w av K L cl l) (eval iter env) target (xs.map g)) (hz : xs.length ≤ 16777216) (hclos : closureFor scope env = pure cl') (hcell : ∀ y ∈ scope.names, y.2 ≠ .cell) (hkind : scope.kind = .function)
    (hnames : ∀ y ∈ scope.names, y.2 = .local → scope.names.lookup y.1 = some .local) (hcs : ∀ h, Vs w av K L cl l h → ∀ x c, cl'.lookup x = some c → ∃ v, h.IsCell c v) (hfr : ∀ h, Vs w av K L cl l h → ∀ x d, fr.lookup x = some d → ∃ c v, cl'.lookup x = some c ∧ h.IsCell c (some v) ∧ Den av h v d)
    (bc : ∀ x ∈ xs, ∀ y e, (B x).lookup y = some e → cl'.lookup y = none) (asg : ∀ x ∈ xs, ∀ Cc, AsgOk w A target (compEnvC scope cl' Cc env) (g x) (B x))
    (el : ∀ x ∈ xs, ∀ av' K Cc, Ev w A av' (Vs w av' K Cc cl' (B x ++ fr)) (eval elt (compEnvC scope cl' Cc env)) (F x))
    (hy : env.kindOf y = some .local) (hyc : cl.lookup y = none) (hsw : swapsWith (.ListComp elt [⟨target, iter, [], 0⟩] scope pos) (some (.Name y py)) spos.line env = pure true) (hs : ∀ x, foldedSetIterable iter env x = pure x) (hd : .list (xs.map F) = d) :
    Tr w A (Vs w av K L cl l) (exec (.Assign [.Name y py] (.ListComp elt [⟨target, iter, [], 0⟩] scope pos) spos) env) (fun fl h => fl = .next ∧ Vs w av K L cl ((y, d) :: l) h) := by
  have z := tr_assign_comp hE hsrc (by rw [List.length_map]; exact hz) hclos hcell hkind hnames hcs hfr (compOk0 hinv bc asg el) hy hyc hsw hs
  rw [comp0_eq hinv, hd] at z
  exact z
end
end
end Mine

open PySem PySem.W PyProof.Rows PySem.Calls
set_option Elab.async false
set_option maxRecDepth 100000
set_option maxHeartbeats 1000000
set_option linter.unusedVariables false
namespace Mine
noncomputable section
section
variable {w : World} {A : Around} {av : List Addr} {C : HP}
theorem rawS_sum (r : List (Nat × Str)) (h : ∀ p ∈ r, p.2.length ≤ 10) : ((r.map fun p => one p.1).map (·.length)).sum ≤ r.length * 10 := by
  rw [List.map_map]
  exact sum_le fun p _ => (by decide : 1 ≤ 10)
theorem madeS_sum (r : List (Nat × Str)) (h : ∀ p ∈ r, p.2.length ≤ 10) : ((r.map fun p => p.2).map (·.length)).sum ≤ r.length * 10 := by
  rw [List.map_map]
  exact sum_le h
theorem RowsB.joins15 {rows : List (List (Nat × Str))} (z : RowsB rows) {f : List (Nat × Str) → Str} (h : ∀ r ∈ rows, (f r).length ≤ 1000) : ((rows.map f).map (·.length)).sum + (rows.map f).length * ("\n" : Str).length ≤ 16777216 := by
  have := z.joins h
  omega
noncomputable abbrev e128 (L : Addr) : Env := envOfC "_law_steps" (fSt 14).2.2.2 L 128 (.ref 127)
noncomputable abbrev c128 (L : Addr) : List (Str × Addr) := cellsFrom (L + 1) (fSt 14).2.2.2.names []
theorem c128_eq (L : Addr) : c128 L = [(("lost" : Str), L + 4), (("grown" : Str), L + 3), (("size" : Str), L + 2), (("made" : Str), L + 1)] := by kernel_rfl!
theorem steps_ok (hB : ∀ h, C h → Base w h) (hI : ∀ h, C h → Inn av h) (hA : OkA 20 A) {r0 : List (Nat × Str)} {rs : List (List (Nat × Str))} (hb : RowsB (r0 :: rs)) : CallOk w A av C (.ref 128) [.list ((r0 :: rs).map rowD)] (.list ((stepsL (r0 :: rs)).map stepD)) := by
  obtain ⟨co, cvs, ct, e1, e2, e3⟩ := cd128 w.params
  refine call_bodyC (x := "rows") hB hI (by have := hA.depth; omega) (lk128 w.params) e1 e2 e3 (fun v => by kernel_rfl!) (fun L => .inl ⟨by kernel_rfl!, by kernel_rfl!⟩) (fun K L hO => ?_) (by kernel_rfl!) (by kernel_rfl!) (by kernel_rfl!)
  replace hO : Own K L (c128 L) := hO
  show Tr w (A.deeper (e128 L)) (Vs w av K L (c128 L) [("rows", .list ((r0 :: rs).map rowD))]) (execs (fSt 14).2.2.1 (e128 L)) _
  have hE : EnvOk (e128 L) L (c128 L) := ⟨rfl, rfl, rfl, rfl, by kernel_rfl!⟩
  have hh : (A.deeper (e128 L)).handled = none := hA.handled
  have hA1 : OkA 19 (A.deeper (e128 L)) := hA.deeper _
  have hr0 : (r0 :: rs).headD [] = r0 := rfl
  obtain ⟨rows, hrows⟩ : ∃ rows, rows = r0 :: rs := ⟨_, rfl⟩
  have hd0 : rows.headD [] = r0 := by rw [hrows]; rfl
  have hm0 : r0 ∈ rows := by rw [hrows]; exact List.mem_cons_self
  have hg0 : rows[0]? = some r0 := by rw [hrows]; rfl
  rw [← hrows] at hb ⊢
  clear hrows hr0
  have hz : ∀ r ∈ rows, r.length ≤ 16777216 := fun r h => by have := hb.row r h; omega
  refine tr_step (tr_assign_comp0 (xs := rows) (g := rowD) (inv := rowOfD) (F := fun r => .str (rawS r)) (B := fun r => [("row", rowD r)]) (cl' := []) (fr := []) (d := .list ((rows.map rawS).map .str)) rowOf_row hE (src_list hh (ev_local (d := (D.list (rows.map rowD))) hE (by kernel_rfl!) (by kernel_rfl!) (by kernel_rfl!) (by kernel_rfl!)) go_name) (by have := hb.len; omega) (by kernel_rfl!) (by decide +kernel) rfl (by decide +kernel) (fun _ _ _ _ e => by cases e) (fun _ _ _ _ e => by cases e) (fun _ _ _ _ _ => rfl) (fun r _ Cc => asg_name (by kernel_rfl!) rfl) (fun r hr av' K' Cc => ?_) (by kernel_rfl!) (by rw [c128_eq]; rfl) (by kernel_rfl!) (fun _ => rfl) (by rw [List.map_map]; rfl)) ?_
  · exact (ev_meth1 Vs.stable (a := .str "") (b := .list ((r.map fun p => (one p.1)).map .str)) (ev_str _ _ _) (Ev.as (ev_comp0 (xs := r) (g := pairD) (inv := unpairD) (F := fun p => .str (one p.1)) (B := fun p => [("sign", .str (one p.1)), ("meant", .str p.2)]) (cl' := []) (fr := []) unpair_pair (src_list hh (ev_local (d := rowD r) (compEnv_ok rfl rfl (by kernel_rfl!)) (by kernel_rfl!) (by kernel_rfl!) (by kernel_rfl!) (by kernel_rfl!)) go_tuple) vsB vsI (by have := hz r hr; omega) (by kernel_rfl!) (by decide +kernel) rfl (by decide +kernel) (fun _ _ _ _ e => by cases e) (fun _ _ _ _ e => by cases e) (fun _ _ _ _ _ => rfl) (fun p _ Cc => asg_pair hh rfl (by kernel_rfl!) (by kernel_rfl!) (by with_unfolding_all rfl)) (fun p hp av' K Cc => ev_local (d := .str (one p.1)) (compEnv_ok rfl rfl (by kernel_rfl!)) (by kernel_rfl!) (by kernel_rfl!) (by kernel_rfl!) (by kernel_rfl!)) (fun _ => rfl)) (by rw [List.map_map]; rfl)) meth_join (join_ok (by have h1 := rawS_sum r (hb.meant r hr); have := hb.row r hr; rw [empty_len]; omega)) (by with_unfolding_all rfl) (by with_unfolding_all rfl) (by with_unfolding_all rfl))
  refine tr_step (tr_assign_cell (c := L + 1) (d := .list ((rows.map madeS).map .str)) hE hO (Ev.as (ev_comp0 (xs := rows) (g := rowD) (inv := rowOfD) (F := fun r => .str (madeS r)) (B := fun r => [("row", rowD r)]) (cl' := []) (fr := []) rowOf_row (src_list hh (ev_local (d := (D.list (rows.map rowD))) hE (by kernel_rfl!) (by kernel_rfl!) (by kernel_rfl!) (by kernel_rfl!)) go_name) vsB vsI (by have := hb.len; omega) (by kernel_rfl!) (by decide +kernel) rfl (by decide +kernel) (fun _ _ _ _ e => by cases e) (fun _ _ _ _ e => by cases e) (fun _ _ _ _ _ => rfl) (fun r _ Cc => asg_name (by kernel_rfl!) rfl) (fun r hr av' K' Cc => ?_) (fun _ => rfl)) (by rw [List.map_map]; rfl)) (by kernel_rfl!) (by rw [c128_eq]; rfl) (by kernel_rfl!)) ?_
  · exact (ev_meth1 Vs.stable (a := .str "") (b := .list ((r.map fun p => p.2).map .str)) (ev_str _ _ _) (Ev.as (ev_comp0 (xs := r) (g := pairD) (inv := unpairD) (F := fun p => .str p.2) (B := fun p => [("sign", .str (one p.1)), ("meant", .str p.2)]) (cl' := []) (fr := []) unpair_pair (src_list hh (ev_local (d := rowD r) (compEnv_ok rfl rfl (by kernel_rfl!)) (by kernel_rfl!) (by kernel_rfl!) (by kernel_rfl!) (by kernel_rfl!)) go_tuple) vsB vsI (by have := hz r hr; omega) (by kernel_rfl!) (by decide +kernel) rfl (by decide +kernel) (fun _ _ _ _ e => by cases e) (fun _ _ _ _ e => by cases e) (fun _ _ _ _ _ => rfl) (fun p _ Cc => asg_pair hh rfl (by kernel_rfl!) (by kernel_rfl!) (by with_unfolding_all rfl)) (fun p hp av' K Cc => ev_local (d := .str p.2) (compEnv_ok rfl rfl (by kernel_rfl!)) (by kernel_rfl!) (by kernel_rfl!) (by kernel_rfl!) (by kernel_rfl!)) (fun _ => rfl)) (by rw [List.map_map]; rfl)) meth_join (join_ok (by have h1 := madeS_sum r (hb.meant r hr); have := hb.row r hr; rw [empty_len]; omega)) (by with_unfolding_all rfl) (by with_unfolding_all rfl) (by with_unfolding_all rfl))
  have hm1 : (rawS r0).length ≤ 1000000 := by rw [rawS_len]; have := hb.row r0 hm0; omega
  have hm2 : (madeS r0).length ≤ 1000000 := by have := hb.made hm0; omega
  have hi0 : ((rows.map rawS).map D.str)[0]? = some (D.str (rawS r0)) := by rw [List.getElem?_map, List.getElem?_map, hg0]; rfl
  have hj0 : ((rows.map madeS).map D.str)[0]? = some (D.str (madeS r0)) := by rw [List.getElem?_map, List.getElem?_map, hg0]; rfl
  have hk : ∀ {k : Nat} {r}, rows[k]? = some r → ((rows.map madeS).map D.str)[k]? = some (D.str (madeS r)) := fun e => by rw [List.getElem?_map, List.getElem?_map, e]; rfl
  refine tr_step (tr_assign_cell (c := L + 2) (d := .int (sizeI rows)) hE hO (Ev.as (ev_call_f Vs.stable (ev_global hE vsB (by kernel_rfl!) (gl116 _) (by kernel_rfl!)) (evs_cons Vs.stable (ev_sub Vs.stable (ev_local (d := (D.list ((rows.map rawS).map .str))) hE (by kernel_rfl!) (by kernel_rfl!) (by kernel_rfl!) (by kernel_rfl!)) (ev_int 0 _ _) (item_list (k := 0) hi0 (by decide) (fun _ _ _ => by with_unfolding_all rfl))) evs_nil (by with_unfolding_all rfl)) (margin_ok vsB vsI (hA1.less (by decide)) (by assumption)) (fun h z => (vsB h z).k _ _ (lk116 _)) rfl (by with_unfolding_all rfl) (by with_unfolding_all rfl)) (by unfold sizeI; rw [hd0])) (by kernel_rfl!) (by rw [c128_eq]; rfl) (by kernel_rfl!)) ?_
  refine tr_step (tr_assign_cell (c := L + 3) (d := .int (grownI rows)) hE hO (Ev.as (ev_call_f Vs.stable (ev_global hE vsB (by kernel_rfl!) (gl116 _) (by kernel_rfl!)) (evs_cons Vs.stable (ev_sub Vs.stable (ev_cell (d := (D.list ((rows.map madeS).map .str))) (c := L + 1) hE (by kernel_rfl!) (by kernel_rfl!) (by kernel_rfl!) (by kernel_rfl!)) (ev_int 0 _ _) (item_list (k := 0) hj0 (by decide) (fun _ _ _ => by with_unfolding_all rfl))) evs_nil (by with_unfolding_all rfl)) (margin_ok vsB vsI (hA1.less (by decide)) (by assumption)) (fun h z => (vsB h z).k _ _ (lk116 _)) rfl (by with_unfolding_all rfl) (by with_unfolding_all rfl)) (by unfold grownI; rw [hd0])) (by kernel_rfl!) (by rw [c128_eq]; rfl) (by kernel_rfl!)) ?_
  have hlc : ∀ x : Addr, ∀ n : Str, n ∈ [("made" : Str), "size", "grown", "lost"] → ∀ c, (c128 L).lookup n = some c → ∀ p ∈ [(n, c)], (c128 L).lookup p.1 = some p.2 := fun x n _ c e p hp => by rw [List.mem_singleton.mp hp]; exact e
  have hlostlen : ∀ r ∈ rows, ((r.take (upto r.length (sizeI rows))).map fun p => p.2).length ≤ 100 := fun r hr => by
    have := hb.row r hr
    rw [List.length_map, List.length_take]
    omega
  have htk : ∀ r ∈ rows, ∀ p ∈ r.take (upto r.length (sizeI rows)), p.2.length ≤ 10 := fun r hr p hp => hb.meant r hr p (List.mem_of_mem_take hp)
  have htl : ∀ r ∈ rows, (r.take (upto r.length (sizeI rows))).length ≤ 100 := fun r hr => by
    have := hb.row r hr
    rw [List.length_take]
    omega
  refine tr_step (tr_assign_cell (c := L + 4) (d := .list (rows.map fun r => .int (lostN rows r))) hE hO (ev_comp0 (xs := rows) (g := rowD) (inv := rowOfD) (F := fun r => .int (lostN rows r)) (B := fun r => [("row", rowD r)]) (cl' := [("size", L + 2)]) (fr := [("size", .int (sizeI rows))]) rowOf_row (src_list hh (ev_local (d := (D.list (rows.map rowD))) hE (by kernel_rfl!) (by kernel_rfl!) (by kernel_rfl!) (by kernel_rfl!)) go_name) vsB vsI (by have := hb.len; omega) (by kernel_rfl!) (by decide +kernel) rfl (by decide +kernel)
    (cl_of (by intro p hp; rw [List.mem_singleton.mp hp, c128_eq]; rfl)) (fr_of (by intro p hp; rw [List.mem_singleton.mp hp, c128_eq]; rfl) (by intro p hp; rw [List.mem_singleton.mp hp]; exact ⟨rfl, rfl⟩))
    (fun r hr y e q => by
      obtain rfl : y = "row" := by
        have := mem_lookup q
        simp only [List.mem_singleton, Prod.mk.injEq] at this
        exact this.1
      rfl) (fun r _ Cc => asg_name (by kernel_rfl!) rfl) (fun r hr av' K' Cc => ?_) (fun _ => rfl)) (by kernel_rfl!) (by rw [c128_eq]; rfl) (by kernel_rfl!)) ?_
  · have hz' : r.length ≤ 16777216 := hz r hr
    exact (ev_call_b Vs.stable (ev_builtin (compEnv_ok rfl rfl (by kernel_rfl!)) vsB (by kernel_rfl!) (gn_len _) gb_len (by decide) (by kernel_rfl!)) (evs_cons Vs.stable (ev_meth1 Vs.stable (a := .str "") (b := .list (((r.take (upto r.length (sizeI rows))).map fun p => p.2).map .str)) (ev_str _ _ _) (Ev.as (ev_comp0 (xs := (r.take (upto r.length (sizeI rows)))) (g := pairD) (inv := unpairD) (F := fun p => .str p.2) (B := fun p => [("sign", .str (one p.1)), ("meant", .str p.2)]) (cl' := []) (fr := []) unpair_pair (src_list hh (Ev.as (ev_slice_list Vs.stable vsI (ev_local (d := (rowD r)) (compEnv_ok rfl rfl (by kernel_rfl!)) (by kernel_rfl!) (by kernel_rfl!) (by kernel_rfl!) (by kernel_rfl!)) (ev_cell (d := (D.int (sizeI rows))) (c := L + 2) (compEnv_ok rfl rfl (by kernel_rfl!)) (by kernel_rfl!) (by kernel_rfl!) (by kernel_rfl!) (by kernel_rfl!)) (by rw [List.length_map]; exact hz') (fun _ _ => by with_unfolding_all rfl)) (by rw [List.map_take, List.length_map])) go_tuple) vsB vsI (by have := hz r hr; simp; omega) (by kernel_rfl!) (by decide +kernel) rfl (by decide +kernel) (fun _ _ _ _ e => by cases e) (fun _ _ _ _ e => by cases e) (fun _ _ _ _ _ => rfl) (fun p _ Cc => asg_pair hh rfl (by kernel_rfl!) (by kernel_rfl!) (by with_unfolding_all rfl)) (fun p hp av' K Cc => ev_local (d := .str p.2) (compEnv_ok rfl rfl (by kernel_rfl!)) (by kernel_rfl!) (by kernel_rfl!) (by kernel_rfl!) (by kernel_rfl!)) (fun _ => rfl)) (by rw [List.map_map]; rfl)) meth_join (join_ok (by have h1 := madeS_sum _ (htk r hr); have := htl r hr; have := hlostlen r hr; rw [empty_len]; omega)) (by with_unfolding_all rfl) (by with_unfolding_all rfl) (by with_unfolding_all rfl)) evs_nil (by with_unfolding_all rfl)) (len_str_ok (show (madeS (r.take (upto r.length (sizeI rows)))).length ≤ 16777216 from Nat.le_trans (madeS_le (htk r hr)) (by have := htl r hr; omega))) (by with_unfolding_all rfl) (by with_unfolding_all rfl) (by with_unfolding_all rfl))
  have hrl : rows.length ≤ 16777216 := by have := hb.len; omega
  have hgk : ∀ k ∈ List.range rows.length, rows[k]? = some (rows.getD k []) := fun k hk => getD_some (List.mem_range.mp hk)
  have hks : ∀ k ∈ List.range rows.length, k < 2 ^ 60 := fun k hk => by have := List.mem_range.mp hk; omega
  have hmk : ∀ k ∈ List.range rows.length, (madeS (rows.getD k [])).length ≤ 16777216 := fun k hk => by have := hb.made (List.mem_of_getElem? (hgk k hk)); omega
  have hlk : ∀ {k : Nat} {r}, rows[k]? = some r → (rows.map fun r => D.int (lostN rows r))[k]? = some (D.int (lostN rows r)) := fun e => by rw [List.getElem?_map, e]; rfl
  have e1s : 0 ≤ sizeI rows → optS (cutO rows) = .str (cutS rows) := fun h => by unfold cutO; rw [if_pos h]; rfl
  have e2s : 0 ≤ sizeI rows → optS (cutFoldO rows) = .str (cutFoldS rows) := fun h => by unfold cutFoldO; rw [if_pos h]; rfl
  have e3s : 0 ≤ sizeI rows → sizeI rows < ((madeS r0).length : Int) → optS (lastO rows) = .str (lastS rows) := fun h h' => by unfold lastO; rw [if_pos h, hd0, if_pos h']; rfl
  have e4s : 0 ≤ sizeI rows → ¬ sizeI rows < ((madeS r0).length : Int) → optS (lastO rows) = .val .none := fun h h' => by unfold lastO; rw [if_pos h, hd0, if_neg h']; rfl
  have n1s : ¬ 0 ≤ sizeI rows → optS (cutO rows) = .val .none ∧ optS (cutFoldO rows) = .val .none ∧ optS (lastO rows) = .val .none := fun h => by unfold cutO cutFoldO lastO; rw [if_neg h, if_neg h, if_neg h]; exact ⟨rfl, rfl, rfl⟩
  have e5s : 0 ≤ grownI rows → optS (foldCutO rows) = .str (foldCutS rows) := fun h => by unfold foldCutO; rw [if_pos h]; rfl
  have n5s : ¬ 0 ≤ grownI rows → optS (foldCutO rows) = .val .none := fun h => by unfold foldCutO; rw [if_neg h]; rfl
  refine @tr_let w (A.deeper (e128 L)) av (e128 L) K L (c128 L) _ _ _ _ _ _ _ (.str (firstS rows)) hE (ev_meth1 Vs.stable (a := .str "\n") (b := .list ((rows.map rawS).map .str)) (ev_str _ _ _) (ev_local (d := (D.list ((rows.map rawS).map .str))) hE (by kernel_rfl!) (by kernel_rfl!) (by kernel_rfl!) (by kernel_rfl!)) meth_join (join_ok (hb.joins15 fun r hr => by rw [rawS_len]; have := hb.row r hr; omega)) (by with_unfolding_all rfl) (by with_unfolding_all rfl) (by with_unfolding_all rfl)) (by kernel_rfl!) (by rw [c128_eq]; kernel_rfl!) (by kernel_rfl!) ?_
  refine @tr_let w (A.deeper (e128 L)) av (e128 L) K L (c128 L) _ _ _ _ _ _ _ (.str (foldS rows)) hE (ev_meth1 Vs.stable (a := .str "\n") (b := .list ((rows.map madeS).map .str)) (ev_str _ _ _) (ev_cell (d := (D.list ((rows.map madeS).map .str))) (c := L + 1) hE (by kernel_rfl!) (by kernel_rfl!) (by kernel_rfl!) (by kernel_rfl!)) meth_join (join_ok (hb.joins15 fun r hr => hb.made hr)) (by with_unfolding_all rfl) (by with_unfolding_all rfl) (by with_unfolding_all rfl)) (by kernel_rfl!) (by rw [c128_eq]; kernel_rfl!) (by kernel_rfl!) ?_
  refine tr_step (tr_assign_tgt (bs := [("cut", .val .none), ("cut_fold", .val .none), ("fold_cut", .val .none), ("last", .val .none)]) hE (ev_tuple Vs.stable vsI (evs_cons Vs.stable (ev_none _ _) (evs_cons Vs.stable (ev_none _ _) (evs_cons Vs.stable (ev_none _ _) (evs_cons Vs.stable (ev_none _ _) evs_nil (by with_unfolding_all rfl)) (by with_unfolding_all rfl)) (by with_unfolding_all rfl)) (by with_unfolding_all rfl)) (Nat.le_of_ble_eq_true rfl)) (asg_tup (ns := [("cut", _), ("cut_fold", _), ("fold_cut", _), ("last", _)]) hh (by kernel_rfl!) (fun x hx => by
    simp only [List.mem_cons, List.not_mem_nil, or_false] at hx
    rcases hx with rfl | rfl | rfl | rfl <;> kernel_rfl!) (by decide) rfl (by with_unfolding_all rfl)) (fun x e q => by
    have := mem_lookup q
    simp only [List.mem_cons, List.not_mem_nil, or_false, Prod.mk.injEq] at this
    rw [c128_eq]
    rcases this with ⟨rfl, _⟩ | ⟨rfl, _⟩ | ⟨rfl, _⟩ | ⟨rfl, _⟩ <;> kernel_rfl!) (by with_unfolding_all rfl) (by with_unfolding_all rfl)) ?_
  refine tr_ite (b := decide (0 ≤ sizeI rows)) (P1 := Vs w av K L (c128 L) [("cut", optS (cutO rows)), ("cut_fold", optS (cutFoldO rows)), ("last", optS (lastO rows)), ("fold_cut", .val .none), ("first", .str (firstS rows)), ("fold", .str (foldS rows)), ("grown", .int (grownI rows)), ("made", .list ((rows.map madeS).map .str))]) Vs.stable (tst_cmpB (av := av) Vs.stable (ev_cell (d := (D.int (sizeI rows))) (c := L + 2) hE (by kernel_rfl!) (by kernel_rfl!) (by kernel_rfl!) (by kernel_rfl!)) (ev_int 0 _ _) cmp_ge (by with_unfolding_all rfl)) (fun hsz => ?_) (fun hsz h z => ?_) ?_
  · have hsz := of_decide_eq_true hsz
    rw [e1s hsz, e2s hsz]
    refine @tr_let w (A.deeper (e128 L)) av (e128 L) K L (c128 L) _ _ _ _ _ _ _ (.str (cutS rows)) hE (ev_meth1 Vs.stable (a := .str "\n") (b := .list ((rows.map fun r => Txt.slice (rawS r) (some (sizeI rows)) none).map .str)) (ev_str _ _ _) (Ev.as (ev_comp0 (xs := rows.map rawS) (g := D.str) (inv := strOfD) (F := fun x => .str (Txt.slice x (some (sizeI rows)) none)) (B := fun x => [("row", .str x)]) (cl' := [("size", L + 2)]) (fr := [("size", .int (sizeI rows))]) (fun _ => rfl) (src_list hh (ev_local (d := (D.list ((rows.map rawS).map .str))) hE (by kernel_rfl!) (by kernel_rfl!) (by kernel_rfl!) (by kernel_rfl!)) go_name) vsB vsI (by have := hb.len; rw [List.length_map]; omega) (by kernel_rfl!) (by decide +kernel) rfl (by decide +kernel) (cl_of (by intro p hp; simp only [List.mem_cons, List.not_mem_nil, or_false] at hp; rw [c128_eq]; rcases hp with rfl <;> kernel_rfl!)) (fr_of (by intro p hp; simp only [List.mem_cons, List.not_mem_nil, or_false] at hp; rw [c128_eq]; rcases hp with rfl <;> kernel_rfl!) (by intro p hp; simp only [List.mem_cons, List.not_mem_nil, or_false] at hp; rcases hp with rfl <;> exact ⟨by kernel_rfl!, by kernel_rfl!⟩)) (fun x hx y e q => by
      obtain rfl : y = "row" := by
        have := mem_lookup q
        simp only [List.mem_singleton, Prod.mk.injEq] at this
        exact this.1
      kernel_rfl!) (fun r _ Cc => asg_name (by kernel_rfl!) rfl) (fun x hx av' K' Cc => (ev_slice_str Vs.stable (ev_local (d := .str x) (compEnv_ok rfl rfl (by kernel_rfl!)) (by kernel_rfl!) (by kernel_rfl!) (by kernel_rfl!) (by kernel_rfl!)) (ev_cell (d := .int (sizeI rows)) (c := L + 2) (compEnv_ok rfl rfl (by kernel_rfl!)) (by kernel_rfl!) (by kernel_rfl!) (by kernel_rfl!) (by kernel_rfl!)) (by obtain ⟨r, hr, rfl⟩ := List.mem_map.mp hx; rw [rawS_len]; exact hz r hr) (fun _ _ _ => by with_unfolding_all rfl))) (fun _ => rfl)) (by rw [List.map_map, List.map_map]; rfl)) meth_join (join_ok (hb.joins15 fun r hr => Nat.le_trans (Txt.slice_le _ _ _) (by rw [rawS_len]; have := hb.row r hr; omega))) (by with_unfolding_all rfl) (by with_unfolding_all rfl) (by with_unfolding_all rfl)) (by kernel_rfl!) (by rw [c128_eq]; kernel_rfl!) (by kernel_rfl!) ?_
    refine @tr_let w (A.deeper (e128 L)) av (e128 L) K L (c128 L) _ _ _ _ _ _ _ (.str (cutFoldS rows)) hE (ev_meth1 Vs.stable (a := .str "\n") (b := .list ((rows.map fun r => Txt.slice (madeS r) (some (lostN rows r : Int)) none).map .str)) (ev_str _ _ _) (Ev.as (ev_comp0 (xs := List.range rows.length) (g := fun k : Nat => D.int k) (inv := natOfD) (F := fun k => .str (Txt.slice (madeS (rows.getD k [])) (some (lostN rows (rows.getD k []) : Int)) none)) (B := fun k => [("k", .int (k : Int))]) (cl' := [("made", L + 1), ("lost", L + 4)]) (fr := [("lost", .list (rows.map fun r => D.int (lostN rows r))), ("made", .list ((rows.map madeS).map .str))]) (fun _ => rfl) (src_range hh hrl (ev_range1 (av := av) Vs.stable (ev_builtin hE vsB (by kernel_rfl!) (gn_range _) gb_range (by decide) (by kernel_rfl!)) (Ev.as (ev_call_b Vs.stable (ev_builtin hE vsB (by kernel_rfl!) (gn_len _) gb_len (by decide) (by kernel_rfl!)) (evs_cons Vs.stable (ev_local (d := (D.list (rows.map rowD))) hE (by kernel_rfl!) (by kernel_rfl!) (by kernel_rfl!) (by kernel_rfl!)) evs_nil (by with_unfolding_all rfl)) (len_list_ok (by first | (rw [List.length_map]; exact hrl) | omega)) (by with_unfolding_all rfl) (by with_unfolding_all rfl) (by with_unfolding_all rfl)) (by rw [List.length_map])) (by with_unfolding_all rfl) (by with_unfolding_all rfl) (by with_unfolding_all rfl))) vsB vsI (by rw [List.length_range]; exact hrl) (by kernel_rfl!) (by decide +kernel) rfl (by decide +kernel) (cl_of (by intro p hp; simp only [List.mem_cons, List.not_mem_nil, or_false] at hp; rw [c128_eq]; rcases hp with rfl | rfl <;> kernel_rfl!)) (fr_of (by intro p hp; simp only [List.mem_cons, List.not_mem_nil, or_false] at hp; rw [c128_eq]; rcases hp with rfl | rfl <;> kernel_rfl!) (by intro p hp; simp only [List.mem_cons, List.not_mem_nil, or_false] at hp; rcases hp with rfl | rfl <;> exact ⟨by kernel_rfl!, by kernel_rfl!⟩)) (fun x hx y e q => by
      obtain rfl : y = "k" := by
        have := mem_lookup q
        simp only [List.mem_singleton, Prod.mk.injEq] at this
        exact this.1
      kernel_rfl!) (fun r _ Cc => asg_name (by kernel_rfl!) rfl) (fun k hkr av' K' Cc => (ev_slice_str Vs.stable (ev_sub Vs.stable (ev_cell (d := .list ((rows.map madeS).map .str)) (c := L + 1) (compEnv_ok rfl rfl (by kernel_rfl!)) (by kernel_rfl!) (by kernel_rfl!) (by kernel_rfl!) (by kernel_rfl!)) (ev_local (d := .int (k : Int)) (compEnv_ok rfl rfl (by kernel_rfl!)) (by kernel_rfl!) (by kernel_rfl!) (by kernel_rfl!) (by kernel_rfl!)) (item_list (hk (hgk k hkr)) (hks k hkr) (fun _ _ _ => by with_unfolding_all rfl))) (ev_sub Vs.stable (ev_cell (d := .list (rows.map fun r => D.int (lostN rows r))) (c := L + 4) (compEnv_ok rfl rfl (by kernel_rfl!)) (by kernel_rfl!) (by kernel_rfl!) (by kernel_rfl!) (by kernel_rfl!)) (ev_local (d := .int (k : Int)) (compEnv_ok rfl rfl (by kernel_rfl!)) (by kernel_rfl!) (by kernel_rfl!) (by kernel_rfl!) (by kernel_rfl!)) (item_list (hlk (hgk k hkr)) (hks k hkr) (fun _ _ _ => by with_unfolding_all rfl))) (hmk k hkr) (fun _ _ _ => by with_unfolding_all rfl))) (fun _ => rfl)) (by rw [List.map_map]; exact congrArg D.list (range_getD (fun r => D.str (Txt.slice (madeS r) (some (lostN rows r : Int)) none)) [] rows))) meth_join (join_ok (hb.joins15 fun r hr => Nat.le_trans (Txt.slice_le _ _ _) (hb.made hr))) (by with_unfolding_all rfl) (by with_unfolding_all rfl) (by with_unfolding_all rfl)) (by kernel_rfl!) (by rw [c128_eq]; kernel_rfl!) (by kernel_rfl!) ?_
    refine tr_ite (b := decide (sizeI rows < ((madeS r0).length : Int))) (P1 := Vs w av K L (c128 L) _) Vs.stable (tst_cmpB (av := av) Vs.stable (ev_call_b Vs.stable (ev_builtin hE vsB (by kernel_rfl!) (gn_len _) gb_len (by decide) (by kernel_rfl!)) (evs_cons Vs.stable (ev_sub Vs.stable (ev_cell (d := (D.list ((rows.map madeS).map .str))) (c := L + 1) hE (by kernel_rfl!) (by kernel_rfl!) (by kernel_rfl!) (by kernel_rfl!)) (ev_int 0 _ _) (item_list (k := 0) hj0 (by decide) (fun _ _ _ => by with_unfolding_all rfl))) evs_nil (by with_unfolding_all rfl)) (len_str_ok (by first | (rw [List.length_map]; exact hrl) | omega)) (by with_unfolding_all rfl) (by with_unfolding_all rfl) (by with_unfolding_all rfl)) (ev_cell (d := (D.int (sizeI rows))) (c := L + 2) hE (by kernel_rfl!) (by kernel_rfl!) (by kernel_rfl!) (by kernel_rfl!)) cmp_gt (by with_unfolding_all rfl)) (fun hgt => ?_) (fun hgt h z => ?_) tr_nil
    · have hgt := of_decide_eq_true hgt
      rw [e3s hsz hgt]
      refine @tr_let w (A.deeper (e128 L)) av (e128 L) K L (c128 L) _ _ _ _ _ _ _ (.str (lastS rows)) hE (ev_meth1 Vs.stable (a := .str "\n") (b := .list ((rows.map fun r => Txt.slice (madeS r) (some ((lostN rows r : Int) + grownI rows - sizeI rows)) none).map .str)) (ev_str _ _ _) (Ev.as (ev_comp0 (xs := List.range rows.length) (g := fun k : Nat => D.int k) (inv := natOfD) (F := fun k => .str (Txt.slice (madeS (rows.getD k [])) (some ((lostN rows (rows.getD k []) : Int) + grownI rows - sizeI rows)) none)) (B := fun k => [("k", .int (k : Int))]) (cl' := [("size", L + 2), ("made", L + 1), ("lost", L + 4), ("grown", L + 3)]) (fr := [("grown", .int (grownI rows)), ("lost", .list (rows.map fun r => D.int (lostN rows r))), ("made", .list ((rows.map madeS).map .str)), ("size", .int (sizeI rows))]) (fun _ => rfl) (src_range hh hrl (ev_range1 (av := av) Vs.stable (ev_builtin hE vsB (by kernel_rfl!) (gn_range _) gb_range (by decide) (by kernel_rfl!)) (Ev.as (ev_call_b Vs.stable (ev_builtin hE vsB (by kernel_rfl!) (gn_len _) gb_len (by decide) (by kernel_rfl!)) (evs_cons Vs.stable (ev_local (d := (D.list (rows.map rowD))) hE (by kernel_rfl!) (by kernel_rfl!) (by kernel_rfl!) (by kernel_rfl!)) evs_nil (by with_unfolding_all rfl)) (len_list_ok (by first | (rw [List.length_map]; exact hrl) | omega)) (by with_unfolding_all rfl) (by with_unfolding_all rfl) (by with_unfolding_all rfl)) (by rw [List.length_map])) (by with_unfolding_all rfl) (by with_unfolding_all rfl) (by with_unfolding_all rfl))) vsB vsI (by rw [List.length_range]; exact hrl) (by kernel_rfl!) (by decide +kernel) rfl (by decide +kernel) (cl_of (by intro p hp; simp only [List.mem_cons, List.not_mem_nil, or_false] at hp; rw [c128_eq]; rcases hp with rfl | rfl | rfl | rfl <;> kernel_rfl!)) (fr_of (by intro p hp; simp only [List.mem_cons, List.not_mem_nil, or_false] at hp; rw [c128_eq]; rcases hp with rfl | rfl | rfl | rfl <;> kernel_rfl!) (by intro p hp; simp only [List.mem_cons, List.not_mem_nil, or_false] at hp; rcases hp with rfl | rfl | rfl | rfl <;> exact ⟨by kernel_rfl!, by kernel_rfl!⟩)) (fun x hx y e q => by
      obtain rfl : y = "k" := by
        have := mem_lookup q
        simp only [List.mem_singleton, Prod.mk.injEq] at this
        exact this.1
      kernel_rfl!) (fun r _ Cc => asg_name (by kernel_rfl!) rfl) (fun k hkr av' K' Cc => (ev_slice_str Vs.stable (ev_sub Vs.stable (ev_cell (d := .list ((rows.map madeS).map .str)) (c := L + 1) (compEnv_ok rfl rfl (by kernel_rfl!)) (by kernel_rfl!) (by kernel_rfl!) (by kernel_rfl!) (by kernel_rfl!)) (ev_local (d := .int (k : Int)) (compEnv_ok rfl rfl (by kernel_rfl!)) (by kernel_rfl!) (by kernel_rfl!) (by kernel_rfl!) (by kernel_rfl!)) (item_list (hk (hgk k hkr)) (hks k hkr) (fun _ _ _ => by with_unfolding_all rfl))) (ev_binB Vs.stable (ev_binB Vs.stable (ev_sub Vs.stable (ev_cell (d := .list (rows.map fun r => D.int (lostN rows r))) (c := L + 4) (compEnv_ok rfl rfl (by kernel_rfl!)) (by kernel_rfl!) (by kernel_rfl!) (by kernel_rfl!) (by kernel_rfl!)) (ev_local (d := .int (k : Int)) (compEnv_ok rfl rfl (by kernel_rfl!)) (by kernel_rfl!) (by kernel_rfl!) (by kernel_rfl!) (by kernel_rfl!)) (item_list (hlk (hgk k hkr)) (hks k hkr) (fun _ _ _ => by with_unfolding_all rfl))) (ev_cell (d := .int (grownI rows)) (c := L + 3) (compEnv_ok rfl rfl (by kernel_rfl!)) (by kernel_rfl!) (by kernel_rfl!) (by kernel_rfl!) (by kernel_rfl!)) bin_add_int) (ev_cell (d := .int (sizeI rows)) (c := L + 2) (compEnv_ok rfl rfl (by kernel_rfl!)) (by kernel_rfl!) (by kernel_rfl!) (by kernel_rfl!) (by kernel_rfl!)) bin_sub_int) (hmk k hkr) (fun _ _ _ => by with_unfolding_all rfl))) (fun _ => rfl)) (by rw [List.map_map]; exact congrArg D.list (range_getD (fun r => D.str (Txt.slice (madeS r) (some ((lostN rows r : Int) + grownI rows - sizeI rows)) none)) [] rows))) meth_join (join_ok (hb.joins15 fun r hr => Nat.le_trans (Txt.slice_le _ _ _) (hb.made hr))) (by with_unfolding_all rfl) (by with_unfolding_all rfl) (by with_unfolding_all rfl)) (by kernel_rfl!) (by rw [c128_eq]; kernel_rfl!) (by kernel_rfl!) ?_
      exact tr_mono tr_nil (fun _ z => z) fun f h z => ⟨z.1, z.2.sub_of (by intro p hp; simp only [List.mem_cons, List.not_mem_nil, or_false] at hp; rcases hp with rfl | rfl | rfl | rfl | rfl | rfl | rfl | rfl <;> kernel_rfl!)⟩
    · have hgt := of_decide_eq_false hgt
      rw [e4s hsz hgt]
      exact z.sub_of (by intro p hp; simp only [List.mem_cons, List.not_mem_nil, or_false] at hp; rcases hp with rfl | rfl | rfl | rfl | rfl | rfl | rfl | rfl <;> kernel_rfl!)
  · have hsz := of_decide_eq_false hsz
    obtain ⟨n1, n2, n3⟩ := n1s hsz
    rw [n1, n2, n3]
    exact z.sub_of (by intro p hp; simp only [List.mem_cons, List.not_mem_nil, or_false] at hp; rcases hp with rfl | rfl | rfl | rfl | rfl | rfl | rfl | rfl <;> kernel_rfl!)
  refine tr_ite (b := decide (0 ≤ grownI rows)) (P1 := Vs w av K L (c128 L) [("cut", optS (cutO rows)), ("cut_fold", optS (cutFoldO rows)), ("last", optS (lastO rows)), ("fold_cut", optS (foldCutO rows)), ("first", .str (firstS rows)), ("fold", .str (foldS rows))]) Vs.stable (tst_cmpB (av := av) Vs.stable (ev_cell (d := (D.int (grownI rows))) (c := L + 3) hE (by kernel_rfl!) (by kernel_rfl!) (by kernel_rfl!) (by kernel_rfl!)) (ev_int 0 _ _) cmp_ge (by with_unfolding_all rfl)) (fun hsz => ?_) (fun hsz h z => ?_) ?_
  · have hsz := of_decide_eq_true hsz
    rw [e5s hsz]
    refine @tr_let w (A.deeper (e128 L)) av (e128 L) K L (c128 L) _ _ _ _ _ _ _ (.str (foldCutS rows)) hE (ev_meth1 Vs.stable (a := .str "\n") (b := .list ((rows.map fun r => Txt.slice (madeS r) (some (grownI rows)) none).map .str)) (ev_str _ _ _) (Ev.as (ev_comp0 (xs := rows.map madeS) (g := D.str) (inv := strOfD) (F := fun x => .str (Txt.slice x (some (grownI rows)) none)) (B := fun x => [("row", .str x)]) (cl' := [("grown", L + 3)]) (fr := [("grown", .int (grownI rows))]) (fun _ => rfl) (src_list hh (ev_cell (d := (D.list ((rows.map madeS).map .str))) (c := L + 1) hE (by kernel_rfl!) (by kernel_rfl!) (by kernel_rfl!) (by kernel_rfl!)) go_name) vsB vsI (by have := hb.len; rw [List.length_map]; omega) (by kernel_rfl!) (by decide +kernel) rfl (by decide +kernel) (cl_of (by intro p hp; simp only [List.mem_cons, List.not_mem_nil, or_false] at hp; rw [c128_eq]; rcases hp with rfl <;> kernel_rfl!)) (fr_of (by intro p hp; simp only [List.mem_cons, List.not_mem_nil, or_false] at hp; rw [c128_eq]; rcases hp with rfl <;> kernel_rfl!) (by intro p hp; simp only [List.mem_cons, List.not_mem_nil, or_false] at hp; rcases hp with rfl <;> exact ⟨by kernel_rfl!, by kernel_rfl!⟩)) (fun x hx y e q => by
      obtain rfl : y = "row" := by
        have := mem_lookup q
        simp only [List.mem_singleton, Prod.mk.injEq] at this
        exact this.1
      kernel_rfl!) (fun r _ Cc => asg_name (by kernel_rfl!) rfl) (fun x hx av' K' Cc => (ev_slice_str Vs.stable (ev_local (d := .str x) (compEnv_ok rfl rfl (by kernel_rfl!)) (by kernel_rfl!) (by kernel_rfl!) (by kernel_rfl!) (by kernel_rfl!)) (ev_cell (d := .int (grownI rows)) (c := L + 3) (compEnv_ok rfl rfl (by kernel_rfl!)) (by kernel_rfl!) (by kernel_rfl!) (by kernel_rfl!) (by kernel_rfl!)) (by obtain ⟨r, hr, rfl⟩ := List.mem_map.mp hx; have := hb.made hr; omega) (fun _ _ _ => by with_unfolding_all rfl))) (fun _ => rfl)) (by rw [List.map_map, List.map_map]; rfl)) meth_join (join_ok (hb.joins15 fun r hr => Nat.le_trans (Txt.slice_le _ _ _) (hb.made hr))) (by with_unfolding_all rfl) (by with_unfolding_all rfl) (by with_unfolding_all rfl)) (by kernel_rfl!) (by rw [c128_eq]; kernel_rfl!) (by kernel_rfl!) ?_
    exact tr_mono tr_nil (fun _ z => z) fun f h z => ⟨z.1, z.2.sub_of (by intro p hp; simp only [List.mem_cons, List.not_mem_nil, or_false] at hp; rcases hp with rfl | rfl | rfl | rfl | rfl | rfl <;> kernel_rfl!)⟩
  · have hsz := of_decide_eq_false hsz
    rw [n5s hsz]
    exact z.sub_of (by intro p hp; simp only [List.mem_cons, List.not_mem_nil, or_false] at hp; rcases hp with rfl | rfl | rfl | rfl | rfl | rfl <;> kernel_rfl!)
  refine @tr_let w (A.deeper (e128 L)) av (e128 L) K L (c128 L) _ _ _ _ _ _ _ (.list (((stepsL rows).take 3).map stepD)) hE (ev_list Vs.stable vsI (evs_cons Vs.stable (ev_list Vs.stable vsI (evs_cons Vs.stable (ev_local (d := (D.str (firstS rows))) hE (by kernel_rfl!) (by kernel_rfl!) (by kernel_rfl!) (by kernel_rfl!)) (evs_cons Vs.stable (ev_local (d := (optS (cutO rows))) hE (by kernel_rfl!) (by kernel_rfl!) (by kernel_rfl!) (by kernel_rfl!)) (evs_cons Vs.stable (ev_local (d := (D.str (foldS rows))) hE (by kernel_rfl!) (by kernel_rfl!) (by kernel_rfl!) (by kernel_rfl!)) evs_nil (by with_unfolding_all rfl)) (by with_unfolding_all rfl)) (by with_unfolding_all rfl)) (Nat.le_of_ble_eq_true rfl)) (evs_cons Vs.stable (ev_list Vs.stable vsI (evs_cons Vs.stable (ev_local (d := (D.str (foldS rows))) hE (by kernel_rfl!) (by kernel_rfl!) (by kernel_rfl!) (by kernel_rfl!)) (evs_cons Vs.stable (ev_local (d := (optS (foldCutO rows))) hE (by kernel_rfl!) (by kernel_rfl!) (by kernel_rfl!) (by kernel_rfl!)) (evs_cons Vs.stable (ev_local (d := (D.str (foldS rows))) hE (by kernel_rfl!) (by kernel_rfl!) (by kernel_rfl!) (by kernel_rfl!)) evs_nil (by with_unfolding_all rfl)) (by with_unfolding_all rfl)) (by with_unfolding_all rfl)) (Nat.le_of_ble_eq_true rfl)) (evs_cons Vs.stable (ev_list Vs.stable vsI (evs_cons Vs.stable (ev_local (d := (optS (cutO rows))) hE (by kernel_rfl!) (by kernel_rfl!) (by kernel_rfl!) (by kernel_rfl!)) (evs_cons Vs.stable (ev_local (d := (optS (cutO rows))) hE (by kernel_rfl!) (by kernel_rfl!) (by kernel_rfl!) (by kernel_rfl!)) (evs_cons Vs.stable (ev_local (d := (optS (cutFoldO rows))) hE (by kernel_rfl!) (by kernel_rfl!) (by kernel_rfl!) (by kernel_rfl!)) evs_nil (by with_unfolding_all rfl)) (by with_unfolding_all rfl)) (by with_unfolding_all rfl)) (Nat.le_of_ble_eq_true rfl)) evs_nil (by with_unfolding_all rfl)) (by with_unfolding_all rfl)) (by with_unfolding_all rfl)) (Nat.le_of_ble_eq_true rfl)) (by kernel_rfl!) (by rw [c128_eq]; kernel_rfl!) (by kernel_rfl!) ?_
  refine tr_return (d := .list ((stepsL rows).map stepD)) Vs.stable ?_ (fun v h dv z => ⟨v, rfl, dv, z.old⟩)
  exact (ev_binB Vs.stable (ev_local (d := (D.list (((stepsL rows).take 3).map stepD))) hE (by kernel_rfl!) (by kernel_rfl!) (by kernel_rfl!) (by kernel_rfl!)) (ev_list Vs.stable vsI (evs_cons Vs.stable (ev_list Vs.stable vsI (evs_cons Vs.stable (ev_local (d := (optS (cutFoldO rows))) hE (by kernel_rfl!) (by kernel_rfl!) (by kernel_rfl!) (by kernel_rfl!)) (evs_cons Vs.stable (ev_local (d := (optS (lastO rows))) hE (by kernel_rfl!) (by kernel_rfl!) (by kernel_rfl!) (by kernel_rfl!)) (evs_cons Vs.stable (ev_local (d := (optS (cutFoldO rows))) hE (by kernel_rfl!) (by kernel_rfl!) (by kernel_rfl!) (by kernel_rfl!)) evs_nil (by with_unfolding_all rfl)) (by with_unfolding_all rfl)) (by with_unfolding_all rfl)) (Nat.le_of_ble_eq_true rfl)) (evs_cons Vs.stable (ev_list Vs.stable vsI (evs_cons Vs.stable (ev_local (d := (optS (foldCutO rows))) hE (by kernel_rfl!) (by kernel_rfl!) (by kernel_rfl!) (by kernel_rfl!)) (evs_cons Vs.stable (ev_local (d := (optS (foldCutO rows))) hE (by kernel_rfl!) (by kernel_rfl!) (by kernel_rfl!) (by kernel_rfl!)) (evs_cons Vs.stable (ev_local (d := (optS (foldCutO rows))) hE (by kernel_rfl!) (by kernel_rfl!) (by kernel_rfl!) (by kernel_rfl!)) evs_nil (by with_unfolding_all rfl)) (by with_unfolding_all rfl)) (by with_unfolding_all rfl)) (Nat.le_of_ble_eq_true rfl)) (evs_cons Vs.stable (ev_list Vs.stable vsI (evs_cons Vs.stable (ev_local (d := (optS (lastO rows))) hE (by kernel_rfl!) (by kernel_rfl!) (by kernel_rfl!) (by kernel_rfl!)) (evs_cons Vs.stable (ev_local (d := (optS (lastO rows))) hE (by kernel_rfl!) (by kernel_rfl!) (by kernel_rfl!) (by kernel_rfl!)) (evs_cons Vs.stable (ev_local (d := (optS (lastO rows))) hE (by kernel_rfl!) (by kernel_rfl!) (by kernel_rfl!) (by kernel_rfl!)) evs_nil (by with_unfolding_all rfl)) (by with_unfolding_all rfl)) (by with_unfolding_all rfl)) (Nat.le_of_ble_eq_true rfl)) evs_nil (by with_unfolding_all rfl)) (by with_unfolding_all rfl)) (by with_unfolding_all rfl)) (Nat.le_of_ble_eq_true rfl)) (bin_add_list vsI (Nat.le_of_ble_eq_true rfl)))
end
end
end Mine

open PySem PySem.W PyProof.Rows PySem.Calls
set_option Elab.async false
set_option maxRecDepth 100000
set_option maxHeartbeats 400000
set_option linter.unusedVariables false
namespace Mine
noncomputable section
/-- the heap without the address -/
noncomputable def hideH (h : Heap) (L : Addr) : Heap := h.update L fun o => { o with data := .freed }
theorem hideH_self (h : Heap) (L : Addr) : (hideH h L).get? L = none := by
  cases h with | mk objs l =>
  show (match (objs.modify L fun o => { o with data := .freed })[L]? with | some ⟨_, _, .freed, _⟩ => none | o => o) = none
  rw [Array.getElem?_modify, if_pos rfl]
  cases objs[L]? <;> rfl
theorem hideH_ne {h : Heap} {L b : Addr} (hb : b ≠ L) : (hideH h L).get? b = h.get? b := Heap.get?_update_ne _ _ _ _ hb
theorem hideH_of {h : Heap} {L b : Addr} {o : Obj} (e : (hideH h L).get? b = some o) : b ≠ L ∧ h.get? b = some o := by
  have hb : b ≠ L := by rintro rfl; rw [hideH_self] at e; cases e
  exact ⟨hb, by rw [← hideH_ne hb]; exact e⟩
/-- a new exception object, not noted yet -/
structure NewX (h h' : Heap) (e : Addr) : Prop where
  keeps : ∀ b o, h.get? b = some o → h'.get? b = some o
  new : h.get? e = none
  there : ∃ ob vs t, h'.get? e = some ob ∧ ob.cls = .type "UnboundLocalError" ∧ ob.data = .fields vs ∧ vs[0]? = some t ∧ vs[1]? = some .none
section
variable {α : Type} {M : Model} {A : Around} {E : Value → Shared → Prop} {s : Shared} {env : Env} {x : Str}
theorem own_unbound (args : List Value) : ownMembersOf (.type "UnboundLocalError") args = #[unsetMember] := rfl
theorem raise_unbound {msg : String} {Q : α → Shared → Prop} (hh : A.handled = none) (h : ∀ h' tk e, NewX s.heap h' e → E (.ref e) { s with heap := h', toks := tk }) (hm : (msg : Str).length ≤ sizeLine) : wpAny M A (raiseErrorMade "UnboundLocalError" msg : Sem α) Q E s := by
  unfold raiseErrorMade
  refine wpAny_bind (wpAny_mkStr (wpAny_bind ?_) hm)
  unfold newExc newTuple
  refine wpAny_bind (wpAny_newObj_type ?_ (by size_fits))
  refine wpAny_bind (m := firstArgMember _ _) (wpAny_of_eq (a := Value.none) (by
    have : ((Manifest.find? "UnboundLocalError").elim false fun t => t.mro.contains "StopIteration" || t.mro.contains "SystemExit") = false := by decide +kernel
    simp only [firstArgMember, this]; rfl) ?_)
  rw [own_unbound]
  refine wpAny_newObj_type ?_ (by size_fits)
  unfold raiseNew
  refine wpAny_bind (wpAny_handled ?_)
  rw [hh]
  first
    | refine wpAny_throw ?_
    | refine wpAny_bind (wpAny_pure (wpAny_throw ?_))
  exact h _ _ _ ⟨fun b o hb => Heap.get?_push_of_some _ (Heap.get?_push_of_some _ hb), Heap.get?_none_of_le (by simp), _, _, .ref s.heap.objs.size, Heap.get?_push_size _ rfl, rfl, rfl, rfl, rfl⟩
theorem load_unbound {m : Str → Option Value} {Q : Value → Shared → Prop} (hh : A.handled = none) (hk : env.scope.kind = .function) (hl : env.kindOf x = some .local) (hn : s.heap.Ns env.locals m) (hv : m x = none)
    (hm : ((s!"cannot access local variable '{x.toString}' where it is not associated with a value" : String) : Str).length ≤ sizeLine) (h : ∀ h' tk e, NewX s.heap h' e → E (.ref e) { s with heap := h', toks := tk }) : wpAny M A (loadName env x) Q E s := by
  have e : loadName env x = (do
      match ← nsGet env.locals x with
      | some v => pure v
      | none =>
        rule "name.local.unbound"
        raiseErrorMade "UnboundLocalError" s!"cannot access local variable '{x.toString}' where it is not associated with a value") := by
    simp only [loadName, Env.blockKind, hk, hl, ScopeKind.isAnnotationScope, Bool.false_and, Bool.false_eq_true, if_false]
    rfl
  rw [e]
  refine wpAny_bind (wpAny_nsGet hn ?_)
  rw [hv]
  exact wpAny_bind (wpAny_rule (raise_unbound hh h hm))
variable {base : Heap} {outer : List Env} {L e : Addr} {cls a0 : Value}
/-- the exception is noted for the first time -/
theorem note_first {ob : Obj} {vs : Array Value} {Q : Unit → Shared → Prop} (hfr : A.frames = some (env :: outer)) (hl : s.heap.FunFrames base (env :: outer)) (hf : env.frame = some L) (hkb : base.StaysIn s.heap) (hen : base.get? e = none)
    (he : s.heap.get? e = some ob) (hd : ob.data = .fields vs) (h0 : vs[0]? = some a0) (h1 : vs[1]? = some .none)
    (hQ : ∀ h', Heap.HeldW base (env :: outer) e ob.cls a0 L h' → s.heap.UpToSlots h' → Q () { s with heap := h' }) : wpAny M A (noteFrame (.ref e) env) Q E s := by
  unfold noteFrame
  simp only [hf]
  refine wpAny_bind (wpAny_field he hd h1 ?_)
  rw [if_neg (by decide)]
  exact wpAny_entryW hfr hl hf he hkb hen hd (Array.getElem?_eq_some_iff.mp h1).1 h0 fun h' ⟨k1, k2, k3, k4⟩ => hQ h' ⟨k1, hen, k2, k3⟩ k4
/-- back from a loop of its own -/
theorem came_back (hf : env.frame = some L) (hh : Heap.HeldW base (env :: outer) e cls a0 L s.heap) (hQ : ∀ h', Heap.HeldW base (env :: outer) e cls a0 L h' → s.heap.UpToSlots h' → E (.ref e) { s with heap := h' }) : cameBackBy M A env E (.ref e) s := by
  obtain ⟨k1, hen, k2, oe, vs, T, oT, ts, he, hcls, hd, h1, hnT, hTe, hT, hdT, h3⟩ := hh
  have hsz3 : 3 < ts.size := (Array.getElem?_eq_some_iff.mp h3).1
  have other : ∀ b, b ≠ T → (s.heap.update T (Obj.mapFields (·.setIfInBounds 3 ((some L : Option Addr).elim Value.none fun f => rawInt f)))).get? b = s.heap.get? b :=
    fun b hb => Heap.get?_update_other _ _ (Ne.symm hb)
  have noRecord : ∀ b o, s.heap.get? b = some o → (∀ vs, o.data ≠ .fields vs) → b ≠ T := fun b o hb hnf q => by
    rw [q, hT] at hb; injection hb with hb; subst hb; exact hnf ts hdT
  unfold cameBackBy
  refine wpAny_bind (wpAny_field he hd h1 ?_)
  rw [if_neg (show ¬ ((Value.ref T == Value.none) = true) from by simp)]
  rw [hf]
  unfold setFlight
  refine wpAny_bind (wpAny_field he hd h1 ?_)
  rw [if_pos (show (Value.ref T != Value.none) = true from by simp)]
  refine wpAny_setField hT hdT hsz3 (hQ _ ⟨fun b o hbo => (other b fun q => by rw [q, hnT] at hbo; cases hbo).trans (k1 b o hbo), hen, k2.of_keeps fun b o hb hnf => ⟨o, (other b (noRecord b o hb hnf)).trans hb, rfl⟩, ?_⟩ fun b o hb hnf => ⟨o.slots, (other b (noRecord b o hb hnf)).trans hb⟩)
  exact ⟨oe, vs, T, _, _, (other e (Ne.symm hTe)).trans he, hcls, hd, h1, hnT, hTe, Heap.get?_update_self _ hT (Obj.isFreed_of_fields (Obj.data_mapFields hdT _)), Obj.data_mapFields hdT _, by simp [hsz3]⟩
/-- leaving a call with it -/
theorem leaves_held {Q : Unit → Shared → Prop} (hf : env.frame = some L) (hh : Heap.HeldW base (env :: outer) e cls a0 L s.heap) (hQ : ∀ h', Heap.FlyingW base outer e cls a0 h' → s.heap.UpToSlots h' → Q () { s with heap := h' }) : wpAny M A (leaving env (.ref e)) Q E s := by
  unfold leaving
  refine wpAny_bind (wpAny_noteFrame_againW hf hh.2.2.2 ?_)
  refine wpAny_landsW hh fun h' hfl up => ?_
  obtain ⟨k1, k2, ⟨_, _, k3⟩, k4⟩ := hfl
  exact hQ h' ⟨k1, k2, k3, k4⟩ up
end
end
end Mine

open PySem PySem.W PyProof.Rows PySem.Calls
set_option Elab.async false
set_option maxRecDepth 100000
set_option maxHeartbeats 400000
set_option linter.unusedVariables false
namespace Mine
noncomputable section
section
variable {w : World} {A : Around} {E : Value → Shared → Prop} {s : Shared}
noncomputable abbrev e21 (L : Addr) : Env := envOf "_dedent" (fSt 1).2.2.2 L 21 (.ref 20)
theorem strVals_cons {l : List (Str × Tok)} {p : Str} {ps : List Str} (h : l.map (·.1) = p :: ps) : ∃ t l', l = (p, t) :: l' ∧ l'.map (·.1) = ps := by
  cases l with
  | nil => cases h
  | cons a l => obtain ⟨x, t⟩ := a; cases h; exact ⟨t, l, rfl, rfl⟩
theorem dedent_raises {base : Heap} {outer : List Env} {x : Str} {t : Tok} {p0 : Str} {ps : List Str} {Q : Value → Shared → Prop} (B : Base w s.heap) (hh : A.handled = none) (hd : A.depth < 1000) (hfr : A.frames = some outer) (hkb : base.StaysIn s.heap) (hfl : s.heap.FunFrames base outer)
    (hx : x.length ≤ 1000000) (hsp : Txt.split x "\n" = p0 :: ps) (hp0 : p0.length = 0)
    (hE : ∀ e a0 h' tk, Heap.FlyingW base outer e (.type "UnboundLocalError") a0 h' → s.heap.UpToSlots h' → E (.ref e) { s with heap := h', toks := tk }) : wpAny (MW w) A (call (.ref 21) [.str x t]) Q E s := by
  obtain ⟨hp, g, d₀, tk₀, os₀⟩ := s
  dsimp only at B hkb hfl hE
  obtain ⟨co, cvs, ct, e1, e2, e3⟩ := cd21 w.params
  obtain ⟨mg, mb, tt⟩ := id B.t
  refine wpAny_call (call_plain (binds := [("text", .str x t)]) hd (B.k _ _ (lk21 w.params)) rfl tt.nolimit ⟨20, co, cvs, ct, rfl, B.k _ _ e1, e2, e3⟩ (by kernel_rfl!) (fun y hy => by rw [List.mem_singleton.mp hy]; kernel_rfl!) (fun h₁ F => ?_) (by kernel_rfl!) (by kernel_rfl!) (by kernel_rfl!) (by decide +kernel))
  dsimp only at F ⊢
  generalize hL0 : hp.objs.size = L at F ⊢
  have hnL : hp.get? L = none := Heap.get?_none_of_le (Nat.le_of_eq hL0)
  have hbL : base.get? L = none := by
    cases e : base.get? L with
    | none => rfl
    | some o => have := hkb _ _ e; rw [hnL] at this; cases this
  have hE' : EnvOk (e21 L) L [] := ⟨rfl, rfl, rfl, rfl, by kernel_rfl!⟩
  have hA' : (A.deeper (e21 L)).handled = none := hh
  have hfr' : (A.deeper (e21 L)).frames = some (e21 L :: outer) := by show A.frames.map _ = _; rw [hfr]; rfl
  have hn1 := F.ns
  have k1 := F.keep
  -- the text's rows
  refine wpAny_execs_cons (wpAny_Assign_Name (MethodCall_ (wpAny_Name (wpAny_loadName_local (v := .str x t) (by kernel_rfl!) (by kernel_rfl!) hn1 (by kernel_rfl!) (GM.split (callWith_method1 (args_cons (wpAny_Constant_str (args_nil (split_new (by decide) hx fun l k hl => ?_))) (by with_unfolding_all rfl)) (by with_unfolding_all rfl) (by with_unfolding_all rfl)))) (by kernel_rfl!)) (by with_unfolding_all rfl)) (by with_unfolding_all rfl))
  rw [hsp] at hl
  obtain ⟨t0, l', rfl, hl'⟩ := strVals_cons hl
  dsimp only
  have hnD : h₁.get? h₁.objs.size = none := Heap.get?_none_of_le (Nat.le_refl _)
  have hD : (h₁.push { cls := .type "list", data := .seq (strValues ((p0, t0) :: l')).toArray }).get? h₁.objs.size = some _ := Heap.get?_push_size _ rfl
  have hDL : h₁.objs.size ≠ L := Nat.ne_of_gt hn1.lt
  have k2 : ∀ b o, h₁.get? b = some o → (h₁.push { cls := .type "list", data := .seq (strValues ((p0, t0) :: l')).toArray }).get? b = some o := fun b o e => Heap.get?_push_of_some _ e
  have hn2 := hn1.at' fun o e => k2 _ o e
  replace k2 := fun b o e => k2 b o (k1 b o e)
  generalize h₁.push { cls := .type "list", data := .seq (strValues ((p0, t0) :: l')).toArray } = h2 at hD k2 hn2 ⊢
  generalize h₁.objs.size = D at hD hDL hnD ⊢
  refine wpAny_storeName_local (by kernel_rfl!) hn2 (fun h3 hn3 hs3 => ?_) (by kernel_rfl!)
  dsimp only at hs3 ⊢
  have up3 : ∀ b o, b ≠ L → h2.get? b = some o → h3.get? b = some o := fun b o hb e => (hs3.2 b hb).trans e
  have hD3 : h3.IsList D (strValues ((p0, t0) :: l')).toArray := ⟨_, up3 _ _ hDL hD, rfl, _, rfl⟩
  have k3 : ∀ b o, hp.get? b = some o → h3.get? b = some o := fun b o e => up3 b o (by rintro rfl; rw [hnL] at e; cases e) (k2 b o e)
  have B3 := B.keeps k3
  obtain rfl : p0 = ⟨#[]⟩ := by
    obtain ⟨c⟩ := p0
    have : c = #[] := Array.eq_empty_of_size_eq_zero hp0
    rw [this]
  clear hn2 hD up3 hs3 k2 hnD
  -- the first loop: the first row is empty
  refine wpAny_execs_cons (wpAny_For (Call_ ((ev_builtin (C := Base w) (av := []) (A := A.deeper (e21 L)) hE' (fun _ z => z) (by kernel_rfl!) (gn_enumerate _) gb_enumerate (by decide) (by kernel_rfl!)).run _ _ _ B3 fun v s4 kk4 dv4 => ?_) (by with_unfolding_all rfl)) (fun _ => rfl))
  cases dv4
  obtain ⟨h4, tk4, rfl, k4⟩ := kk4
  dsimp only at k4 ⊢
  have hn4 := hn3.at' fun o e => k4 _ o e
  have hD4 := hD3.at fun o e => k4 _ o e
  refine PyProof.Rows.callWith_type1 (args_cons (Subscript_ (wpAny_Name (wpAny_loadName_local (v := .ref D) (by kernel_rfl!) (by kernel_rfl!) hn4 (by kernel_rfl!) (wpAny_Constant_int (tail_any hD4.typeIs slot_list_getitem.lookup (wpAny_getItem_list (x := .str ⟨#[]⟩ t0) hD4 (by decide) (by decide) rfl (args_nil (call_enumerate_str fun h5 he5 hit5 hsz5 k5 => ?_))) (by with_unfolding_all rfl)))) (by kernel_rfl!))) (by with_unfolding_all rfl)) (by with_unfolding_all rfl) (by with_unfolding_all rfl)
  dsimp only at he5 hit5 hsz5 k5 ⊢
  have hn5 := hn4.at' fun o e => k5 _ o e
  have hD5 := hD4.at fun o e => k5 _ o e
  rw [show strIterType ⟨#[]⟩ = "str_ascii_iterator" by decide +kernel] at hit5
  have hI5 : h4.get? h4.objs.size = none := Heap.get?_none_of_le (Nat.le_refl _)
  generalize h4.objs.size = I5 at he5 hit5 hsz5 hI5 ⊢
  refine wpAny_pyIter_enum he5 (codeAny_forLoop_any (fun _ s' => s' = ⟨h5, g, d₀, _, os₀⟩) (fun n s' hs' => ?_) 0 rfl)
  subst hs'
  refine wpAny_pyNext_enum_endD (Draws.strAscii (A := (A.deeper (e21 L)).in1) hA' I5 ⟨#[]⟩ t0) he5 hit5 fun h6 hx6 => ?_
  dsimp only at hx6 ⊢
  have hnIb : ∀ b o, h4.get? b = some o → b ≠ I5 := fun b o e => by rintro rfl; rw [hI5] at e; cases e
  have hn6 : h6.Ns L _ := hn4.at' fun o e => hx6 _ o (hnIb _ _ e) (k5 _ o e)
  have hD6 : h6.IsList D _ := hD4.at fun o e => hx6 _ o (hnIb _ _ e) (k5 _ o e)
  have k6 : ∀ b o, h3.get? b = some o → h6.get? b = some o := fun b o e => hx6 b o (hnIb b o (k4 b o e)) (k5 b o (k4 b o e))
  refine wpAny_execs_nil ?_
  dsimp only
  have kp6 : ∀ b o, hp.get? b = some o → h6.get? b = some o := fun b o e => k6 b o (k3 b o e)
  have B6 := B.keeps kp6
  clear hn5 hD5 hn4 hD4 hx6 hnIb hI5 he5 hit5 hsz5 k5 k4 k6 B3 hn3 hD3 k3
  -- the second loop
  refine wpAny_execs_cons (wpAny_For (Call_ ((ev_builtin (C := Base w) (av := []) (A := A.deeper (e21 L)) hE' (fun _ z => z) (by kernel_rfl!) (gn_enumerate _) gb_enumerate (by decide) (by kernel_rfl!)).run _ _ _ B6 fun v s7 kk7 dv7 => ?_) (by with_unfolding_all rfl)) (fun _ => rfl))
  cases dv7
  obtain ⟨h7, tk7, rfl, k7⟩ := kk7
  dsimp only at k7 ⊢
  have hn7 := hn6.at' fun o e => k7 _ o e
  have hD7 := hD6.at fun o e => k7 _ o e
  refine PyProof.Rows.callWith_type1 (args_cons (wpAny_Name (wpAny_loadName_local (v := .ref D) (by kernel_rfl!) (by kernel_rfl!) hn7 (by kernel_rfl!) (args_nil (call_enumerate_list hD7 fun h8 he8 hit8 hsz8 k8 => ?_))) (by kernel_rfl!)) (by with_unfolding_all rfl)) (by with_unfolding_all rfl) (by with_unfolding_all rfl)
  dsimp only at he8 hit8 hsz8 k8 ⊢
  have hn8 := hn7.at' fun o e => k8 _ o e
  have hD8 := hD7.at fun o e => k8 _ o e
  have hI8 : h7.get? h7.objs.size = none := Heap.get?_none_of_le (Nat.le_refl _)
  have hJ8 : h7.get? (h7.objs.size + 1) = none := Heap.get?_none_of_le (Nat.le_succ _)
  have hIJ : h7.objs.size + 1 ≠ h7.objs.size := Nat.succ_ne_self _
  generalize h7.objs.size + 1 = J8 at he8 hit8 hJ8 hIJ ⊢
  generalize h7.objs.size = I8 at he8 hit8 hsz8 hI8 hIJ ⊢
  have ne8 : ∀ b o, h7.get? b = some o → b ≠ I8 ∧ b ≠ J8 := fun b o e => ⟨(by rintro rfl; rw [hI8] at e; cases e), (by rintro rfl; rw [hJ8] at e; cases e)⟩
  refine wpAny_pyIter_enum he8 (codeAny_forLoop_any (fun _ s' => s' = ⟨h8, g, d₀, _, os₀⟩) (fun n s' hs' => ?_) 0 rfl)
  subst hs'
  refine wpAny_pyNext_enum_item (i := 0) (x := .str ⟨#[]⟩ t0) he8 hit8 hD8 rfl hIJ fun h9 ho9 hit9 hT9 hsz9 k9 => ?_
  dsimp only at ho9 hit9 hT9 hsz9 k9 ⊢
  refine wpAny_letOwnedTupleGo_enum ho9 fun h10 he10 hs10 => ?_
  dsimp only at he10 hs10 ⊢
  have up10 : ∀ b o, h7.get? b = some o → h10.get? b = some o := fun b o e => (hs10.2 b (ne8 b o e).2).trans (k9 b o (ne8 b o e).2 (ne8 b o e).1 (k8 b o e))
  have hn10 : h10.Ns L _ := hn7.at' fun o e => up10 _ o e
  have hTJ : h8.objs.size ≠ J8 := Nat.ne_of_gt (Heap.lt_size he8)
  have hT10 := (hs10.2 _ hTJ).trans hT9
  generalize h8.objs.size = T at hT10 ⊢
  have dv : Den [] h10 (.ref T) (.tup [.int (0 : Nat), .str ⟨#[]⟩]) := .tup T _ _ ⟨_, hT10, rfl, _, rfl⟩ List.not_mem_nil (.cons (.int _ _) (.cons (.str _ _) .nil))
  refine (asg_tup (w := w) (A := A.deeper (e21 L)) (env := e21 L) (ns := [("j", _), ("l", _)]) hA' (by kernel_rfl!) (fun x hx => by
    simp only [List.mem_cons, List.not_mem_nil, or_false] at hx
    rcases hx with rfl | rfl <;> kernel_rfl!) (by decide) rfl (by with_unfolding_all rfl)).run _ _ _ _ _ _ dv hn10 fun h11 tk11 m11 hn11 k11 bnd non => ?_
  replace hn11 : h11.Ns L m11 := hn11
  replace k11 : ∀ b o, b ≠ L → h10.get? b = some o → h11.get? b = some o := k11
  have hmi : m11 "i" = none := (non _ (by kernel_rfl!)).trans (by kernel_rfl!)
  obtain ⟨ul, hul, dul⟩ := bnd "l" (.str ⟨#[]⟩) (by kernel_rfl!)
  cases dul with | str _ tl =>
  have kp11 : ∀ b o, hp.get? b = some o → h11.get? b = some o := fun b o e => k11 b o (by rintro rfl; rw [hnL] at e; cases e) (up10 b o (k7 b o (kp6 b o e)))
  dsimp only
  refine wpAny_execs_cons (wpAny_Assign_Subscript (Subscript_ (wpAny_Name (wpAny_loadName_local (by kernel_rfl!) (by kernel_rfl!) hn11 hul (wpAny_Slice (wpAny_Name (load_unbound hA' (by kernel_rfl!) (by kernel_rfl!) hn11 hmi (by decide +kernel) fun h12 tk12 e hx => ?_) (by kernel_rfl!)))) (by kernel_rfl!))) (by with_unfolding_all rfl))
  dsimp only at hx ⊢
  obtain ⟨ob, vs, t', he, hcls, hd', h0, h1⟩ := hx.there
  have kp12 : ∀ b o, hp.get? b = some o → h12.get? b = some o := fun b o e => hx.keeps b o (kp11 b o e)
  have hen : base.get? e = none := by
    cases q : base.get? e with
    | none => rfl
    | some o => have := kp11 _ _ (hkb _ _ q); rw [hx.new] at this; cases this
  have hFF : h12.FunFrames base (e21 L :: outer) := by
    obtain ⟨oL, es, ep, hoL, hdL, _⟩ := hn11
    exact ⟨by show (fSt 1).2.2.2.kind ≠ _; decide +kernel, ⟨L, oL, rfl, hbL, hx.keeps _ _ hoL, fun vs q => by rw [hdL] at q; cases q⟩, hfl.of_keeps fun b o hb _ => ⟨o, kp12 b o hb, rfl⟩⟩
  refine note_first (env := e21 L) (L := L) hfr' hFF rfl (fun b o q => kp12 b o (hkb b o q)) hen he hd' h0 h1 fun h13 held13 up13 => ?_
  refine came_back (env := e21 L) rfl held13 fun h14 held14 up14 => ?_
  refine leaves_held (env := e21 L) rfl held14 fun h15 fly up15 => ?_
  rw [hcls] at fly
  exact hE e t' h15 _ fly (((Heap.UpToSlots.of_keeps kp12).trans up13).trans (up14.trans up15))
end
end
end Mine

open PySem PySem.W PyProof.Rows PySem.Calls
set_option Elab.async false
set_option maxRecDepth 100000
set_option maxHeartbeats 400000
set_option linter.unusedVariables false
namespace Mine
noncomputable section
section
variable {w : World} {A : Around} {av : List Addr} {K : Addr → Option Obj} {L : Addr} {cl : List (Str × Addr)} {l l' : List (Str × D)}
/-- hidden addresses change -/
theorem Vs.turnS {h h' : Heap} {X : List Addr} (x : Vs w av K L [] l h) (hm : ∀ a ∈ X, a ∈ av) (k : ∀ b o, b ∉ X → h.get? b = some o → h'.get? b = some o) (hs : ∀ a ∈ X, ∃ o, h'.get? a = some o) (ha : ∀ a ∈ X, K a = none ∧ a ≠ L) : Vs w av K L [] l h' := by
  obtain ⟨m, hn, hv⟩ := x.vars
  refine ⟨x.base₀, fun b q => ?_, fun b o e => k b o (fun q => by rw [(ha b q).1] at e; cases e) (x.old b o e), x.new, (fun z c e => by cases e), m, hn.at' fun o e => k _ o (fun q => (ha _ q).2 rfl) e, fun z e hz => ?_⟩
  · by_cases hb : b ∈ X
    · exact hs b hb
    · obtain ⟨o, e⟩ := x.inn b q
      exact ⟨o, k b o hb e⟩
  · obtain ⟨v, hx, dv⟩ := hv z e hz
    exact ⟨v, hx, dv.mono fun b o hb e => k b o (fun q => hb (hm b q)) e⟩
/-- hidden addresses change and are shown again -/
theorem Vs.bareS {h h' : Heap} {X : List Addr} (x : Vs w (X ++ av) K L [] l h) (k : ∀ b o, b ∉ X → h.get? b = some o → h'.get? b = some o) (ha : ∀ a ∈ X, K a = none ∧ a ≠ L ∧ a ∉ av) : Vs w av K L [] l h' := by
  obtain ⟨m, hn, hv⟩ := x.vars
  refine ⟨x.base₀, fun b q => ?_, fun b o e => k b o (fun q => by rw [(ha b q).1] at e; cases e) (x.old b o e), x.new, (fun z c e => by cases e), m, hn.at' fun o e => k _ o (fun q => (ha _ q).2.1 rfl) e, fun z e hz => ?_⟩
  · obtain ⟨o, e⟩ := x.inn b (List.mem_append_right _ q)
    exact ⟨o, k b o (fun e => (ha b e).2.2 q) e⟩
  · obtain ⟨v, hx, dv⟩ := hv z e hz
    exact ⟨v, hx, (dv.mono fun b o hb e => k b o (fun q => hb (List.mem_append_left _ q)) e).avoid fun a q => .inl (List.mem_append_right _ q)⟩
theorem Vs.hideNot {h : Heap} {a : Addr} (z : Vs w av K L cl l h) (hs : ∃ o, h.get? a = some o) (nl : ∀ vs, ¬ h.IsList a vs ∧ ¬ h.IsTuple a vs) : Vs w (a :: av) K L cl l h := by
  obtain ⟨m, hm, hv⟩ := z.vars
  refine ⟨z.base₀, fun b q => ?_, z.old, z.new, z.cells, m, hm, fun y e q => let ⟨v, a, b⟩ := hv y e q; ⟨v, a, b.avoid fun a q => (List.mem_cons.mp q).elim (fun e => .inr (e ▸ nl)) .inl⟩⟩
  rcases List.mem_cons.mp q with rfl | q
  · exact hs
  · exact z.inn b q
theorem enum_not {h : Heap} {J I : Addr} {i : Int} {old : Value} (x : IsEnum h J I i old) (vs : Array Value) : ¬ h.IsList J vs ∧ ¬ h.IsTuple J vs := by
  constructor
  · rintro ⟨o, e, hc, _⟩
    rw [x] at e
    cases e
    injection hc with q
    exact absurd q (by decide)
  · rintro ⟨o, e, hc, _⟩
    rw [x] at e
    cases e
    injection hc with q
    exact absurd q (by decide)
/-- an array of texts, the first j of them turned by f -/
noncomputable def TurnedTo (f : Str → Str) (parts : List Str) (vs : Array Value) (j : Nat) : Prop := vs.size = parts.length ∧ ∀ k p, parts[k]? = some p → ∃ t, vs[k]? = some (Value.str (if k < j then f p else p) t)
theorem TurnedTo.start {f : Str → Str} {l : List (Str × Tok)} : TurnedTo f (l.map (·.1)) (strValues l).toArray 0 := by
  refine ⟨by simp [strValues], fun k p hk => ?_⟩
  rw [List.getElem?_map] at hk
  cases e : l[k]? with
  | none => rw [e] at hk; cases hk
  | some x =>
    rw [e] at hk
    cases hk
    refine ⟨x.2, ?_⟩
    rw [if_neg (Nat.not_lt_zero _), List.getElem?_toArray]
    unfold strValues
    rw [List.getElem?_map, e]
    rfl
theorem TurnedTo.step {f : Str → Str} {parts : List Str} {vs : Array Value} {j : Nat} {p : Str} {t : Tok} (x : TurnedTo f parts vs j) (hp : parts[j]? = some p) : TurnedTo f parts (vs.setIfInBounds j (Value.str (f p) t)) (j + 1) := by
  refine ⟨by rw [Array.size_setIfInBounds]; exact x.1, fun k q hk => ?_⟩
  have hj : j < vs.size := by rw [x.1]; exact (List.getElem?_eq_some_iff.mp hp).1
  by_cases e : j = k
  · subst e
    rw [hp] at hk
    cases hk
    exact ⟨t, by rw [if_pos (Nat.lt_succ_self _), Array.getElem?_setIfInBounds_self_of_lt hj]⟩
  · obtain ⟨u, hu⟩ := x.2 k q hk
    refine ⟨u, ?_⟩
    rw [Array.getElem?_setIfInBounds_ne e, hu]
    have : (k < j + 1) ↔ (k < j) := ⟨fun h => by omega, fun h => by omega⟩
    simp only [this]
theorem strsAre_of : ∀ {vs : List Value} {ss : List Str}, vs.length = ss.length → (∀ (k : Nat) (p : Str), ss[k]? = some p → ∃ t, vs[k]? = some (Value.str p t)) → StrsAre vs ss
  | [], [], _, _ => .nil
  | [], _ :: _, e, _ => by cases e
  | _ :: _, [], e, _ => by cases e
  | v :: vs, s :: ss, e, h => by
    obtain ⟨t, ht⟩ := h 0 s rfl
    cases ht
    exact .cons s t (strsAre_of (by simpa using e) fun k p hk => h (k + 1) p hk)
theorem TurnedTo.done {f : Str → Str} {parts : List Str} {vs : Array Value} (x : TurnedTo f parts vs parts.length) : StrsAre vs.toList (parts.map f) := by
  refine strsAre_of (by simpa using x.1) fun k p hk => ?_
  rw [List.getElem?_map] at hk
  cases e : parts[k]? with
  | none => rw [e] at hk; cases hk
  | some q =>
    rw [e] at hk
    cases hk
    obtain ⟨t, ht⟩ := x.2 k q e
    rw [if_pos (List.getElem?_eq_some_iff.mp e).1] at ht
    exact ⟨t, by simpa using ht⟩
variable {E : Value → Shared → Prop} {s : Shared}
theorem dedent_rest {Dl : Addr} {i0 : Int} {ls : List (Str × Tok)} {Q : Flow → Shared → Prop} (hh : A.handled = none) (z : Vs w (Dl :: av) K L [] [("i", .int i0), ("lines", .val (.ref Dl))] s.heap) (hD : s.heap.IsList Dl (strValues ls).toArray) (fD : K Dl = none ∧ Dl ≠ L ∧ Dl ∉ av)
    (hn : ls.length ≤ 2000000) (hlen : ∀ p ∈ ls.map (·.1), p.length ≤ 1000000) (hz : (((ls.map (·.1)).map fun p => Txt.slice p (some i0) none).map (·.length)).sum + ((ls.map (·.1)).map fun p => Txt.slice p (some i0) none).length * ("\n" : Str).length ≤ 16777216)
    (q : ∀ v h' tk, Den av h' v (.str (Txt.join "\n" ((ls.map (·.1)).map fun p => Txt.slice p (some i0) none))) → (∀ b o, K b = some o → h'.get? b = some o) → Q (.ret v) { s with heap := h', toks := tk }) :
    wpAny (MW w) (A.deeper (e21 L)) (execs ((fSt 1).2.2.1.drop 2) (e21 L)) Q E s := by
  obtain ⟨hp, g, d₀, tk₀, os₀⟩ := s
  dsimp only at z hD q
  have hE' : EnvOk (e21 L) L [] := ⟨rfl, rfl, rfl, rfl, by kernel_rfl!⟩
  have hA' : (A.deeper (e21 L)).handled = none := hh
  refine wpAny_execs_cons (wpAny_For (Call_ ((ev_builtin (av := []) (A := A.deeper (e21 L)) hE' vsB (by kernel_rfl!) (gn_enumerate _) gb_enumerate (by decide) (by kernel_rfl!)).run _ _ _ z fun v s7 kk7 dv7 => ?_) (by with_unfolding_all rfl)) (fun _ => rfl))
  cases dv7
  obtain ⟨h7, tk7, rfl, k7⟩ := kk7
  dsimp only at k7 ⊢
  have z7 := Vs.stable _ _ k7 z
  have hD7 := hD.at fun o e => k7 _ o e
  refine PyProof.Rows.callWith_type1 (args_cons (((ev_local (d := (D.val (.ref Dl))) hE' (by kernel_rfl!) (by kernel_rfl!) (by kernel_rfl!) (by kernel_rfl!))).run _ _ _ z7 fun v s8 kk8 dv8 => args_nil ?_) (by with_unfolding_all rfl)) (by with_unfolding_all rfl) (by with_unfolding_all rfl)
  cases dv8
  obtain ⟨h8, tk8, rfl, k8⟩ := kk8
  dsimp only at k8 ⊢
  have z8 := Vs.stable _ _ k8 z7
  have hD8 := hD7.at fun o e => k8 _ o e
  refine call_enumerate_list hD8 fun h9 he9 hit9 hsz9 k9 => ?_
  dsimp only at he9 hit9 hsz9 k9 ⊢
  have hI9 : h8.get? h8.objs.size = none := Heap.get?_none_of_le (Nat.le_refl _)
  have hJ9 : h8.get? (h8.objs.size + 1) = none := Heap.get?_none_of_le (Nat.le_succ _)
  have hJI : h8.objs.size + 1 ≠ h8.objs.size := Nat.succ_ne_self _
  generalize h8.objs.size + 1 = J at he9 hit9 hJ9 hJI ⊢
  generalize h8.objs.size = I at he9 hit9 hsz9 hI9 hJI ⊢
  have fI := z8.freshK hI9
  have fJ := z8.freshK hJ9
  have hIo : ∃ o, h9.get? I = some o := let ⟨o, e, _⟩ := hit9; ⟨o, e⟩
  have z9 : Vs w (J :: I :: Dl :: av) K L [] [("i", .int i0), ("lines", .val (.ref Dl))] h9 := (z8.hide k9 hI9 hIo).hideNot ⟨_, he9⟩ (enum_not he9)
  have hD9 := hD8.at fun o e => k9 _ o e
  have hDI : Dl ≠ I := by obtain ⟨o, e, _⟩ := hD8; rintro rfl; rw [hI9] at e; cases e
  have hDJ : Dl ≠ J := by obtain ⟨o, e, _⟩ := hD8; rintro rfl; rw [hJ9] at e; cases e
  have hln : (ls.map (·.1)).length = ls.length := List.length_map ..
  refine wpAny_pyIter_enum he9 (codeAny_forLoop_any
    (fun k s' => ∃ (h' : Heap) (tk : Tok) (j : Nat) (old : Value) (vs : Array Value), s' = ⟨h', g, d₀, tk, os₀⟩ ∧ IsEnum h' J I j old ∧ h'.IsListIter I Dl j ∧ h'.IsList Dl vs ∧ TurnedTo (fun p => Txt.slice p (some i0) none) (ls.map (·.1)) vs j ∧ Vs w (J :: I :: Dl :: av) K L [] [("i", .int i0), ("lines", .val (.ref Dl))] h' ∧ j ≤ ls.length ∧ k = ls.length + 1 - j) ?_ (ls.length + 1)
    ⟨h9, _, 0, _, _, rfl, he9, hit9, hD9, .start, z9, Nat.zero_le _, rfl⟩)
  clear he9 hit9 hD9 z9 k9 hsz9
  rintro k s' ⟨h', tk', j, old, vs, rfl, he, hit, hDl, ht, z', hj, rfl⟩
  have fS := z'.freshK (Heap.get?_none_of_le (Nat.le_refl _))
  by_cases hlt : j < ls.length
  · obtain ⟨p, hp'⟩ : ∃ p, (ls.map (·.1))[j]? = some p := ⟨_, List.getElem?_eq_getElem (by simpa using hlt)⟩
    obtain ⟨t, hvs⟩ := ht.2 j p hp'
    rw [if_neg (Nat.lt_irrefl _)] at hvs
    refine wpAny_pyNext_enum_item he hit hDl hvs hJI fun h1 ho1 hit1 hT1 hsz1 k1 => ?_
    dsimp only at ho1 hit1 hT1 hsz1 k1 ⊢
    refine wpAny_letOwnedTupleGo_enum ho1 fun h2 he2 hs2 => ?_
    dsimp only at he2 hs2 ⊢
    have hTJ : h'.objs.size ≠ J := Nat.ne_of_gt (Heap.lt_size he)
    have hT2 := (hs2.2 _ hTJ).trans hT1
    have k12 : ∀ b o, b ∉ [J, I] → h'.get? b = some o → h2.get? b = some o := fun b o hb e => (hs2.2 b (fun q => hb (by simp [q]))).trans (k1 b o (fun q => hb (by simp [q])) (fun q => hb (by simp [q])) e)
    have hit2 : h2.IsListIter I Dl (j + 1) := hit1.at fun o e => (hs2.2 _ hJI.symm).trans e
    have hI2 : ∃ o, h2.get? I = some o := let ⟨o, e, _⟩ := hit2; ⟨o, e⟩
    have z2 := z'.turnS (X := [J, I]) (by simp) k12 (fun a ha => by
      simp only [List.mem_cons, List.not_mem_nil, or_false] at ha
      rcases ha with rfl | rfl
      · exact ⟨_, he2⟩
      · exact hI2) (fun a ha => by
      simp only [List.mem_cons, List.not_mem_nil, or_false] at ha
      rcases ha with rfl | rfl
      · exact ⟨fJ.1, fJ.2.1⟩
      · exact ⟨fI.1, fI.2.1⟩)
    have hDl2 := hDl.at fun o e => k12 _ o (by simp [hDJ, hDI]) e
    have dv : Den (J :: I :: Dl :: av) h2 (.ref h'.objs.size) (.tup [.int j, .str p]) := .tup _ _ _ ⟨_, hT2, rfl, _, rfl⟩ fS.2.2 (.cons (.int _ _) (.cons (.str _ _) .nil))
    refine vs_asg hE' z2 dv (asg_tup (ns := [("j", _), ("l", _)]) hA' (by kernel_rfl!) (fun x hx => by
      simp only [List.mem_cons, List.not_mem_nil, or_false] at hx
      rcases hx with rfl | rfl <;> kernel_rfl!) (by decide) rfl (by with_unfolding_all rfl)) (fun _ _ _ => rfl) fun h3 tk3 z3 k3 => ?_
    dsimp only at k3 ⊢
    have he3 := k3 _ _ fJ.2.1 he2
    have hit3 := hit2.at fun o e => k3 _ o fI.2.1 e
    have hDl3 := hDl2.at fun o e => k3 _ o fD.2.1 e
    refine wpAny_execs_cons (wpAny_Assign_Subscript ((ev_slice_str (av := J :: I :: Dl :: av) Vs.stable (ev_local (d := (D.str (p))) hE' (by kernel_rfl!) (by kernel_rfl!) (by kernel_rfl!) (by kernel_rfl!)) (ev_local (d := (D.int (i0))) hE' (by kernel_rfl!) (by kernel_rfl!) (by kernel_rfl!) (by kernel_rfl!)) (by have := hlen p (List.mem_of_getElem? hp'); omega) (fun _ _ _ => by with_unfolding_all rfl)).run _ _ _ z3 fun v4 s4 kk4 dv4 => ?_) (by with_unfolding_all rfl))
    cases dv4 with | str _ t4 =>
    obtain ⟨h4, tk4, rfl, k4⟩ := kk4
    dsimp only at k4 ⊢
    have z4 := Vs.stable _ _ k4 z3
    refine ((ev_local (d := (D.val (.ref Dl))) hE' (by kernel_rfl!) (by kernel_rfl!) (by kernel_rfl!) (by kernel_rfl!))).run _ _ _ z4 fun v5 s5 kk5 dv5 => ?_
    cases dv5
    obtain ⟨h5, tk5, rfl, k5⟩ := kk5
    dsimp only at k5 ⊢
    have z5 := Vs.stable _ _ k5 z4
    refine ((ev_local (d := (D.int ((j : Int)))) hE' (by kernel_rfl!) (by kernel_rfl!) (by kernel_rfl!) (by kernel_rfl!))).run _ _ _ z5 fun v6 s6 kk6 dv6 => ?_
    cases dv6 with | int _ t6 =>
    obtain ⟨h6, tk6, rfl, k6⟩ := kk6
    dsimp only at k6 ⊢
    have z6 := Vs.stable _ _ k6 z5
    have k36 : ∀ b o, h3.get? b = some o → h6.get? b = some o := fun b o e => k6 b o (k5 b o (k4 b o e))
    have hDl6 := hDl3.at fun o e => k36 _ o e
    have hvz : (j : Int) < (vs.size : Int) := by rw [ht.1, hln]; omega
    refine wpAny_setItem_list hDl6 (by omega) (by omega) hvz fun h7 hDl7 hs7 => ?_
    dsimp only at hDl7 hs7 ⊢
    rw [Int.toNat_natCast] at hDl7
    have k7 : ∀ b o, b ≠ Dl → h6.get? b = some o → h7.get? b = some o := fun b o hb e => (hs7.2 b hb).trans e
    refine wpAny_execs_nil ⟨_, ?_, h7, tk6, j + 1, .str p t, _, rfl, ?_, hit3.at fun o e => k7 _ o hDI.symm (k36 _ o e), hDl7, ht.step hp', ?_, hlt, rfl⟩
    · omega
    · have := k7 _ _ hDJ.symm (k36 _ _ he3)
      simpa using this
    · refine (z6.turnS (X := [Dl]) (by simp) (fun b o hb e => k7 b o (fun q => hb (by simp [q])) e) (fun a ha => by
        obtain rfl := List.mem_singleton.mp ha
        obtain ⟨o, e, _⟩ := hDl7
        exact ⟨o, e⟩) (fun a ha => by
        obtain rfl := List.mem_singleton.mp ha
        exact ⟨fD.1, fD.2.1⟩)).sub_of fun x hx => ?_
      simp only [List.mem_cons, List.not_mem_nil, or_false] at hx
      rcases hx with rfl | rfl <;> kernel_rfl!
  · obtain rfl : j = ls.length := Nat.le_antisymm hj (Nat.not_lt.mp hlt)
    refine wpAny_pyNext_enum_end hA' he hit hDl (Array.getElem?_eq_none (by rw [ht.1, hln]; exact Nat.le_refl _)) fun h1 hx1 => wpAny_execs_nil ?_
    dsimp only at hx1 ⊢
    have z1 : Vs w (Dl :: av) K L [] _ h1 := Vs.bareS (X := [J, I]) z' (fun b o hb e => hx1 b o (fun q => hb (by simp [q])) e) (fun a ha => by
      simp only [List.mem_cons, List.not_mem_nil, or_false] at ha
      rcases ha with rfl | rfl
      · exact fJ
      · exact ⟨fI.1, fI.2.1, fI.2.2⟩)
    have e0 : ls.length = (ls.map (·.1)).length := hln.symm
    rw [e0] at ht
    refine wpAny_execs_cons (wpAny_Return_some (MethodCall_ (wpAny_Constant_str (GM.join (callWith_method1 (args_cons (((ev_local (d := (D.val (.ref Dl))) hE' (by kernel_rfl!) (by kernel_rfl!) (by kernel_rfl!) (by kernel_rfl!))).run _ _ _ z1 fun v s2 kk2 dv2 => args_nil ?_) (by with_unfolding_all rfl)) (by with_unfolding_all rfl) (by with_unfolding_all rfl)))) (by with_unfolding_all rfl)))
    cases dv2
    obtain ⟨h2, tk2, rfl, k2⟩ := kk2
    dsimp only at k2 ⊢
    refine join_list (hDl.at fun o e => k2 _ o (hx1 _ o hDI e)) ht.done hz fun t' k => ?_
    exact q _ h2 k (.str _ _) fun b o e => k2 b o (z1.old b o e)
end
end
end Mine

open PySem PySem.W PyProof.Rows PySem.Calls
set_option Elab.async false
set_option maxRecDepth 100000
set_option maxHeartbeats 400000
set_option linter.unusedVariables false
namespace Mine
noncomputable section
theorem margin_first {x : Str} {k : Nat} (hk : k < x.length) (h0 : ∀ j < k, x.cps.getD j 0 = 32) (h1 : x.cps.getD k 0 ≠ 32) : margin x = k := by
  have e : ∃ r, marL x = k :: r := by
    unfold marL
    obtain ⟨m, hm⟩ : ∃ m, x.length = k + (m + 1) := ⟨x.length - k - 1, by omega⟩
    rw [hm, List.range_add, List.filter_append, List.range_succ_eq_map, List.map_cons, Nat.add_zero]
    have e1 : (List.range k).filter (fun k => !(x.cps.getD k 0 == 32)) = [] := by
      rw [List.filter_eq_nil_iff]
      intro j hj
      rw [h0 j (List.mem_range.mp hj)]
      decide
    rw [e1, List.filter_cons_of_pos (by simpa using h1)]
    exact ⟨_, rfl⟩
  obtain ⟨r, e⟩ := e
  unfold margin
  rw [e]
theorem margin_all {x : Str} (h0 : ∀ j < x.length, x.cps.getD j 0 = 32) : margin x = (x.length : Int) - 1 := by
  have e : marL x = [] := by
    unfold marL
    rw [List.filter_eq_nil_iff]
    intro j hj
    rw [h0 j (List.mem_range.mp hj)]
    decide
  unfold margin
  rw [e]
section
variable {w : World} {A : Around} {av : List Addr} {C : HP}
/-- the names ahead of the turn i -/
noncomputable def nm (l0 : List (Str × D)) : Nat → List (Str × D)
  | 0 => l0
  | k + 1 => ("i", .int k) :: l0
theorem dedent_ok (hB : ∀ h, C h → Base w h) (hI : ∀ h, C h → Inn av h) (hA : OkA 2 A) {x p0 : Str} {ps : List Str} (hx : x.length ≤ 1000000) (hsp : Txt.split x "\n" = p0 :: ps) (hp0 : p0.length ≠ 0) (hlen : ∀ p ∈ p0 :: ps, p.length ≤ 1000000) (hcnt : (p0 :: ps).length ≤ 2000000)
    (hz : (((p0 :: ps).map fun p => Txt.slice p (some (margin p0)) none).map (·.length)).sum + ((p0 :: ps).map fun p => Txt.slice p (some (margin p0)) none).length * ("\n" : Str).length ≤ 16777216) :
    CallOk w A av C (.ref 21) [.str x] (.str (Txt.join "\n" ((p0 :: ps).map fun p => Txt.slice p (some (margin p0)) none))) := by
  obtain ⟨co, cvs, ct, e1, e2, e3⟩ := cd21 w.params
  refine call_body (x := "text") hB hI (by have := hA.depth; omega) (lk21 w.params) e1 e2 e3 (fun v => by kernel_rfl!) (by kernel_rfl!) (fun K L => ?_) (by kernel_rfl!) (by kernel_rfl!) (by kernel_rfl!) (by decide +kernel)
  have hE : EnvOk (e21 L) L [] := ⟨rfl, rfl, rfl, rfl, by kernel_rfl!⟩
  have hh : (A.deeper (e21 L)).handled = none := hA.handled
  refine .mk fun s Q E c q => ?_
  obtain ⟨hp, g, d₀, tk₀, os₀⟩ := s
  dsimp only at c q ⊢
  refine wpAny_execs_cons (wpAny_Assign_Name (MethodCall_ (((ev_local (d := (D.str (x))) hE (by kernel_rfl!) (by kernel_rfl!) (by kernel_rfl!) (by kernel_rfl!))).run _ _ _ c fun v s1 kk1 dv1 => ?_) (by with_unfolding_all rfl)) (by with_unfolding_all rfl))
  cases dv1 with | str _ t1 =>
  obtain ⟨h1, tk1, rfl, k1⟩ := kk1
  dsimp only at k1 ⊢
  have c1 := Vs.stable _ _ k1 c
  refine GM.split (callWith_method1 (args_cons (wpAny_Constant_str (args_nil (split_new (by decide) hx fun ls k hls => ?_))) (by with_unfolding_all rfl)) (by with_unfolding_all rfl) (by with_unfolding_all rfl))
  rw [hsp] at hls
  dsimp only
  have hnD : h1.get? h1.objs.size = none := Heap.get?_none_of_le (Nat.le_refl _)
  have fD := c1.freshK hnD
  have hD : (h1.push { cls := .type "list", data := .seq (strValues ls).toArray }).get? h1.objs.size = some _ := Heap.get?_push_size _ rfl
  have c2 := c1.hide (fun b o e => Heap.get?_push_of_some { cls := .type "list", data := .seq (strValues ls).toArray } e) hnD ⟨_, hD⟩
  generalize h1.push { cls := .type "list", data := .seq (strValues ls).toArray } = h2 at hD c2 ⊢
  generalize h1.objs.size = Dl at hD hnD fD c2 ⊢
  refine vs_store (x := "lines") (d := .val (.ref Dl)) hE c2 (.val _) (by kernel_rfl!) rfl fun h3 tk3 c3 up3 => ?_
  dsimp only at up3 ⊢
  have hD3 : h3.IsList Dl (strValues ls).toArray := ⟨_, up3 _ _ fD.2.1 hD, rfl, _, rfl⟩
  clear hD up3 c2
  have rest : ∀ h tk, Vs w (Dl :: av) K L [] [("i", .int (margin p0)), ("lines", .val (.ref Dl))] h → h.IsList Dl (strValues ls).toArray → wpAny (MW w) (A.deeper (e21 L)) (execs ((fSt 1).2.2.1.drop 2) (e21 L)) Q E ⟨h, g, d₀, tk, os₀⟩ := fun h tk z hl => by
    refine dedent_rest hA.handled z hl fD ?_ ?_ ?_ fun v h' tk' dv kp => ?_
    · have := congrArg List.length hls
      rw [List.length_map] at this
      rw [this]; exact hcnt
    · rw [hls]; exact hlen
    · rw [hls]; exact hz
    · rw [hls] at dv
      exact q _ h' tk' ⟨v, rfl, dv, kp⟩
  obtain ⟨t0, ls', rfl, hls'⟩ := strVals_cons hls
  refine wpAny_execs_cons (wpAny_For (Call_ ((ev_builtin (av := []) (A := A.deeper (e21 L)) hE vsB (by kernel_rfl!) (gn_enumerate _) gb_enumerate (by decide) (by kernel_rfl!)).run _ _ _ c3 fun v s4 kk4 dv4 => ?_) (by with_unfolding_all rfl)) (fun _ => rfl))
  cases dv4
  obtain ⟨h4, tk4, rfl, k4⟩ := kk4
  dsimp only at k4 ⊢
  have c4 := Vs.stable _ _ k4 c3
  refine PyProof.Rows.callWith_type1 (args_cons (Subscript_ (((ev_local (d := (D.val (.ref Dl))) hE (by kernel_rfl!) (by kernel_rfl!) (by kernel_rfl!) (by kernel_rfl!))).run _ _ _ c4 fun v s5 kk5 dv5 => wpAny_Constant_int ?_)) (by with_unfolding_all rfl)) (by with_unfolding_all rfl) (by with_unfolding_all rfl)
  cases dv5
  obtain ⟨h5, tk5, rfl, k5⟩ := kk5
  dsimp only at k5 ⊢
  have c5 := Vs.stable _ _ k5 c4
  have hD5 := hD3.at fun o e => k5 _ o (k4 _ o e)
  refine tail_any hD5.typeIs slot_list_getitem.lookup (wpAny_getItem_list (x := .str p0 t0) hD5 (by decide) (by decide) rfl (args_nil (call_enumerate_str fun h6 he6 hit6 hsz6 k6 => ?_))) (by with_unfolding_all rfl)
  dsimp only at he6 hit6 hsz6 k6 ⊢
  have hI6 : h5.get? h5.objs.size = none := Heap.get?_none_of_le (Nat.le_refl _)
  have hJ6 : h5.get? (h5.objs.size + 1) = none := Heap.get?_none_of_le (Nat.le_succ _)
  have hJI : h5.objs.size + 1 ≠ h5.objs.size := Nat.succ_ne_self _
  generalize h5.objs.size + 1 = J at he6 hit6 hJ6 hJI ⊢
  generalize h5.objs.size = I at he6 hit6 hsz6 hI6 hJI ⊢
  have fI := c5.freshK hI6
  have fJ := c5.freshK hJ6
  have hIo : ∃ o, h6.get? I = some o := let ⟨o, e, _⟩ := hit6; ⟨o, e⟩
  have z6 : Vs w (J :: I :: Dl :: av) K L [] _ h6 := (c5.hide k6 hI6 hIo).hideNot ⟨_, he6⟩ (enum_not he6)
  have hD6 := hD5.at fun o e => k6 _ o e
  have hDI : Dl ≠ I := by obtain ⟨o, e, _⟩ := hD5; rintro rfl; rw [hI6] at e; cases e
  have hDJ : Dl ≠ J := by obtain ⟨o, e, _⟩ := hD5; rintro rfl; rw [hJ6] at e; cases e
  obtain ⟨St, DR, st0⟩ : ∃ St, Draws pW w (A.deeper (e21 L)).in1 I [I] p0.cps.size (fun i v => ∃ c u, p0.cps[i]? = some c ∧ v = .str ⟨#[c]⟩ u) St ∧ St 0 h6 := by
    cases ha : p0.cps.all (· < 128)
    · exact ⟨fun i h => h.IsStrIter I "str_iterator" p0 t0 i, Draws.strWide (A := (A.deeper (e21 L)).in1) hh I p0 t0, by simpa [strIterType, ha] using hit6⟩
    · exact ⟨fun i h => h.IsStrIter I "str_ascii_iterator" p0 t0 i, Draws.strAscii (A := (A.deeper (e21 L)).in1) hh I p0 t0, by simpa [strIterType, ha] using hit6⟩
  have W := WalksT.enumerateD DR J hJI (by simp [hJI]) (by simp)
  have hX : ∀ a ∈ [J, I], K a = none ∧ a ≠ L := fun a ha => by
    simp only [List.mem_cons, List.not_mem_nil, or_false] at ha
    rcases ha with rfl | rfl
    · exact ⟨fJ.1, fJ.2.1⟩
    · exact ⟨fI.1, fI.2.1⟩
  have hX' : ∀ a ∈ [J, I], K a = none ∧ a ≠ L ∧ a ∉ Dl :: av := fun a ha => by
    simp only [List.mem_cons, List.not_mem_nil, or_false] at ha
    rcases ha with rfl | rfl
    · exact fJ
    · exact fI
  have nml : ∀ j, (nm [("lines", .val (.ref Dl))] j).lookup ("lines" : Str) = some (.val (.ref Dl)) := fun j => by cases j <;> kernel_rfl!
  refine wpAny_pyIter_enum he6 (codeAny_forLoop_any
    (fun k s' => ∃ (h' : Heap) (tk : Tok) (j : Nat), s' = ⟨h', g, d₀, tk, os₀⟩ ∧ ((∃ old, IsEnum h' J I j old) ∧ St j h') ∧ h'.IsList Dl (strValues ((p0, t0) :: ls')).toArray ∧ Vs w (J :: I :: Dl :: av) K L [] (nm [("lines", .val (.ref Dl))] j) h' ∧ (∀ i < j, p0.cps.getD i 0 = 32) ∧ j ≤ p0.length ∧ k = p0.length + 1 - j) ?_ (p0.length + 1)
    ⟨h6, _, 0, rfl, ⟨⟨_, he6⟩, st0⟩, hD6, z6.sub_of ?_, fun i hi => absurd hi (Nat.not_lt_zero _), Nat.zero_le _, rfl⟩)
  rotate_left
  · intro x hx
    obtain rfl := List.mem_singleton.mp hx
    kernel_rfl!
  clear he6 hit6 hsz6 k6 z6 hD6 st0 hD5 c5 c4 c3 hD3 c1 c
  rintro k s' ⟨h', tk', j, rfl, st', hDl, z', h32, hj, rfl⟩
  by_cases hlt : j < p0.length
  · refine W.item j _ _ _ hlt st' fun T vals h1 tk1 hPt hT hTt mid k1 => ?_
    obtain ⟨tj, xv, ⟨c, u, hc, rfl⟩, rfl⟩ := hPt
    dsimp only at hT hTt mid k1 ⊢
    refine W.go _ _ _ _ _ _ _ _ mid fun h2 st2 k2 => ?_
    dsimp only at k2 ⊢
    have fT := z'.freshK (Heap.get?_none_of_le hT)
    have hT2 : h2.IsTuple T _ := isTup_at hTt fun o e => k2 _ o (W.apart _ _ _ mid) e
    have k12 : ∀ b o, b ∉ [J, I] → h'.get? b = some o → h2.get? b = some o := fun b o hb e => k2 b o hb (k1 b o hb e)
    have hJ2 : ∃ o, h2.get? J = some o := let ⟨⟨_, e⟩, _⟩ := st2; ⟨_, e⟩
    have hI2 : ∃ o, h2.get? I = some o := DR.live _ _ st2.2
    have hXe : ∀ a ∈ [J, I], ∃ o, h2.get? a = some o := fun a ha => by
      simp only [List.mem_cons, List.not_mem_nil, or_false] at ha
      rcases ha with rfl | rfl
      · exact hJ2
      · exact hI2
    have z2 := z'.turnS (X := [J, I]) (by simp) k12 hXe hX
    have hDl2 := hDl.at fun o e => k12 _ o (by simp [hDJ, hDI]) e
    have dv : Den (J :: I :: Dl :: av) h2 (.ref T) (.tup [.int j, .str (one c)]) := .tup _ _ _ hT2 fT.2.2 (.cons (.int _ _) (.cons (.str _ _) .nil))
    refine vs_asg hE z2 dv (asg_tup (ns := [("i", _), ("ch", _)]) hh (by kernel_rfl!) (fun x hx => by
      simp only [List.mem_cons, List.not_mem_nil, or_false] at hx
      rcases hx with rfl | rfl <;> kernel_rfl!) (by decide) rfl (by with_unfolding_all rfl)) (fun _ _ _ => rfl) fun h3 tk3 z3 k3 => ?_
    dsimp only at k3 ⊢
    have hDl3 := hDl2.at fun o e => k3 _ o fD.2.1 e
    have st3 := W.frame _ _ h3 st2 fun b hb o e => k3 b o (fun q => by
      rw [q] at hb
      exact (hX L (by simpa using hb)).2 rfl) e
    refine wpAny_execs_cons (wpAny_If ((tst_cmpB (av := J :: I :: Dl :: av) Vs.stable (ev_local (d := (D.str (one c))) hE (by kernel_rfl!) (by kernel_rfl!) (by kernel_rfl!) (by kernel_rfl!)) (ev_str _ _ _) cmp_ne_str (by with_unfolding_all rfl)).run _ _ _ z3 fun s4 kk4 => ?_))
    obtain ⟨h4', tk4', rfl, k4'⟩ := kk4
    dsimp only at k4' ⊢
    have z4 := Vs.stable _ _ k4' z3
    have hDl4 := hDl3.at fun o e => k4' _ o e
    have hcj : p0.cps.getD j 0 = c := by rw [Array.getD_eq_getD_getElem?, hc]; rfl
    rw [show (one c != (" " : Str)) = !(c == 32) by rw [blank_one, bne, one_eq]]
    cases hb : c == 32 with
    | false =>
      have hb := beq_eq_false_iff_ne.mp hb
      have hm := margin_first hlt h32 (by rw [hcj]; exact hb)
      refine wpAny_execs_cons (wpAny_Break ?_)
      refine rest h4' tk4' ((Vs.bareS (X := [J, I]) z4 (fun b o _ e => e) hX').sub_of fun x hx => ?_) hDl4
      simp only [List.mem_cons, List.not_mem_nil, or_false] at hx
      rcases hx with rfl | rfl
      · rw [hm]; kernel_rfl!
      · exact nml j
    | true =>
      have hb := beq_iff_eq.mp hb
      refine wpAny_execs_nil (wpAny_execs_nil ⟨_, ?_, h4', tk4', j + 1, rfl, ?_, hDl4, z4.sub_of fun x hx => ?_, fun i hi => ?_, hlt, rfl⟩)
      · omega
      · exact W.frame _ _ _ st3 fun b hb o e => k4' b o e
      · simp only [nm, List.mem_cons, List.not_mem_nil, or_false] at hx
        rcases hx with rfl | rfl
        · kernel_rfl!
        · exact nml j
      · by_cases e : i = j
        · rw [e, hcj, hb]
        · exact h32 i (by omega)
  · obtain rfl : j = p0.length := Nat.le_antisymm hj (Nat.not_lt.mp hlt)
    refine W.done _ _ _ st' fun h1 tk1 k1 => wpAny_execs_nil ?_
    dsimp only at k1 ⊢
    have hm := margin_all h32
    refine rest h1 tk1 ((Vs.bareS (X := [J, I]) z' k1 hX').sub_of fun x hx => ?_) (hDl.at fun o e => k1 _ o (by simp [hDJ, hDI]) e)
    simp only [List.mem_cons, List.not_mem_nil, or_false] at hx
    rcases hx with rfl | rfl
    · rw [hm]
      obtain ⟨m, em⟩ := Nat.exists_eq_succ_of_ne_zero hp0
      rw [em]
      show some (D.int (m : Int)) = some (D.int (((m + 1 : Nat) : Int) - 1))
      rw [show (((m + 1 : Nat) : Int) - 1) = (m : Int) by omega]
    · exact nml _
end
end
end Mine

open PySem PySem.W PyProof.Rows PySem.Calls
set_option Elab.async false
set_option maxRecDepth 100000
set_option maxHeartbeats 400000
set_option linter.unusedVariables false
namespace Mine
noncomputable section
section
variable {w : World} {A : Around} {av : List Addr} {C : HP} {E : Value → Shared → Prop} {s : Shared}
noncomputable abbrev e111 (L : Addr) : Env := envOf "_law_dedented" (fSt 11).2.2.2 L 111 (.ref 110)
theorem dd_ok (hB : ∀ h, C h → Base w h) (hI : ∀ h, C h → Inn av h) (hA : OkA 3 A) {x p0 : Str} {ps : List Str} (hx : x.length ≤ 1000000) (hsp : Txt.split x "\n" = p0 :: ps) (hp0 : p0.length ≠ 0) (hlen : ∀ p ∈ p0 :: ps, p.length ≤ 1000000) (hcnt : (p0 :: ps).length ≤ 2000000)
    (hz : (((p0 :: ps).map fun p => Txt.slice p (some (margin p0)) none).map (·.length)).sum + ((p0 :: ps).map fun p => Txt.slice p (some (margin p0)) none).length * ("\n" : Str).length ≤ 16777216) :
    CallOk w A av C (.ref 111) [.str x] (.str (Txt.join "\n" ((p0 :: ps).map fun p => Txt.slice p (some (margin p0)) none))) := by
  obtain ⟨co, cvs, ct, e1, e2, e3⟩ := cd111 w.params
  refine call_body (x := "text") hB hI (by have := hA.depth; omega) (lk111 w.params) e1 e2 e3 (fun v => by kernel_rfl!) (by kernel_rfl!) (fun K L => ?_) (by kernel_rfl!) (by kernel_rfl!) (by kernel_rfl!) (by decide +kernel)
  have hE : EnvOk (e111 L) L [] := ⟨rfl, rfl, rfl, rfl, by kernel_rfl!⟩
  have hA1 : OkA 2 (A.deeper (e111 L)) := hA.deeper _
  refine .mk fun s Q E c q => ?_
  refine wpAny_execs_cons (wpAny_Try_except (wpAny_execs_cons (wpAny_Return_some (((ev_call_f Vs.stable (ev_global hE vsB (by kernel_rfl!) (gl21 _) (by kernel_rfl!)) (evs_cons Vs.stable (ev_local (d := (D.str (x))) hE (by kernel_rfl!) (by kernel_rfl!) (by kernel_rfl!) (by kernel_rfl!)) evs_nil (by with_unfolding_all rfl)) (dedent_ok vsB vsI hA1 hx hsp hp0 hlen hcnt hz) (fun h z => (vsB h z).k _ _ (lk21 _)) rfl (by with_unfolding_all rfl) (by with_unfolding_all rfl))).run _ _ _ c fun v s1 kk1 dv1 => ?_))))
  have c1 := Vs.stable _ _ (keeps_heap kk1) c
  obtain ⟨h1, tk1, rfl, k1⟩ := kk1
  exact q _ h1 tk1 ⟨v, rfl, dv1, c1.old⟩
theorem dd_none {base : Heap} {outer : List Env} {x : Str} {t : Tok} {p0 : Str} {ps : List Str} {Q : Value → Shared → Prop} (Bb : Base w base) (hA : OkA 3 A) (hfr : A.frames = some outer) (hkb : base.StaysIn s.heap) (hfl : s.heap.FunFrames base outer)
    (hx : x.length ≤ 1000000) (hsp : Txt.split x "\n" = p0 :: ps) (hp0 : p0.length = 0)
    (hQ : ∀ h' tk, base.StaysIn h' → s.heap.UpToSlots h' → Q .none { s with heap := h', toks := tk }) : wpAny (MW w) A (call (.ref 111) [.str x t]) Q E s := by
  obtain ⟨hp, g, d₀, tk₀, os₀⟩ := s
  dsimp only at hkb hfl hQ
  have B : Base w hp := Bb.keeps hkb
  obtain ⟨co, cvs, ct, e1, e2, e3⟩ := cd111 w.params
  obtain ⟨mg, mb, tt⟩ := id B.t
  refine wpAny_call (call_plain_ret (binds := [("text", .str x t)]) (by have := hA.depth; show _ < 1000; omega) (B.k _ _ (lk111 w.params)) rfl tt.nolimit ⟨110, co, cvs, ct, rfl, B.k _ _ e1, e2, e3⟩ (by kernel_rfl!) (fun y hy => by rw [List.mem_singleton.mp hy]; kernel_rfl!) (fun h₁ F => ?_) (by kernel_rfl!) (by kernel_rfl!) (by kernel_rfl!) (by decide +kernel))
  dsimp only at F ⊢
  generalize hL0 : hp.objs.size = L at F ⊢
  have hnL : hp.get? L = none := Heap.get?_none_of_le (Nat.le_of_eq hL0)
  have hbL : base.get? L = none := by
    cases e : base.get? L with
    | none => rfl
    | some o => have := hkb _ _ e; rw [hnL] at this; cases this
  have hE' : EnvOk (e111 L) L [] := ⟨rfl, rfl, rfl, rfl, by kernel_rfl!⟩
  have hh : (A.deeper (e111 L)).handled = none := hA.handled
  have hfr' : (A.deeper (e111 L)).frames = some (e111 L :: outer) := by show A.frames.map _ = _; rw [hfr]; rfl
  have hn1 := F.ns
  have k1 := F.keep
  have kb1 : base.StaysIn h₁ := fun b o e => k1 b o (hkb b o e)
  have B1 := Bb.keeps kb1
  have hFF : h₁.FunFrames base (e111 L :: outer) := by
    obtain ⟨oL, es, ep, hoL, hdL, _⟩ := hn1
    exact ⟨by show (fSt 11).2.2.2.kind ≠ _; decide +kernel, ⟨L, oL, rfl, hbL, hoL, fun vs q => by rw [hdL] at q; cases q⟩, hfl.of_keeps fun b o hb _ => ⟨o, k1 b o hb, rfl⟩⟩
  refine wpAny_execs_cons (wpAny_Try_except (wpAny_execs_cons (wpAny_Return_some (Call_ ((ev_global (C := Base w) (av := []) (A := A.deeper (e111 L)) hE' (fun _ z => z) (by kernel_rfl!) (gl21 _) (by kernel_rfl!)).run _ _ _ B1 fun v s2 kk2 dv2 => ?_) (by with_unfolding_all rfl)))))
  cases dv2
  obtain ⟨h2, tk2, rfl, k2⟩ := kk2
  dsimp only at k2 ⊢
  have hn2 := hn1.at' fun o e => k2 _ o e
  have kb2 : base.StaysIn h2 := fun b o e => k2 b o (kb1 b o e)
  have B2 := Bb.keeps kb2
  have hFF2 : h2.FunFrames base (e111 L :: outer) := hFF.of_keeps fun b o hb _ => ⟨o, k2 b o hb, rfl⟩
  refine callWith_def (o := fObj "_dedent" 1 (.str "cpy313.enum" 187) 20) rfl (args_cons (wpAny_Name (wpAny_loadName_local (v := .str x t) (by kernel_rfl!) (by kernel_rfl!) hn2 (by kernel_rfl!) (args_nil ⟨B2.k _ _ (lk21 _), ?_⟩)) (by kernel_rfl!)) (by with_unfolding_all rfl)) (by with_unfolding_all rfl)
  refine dedent_raises B2 hh (by show A.depth + 1 < 1000; have := hA.depth; omega) hfr' kb2 hFF2 hx hsp hp0 fun e a0 h3 tk3 fly up3 => ?_
  dsimp only at up3 ⊢
  refine wpAny_looks_onW hfr' rfl fly fun h4 held up4 => ?_
  refine wpAny_landsW held fun h5 fly5 up5 => ?_
  dsimp only at up4 up5 ⊢
  have upA : hp.UpToSlots h5 := (Heap.UpToSlots.of_keeps fun b o q => k2 b o (k1 b o q)).trans (up3.trans (up4.trans up5))
  refine wpAny_handleBy_builtin (X := "UnboundLocalError") (T := "UnboundLocalError") (b := true) (isSubtype_of_subB (by decide +kernel)) (isSubtype_of_subB (by decide +kernel)) (isSubtype_of_subB (by decide +kernel)) ?_
  have B5 := Bb.keeps fly5.1
  refine (ev_builtin (C := Base w) (av := []) (A := (A.deeper (e111 L)).mark (some (.ref e))) hE' (fun _ z => z) (by kernel_rfl!) (gn_UnboundLocalError _) gb_UnboundLocalError (by decide) (by kernel_rfl!)).run _ _ _ B5 fun v s6 kk6 dv6 => ?_
  cases dv6
  obtain ⟨h6, tk6, rfl, k6⟩ := kk6
  dsimp only at k6 ⊢
  have kb6 : base.StaysIn h6 := fun b o q => k6 b o (fly5.1 b o q)
  have FF6 : h6.FunFrames base (e111 L :: outer) := fly5.2.2.1.of_keeps fun b o hb _ => ⟨o, k6 b o hb, rfl⟩
  have tr6 : h6.TracedAtW base e (.type "UnboundLocalError") a0 .none := by
    obtain ⟨_, _, _, oe, vs, T, oT, ts, he, hc, hd, h1, hnT, hTe, hT, hdT, h3⟩ := fly5
    exact ⟨oe, vs, T, oT, ts, k6 _ _ he, hc, hd, h1, hnT, hTe, k6 _ _ hT, hdT, h3⟩
  refine ⟨rfl, tr6.there, ?_⟩
  rw [if_pos rfl]
  refine wpAny_setFlight_noneW kb6 FF6 tr6 fun h7 kb7 FF7 tr7 up7 => ?_
  dsimp only at up7 ⊢
  refine wpAny_execs_cons (wpAny_Return_some (wpAny_Constant_none ?_))
  exact hQ h7 tk6 kb7 (upA.trans ((Heap.UpToSlots.of_keeps k6).trans fun b o q hn => ⟨o.slots, up7 b o q hn⟩))
end
end
end Mine

open PySem PySem.W PyProof.Rows PySem.Calls
set_option Elab.async false
set_option maxRecDepth 100000
set_option maxHeartbeats 400000
set_option linter.unusedVariables false
namespace Mine
noncomputable section
/-- what _law_dedented gives back -/
noncomputable def dedO (x : Str) : Option Str := match Txt.split x "\n" with
  | [] => none
  | p0 :: ps => if p0.length = 0 then none else some (Txt.join "\n" ((p0 :: ps).map fun p => Txt.slice p (some (margin p0)) none))
noncomputable def toldL : List Int := [0, 1, 51, 0, 6, 20, 2, 109, 108, 3, 196, 7, 2, 11, 0, 1, 292]
noncomputable def scriptOf (ns : List Int) : List Int := if ns.isEmpty then toldL else ns.take 16
/-- the plain law's facts -/
structure LawF (ds : List (Nat × Str)) : Prop where
  len : ds.length ≤ 17
  b1 : ∀ p ∈ ds, isB1 p.1 = (p.2 == (""  : Str))
  rows : ∃ r0 rs, rowsOf ds = r0 :: rs ∧ RowsB (r0 :: rs)
  steps : ∀ q ∈ stepsL (rowsOf ds), ∀ x, q.1 = some x → dedO x = q.2.1 ∧ some (prep x) = q.2.2
  str : ∀ q ∈ stepsL (rowsOf ds), ∀ x, (q.1 = some x ∨ q.2.1 = some x ∨ q.2.2 = some x) → x.length ≤ 200000 ∧ PyData.strOk x = true
theorem split_join (x : Str) : Txt.join "\n" (Txt.split x "\n") = x := (StrLaws.glued_eq_join _ _).trans (StrLaws.join_split x "\n")
theorem split_ne (x : Str) : Txt.split x "\n" ≠ [] := fun e => by
  have h := split_join x
  rw [e] at h
  have : x = ⟨#[]⟩ := h.symm
  rw [this] at e
  exact absurd e (by decide +kernel)
theorem sum_mono {α : Type} {l : List α} {f g : α → Nat} (h : ∀ x ∈ l, f x ≤ g x) : (l.map f).sum ≤ (l.map g).sum := by
  induction l with
  | nil => simp
  | cons a l ih =>
    have h1 := h a List.mem_cons_self
    have h2 := ih fun x hx => h x (List.mem_cons_of_mem _ hx)
    rw [List.map_cons, List.sum_cons, List.map_cons, List.sum_cons]
    omega
theorem mem_sum {l : List Str} {p : Str} (h : p ∈ l) : p.length ≤ (l.map (·.length)).sum := by
  induction l with
  | nil => cases h
  | cons a l ih =>
    rw [List.map_cons, List.sum_cons]
    rcases List.mem_cons.mp h with rfl | h
    · omega
    · have := ih h; omega
theorem split_bounds {x p0 : Str} {ps : List Str} (e : Txt.split x "\n" = p0 :: ps) (hx : x.length ≤ 200000) : (∀ p ∈ p0 :: ps, p.length ≤ 1000000) ∧ (p0 :: ps).length ≤ 2000000 ∧
    ∀ i, (((p0 :: ps).map fun p => Txt.slice p (some i) none).map (·.length)).sum + ((p0 :: ps).map fun p => Txt.slice p (some i) none).length * ("\n" : Str).length ≤ 16777216 := by
  have h := split_join x
  rw [e] at h
  have hl := join_len "\n" (p0 :: ps)
  rw [h, nl_len] at hl
  have h1 : ((p0 :: ps).map (·.length)).sum ≤ 200000 := by omega
  have h2 : (p0 :: ps).length ≤ 200001 := by
    have : (p0 :: ps).length - 1 ≤ 200000 := by omega
    omega
  refine ⟨fun p hp => ?_, by omega, fun i => ?_⟩
  · have := mem_sum hp
    omega
  · rw [List.map_map, List.length_map, nl_len]
    have := sum_mono (l := p0 :: ps) (f := (fun x => Str.length x) ∘ fun p => Txt.slice p (some i) none) (g := fun p => p.length) (fun p _ => Txt.slice_le _ _ _)
    omega
section
variable {w : World} {A : Around} {av : List Addr} {C : HP} {K : Addr → Option Obj} {L : Addr} {l : List (Str × D)} {E : Value → Shared → Prop} {s : Shared}
noncomputable abbrev e133 (L : Addr) : Env := envOf "law" (fSt 15).2.2.2 L 133 (.ref 132)
/-- the frame's slots change -/
theorem Vs.slots {h h' : Heap} (z : Vs w av K L [] l h) (k : ∀ b o, b ≠ L → h.get? b = some o → h'.get? b = some o) (up : h.UpToSlots h') : Vs w av K L [] l h' := by
  have nl := z.notL
  obtain ⟨m, hm, hv⟩ := z.vars
  have hm' := up.ns hm
  refine ⟨z.base₀, fun b q => ?_, fun b o e => k b o (by rintro rfl; rw [z.new] at e; cases e) (z.old b o e), z.new, (fun z c e => by cases e), m, hm', fun y e q => ?_⟩
  · by_cases hb : b = L
    · obtain ⟨o, _, _, e, _⟩ := hm'
      exact ⟨o, hb ▸ e⟩
    · obtain ⟨o, e⟩ := z.inn b q
      exact ⟨o, k b o hb e⟩
  · obtain ⟨v, a, b⟩ := hv y e q
    refine ⟨v, a, ?_⟩
    have b' : Den (L :: av) h v e := b.avoid fun a q => (List.mem_cons.mp q).elim (fun e => .inr (e ▸ nl)) .inl
    exact (b'.mono fun b o hb e => k b o (fun q => hb (q ▸ List.mem_cons_self)) e).avoid fun a q => .inl (List.mem_cons_of_mem _ q)
/-- _law_dedented(text), in law -/
theorem ded_eval {x : Str} {p1 p2 p : Pos} {Q : Value → Shared → Prop} (hA : OkA 9 A) (hfr : A.frames = some [e133 L]) (z : Vs w av K L [] l s.heap) (hl : l.lookup ("text" : Str) = some (.str x)) (hx : x.length ≤ 200000)
    (q : ∀ v h' tk, Vs w av K L [] l h' → Den av h' v (optS (dedO x)) → Q v { s with heap := h', toks := tk })
    (he : eval (.Call (.Name "_law_dedented" p1) [.Name "text" p2] [] p) (e133 L) = (do callWith p (← eval (.Name "_law_dedented" p1) (e133 L)) [] (backTo p (starEach [.Name "text" p2] (e133 L))) (backToKw p (keywordEach [] (e133 L)))))
    (hs : starEach [.Name "text" p2] (e133 L) = (false, eval (.Name "text" p2) (e133 L)) :: starEach [] (e133 L)) :
    wpAny (MW w) A (eval (.Call (.Name "_law_dedented" p1) [.Name "text" p2] [] p) (e133 L)) Q E s := by
  have hE : EnvOk (e133 L) L [] := ⟨rfl, rfl, rfl, rfl, by kernel_rfl!⟩
  obtain ⟨p0, ps, hsp⟩ : ∃ p0 ps, Txt.split x "\n" = p0 :: ps := by
    cases e : Txt.split x "\n" with
    | nil => exact absurd e (split_ne x)
    | cons a b => exact ⟨a, b, rfl⟩
  obtain ⟨b1, b2, b3⟩ := split_bounds hsp hx
  by_cases hp0 : p0.length = 0
  · have hd : dedO x = none := by unfold dedO; rw [hsp]; exact if_pos hp0
    rw [hd] at q
    obtain ⟨hp, g, d₀, tk₀, os₀⟩ := s
    dsimp only at z q
    refine Call_ ((ev_global (av := []) (A := A) hE vsB (by kernel_rfl!) (gl111 _) (by kernel_rfl!)).run _ _ _ z fun v s2 kk2 dv2 => ?_) he
    cases dv2
    obtain ⟨h2, tk2, rfl, k2⟩ := kk2
    dsimp only at k2 ⊢
    have z2 := Vs.stable _ _ k2 z
    refine callWith_def (o := fObj "_law_dedented" 11 (.str "law_rw0067_01" 2236) 110) rfl (args_cons ((ev_local (av := av) (A := A) hE hl (by kernel_rfl!) rfl (by kernel_rfl!)).run _ _ _ z2 fun v s3 kk3 dv3 => args_nil ?_) hs) hs
    cases dv3 with | str _ t3 =>
    obtain ⟨h3, tk3, rfl, k3⟩ := kk3
    dsimp only at k3 ⊢
    have z3 := Vs.stable _ _ k3 z2
    refine ⟨z3.base.k _ _ (lk111 _), ?_⟩
    have Bb : Base w (hideH h3 L) := by
      obtain ⟨hb, B, kB⟩ := z3.base₀
      exact B.keeps fun b o e => by
        have hK := kB b o e
        rw [hideH_ne (by rintro rfl; rw [z3.new] at hK; cases hK)]
        exact z3.old b o hK
    have FF : h3.FunFrames (hideH h3 L) [e133 L] := by
      obtain ⟨m, ⟨oL, es, ep, hoL, hdL, _⟩, _⟩ := z3.vars
      exact ⟨by show (fSt 15).2.2.2.kind ≠ _; decide +kernel, ⟨L, oL, rfl, hideH_self _ _, hoL, fun vs q => by rw [hdL] at q; cases q⟩, trivial⟩
    refine dd_none Bb (hA.less (by decide)) hfr (fun b o e => (hideH_of e).2) FF (by omega) hsp hp0 fun h4 tk4 kb up => ?_
    refine q .none h4 tk4 (z3.slots (fun b o hb e => kb b o (by rw [hideH_ne hb]; exact e)) up) (.val _)
  · have hd : dedO x = some (Txt.join "\n" ((p0 :: ps).map fun p => Txt.slice p (some (margin p0)) none)) := by unfold dedO; rw [hsp]; exact if_neg hp0
    rw [hd] at q
    refine (ev_call_f (d := .str _) Vs.stable (ev_global hE vsB (by kernel_rfl!) (gl111 _) (by kernel_rfl!)) (evs_cons Vs.stable (ev_local (av := av) hE hl (by kernel_rfl!) rfl (by kernel_rfl!)) evs_nil hs) (dd_ok vsB vsI (hA.less (by decide)) (by omega) hsp hp0 b1 b2 (b3 _)) (fun h z => (vsB h z).k _ _ (lk111 _)) rfl he hs).run s _ _ z fun v s' kk dv => ?_
    have z' := Vs.stable _ _ (keeps_heap kk) z
    obtain ⟨h', tk, rfl, k⟩ := kk
    exact q v h' tk z' dv
end
end
end Mine

open PySem PySem.W PyProof.Rows PySem.Calls
set_option Elab.async false
set_option maxRecDepth 100000
set_option maxHeartbeats 400000
set_option linter.unusedVariables false
namespace Mine
noncomputable section
mutual
theorem eqv_refl : ∀ (n : Nat) (d : D), d.plain n = true → d.py.eqv d.py = true
  | n, .val v, e => by
    have e' : plainV v = true := by cases n <;> simpa [D.plain] using e
    rw [D.py]
    cases v <;> first | (simp [pyV, PyData.eqv]; done) | cases e'
  | _, .int i, _ => by simp [D.py, PyData.eqv]
  | n, .str x, e => by simp [D.py, PyData.eqv]
  | n + 1, .list l, e => by
    rw [D.plain] at e
    rw [D.py, PyData.eqv]
    exact eqvs_refl n l e
  | n + 1, .tup l, e => by
    rw [D.plain] at e
    rw [D.py, PyData.eqv]
    exact eqvs_refl n l e
  | 0, .list l, e => by simp [D.plain] at e
  | 0, .tup l, e => by simp [D.plain] at e
theorem eqvs_refl : ∀ (n : Nat) (l : List D), D.plains n l = true → PyData.eqvAll (D.pys l) (D.pys l) = true
  | _, [], _ => by simp [D.pys, PyData.eqvAll]
  | n, d :: l, e => by
    rw [D.plains, Bool.and_eq_true] at e
    rw [D.pys, PyData.eqvAll, eqv_refl n d e.1, eqvs_refl n l e.2]
    rfl
end
theorem plains_of {n : Nat} : ∀ {l : List D}, (∀ d ∈ l, d.plain n = true) → D.plains n l = true
  | [], _ => by rw [D.plains]
  | d :: l, h => by rw [D.plains, h d List.mem_cons_self, plains_of fun x hx => h x (List.mem_cons_of_mem _ hx)]; rfl
noncomputable abbrev heldD (p : Nat × Str) : D := .list [.val (.bool (isB1 p.1)), .val (.bool (p.1 == 32))]
theorem held_plain (p : Nat × Str) : (heldD p).plain 8 = true := by simp [D.plain, D.plains, plainV]
theorem helds_plain (ds : List (Nat × Str)) : D.plain 9 (.list (ds.map heldD)) = true := by
  rw [D.plain]
  refine plains_of fun d hd => ?_
  obtain ⟨p, _, rfl⟩ := List.mem_map.mp hd
  exact held_plain p
theorem ints_plain (ns : List Int) : D.plain 9 (.list (ns.map D.int)) = true := by rw [D.plain]; exact plains_ints 8 ns
theorem nil_plain : D.plain 9 (.list []) = true := by rw [D.plain, D.plains]
theorem optS_plain {n : Nat} {a : Option Str} (h : ∀ x, a = some x → PyData.strOk x = true) : (optS a).plain n = true := by
  cases a with
  | none => cases n <;> simp [optS, D.plain, plainV]
  | some x => cases n <;> simp [optS, D.plain, h x rfl]
theorem two_plain {a b : Option Str} (h : ∀ x, a = some x → PyData.strOk x = true) (h' : ∀ x, b = some x → PyData.strOk x = true) : D.plain 9 (.list [optS a, optS b]) = true := by
  rw [D.plain, D.plains, D.plains, D.plains, optS_plain h, optS_plain h']
  rfl
noncomputable def intOfD : D → Int
  | .int i => i
  | _ => 0
section
variable {w : World} {A : Around} {av : List Addr} {C : HP}
theorem law_ok (hB : ∀ h, C h → Base w h) (hI : ∀ h, C h → Inn av h) (hA : OkA 40 A) (hfr : A.frames = some []) {ns : List Int} (hn : ns.length ≤ 1000) (F : LawF ((scriptOf ns).map drawnC)) : CallOk w A av C (.ref 133) [.list (ns.map .int)] (.val (.bool true)) := by
  obtain ⟨co, cvs, ct, e1, e2, e3⟩ := cd133 w.params
  refine call_body (x := "script") hB hI (by have := hA.depth; omega) (lk133 w.params) e1 e2 e3 (fun v => by kernel_rfl!) (by kernel_rfl!) (fun K L => ?_) (by kernel_rfl!) (by kernel_rfl!) (by kernel_rfl!) (by decide +kernel)
  have hE : EnvOk (e133 L) L [] := ⟨rfl, rfl, rfl, rfl, by kernel_rfl!⟩
  have hh : (A.deeper (e133 L)).handled = none := hA.handled
  have hA1 : OkA 39 (A.deeper (e133 L)) := hA.deeper _
  have hfr1 : (A.deeper (e133 L)).frames = some [e133 L] := by show A.frames.map _ = _; rw [hfr]; rfl
  have hu : (A.deeper (e133 L)).units + 64 < cLine := by show _ < 9900; have := hA1.units; omega
  obtain ⟨ds, hds⟩ : ∃ ds, ds = (scriptOf ns).map drawnC := ⟨_, rfl⟩
  rw [← hds] at F
  have hdz : ds.length ≤ 16777216 := by have := F.len; omega
  refine @tr_let w (A.deeper (e133 L)) av (e133 L) K L [] _ _ _ _ _ _ _ (.list (toldL.map .int)) hE (ev_list Vs.stable vsI (evs_cons Vs.stable (ev_int 0 _ _) (evs_cons Vs.stable (ev_int 1 _ _) (evs_cons Vs.stable (ev_int 51 _ _) (evs_cons Vs.stable (ev_int 0 _ _) (evs_cons Vs.stable (ev_int 6 _ _) (evs_cons Vs.stable (ev_int 20 _ _) (evs_cons Vs.stable (ev_int 2 _ _) (evs_cons Vs.stable (ev_int 109 _ _) (evs_cons Vs.stable (ev_int 108 _ _) (evs_cons Vs.stable (ev_int 3 _ _) (evs_cons Vs.stable (ev_int 196 _ _) (evs_cons Vs.stable (ev_int 7 _ _) (evs_cons Vs.stable (ev_int 2 _ _) (evs_cons Vs.stable (ev_int 11 _ _) (evs_cons Vs.stable (ev_int 0 _ _) (evs_cons Vs.stable (ev_int 1 _ _) (evs_cons Vs.stable (ev_int 292 _ _) evs_nil (by with_unfolding_all rfl)) (by with_unfolding_all rfl)) (by with_unfolding_all rfl)) (by with_unfolding_all rfl)) (by with_unfolding_all rfl)) (by with_unfolding_all rfl)) (by with_unfolding_all rfl)) (by with_unfolding_all rfl)) (by with_unfolding_all rfl)) (by with_unfolding_all rfl)) (by with_unfolding_all rfl)) (by with_unfolding_all rfl)) (by with_unfolding_all rfl)) (by with_unfolding_all rfl)) (by with_unfolding_all rfl)) (by with_unfolding_all rfl)) (by with_unfolding_all rfl)) (Nat.le_of_ble_eq_true rfl)) (by kernel_rfl!) rfl (by kernel_rfl!) ?_
  have eS : (D.list (ns.map D.int)).py.eqv (D.list []).py = ns.isEmpty := by
    rw [D.py, D.py, pys_nil, eqv_nil, pys_isEmpty]
    cases ns <;> rfl
  have eq1 := cmp_eq_data (w := w) (av := av) (C := Vs w av K L [] [("told", .list (toldL.map D.int)), ("script", .list (ns.map D.int))]) (A := A.deeper (e133 L)) hu (ints_plain ns) nil_plain
  rw [eS] at eq1
  refine tr_step (tr_assign_comp0 (xs := scriptOf ns) (g := D.int) (inv := intOfD) (F := drawnD) (B := fun n => [("number", .int n)]) (cl' := []) (fr := []) (d := .list (ds.map pairD)) (fun _ => rfl) hE (src_list hh (ev_ifexp (b := ns.isEmpty) Vs.stable (tst_cmpB (av := av) Vs.stable (ev_local (d := (D.list (ns.map D.int))) hE (by kernel_rfl!) (by kernel_rfl!) (by kernel_rfl!) (by kernel_rfl!)) (ev_list Vs.stable vsI evs_nil (Nat.le_of_ble_eq_true rfl)) eq1 (by with_unfolding_all rfl)) (fun hb => Ev.as (ev_local (d := (D.list (toldL.map D.int))) hE (by kernel_rfl!) (by kernel_rfl!) (by kernel_rfl!) (by kernel_rfl!)) (by unfold scriptOf; rw [hb]; rfl)) (fun hb => Ev.as (ev_slice_list Vs.stable vsI (ev_local (d := (D.list (ns.map D.int))) hE (by kernel_rfl!) (by kernel_rfl!) (by kernel_rfl!) (by kernel_rfl!)) (ev_int 16 _ _) (by rw [List.length_map]; omega) (fun _ _ => by with_unfolding_all rfl)) (by unfold scriptOf; rw [hb]; show D.list (List.take (upto _ 16) (ns.map D.int)) = D.list ((ns.take 16).map D.int); rw [List.map_take]; rfl))) go_name)
    (by have e := congrArg List.length hds; rw [List.length_map] at e; omega) (by kernel_rfl!) (by decide +kernel) rfl (by decide +kernel) (fun _ _ _ _ e => by cases e) (fun _ _ _ _ e => by cases e) (fun _ _ _ _ _ => rfl) (fun r _ Cc => asg_name (by kernel_rfl!) rfl) (fun n hn av' K' Cc => (ev_call_f Vs.stable (ev_global (compEnv_ok rfl rfl (by kernel_rfl!)) vsB (by kernel_rfl!) (gl99 _) (by kernel_rfl!)) (evs_cons Vs.stable (ev_local (d := (D.int (n))) (compEnv_ok rfl rfl (by kernel_rfl!)) (by kernel_rfl!) (by kernel_rfl!) (by kernel_rfl!) (by kernel_rfl!)) evs_nil (by with_unfolding_all rfl)) (drawn_ok vsB vsI (hA1.less (by decide)) n) (fun h z => (vsB h z).k _ _ (lk99 _)) rfl (by with_unfolding_all rfl) (by with_unfolding_all rfl))) (by kernel_rfl!) rfl (by kernel_rfl!) (fun _ => rfl) (by rw [hds, List.map_map]; rfl)) ?_
  refine tr_step (tr_assign_comp0 (xs := ds) (g := pairD) (inv := unpairD) (F := heldD) (B := fun p => [("sign", .str (one p.1)), ("meant", .str p.2)]) (cl' := []) (fr := []) (d := .list (ds.map heldD)) unpair_pair hE (src_list hh (ev_local (d := (D.list (ds.map pairD))) hE (by kernel_rfl!) (by kernel_rfl!) (by kernel_rfl!) (by kernel_rfl!)) go_tuple) hdz (by kernel_rfl!) (by decide +kernel) rfl (by decide +kernel) (fun _ _ _ _ e => by cases e) (fun _ _ _ _ e => by cases e) (fun _ _ _ _ _ => rfl) (fun p _ Cc => asg_pair hh rfl (by kernel_rfl!) (by kernel_rfl!) (by with_unfolding_all rfl)) (fun p hp av' K' Cc => (ev_list Vs.stable vsI (evs_cons Vs.stable (ev_call_f Vs.stable (ev_global (compEnv_ok rfl rfl (by kernel_rfl!)) vsB (by kernel_rfl!) (gl39 _) (by kernel_rfl!)) (evs_cons Vs.stable (ev_local (d := (D.str (one p.1))) (compEnv_ok rfl rfl (by kernel_rfl!)) (by kernel_rfl!) (by kernel_rfl!) (by kernel_rfl!) (by kernel_rfl!)) evs_nil (by with_unfolding_all rfl)) (b1_ok vsB vsI (hA1.less (by decide)) p.1) (fun h z => (vsB h z).k _ _ (lk39 _)) rfl (by with_unfolding_all rfl) (by with_unfolding_all rfl)) (evs_cons Vs.stable (ev_call_f Vs.stable (ev_global (compEnv_ok rfl rfl (by kernel_rfl!)) vsB (by kernel_rfl!) (gl92 _) (by kernel_rfl!)) (evs_cons Vs.stable (ev_local (d := (D.str (one p.1))) (compEnv_ok rfl rfl (by kernel_rfl!)) (by kernel_rfl!) (by kernel_rfl!) (by kernel_rfl!) (by kernel_rfl!)) evs_nil (by with_unfolding_all rfl)) (c11_ok vsB vsI (hA1.less (by decide)) p.1) (fun h z => (vsB h z).k _ _ (lk92 _)) rfl (by with_unfolding_all rfl) (by with_unfolding_all rfl)) evs_nil (by with_unfolding_all rfl)) (by with_unfolding_all rfl)) (Nat.le_of_ble_eq_true rfl))) (by kernel_rfl!) rfl (by kernel_rfl!) (fun _ => rfl) rfl) ?_
  have eqF : (ds.map fun p => D.list [.val (.bool (p.2 == ("" : Str))), .val (.bool (one p.1 == (" " : Str)))]) = ds.map heldD := List.map_congr_left fun p hp => by
    show _ = D.list [.val (.bool (isB1 p.1)), .val (.bool (p.1 == 32))]
    rw [F.b1 p hp, blank_one, one_eq]
  refine tr_if_ret (b := !(D.list (ds.map heldD)).py.eqv (D.list (ds.map heldD)).py) Vs.stable (tst_cmpB (av := av) Vs.stable (ev_local (d := (D.list (ds.map heldD))) hE (by kernel_rfl!) (by kernel_rfl!) (by kernel_rfl!) (by kernel_rfl!)) (Ev.as (ev_comp0 (xs := ds) (g := pairD) (inv := unpairD) (F := fun p => .list [.val (.bool (p.2 == ("" : Str))), .val (.bool (one p.1 == (" " : Str)))]) (B := fun p => [("sign", .str (one p.1)), ("meant", .str p.2)]) (cl' := []) (fr := []) unpair_pair (src_list hh (ev_local (d := (D.list (ds.map pairD))) hE (by kernel_rfl!) (by kernel_rfl!) (by kernel_rfl!) (by kernel_rfl!)) go_tuple) vsB vsI hdz (by kernel_rfl!) (by decide +kernel) rfl (by decide +kernel) (fun _ _ _ _ e => by cases e) (fun _ _ _ _ e => by cases e) (fun _ _ _ _ _ => rfl) (fun p _ Cc => asg_pair hh rfl (by kernel_rfl!) (by kernel_rfl!) (by with_unfolding_all rfl)) (fun p hp av' K' Cc => (ev_list Vs.stable vsI (evs_cons Vs.stable (ev_cmpB Vs.stable (ev_local (d := (D.str (p.2))) (compEnv_ok rfl rfl (by kernel_rfl!)) (by kernel_rfl!) (by kernel_rfl!) (by kernel_rfl!) (by kernel_rfl!)) (ev_str _ _ _) cmp_eq_str (by with_unfolding_all rfl)) (evs_cons Vs.stable (ev_cmpB Vs.stable (ev_local (d := (D.str (one p.1))) (compEnv_ok rfl rfl (by kernel_rfl!)) (by kernel_rfl!) (by kernel_rfl!) (by kernel_rfl!) (by kernel_rfl!)) (ev_str _ _ _) cmp_eq_str (by with_unfolding_all rfl)) evs_nil (by with_unfolding_all rfl)) (by with_unfolding_all rfl)) (Nat.le_of_ble_eq_true rfl))) (fun _ => rfl)) (congrArg D.list eqF)) (cmp_ne_data hu (helds_plain ds) (helds_plain ds)) (by with_unfolding_all rfl)) (fun hb => ?_) (fun _ => ?_)
  · rw [eqv_refl 9 _ (helds_plain ds)] at hb
    cases hb
  have eN : (D.list []).py.eqv (D.list []).py = true := eqv_refl 9 _ nil_plain
  have eq2 := fun l => cmp_ne_data (w := w) (av := av) (C := Vs w av K L [] l) (A := A.deeper (e133 L)) hu nil_plain nil_plain
  rw [eN] at eq2
  -- no pair of others than bools
  have eF : ((ds.map heldD).filter fun _ => false).map (fun d => d) = [] := by
    rw [List.filter_eq_nil_iff.mpr fun _ _ h => by cases h]; rfl
  refine tr_if_ret (b := !true) Vs.stable (tst_cmpB (av := av) Vs.stable (Ev.as (ev_comp (ds := ds.map heldD) (p := fun _ => false) (f := fun d => d) (bind := fun d => [("pair", d)]) (fr := []) (cl := []) (src_list hh (ev_local (d := (D.list (ds.map heldD))) hE (by kernel_rfl!) (by kernel_rfl!) (by kernel_rfl!) (by kernel_rfl!)) go_name) vsB vsI (by rw [List.length_map]; exact hdz) (by kernel_rfl!) (by decide +kernel) rfl (by decide +kernel) (fun _ _ _ _ e => by cases e) (fun _ _ _ _ e => by cases e) ⟨fun _ _ _ _ _ => rfl, fun d hd Cc => asg_name (by kernel_rfl!) rfl, fun d hd av' K' Cc => ?_, fun d hd hp => by cases hp⟩ (fun _ => rfl)) (congrArg D.list eF)) (ev_list Vs.stable vsI evs_nil (Nat.le_of_ble_eq_true rfl)) (eq2 _) (by with_unfolding_all rfl)) (fun hb => by cases hb) (fun _ => ?_)
  · obtain ⟨p, hp, rfl⟩ := List.mem_map.mp hd
    exact tests_one (tst_or2 (b := !true) (c := !true) Vs.stable (tst_not (tst_plain (av := av') (ev_call_b Vs.stable (ev_builtin (compEnv_ok rfl rfl (by kernel_rfl!)) vsB (by kernel_rfl!) (gn_isinstance _) gb_isinstance (by decide) (by kernel_rfl!)) (evs_cons Vs.stable (ev_sub Vs.stable (ev_local (d := (heldD p)) (compEnv_ok rfl rfl (by kernel_rfl!)) (by kernel_rfl!) (by kernel_rfl!) (by kernel_rfl!) (by kernel_rfl!)) (ev_int 0 _ _) (item_list (k := 0) (l := [D.val (.bool (isB1 p.1)), D.val (.bool (p.1 == 32))]) rfl (by decide) (fun _ _ _ => by with_unfolding_all rfl))) (evs_cons Vs.stable (ev_builtin (compEnv_ok rfl rfl (by kernel_rfl!)) vsB (by kernel_rfl!) (gn_bool _) gb_bool (by decide) (by kernel_rfl!)) evs_nil (by with_unfolding_all rfl)) (by with_unfolding_all rfl)) (isi_bool_ok _) (by with_unfolding_all rfl) (by with_unfolding_all rfl) (by with_unfolding_all rfl)) (by with_unfolding_all rfl))) (fun _ => tst_not (tst_plain (av := av') (ev_call_b Vs.stable (ev_builtin (compEnv_ok rfl rfl (by kernel_rfl!)) vsB (by kernel_rfl!) (gn_isinstance _) gb_isinstance (by decide) (by kernel_rfl!)) (evs_cons Vs.stable (ev_sub Vs.stable (ev_local (d := (heldD p)) (compEnv_ok rfl rfl (by kernel_rfl!)) (by kernel_rfl!) (by kernel_rfl!) (by kernel_rfl!) (by kernel_rfl!)) (ev_int 1 _ _) (item_list (k := 1) (l := [D.val (.bool (isB1 p.1)), D.val (.bool (p.1 == 32))]) rfl (by decide) (fun _ _ _ => by with_unfolding_all rfl))) (evs_cons Vs.stable (ev_builtin (compEnv_ok rfl rfl (by kernel_rfl!)) vsB (by kernel_rfl!) (gn_bool _) gb_bool (by decide) (by kernel_rfl!)) evs_nil (by with_unfolding_all rfl)) (by with_unfolding_all rfl)) (isi_bool_ok _) (by with_unfolding_all rfl) (by with_unfolding_all rfl) (by with_unfolding_all rfl)) (by with_unfolding_all rfl))))
  obtain ⟨r0, rs, er, hrb⟩ := F.rows
  refine tr_step (P1 := Vs w av K L [] []) (tr_for (S := fun i av' K' => Vs w av' K' L [] []) (ch := [L]) (ds := (stepsL (rowsOf ds)).map stepD) (src_list hh (ev_call_f Vs.stable (ev_global hE vsB (by kernel_rfl!) (gl128 _) (by kernel_rfl!)) (evs_cons Vs.stable (ev_call_f Vs.stable (ev_global hE vsB (by kernel_rfl!) (gl123 _) (by kernel_rfl!)) (evs_cons Vs.stable (ev_local (d := (D.list (ds.map pairD))) hE (by kernel_rfl!) (by kernel_rfl!) (by kernel_rfl!) (by kernel_rfl!)) evs_nil (by with_unfolding_all rfl)) (rows_ok vsB vsI (hA1.less (by decide)) (by have := F.len; omega)) (fun h z => (vsB h z).k _ _ (lk123 _)) rfl (by with_unfolding_all rfl) (by with_unfolding_all rfl)) evs_nil (by with_unfolding_all rfl)) (by rw [er]; exact steps_ok vsB vsI (hA1.less (by decide)) hrb) (fun h z => (vsB h z).k _ _ (lk128 _)) rfl (by with_unfolding_all rfl) (by with_unfolding_all rfl)) go_tuple) (loop_vs (J := fun _ => []) (fun y e q => by cases q)) (fun i d hd I K' s v Q E z dv q => ?_) (fun h h3 h4 I c hI z k => ⟨rfl, ?_⟩) (fun _ => rfl)) ?_
  rotate_left
  · have fI := c.freshK hI
    exact Vs.bare z k fI.1 fI.2.1 (fun c v e => by cases e) fI.2.2
  · refine tr_return (d := .val (.bool true)) Vs.stable (ev_bool _ _ _) (fun v h dv z => ⟨v, rfl, dv, z.old⟩)
  obtain ⟨⟨a, b, c⟩, hq, rfl⟩ := List.mem_map.mp (List.mem_of_getElem? hd)
  refine vs_asg hE z dv (asg_list (ns := [("text", _), ("dedented", _), ("prepared", _)]) hh (by kernel_rfl!) (fun x hx => by
    simp only [List.mem_cons, List.not_mem_nil, or_false] at hx
    rcases hx with rfl | rfl | rfl <;> kernel_rfl!) (by decide) rfl (by with_unfolding_all rfl)) (fun _ _ _ => rfl) fun h1 tk1 z1 k1 => ?_
  refine wpAny_execs_cons (wpAny_If (PyProof.Rows.isTrue_and ?_))
  cases a with
  | none =>
    refine (tst_cmpB (b := false) (av := I :: av) Vs.stable (ev_local (d := (D.val (.none))) hE (by kernel_rfl!) (by kernel_rfl!) (by kernel_rfl!) (by kernel_rfl!)) (ev_none _ _) cmp_isnot_none (by with_unfolding_all rfl)).run _ _ _ z1 fun s2 kk2 => ?_
    have z2 := Vs.stable _ _ (keeps_heap kk2) z1
    obtain ⟨h2, tk2, rfl, k2⟩ := kk2
    simp only [Bool.false_eq_true, if_false]
    exact wpAny_execs_nil (wpAny_execs_nil (q h2 tk2 (z2.sub fun y e q => by cases q)))
  | some x =>
    obtain ⟨hd1, hd2⟩ := F.steps _ hq x rfl
    have hx := F.str _ hq x (.inl rfl)
    dsimp only at hd1 hd2
    subst hd1
    subst hd2
    have hpx := F.str _ hq (prep x) (.inr (.inr rfl))
    have hpz : ((prepL x).map (·.length)).sum ≤ 10000000 := by
      have e := join_len "" (prepL x)
      have e' : (Txt.join "" (prepL x)).length ≤ 200000 := hpx.1
      rw [empty_len] at e
      omega
    have pl : D.plain 9 (.list [optS (dedO x), optS (some (prep x))]) = true := two_plain (fun y e => (F.str _ hq y (.inr (.inl e))).2) (fun y e => by cases e; exact hpx.2)
    refine (tst_cmpB (b := true) (av := I :: av) Vs.stable (ev_local (d := (D.str (x))) hE (by kernel_rfl!) (by kernel_rfl!) (by kernel_rfl!) (by kernel_rfl!)) (ev_none _ _) cmp_isnot_str (by with_unfolding_all rfl)).run _ _ _ z1 fun s2 kk2 => ?_
    have z2 := Vs.stable _ _ (keeps_heap kk2) z1
    obtain ⟨h2, tk2, rfl, k2⟩ := kk2
    simp only [if_true]
    refine PyProof.Rows.isTrue_and (wpAny_isTrue_Compare1 (List_ (args_cons (ded_eval (av := I :: av) (hA1.less (by decide)) hfr1 z2 (by kernel_rfl!) hx.1 (fun v3 h3 tk3 z3 dv3 => ?_) (by with_unfolding_all rfl) (by with_unfolding_all rfl)) (by with_unfolding_all rfl))) (by with_unfolding_all rfl))
    refine (evs_cons Vs.stable (ev_call_f Vs.stable (ev_global hE vsB (by kernel_rfl!) (gl104 _) (by kernel_rfl!)) (evs_cons Vs.stable (ev_local (d := (D.str (x))) hE (by kernel_rfl!) (by kernel_rfl!) (by kernel_rfl!) (by kernel_rfl!)) evs_nil (by with_unfolding_all rfl)) (prep_ok vsB vsI (hA1.less (by decide)) (by omega) hpz) (fun h z => (vsB h z).k _ _ (lk104 _)) rfl (by with_unfolding_all rfl) (by with_unfolding_all rfl)) evs_nil (by with_unfolding_all rfl)).run _ _ _ z3 fun vs s4 kk4 dvs => ?_
    have z4 := Vs.stable _ _ (keeps_heap kk4) z3
    obtain ⟨h4, tk4, rfl, k4⟩ := kk4
    dsimp only at k4 dvs ⊢
    obtain ⟨u4, rfl, du4⟩ := den1 dvs
    refine wpAny_newObj_type ?_ (sizeLine_at (by simp))
    have hl5 : (h4.push { cls := .type "list", data := .seq [v3, u4].toArray }).get? h4.objs.size = some { cls := .type "list", data := .seq [v3, u4].toArray } := Heap.get?_push_size _ rfl
    have g5 : ∀ b o, h4.get? b = some o → (h4.push { cls := .type "list", data := .seq [v3, u4].toArray }).get? b = some o := fun b o e => Heap.get?_push_of_some _ e
    have z5 := Vs.stable _ _ g5 z4
    have d5 : Den (I :: av) (h4.push { cls := .type "list", data := .seq [v3, u4].toArray }) (.ref h4.objs.size) (.list [optS (dedO x), optS (some (prep x))]) :=
      .list _ _ _ ⟨_, hl5, rfl, _, rfl⟩ (Inn.size z4.inn) (.cons (dv3.mono fun b o _ e => g5 b o (k4 b o e)) (.cons (du4.mono fun b o _ e => g5 b o e) .nil))
    refine ((ev_list Vs.stable vsI (evs_cons Vs.stable (ev_local (d := (optS (dedO x))) hE (by kernel_rfl!) (by kernel_rfl!) (by kernel_rfl!) (by kernel_rfl!)) (evs_cons Vs.stable (ev_local (d := (optS (some (prep x)))) hE (by kernel_rfl!) (by kernel_rfl!) (by kernel_rfl!) (by kernel_rfl!)) evs_nil (by with_unfolding_all rfl)) (by with_unfolding_all rfl)) (Nat.le_of_ble_eq_true rfl))).run _ _ _ z5 fun u6 s6 kk6 du6 => ?_
    have z6 := Vs.stable _ _ (keeps_heap kk6) z5
    have d6 := d5.keep kk6
    obtain ⟨h6, tk6, rfl, k6⟩ := kk6
    have cmp := cmp_ne_data (w := w) (av := I :: av) (C := fun _ => True) (A := A.deeper (e133 L)) hu pl pl
    rw [eqv_refl 9 _ pl] at cmp
    refine cmp.run _ _ _ _ E trivial d6 du6 fun s7 kk7 => ?_
    have z7 := Vs.stable _ _ (keeps_heap kk7) z6
    obtain ⟨h7, tk7, rfl, k7⟩ := kk7
    refine wpAny_truthy_bool ?_
    simp only [Bool.not_true, Bool.false_eq_true, if_false]
    exact wpAny_execs_nil (wpAny_execs_nil (q h7 tk7 (z7.sub fun y e q => by cases q)))
end
end
end Mine

open PySem PySem.W PyProof.Rows PySem.Calls
set_option Elab.async false
set_option maxRecDepth 100000
set_option maxHeartbeats 400000
set_option linter.unusedVariables false
namespace Mine
noncomputable section
theorem loose_eq : looseW qV looseV = looseV := by kernel_rfl!
theorem dK_name : dK.1.name = ("law" : Str) := by kernel_rfl!
theorem walk_of (F : ∀ ns : List Int, ns.length ≤ 63 → LawF ((scriptOf ns).map drawnC)) : WalkL := by
  intro w s₀ s₁ mg mb G Y fa o pm cd doc dV kV ho hd hcd hD hmg hg args vals as hpre hlay hrd hwl hlo
  have KX : (KF w.params).In s₁.heap := kIn_of Y
  have T : TopRead qV looseV mg mb s₁.heap := loose_eq ▸ topRead_of G.T
  have B : Base w s₁.heap := ⟨KX, mg, mb, T⟩
  obtain rfl : fa = 133 := by
    have e := mg_of KX T.g (gl133 w.params)
    rw [dK_name] at hmg
    rw [hmg] at e
    cases e
    rfl
  clear G Y
  wrow_args hpre hlay hrd hwl hlo
  rename_i ns _ _ _ _ _ _ _ l vs _ hL _ _ _ hI _ hlen _
  have hlen63 : ns.length ≤ 63 := by omega
  have dl : ∀ {vs : List Value} {ns : List Int}, IntsAre vs ns → DenL [] s₁.heap vs (ns.map D.int) := fun h => by
    induction h with
    | nil => exact .nil
    | cons n t h ih => exact .cons (.int n t) ih
  have dv : Den [] s₁.heap (.ref l) (.list (ns.map D.int)) := .list l vs.toArray _ hL List.not_mem_nil (by simpa using dl hI)
  have hcA : OkA 40 callerA := ⟨rfl, by show callerA.depth + 40 < 1000; decide +kernel, by show callerA.units + 400 < 9900; decide +kernel⟩
  refine (law_ok (C := Base w) (av := []) (fun _ z => z) (fun _ _ a ha => nomatch ha) hcA rfl (by omega) (F ns hlen63)).run s₁ [.ref l] _ _ B (.cons dv .nil) fun v s' k dv' => ?_
  cases dv'
  refine GoodW.toG ⟨.inl ⟨_, .bool true, [], rfl, fun cls => rfl, .bool true, ?_, fun _ => ⟨List.nodup_nil, fun _ h => nomatch h⟩⟩, keeps_heap k, ?_, ?_⟩
  · kernel_rfl!
  · obtain ⟨h', tk, rfl, _⟩ := k; rfl
  · obtain ⟨h', tk, rfl, _⟩ := k; exact hg
end
end Mine

open PySem PySem.W PyProof.Rows PySem.Calls
set_option Elab.async false
set_option maxRecDepth 100000
set_option maxHeartbeats 400000
set_option linter.unusedVariables false
namespace Mine
noncomputable section
/-- all that can be drawn -/
noncomputable def pairsL : List (Nat × Str) :=
  [(32, one 32), (10, one 10), (890, ⟨#[32, 953]⟩)] ++ (noiseL.map fun c => (c.toNat, ("" : Str))) ++ (basesL.flatMap fun b => (List.range 26).map fun k : Nat => ((b + (k : Int)).toNat, one (97 + k))) ++ (wordsL.map fun y => (y.1.toNat, y.2)) ++ (whiteL.map fun c => (c, one c))
theorem mem_getD {α : Type} {l : List α} {d : α} {k : Nat} (h : k < l.length) : l.getD k d ∈ l := List.mem_of_getElem? (getD_some h)
theorem drawn_mem (n : Int) : drawnC n ∈ pairsL := by
  unfold drawnC pairsL
  simp only [List.mem_append]
  have f27 := fmod_range (a := n.fdiv 8) (b := 27) (by decide)
  have f12 := fmod_range (a := n.fdiv 8) (b := 12) (by decide)
  have f26 := fmod_range (a := (n.fdiv 8).fdiv 12) (b := 26) (by decide)
  have f17 := fmod_range (a := n.fdiv 8) (b := 17) (by decide)
  have f11 := fmod_range (a := n.fdiv 8) (b := 11) (by decide)
  split
  · exact .inl (.inl (.inl (.inl (by simp))))
  · split
    · exact .inl (.inl (.inl (.inl (by simp))))
    · split
      · refine .inl (.inl (.inl (.inr (List.mem_map.mpr ⟨_, mem_getD (k := ((n.fdiv 8).fmod 27).toNat) ?_, rfl⟩))))
        show _ < 27
        omega
      · split
        · refine .inl (.inl (.inr (List.mem_flatMap.mpr ⟨_, mem_getD (l := basesL) (d := 0) (k := ((n.fdiv 8).fmod 12).toNat) ?_, List.mem_map.mpr ⟨(((n.fdiv 8).fdiv 12).fmod 26).toNat, List.mem_range.mpr ?_, ?_⟩⟩)))
          · show _ < 12
            omega
          · omega
          · rw [Int.toNat_of_nonneg f26.1]
            rw [show (97 + ((n.fdiv 8).fdiv 12).fmod 26).toNat = 97 + (((n.fdiv 8).fdiv 12).fmod 26).toNat by omega]
        · split
          · refine .inl (.inr (List.mem_map.mpr ⟨_, mem_getD (k := ((n.fdiv 8).fmod 17).toNat) ?_, rfl⟩))
            show _ < 17
            omega
          · split
            · exact .inl (.inl (.inl (.inl (by simp))))
            · refine .inr (List.mem_map.mpr ⟨_, mem_getD (k := ((n.fdiv 8).fmod 11).toNat) ?_, rfl⟩)
              show _ < 11
              omega
noncomputable def valF (v : Option Value) (c : Nat) : Str := match v with
  | some (Value.str x _) => x
  | _ => Txt.lower (one c)
/-- what a sign folds to by the rows es -/
noncomputable def foldIn (es : List DictEntry) (c : Nat) : Str := valF ((es.find? fun e => Value.isInt (c : Int) e.key).map (·.val)) c
theorem fold_eq (c : Nat) : fold c = foldIn b3E c := by
  unfold fold foldIn valF b3At findBy
  rw [List.find?_toArray]
  all_goals rfl
noncomputable def intKey (e : DictEntry) : Int := match e.key with
  | .int k _ => k
  | _ => 0
noncomputable def rising : List DictEntry → Bool
  | [] => true
  | [_] => true
  | e :: f :: es => decide (intKey e < intKey f) && rising (f :: es)
noncomputable def asc : List (Nat × Str) → Bool
  | [] => true
  | [_] => true
  | p :: q :: qs => decide (p.1 < q.1) && asc (q :: qs)
noncomputable def scan : Nat → List DictEntry → List (Nat × Str) → Bool
  | _, _, [] => true
  | 0, _, _ :: _ => false
  | n + 1, [], q :: qs => (Txt.lower (one q.1) == q.2) && scan n [] qs
  | n + 1, e :: es, q :: qs => if intKey e < q.1 then scan n es (q :: qs) else if intKey e = q.1 then (valF (some e.val) q.1 == q.2) && scan n es qs else (Txt.lower (one q.1) == q.2) && scan n (e :: es) qs
theorem rising_tail {e : DictEntry} {es : List DictEntry} (h : rising (e :: es) = true) : rising es = true ∧ ∀ f ∈ es, intKey e < intKey f := by
  induction es generalizing e with
  | nil => exact ⟨rfl, fun f hf => nomatch hf⟩
  | cons f es ih =>
    rw [rising, Bool.and_eq_true, decide_eq_true_eq] at h
    refine ⟨h.2, fun g hg => ?_⟩
    rcases List.mem_cons.mp hg with rfl | hg
    · exact h.1
    · exact Int.lt_trans h.1 ((ih h.2).2 g hg)
theorem asc_tail {p : Nat × Str} {qs : List (Nat × Str)} (h : asc (p :: qs) = true) : asc qs = true ∧ ∀ q ∈ qs, p.1 < q.1 := by
  induction qs generalizing p with
  | nil => exact ⟨rfl, fun f hf => nomatch hf⟩
  | cons q qs ih =>
    rw [asc, Bool.and_eq_true, decide_eq_true_eq] at h
    refine ⟨h.2, fun g hg => ?_⟩
    rcases List.mem_cons.mp hg with rfl | hg
    · exact h.1
    · exact Nat.lt_trans h.1 ((ih h.2).2 g hg)
theorem isInt_key {e : DictEntry} (h : b3Ok e = true) (c : Int) : Value.isInt c e.key = (intKey e == c) := by
  unfold b3Ok at h
  unfold intKey
  split at h
  · rename_i k t x u hk hv
    rw [hk]
    simp [Value.isInt]
  · cases h
theorem foldIn_skip {e : DictEntry} {es : List DictEntry} {c : Nat} (h : b3Ok e = true) (hc : intKey e ≠ c) : foldIn (e :: es) c = foldIn es c := by
  unfold foldIn
  rw [List.find?_cons_of_neg (by rw [isInt_key h]; simpa using hc)]
theorem foldIn_hit {e : DictEntry} {es : List DictEntry} {c : Nat} (h : b3Ok e = true) (hc : intKey e = c) : foldIn (e :: es) c = valF (some e.val) c := by
  unfold foldIn
  rw [List.find?_cons_of_pos (by rw [isInt_key h]; simpa using hc)]
  rfl
theorem foldIn_none {es : List DictEntry} {c : Nat} (h : ∀ e ∈ es, b3Ok e = true) (hc : ∀ e ∈ es, intKey e ≠ c) : foldIn es c = Txt.lower (one c) := by
  induction es with
  | nil => rfl
  | cons e es ih =>
    rw [foldIn_skip (h e List.mem_cons_self) (hc e List.mem_cons_self)]
    exact ih (fun f hf => h f (List.mem_cons_of_mem _ hf)) fun f hf => hc f (List.mem_cons_of_mem _ hf)
theorem scan_ok : ∀ (n : Nat) (es : List DictEntry) (qs : List (Nat × Str)), (∀ e ∈ es, b3Ok e = true) → rising es = true → asc qs = true → scan n es qs = true → ∀ q ∈ qs, foldIn es q.1 = q.2
  | _, _, [], _, _, _, _, q, hq => nomatch hq
  | 0, _, _ :: _, _, _, _, h, _, _ => by simp [scan] at h
  | n + 1, [], p :: qs, hb, hr, ha, h, q, hq => by
    rw [scan, Bool.and_eq_true, beq_iff_eq] at h
    rcases List.mem_cons.mp hq with rfl | hq
    · exact h.1
    · exact scan_ok n [] qs hb hr (asc_tail ha).1 h.2 q hq
  | n + 1, e :: es, p :: qs, hb, hr, ha, h, q, hq => by
    have hr' := rising_tail hr
    have ha' := asc_tail ha
    have hb' : ∀ f ∈ es, b3Ok f = true := fun f hf => hb f (List.mem_cons_of_mem _ hf)
    have hbe := hb e List.mem_cons_self
    rw [scan] at h
    split at h
    · rename_i hlt
      have := scan_ok n es (p :: qs) hb' hr'.1 ha h q hq
      rw [foldIn_skip hbe ?_, this]
      rcases List.mem_cons.mp hq with rfl | hq
      · omega
      · have := ha'.2 q hq; omega
    · split at h
      · rename_i heq
        rw [Bool.and_eq_true, beq_iff_eq] at h
        rcases List.mem_cons.mp hq with rfl | hq
        · rw [foldIn_hit hbe heq]; exact h.1
        · rw [foldIn_skip hbe (by have := ha'.2 q hq; omega)]
          exact scan_ok n es qs hb' hr'.1 ha'.1 h.2 q hq
      · rw [Bool.and_eq_true, beq_iff_eq] at h
        rcases List.mem_cons.mp hq with rfl | hq
        · rw [foldIn_none hb fun f hf => ?_]
          · exact h.1
          · rcases List.mem_cons.mp hf with rfl | hf
            · omega
            · have := hr'.2 f hf; omega
        · exact scan_ok n (e :: es) qs hb hr ha'.1 h.2 q hq
theorem b3_rising : rising b3E = true := by kernel_rfl!
noncomputable def segOk (qs : List (Nat × Str)) : Bool := asc qs && scan 2000 b3E qs && qs.all fun p => !isB1 p.1 && decide (p.1 < 1114112)
theorem seg_fold {qs : List (Nat × Str)} (h : segOk qs = true) : ∀ q ∈ qs, fold q.1 = q.2 ∧ isB1 q.1 = false ∧ q.1 < 1114112 := fun q hq => by
  unfold segOk at h
  rw [Bool.and_eq_true, Bool.and_eq_true, List.all_eq_true] at h
  have h2 := h.2 q hq
  rw [Bool.and_eq_true, Bool.not_eq_true', decide_eq_true_eq] at h2
  refine ⟨?_, h2⟩
  rw [fold_eq]
  exact scan_ok _ _ _ (List.all_eq_true.mp b3_all) b3_rising h.1.1 h.1.2 q hq
noncomputable def baseSeg (b : Int) : List (Nat × Str) := (List.range 26).map fun k : Nat => ((b + (k : Int)).toNat, one (97 + k))
theorem seg_bases : basesL.all (fun b => segOk (baseSeg b)) = true := by kernel_rfl!
theorem seg_words : segOk (wordsL.map fun y => (y.1.toNat, y.2)) = true := by kernel_rfl!
theorem seg_signs : segOk ([9, 10, 11, 12, 13, 28, 32, 46, 133, 160, 176, 700, 775, 953, 5760, 8195, 8232, 12288].map fun c => (c, one c)) = true := by kernel_rfl!
theorem seg_890 : segOk [(890, ⟨#[32, 953]⟩)] = true := by kernel_rfl!
theorem noise_b1 : noiseL.all (fun c => isB1 c.toNat && decide (c.toNat < 1114112) && c != 10 && c != 32) = true := by kernel_rfl!
end
end Mine

open PySem PySem.W PyProof.Rows PySem.Calls
set_option Elab.async false
set_option maxRecDepth 100000
set_option maxHeartbeats 400000
set_option linter.unusedVariables false
namespace Mine
noncomputable section
/-- the facts of a drawn pair -/
structure PairOk (p : Nat × Str) : Prop where
  b1 : isB1 p.1 = (p.2 == ("" : Str))
  fold : isB1 p.1 = false → fold p.1 = p.2
  lt : p.1 < 1114112
  len : p.2.length ≤ 10
  nl : p.1 = 10 → p.2 = one 10
  blank : p.1 = 32 → p.2 = one 32
  cs : ∀ c ∈ p.2.cps.toList, isB1 c = false ∧ Mine.fold c = one c ∧ (c = 10 → p.1 = 10) ∧ c < 1114112
noncomputable def signL : List Nat := [9, 10, 11, 12, 13, 28, 32, 46, 133, 160, 176, 700, 775, 953, 5760, 8195, 8232, 12288]
theorem sign_ok {c : Nat} (h : c ∈ signL) : isB1 c = false ∧ fold c = one c ∧ c < 1114112 := by
  obtain ⟨a, b, d⟩ := seg_fold seg_signs (c, one c) (List.mem_map.mpr ⟨c, h, rfl⟩)
  exact ⟨b, a, d⟩
theorem base_ok {b : Int} (hb : b ∈ basesL) {k : Nat} (hk : k < 26) : fold (b + (k : Int)).toNat = one (97 + k) ∧ isB1 (b + (k : Int)).toNat = false ∧ (b + (k : Int)).toNat < 1114112 :=
  seg_fold (List.all_eq_true.mp seg_bases b hb) _ (List.mem_map.mpr ⟨k, List.mem_range.mpr hk, rfl⟩)
theorem letter_ok {k : Nat} (hk : k < 26) : isB1 (97 + k) = false ∧ fold (97 + k) = one (97 + k) ∧ 97 + k < 1114112 := by
  obtain ⟨a, b, d⟩ := base_ok (b := 97) (by decide) hk
  rw [show ((97 : Int) + (k : Int)).toNat = 97 + k by omega] at a b d
  exact ⟨b, a, d⟩
theorem one_ne (c : Nat) : (one c == ("" : Str)) = false := by
  rw [beq_eq_false_iff_ne]
  intro h
  have := congrArg Str.length h
  exact absurd this (by decide : (1 : Nat) ≠ 0)
theorem one_inj {c k : Nat} (h : one c = one k) : c = k := by
  have := one_eq c k
  rw [h, beq_self_eq_true] at this
  exact beq_iff_eq.mp this.symm
theorem self_ok {c : Nat} (h : c ∈ signL) : PairOk (c, one c) := by
  obtain ⟨a, b, d⟩ := sign_ok h
  refine ⟨by rw [a, one_ne], fun _ => b, d, (show 1 ≤ 10 by decide), fun e => e ▸ rfl, fun e => e ▸ rfl, fun k hk => ?_⟩
  obtain rfl : k = c := by simpa using hk
  exact ⟨a, b, fun e => e, d⟩
noncomputable def letterOrSign (c : Nat) : Bool := (decide (97 ≤ c) && decide (c < 123)) || signL.contains c
theorem los_ok {c : Nat} (h : letterOrSign c = true) : isB1 c = false ∧ fold c = one c ∧ c < 1114112 := by
  unfold letterOrSign at h
  rw [Bool.or_eq_true, Bool.and_eq_true, decide_eq_true_eq, decide_eq_true_eq] at h
  rcases h with ⟨h1, h2⟩ | h
  · have := letter_ok (k := c - 97) (by omega)
    rwa [show 97 + (c - 97) = c by omega] at this
  · exact sign_ok (by simpa using h)
theorem words_chk : wordsL.all (fun y => decide (y.1.toNat ≠ 10) && decide (y.1.toNat ≠ 32) && decide (y.2.length ≤ 10) && (y.2 != ("" : Str)) && y.2.cps.toList.all fun c => letterOrSign c && decide (c ≠ 10)) = true := by kernel_rfl!
theorem pair_ok {p : Nat × Str} (h : p ∈ pairsL) : PairOk p := by
  unfold pairsL at h
  simp only [List.mem_append] at h
  rcases h with (((h | h) | h) | h) | h
  · simp only [List.mem_cons, List.not_mem_nil, or_false] at h
    rcases h with rfl | rfl | rfl
    · exact self_ok (by decide)
    · exact self_ok (by decide)
    · obtain ⟨a, b, d⟩ := seg_fold seg_890 (890, ⟨#[32, 953]⟩) (by simp)
      refine ⟨?_, fun _ => a, d, by decide, fun e => absurd e (by decide), fun e => absurd e (by decide), fun c hc => ?_⟩
      · rw [b]
        decide +kernel
      · have hc' : c = 32 ∨ c = 953 := by simpa using hc
        rcases hc' with rfl | rfl
        · obtain ⟨x, y, z⟩ := sign_ok (c := 32) (by decide)
          exact ⟨x, y, fun e => absurd e (by decide), z⟩
        · obtain ⟨x, y, z⟩ := sign_ok (c := 953) (by decide)
          exact ⟨x, y, fun e => absurd e (by decide), z⟩
  · obtain ⟨c, hc, rfl⟩ := List.mem_map.mp h
    have z := List.all_eq_true.mp noise_b1 c hc
    simp only [Bool.and_eq_true, decide_eq_true_eq, bne_iff_ne] at z
    obtain ⟨⟨⟨z1, z2⟩, z3⟩, z4⟩ := z
    refine ⟨?_, fun e => ?_, z2, (show 0 ≤ 10 by decide), fun e => ?_, fun e => ?_, fun k hk => nomatch hk⟩
    · show isB1 c.toNat = _
      rw [z1]
      rfl
    · rw [z1] at e; cases e
    · exact absurd e (by show c.toNat ≠ 10; omega)
    · exact absurd e (by show c.toNat ≠ 32; omega)
  · obtain ⟨b, hb, hp⟩ := List.mem_flatMap.mp h
    obtain ⟨k, hk, rfl⟩ := List.mem_map.mp hp
    have hk := List.mem_range.mp hk
    obtain ⟨x, y, z⟩ := base_ok hb hk
    have hb65 : 65 ≤ b := (by decide : ∀ b ∈ basesL, 65 ≤ b) b hb
    refine ⟨by show isB1 (b + (k : Int)).toNat = (one (97 + k) == _); rw [y, one_ne], fun _ => x, z, (show 1 ≤ 10 by decide), fun e => ?_, fun e => ?_, fun c hc => ?_⟩
    · exact absurd e (by show (b + (k : Int)).toNat ≠ 10; omega)
    · exact absurd e (by show (b + (k : Int)).toNat ≠ 32; omega)
    · obtain rfl : c = 97 + k := by simpa using hc
      obtain ⟨l1, l2, l3⟩ := letter_ok hk
      exact ⟨l1, l2, fun e => absurd e (by omega), l3⟩
  · obtain ⟨y, hy, rfl⟩ := List.mem_map.mp h
    obtain ⟨a, b, d⟩ := seg_fold seg_words (y.1.toNat, y.2) (List.mem_map.mpr ⟨y, hy, rfl⟩)
    have z := List.all_eq_true.mp words_chk y hy
    simp only [Bool.and_eq_true, decide_eq_true_eq, bne_iff_ne, List.all_eq_true] at z
    obtain ⟨⟨⟨⟨z1, z2⟩, z3⟩, z4⟩, z5⟩ := z
    refine ⟨by show isB1 y.1.toNat = (y.2 == _); rw [b]; exact (beq_eq_false_iff_ne.mpr z4).symm, fun _ => a, d, z3, fun e => absurd e z1, fun e => absurd e z2, fun c hc => ?_⟩
    obtain ⟨l1, l2⟩ := z5 c hc
    obtain ⟨m1, m2, m3⟩ := los_ok l1
    exact ⟨m1, m2, fun e => absurd e l2, m3⟩
  · obtain ⟨c, hc, rfl⟩ := List.mem_map.mp h
    exact self_ok ((by decide : ∀ c ∈ whiteL, c ∈ signL) c hc)
theorem drawn_ok' (n : Int) : PairOk (drawnC n) := pair_ok (drawn_mem n)
end
end Mine

open PySem PySem.W PyProof.Rows PySem.Calls
set_option Elab.async false
set_option maxRecDepth 100000
set_option maxHeartbeats 400000
set_option linter.unusedVariables false
namespace Mine
noncomputable section
/-- a text's code points -/
noncomputable def cpl (x : Str) : List Nat := x.cps.toList
theorem cpl_inj {x y : Str} (h : cpl x = cpl y) : x = y := Str.ext' (Array.toList_inj.mp h)
theorem cpl_len (x : Str) : (cpl x).length = x.length := Array.length_toList
theorem slice_ix (i : Int) (h : 0 ≤ i) (n : Nat) : Builtin.Str.strSliceIndices (some i) none 1 n = (List.range (n - min i.toNat n)).map (fun k => min i.toNat n + k) := by
  rw [← StrLaws.strSliceIndices_plain (Nat.min_le_right i.toNat n) (Nat.le_refl n)]
  have h1 : ¬ (i < 0) := by omega
  have h2 : ¬ (((min i.toNat n : Nat) : Int) < 0) := by omega
  have h3 : ¬ ((n : Int) < 0) := by omega
  simp only [Builtin.Str.strSliceIndices, h1, h2, h3, if_false, show ((1 : Int) > 0) = True from by simp, if_true]
  have e1 : max (0 : Int) (min i (n : Int)) = max (0 : Int) (min ((min i.toNat n : Nat) : Int) (n : Int)) := by omega
  have e2 : (n : Int) = max (0 : Int) (min (n : Int) (n : Int)) := by omega
  rw [e1]
  conv => lhs; arg 2; rw [e2]
theorem cpl_slice {x : Str} {i : Int} (h : 0 ≤ i) : cpl (Txt.slice x (some i) none) = (cpl x).drop i.toNat := by
  have hl := cpl_len x
  unfold Txt.slice
  rw [slice_ix i h]
  have hd : (cpl x).drop (min i.toNat x.length) = (cpl x).drop i.toNat := by
    by_cases hi : i.toNat ≤ x.length
    · rw [Nat.min_eq_left hi]
    · rw [Nat.min_eq_right (by omega), List.drop_of_length_le (by omega), List.drop_of_length_le (by omega)]
  split
  · rename_i hc
    simp only [BEq.rfl, Bool.true_and, List.length_map, List.length_range, beq_iff_eq] at hc
    rw [← hd]
    by_cases h0 : x.length = 0
    · have : cpl x = [] := List.eq_nil_of_length_eq_zero (by omega)
      rw [this]; simp
    · have : min i.toNat x.length = 0 := by omega
      rw [this]; rfl
  · rw [← hd]
    show (List.filterMap _ _).toArray.toList = _
    have := StrLaws.picks x.cps.toList (x.length - min i.toNat x.length) (min i.toNat x.length) (by rw [Array.length_toList]; show _ ≤ x.length; omega)
    have e : (fun k : Nat => x.cps.toList[k]?) = (fun k => x.cps[k]?) := by funext k; exact Array.getElem?_toList
    rw [e] at this
    rw [List.toList_toArray, this]
    show ((cpl x).drop _).take _ = _
    exact List.take_of_length_le (by rw [List.length_drop]; omega)
noncomputable def joinC (sep : List Nat) : List (List Nat) → List Nat
  | [] => []
  | [a] => a
  | a :: b :: r => a ++ sep ++ joinC sep (b :: r)
theorem cpl_app (x y : Str) : cpl (x ++ y) = cpl x ++ cpl y := by
  unfold cpl
  rw [Str.cps_append, Array.toList_append]
theorem cpl_sjoin (sep : Str) : ∀ ss : List Str, cpl (Str.join sep ss) = joinC (cpl sep) (ss.map cpl)
  | [] => rfl
  | [a] => rfl
  | a :: b :: r => by
    show cpl (a ++ sep ++ Str.join sep (b :: r)) = cpl a ++ cpl sep ++ joinC (cpl sep) ((b :: r).map cpl)
    rw [cpl_app, cpl_app, cpl_sjoin sep (b :: r)]
theorem cpl_join (sep : Str) (ss : List Str) : cpl (Txt.join sep ss) = joinC (cpl sep) (ss.map cpl) := by
  rw [← cpl_sjoin, ← StrLaws.glued_eq_join]; rfl
theorem joinC_nil : ∀ l : List (List Nat), joinC [] l = l.flatten
  | [] => rfl
  | [a] => by simp [joinC]
  | a :: b :: r => by
    rw [joinC, joinC_nil (b :: r)]
    simp
theorem cpl_join0 (ss : List Str) : cpl (Txt.join "" ss) = (ss.map cpl).flatten := (cpl_join "" ss).trans (joinC_nil _)
theorem cpl_joinN (ss : List Str) : cpl (Txt.join "\n" ss) = joinC [10] (ss.map cpl) := cpl_join "\n" ss
theorem cut_inj {a c X Y : List Nat} (ha : 10 ∉ a) (hc : 10 ∉ c) (h : a ++ 10 :: X = c ++ 10 :: Y) : a = c ∧ X = Y := by
  induction a generalizing c with
  | nil =>
    cases c with
    | nil => exact ⟨rfl, by simpa using h⟩
    | cons k c =>
      simp only [List.nil_append, List.cons_append, List.cons.injEq] at h
      exact absurd (List.mem_cons.mpr (.inl h.1)) hc
  | cons k a ih =>
    cases c with
    | nil =>
      simp only [List.nil_append, List.cons_append, List.cons.injEq] at h
      exact absurd (List.mem_cons.mpr (.inl h.1.symm)) ha
    | cons m c =>
      simp only [List.cons_append, List.cons.injEq] at h
      obtain ⟨e1, e2⟩ := ih (fun q => ha (List.mem_cons_of_mem _ q)) (fun q => hc (List.mem_cons_of_mem _ q)) h.2
      exact ⟨by rw [h.1, e1], e2⟩
theorem joinC_cut {a b : List Nat} {r : List (List Nat)} : joinC [10] (a :: b :: r) = a ++ 10 :: joinC [10] (b :: r) := by
  rw [joinC, List.append_assoc]; rfl
theorem joinC_inj : ∀ (l m : List (List Nat)), l ≠ [] → m ≠ [] → (∀ p ∈ l, 10 ∉ p) → (∀ p ∈ m, 10 ∉ p) → joinC [10] l = joinC [10] m → l = m
  | [], _, h, _, _, _, _ => absurd rfl h
  | _, [], _, h, _, _, _ => absurd rfl h
  | [a], [b], _, _, _, _, e => by
    have e' : a = b := e
    rw [e']
  | [a], b :: c :: r, _, _, ha, _, e => by
    rw [joinC_cut] at e
    have e' : a = b ++ 10 :: joinC [10] (c :: r) := e
    exact absurd (show 10 ∈ a by rw [e']; simp) (ha a List.mem_cons_self)
  | a :: b :: r, [c], _, _, _, hc, e => by
    rw [joinC_cut] at e
    have e' : a ++ 10 :: joinC [10] (b :: r) = c := e
    exact absurd (show 10 ∈ c by rw [← e']; simp) (hc c List.mem_cons_self)
  | a :: b :: r, c :: d :: s, _, _, ha, hc, e => by
    rw [joinC_cut, joinC_cut] at e
    obtain ⟨e1, e2⟩ := cut_inj (ha a List.mem_cons_self) (hc c List.mem_cons_self) e
    rw [e1, joinC_inj (b :: r) (d :: s) (by simp) (by simp) (fun p hp => ha p (List.mem_cons_of_mem _ hp)) (fun p hp => hc p (List.mem_cons_of_mem _ hp)) e2]
theorem split_of_join {parts : List Str} (h : parts ≠ []) (hn : ∀ p ∈ parts, 10 ∉ cpl p) : Txt.split (Txt.join "\n" parts) "\n" = parts := by
  have e := split_join (Txt.join "\n" parts)
  have e2 := congrArg cpl e
  rw [cpl_joinN, cpl_joinN] at e2
  have hs := StrLaws.split_free (Txt.join "\n" parts) 10
  have e3 := joinC_inj _ _ (by simpa using split_ne _) (by simpa using h) (fun p hp => by
    obtain ⟨q, hq, rfl⟩ := List.mem_map.mp hp
    exact hs q hq) (fun p hp => by
    obtain ⟨q, hq, rfl⟩ := List.mem_map.mp hp
    exact hn q hq) e2
  have inj : ∀ (l m : List Str), l.map cpl = m.map cpl → l = m := by
    intro l
    induction l with
    | nil => intro m q; cases m with
      | nil => rfl
      | cons _ _ => cases q
    | cons a l ih => intro m q; cases m with
      | nil => cases q
      | cons b m =>
        rw [List.map_cons, List.map_cons, List.cons.injEq] at q
        rw [cpl_inj q.1, ih m q.2]
  exact inj _ _ e3
/-- a row's margin -/
noncomputable def mgN : List Nat → Nat
  | [] => 0
  | [_] => 0
  | c :: d :: r => if c = 32 then mgN (d :: r) + 1 else 0
theorem mg_lt : ∀ {l : List Nat}, l ≠ [] → mgN l < l.length
  | [], h => absurd rfl h
  | [_], _ => Nat.zero_lt_one
  | c :: d :: r, _ => by
    have := mg_lt (l := d :: r) (by simp)
    rw [mgN]
    split
    · rw [List.length_cons]; omega
    · rw [List.length_cons]; omega
theorem mg_spec : ∀ {l : List Nat}, l ≠ [] → (∀ j < mgN l, l.getD j 0 = 32) ∧ (l.getD (mgN l) 0 ≠ 32 ∨ mgN l + 1 = l.length)
  | [], h => absurd rfl h
  | [_], _ => ⟨fun j hj => absurd hj (Nat.not_lt_zero _), .inr rfl⟩
  | c :: d :: r, _ => by
    obtain ⟨h1, h2⟩ := mg_spec (l := d :: r) (by simp)
    rw [mgN]
    split
    · rename_i hc
      refine ⟨fun j hj => ?_, ?_⟩
      · cases j with
        | zero => exact hc
        | succ j => exact h1 j (by omega)
      · rcases h2 with h2 | h2
        · exact .inl h2
        · exact .inr (by rw [h2]; rfl)
    · rename_i hc
      exact ⟨fun j hj => absurd hj (Nat.not_lt_zero _), .inl hc⟩
theorem mg_drop : ∀ {l : List Nat}, l ≠ [] → mgN (l.drop (mgN l)) = 0
  | [], h => absurd rfl h
  | [_], _ => rfl
  | c :: d :: r, _ => by
    have := mg_drop (l := d :: r) (by simp)
    rw [mgN]
    split
    · rw [List.drop_succ_cons]; exact this
    · rename_i hc
      rw [List.drop_zero, mgN, if_neg hc]
theorem mg_take : ∀ (l : List Nat), l.take (mgN l) = List.replicate (mgN l) 32
  | [] => rfl
  | [_] => rfl
  | c :: d :: r => by
    rw [mgN]
    split
    · rename_i hc
      rw [List.take_succ_cons, List.replicate_succ, mg_take (d :: r), hc]
    · rfl
theorem mg_rep {t : List Nat} (h : t ≠ []) : ∀ s : Nat, mgN (List.replicate s 32 ++ t) = s + mgN t
  | 0 => by simp
  | s + 1 => by
    have ih := mg_rep h s
    rw [List.replicate_succ, List.cons_append]
    cases e : List.replicate s 32 ++ t with
    | nil =>
      have := congrArg List.length e
      rw [List.length_append] at this
      exact absurd (List.eq_nil_of_length_eq_zero (show t.length = 0 by simp at this; rw [this.2]; rfl)) h
    | cons d r =>
      rw [mgN, if_pos rfl, ← e, ih]
      omega
theorem margin_eq {x : Str} (h : x.length ≠ 0) : margin x = (mgN (cpl x) : Int) := by
  have hne : cpl x ≠ [] := fun e => h (by rw [← cpl_len, e]; rfl)
  have hg : ∀ j, x.cps.getD j 0 = (cpl x).getD j 0 := fun j => by
    rw [Array.getD_eq_getD_getElem?, List.getD_eq_getElem?_getD]
    unfold cpl
    rw [Array.getElem?_toList]
  obtain ⟨h1, h2⟩ := mg_spec hne
  have hlt := mg_lt hne
  rw [cpl_len] at hlt h2
  by_cases hb : (cpl x).getD (mgN (cpl x)) 0 = 32
  · have hl : mgN (cpl x) + 1 = x.length := h2.resolve_left fun q => q hb
    rw [margin_all fun j hj => ?_]
    · omega
    · rw [hg]
      by_cases e : j = mgN (cpl x)
      · rw [e]; exact hb
      · exact h1 j (by omega)
  · exact margin_first hlt (fun j hj => by rw [hg]; exact h1 j hj) (by rw [hg]; exact hb)
theorem margin_zero {x : Str} (h : x.length = 0) : margin x = -1 := by
  rw [margin_all fun j hj => by omega]
  omega
theorem margin_pos (x : Str) : 0 ≤ margin x ↔ x.length ≠ 0 := by
  by_cases h : x.length = 0
  · rw [margin_zero h]
    exact ⟨fun q => by omega, fun q => absurd h q⟩
  · rw [margin_eq h]
    exact ⟨fun _ => h, fun _ => Int.natCast_nonneg _⟩
/-- the folding of code points -/
noncomputable def prepC (l : List Nat) : List Nat := (l.filter fun c => !isB1 c).flatMap fun c => cpl (fold c)
theorem cpl_prep (x : Str) : cpl (prep x) = prepC (cpl x) := by
  unfold prep prepL prepC
  rw [cpl_join0, List.map_map, List.flatMap_def]
  rfl
theorem prepC_app (a b : List Nat) : prepC (a ++ b) = prepC a ++ prepC b := by
  unfold prepC
  rw [List.filter_append, List.flatMap_append]
theorem prepC_nl : prepC [10] = [10] := by
  obtain ⟨a, b, _⟩ := sign_ok (c := 10) (by decide)
  unfold prepC
  rw [List.filter_cons_of_pos (by rw [a]; rfl), List.filter_nil, List.flatMap_cons, b]
  rfl
theorem prepC_joinC : ∀ l : List (List Nat), prepC (joinC [10] l) = joinC [10] (l.map prepC)
  | [] => rfl
  | [a] => rfl
  | a :: b :: r => by
    rw [joinC, prepC_app, prepC_app, prepC_nl, prepC_joinC (b :: r)]
    rfl
theorem prepC_self {l : List Nat} (h : ∀ c ∈ l, isB1 c = false ∧ fold c = one c) : prepC l = l := by
  induction l with
  | nil => rfl
  | cons c l ih =>
    obtain ⟨a, b⟩ := h c List.mem_cons_self
    have e := prepC_app [c] l
    rw [ih fun k hk => h k (List.mem_cons_of_mem _ hk)] at e
    have e1 : prepC [c] = [c] := by
      unfold prepC
      rw [List.filter_cons_of_pos (by rw [a]; rfl), List.filter_nil, List.flatMap_cons, b]
      rfl
    rw [e1] at e
    exact e
theorem prep_join (parts : List Str) : prep (Txt.join "\n" parts) = Txt.join "\n" (parts.map prep) := by
  apply cpl_inj
  rw [cpl_prep, cpl_joinN, cpl_joinN, prepC_joinC, List.map_map, List.map_map]
  congr 1
  exact List.map_congr_left fun p _ => (cpl_prep p).symm
theorem ded_join {p0 : Str} {ps : List Str} (hn : ∀ p ∈ p0 :: ps, 10 ∉ cpl p) : dedO (Txt.join "\n" (p0 :: ps)) = if p0.length = 0 then none else some (Txt.join "\n" ((p0 :: ps).map fun p => Txt.slice p (some (margin p0)) none)) := by
  unfold dedO
  rw [split_of_join (by simp) hn]
theorem slice_zero (x : Str) : Txt.slice x (some 0) none = x := cpl_inj ((cpl_slice (Int.le_refl 0)).trans rfl)
/-- nothing is cut off -/
theorem ded_same {p0 : Str} {ps : List Str} (hn : ∀ p ∈ p0 :: ps, 10 ∉ cpl p) (h0 : p0.length ≠ 0) (hm : mgN (cpl p0) = 0) : dedO (Txt.join "\n" (p0 :: ps)) = some (Txt.join "\n" (p0 :: ps)) := by
  rw [ded_join hn, if_neg h0, margin_eq h0, hm]
  congr 2
  conv => rhs; rw [← List.map_id (p0 :: ps)]
  exact List.map_congr_left fun p _ => slice_zero p
end
end Mine

open PySem PySem.W PyProof.Rows PySem.Calls
set_option Elab.async false
set_option maxRecDepth 100000
set_option maxHeartbeats 400000
set_option linter.unusedVariables false
namespace Mine
noncomputable section
noncomputable abbrev Rl (r : List (Nat × Str)) : List Nat := r.map (·.1)
noncomputable abbrev Ml (r : List (Nat × Str)) : List Nat := r.flatMap fun p => cpl p.2
theorem cpl_one (c : Nat) : cpl (one c) = [c] := rfl
theorem cpl_raw (r : List (Nat × Str)) : cpl (rawS r) = Rl r := by
  unfold rawS
  rw [cpl_join0, List.map_map]
  induction r with
  | nil => rfl
  | cons p r ih => rw [List.map_cons, List.flatten_cons, ih]; rfl
theorem cpl_made (r : List (Nat × Str)) : cpl (madeS r) = Ml r := by
  unfold madeS
  rw [cpl_join0, List.map_map]
  show (List.map (cpl ∘ fun p => p.2) r).flatten = r.flatMap fun p => cpl p.2
  rw [List.flatMap_def]
  rfl
theorem prepC_pair {p : Nat × Str} (h : PairOk p) : prepC [p.1] = cpl p.2 := by
  unfold prepC
  cases hb : isB1 p.1 with
  | true =>
    have e : p.2 = ("" : Str) := by
      have := h.b1
      rw [hb] at this
      exact beq_iff_eq.mp this.symm
    rw [List.filter_cons_of_neg (by rw [hb]; decide), e]
    rfl
  | false =>
    rw [List.filter_cons_of_pos (by rw [hb]; rfl), List.filter_nil, List.flatMap_cons, h.fold hb]
    simp
theorem prepC_R {r : List (Nat × Str)} (h : ∀ p ∈ r, PairOk p) : prepC (Rl r) = Ml r := by
  induction r with
  | nil => rfl
  | cons p r ih =>
    have e := prepC_app [p.1] (Rl r)
    rw [prepC_pair (h p List.mem_cons_self), ih fun q hq => h q (List.mem_cons_of_mem _ hq)] at e
    exact e
theorem made_self {r : List (Nat × Str)} (h : ∀ p ∈ r, PairOk p) : ∀ c ∈ Ml r, isB1 c = false ∧ fold c = one c := fun c hc => by
  obtain ⟨p, hp, hc⟩ := List.mem_flatMap.mp hc
  obtain ⟨a, b, _⟩ := (h p hp).cs c hc
  exact ⟨a, b⟩
/-- rows of good pairs, no line feed -/
structure RowsOk (rows : List (List (Nat × Str))) : Prop where
  ok : ∀ r ∈ rows, ∀ p ∈ r, PairOk p
  nn : ∀ r ∈ rows, ∀ p ∈ r, p.1 ≠ 10
section
variable {rows : List (List (Nat × Str))} {r r0 : List (Nat × Str)} {rs : List (List (Nat × Str))}
theorem RowsOk.freeR (z : RowsOk rows) (h : r ∈ rows) : 10 ∉ Rl r := fun q => by
  obtain ⟨p, hp, e⟩ := List.mem_map.mp q
  exact z.nn r h p hp e
theorem RowsOk.freeM (z : RowsOk rows) (h : r ∈ rows) : 10 ∉ Ml r := fun q => by
  obtain ⟨p, hp, hc⟩ := List.mem_flatMap.mp q
  exact z.nn r h p hp (((z.ok r h p hp).cs 10 hc).2.2.1 rfl)
theorem prep_raw (z : RowsOk rows) (h : r ∈ rows) : prep (rawS r) = madeS r := cpl_inj (by rw [cpl_prep, cpl_raw, cpl_made, prepC_R (z.ok r h)])
theorem prep_slice (z : RowsOk rows) (h : r ∈ rows) {i : Int} (hi : 0 ≤ i) : prep (Txt.slice (madeS r) (some i) none) = Txt.slice (madeS r) (some i) none := cpl_inj (by
  rw [cpl_prep, cpl_slice hi, cpl_made]
  exact prepC_self fun c hc => made_self (z.ok r h) c (List.mem_of_mem_drop hc))
theorem prep_made (z : RowsOk rows) (h : r ∈ rows) : prep (madeS r) = madeS r := cpl_inj (by
  rw [cpl_prep, cpl_made]
  exact prepC_self (made_self (z.ok r h)))
theorem free_slice (z : RowsOk rows) (h : r ∈ rows) {i : Int} (hi : 0 ≤ i) : 10 ∉ cpl (Txt.slice (madeS r) (some i) none) := fun q => by
  rw [cpl_slice hi, cpl_made] at q
  exact z.freeM h (List.mem_of_mem_drop q)
theorem prep_rows {f g : List (Nat × Str) → Str} (h : ∀ r ∈ rows, prep (f r) = g r) : prep (Txt.join "\n" (rows.map f)) = Txt.join "\n" (rows.map g) := by
  rw [prep_join, List.map_map]
  congr 1
  exact List.map_congr_left h
theorem ded_rows {f : List (Nat × Str) → Str} (e : rows = r0 :: rs) (hn : ∀ r ∈ rows, 10 ∉ cpl (f r)) : dedO (Txt.join "\n" (rows.map f)) = if (f r0).length = 0 then none else some (Txt.join "\n" (rows.map fun r => Txt.slice (f r) (some (margin (f r0))) none)) := by
  subst e
  rw [List.map_cons, ded_join (fun p hp => by
    rw [← List.map_cons] at hp
    obtain ⟨r, hr, rfl⟩ := List.mem_map.mp hp
    exact hn r hr), ← List.map_cons, List.map_map]
  rfl
theorem ded_rows_same {f : List (Nat × Str) → Str} (e : rows = r0 :: rs) (hn : ∀ r ∈ rows, 10 ∉ cpl (f r)) (h0 : cpl (f r0) ≠ []) (hm : mgN (cpl (f r0)) = 0) : dedO (Txt.join "\n" (rows.map f)) = some (Txt.join "\n" (rows.map f)) := by
  subst e
  rw [List.map_cons]
  refine ded_same (fun p hp => ?_) (fun q => h0 (List.eq_nil_of_length_eq_zero (by rw [cpl_len]; exact q))) hm
  rw [← List.map_cons] at hp
  obtain ⟨r, hr, rfl⟩ := List.mem_map.mp hp
  exact hn r hr
theorem upto_nat (n k : Nat) : upto n (k : Int) = k := by
  unfold upto
  rw [if_neg (by omega)]
  exact Int.toNat_natCast k
theorem Ml_split (r : List (Nat × Str)) (k : Nat) : Ml r = Ml (r.take k) ++ Ml (r.drop k) := by
  rw [← List.flatMap_append, List.take_append_drop]
theorem Ml_drop (r : List (Nat × Str)) (k : Nat) : (Ml r).drop (Ml (r.take k)).length = Ml (r.drop k) := by
  rw [Ml_split r k]
  exact List.drop_left
theorem steps_law (e : rows = r0 :: rs) (z : RowsOk rows) : ∀ q ∈ stepsL rows, ∀ x, q.1 = some x → dedO x = q.2.1 ∧ some (prep x) = q.2.2 := by
  have h0 : r0 ∈ rows := e ▸ List.mem_cons_self
  have hd0 : rows.headD [] = r0 := by rw [e]; rfl
  have hs : sizeI rows = margin (rawS r0) := by unfold sizeI; rw [hd0]
  have hg : grownI rows = margin (madeS r0) := by unfold grownI; rw [hd0]
  have lR : (rawS r0).length = (Rl r0).length := by rw [← cpl_len, cpl_raw]
  have lM : (madeS r0).length = (Ml r0).length := by rw [← cpl_len, cpl_made]
  -- the first and second rows of the table
  have c1 : dedO (firstS rows) = cutO rows := by
    unfold firstS cutO cutS
    rw [ded_rows (f := rawS) e (fun r hr => by rw [cpl_raw]; exact z.freeR hr), hs]
    by_cases hz : (rawS r0).length = 0
    · rw [if_pos hz, if_neg (fun q => (margin_pos _).mp q hz)]
    · rw [if_neg hz, if_pos ((margin_pos _).mpr hz)]
  have c2 : dedO (foldS rows) = foldCutO rows := by
    unfold foldS foldCutO foldCutS
    rw [ded_rows (f := madeS) e (fun r hr => by rw [cpl_made]; exact z.freeM hr), hg]
    by_cases hz : (madeS r0).length = 0
    · rw [if_pos hz, if_neg (fun q => (margin_pos _).mp q hz)]
    · rw [if_neg hz, if_pos ((margin_pos _).mpr hz)]
  have p1 : prep (firstS rows) = foldS rows := prep_rows fun r hr => prep_raw z hr
  have p2 : prep (foldS rows) = foldS rows := prep_rows fun r hr => prep_made z hr
  -- a told margin
  have cutC : 0 ≤ sizeI rows → dedO (cutS rows) = some (cutS rows) ∧ prep (cutS rows) = cutFoldS rows ∧ prep (cutFoldS rows) = cutFoldS rows ∧ dedO (cutFoldS rows) = lastO rows ∧
      (sizeI rows < ((madeS r0).length : Int) → dedO (lastS rows) = some (lastS rows) ∧ prep (lastS rows) = lastS rows) := by
    intro hpos
    have hne : Rl r0 ≠ [] := fun q => by
      have := (margin_pos (rawS r0)).mp (hs ▸ hpos)
      rw [lR, q] at this
      exact this rfl
    have hlen : (rawS r0).length ≠ 0 := (margin_pos (rawS r0)).mp (hs ▸ hpos)
    have hN : sizeI rows = ((mgN (Rl r0) : Nat) : Int) := by rw [hs, margin_eq hlen, cpl_raw]
    generalize hNd : mgN (Rl r0) = N at hN
    have hNlt : N < (Rl r0).length := hNd ▸ mg_lt hne
    have hlost : ∀ r, lostN rows r = (Ml (r.take N)).length := fun r => by
      unfold lostN
      rw [hN, upto_nat, ← cpl_len, cpl_made]
    have hcut : ∀ r, cpl (Txt.slice (rawS r) (some (sizeI rows)) none) = Rl (r.drop N) := fun r => by
      rw [cpl_slice hpos, cpl_raw, hN, Int.toNat_natCast]
      show List.drop N (List.map _ r) = List.map _ (List.drop N r)
      rw [List.map_drop]
    have hcf : ∀ r, cpl (Txt.slice (madeS r) (some (lostN rows r : Int)) none) = Ml (r.drop N) := fun r => by
      rw [cpl_slice (Int.natCast_nonneg _), cpl_made, Int.toNat_natCast, hlost, Ml_drop]
    have dOk : ∀ r ∈ rows, ∀ p ∈ r.drop N, PairOk p := fun r hr p hp => z.ok r hr p (List.mem_of_mem_drop hp)
    have hrep : Ml (r0.take N) = List.replicate N 32 := by
      have e1 : Rl (r0.take N) = List.replicate N 32 := by
        show (r0.take N).map _ = _
        rw [List.map_take, ← hNd]
        exact mg_take _
      have e2 : ∀ p ∈ r0.take N, cpl p.2 = [p.1] := fun p hp => by
        have : p.1 ∈ Rl (r0.take N) := List.mem_map.mpr ⟨p, hp, rfl⟩
        rw [e1] at this
        have e3 := List.eq_of_mem_replicate this
        rw [(z.ok r0 h0 p (List.mem_of_mem_take hp)).blank e3, e3]
        rfl
      rw [← e1]
      generalize r0.take N = l at e2
      induction l with
      | nil => rfl
      | cons p l ih =>
        show cpl p.2 ++ Ml l = p.1 :: Rl l
        rw [e2 p List.mem_cons_self, ih fun q hq => e2 q (List.mem_cons_of_mem _ hq)]
        rfl
    have hl0 : lostN rows r0 = N := by rw [hlost, hrep, List.length_replicate]
    have hM0 : Ml r0 = List.replicate N 32 ++ Ml (r0.drop N) := by rw [← hrep]; exact Ml_split r0 N
    refine ⟨?_, ?_, ?_, ?_, fun hgt => ?_⟩
    · unfold cutS
      refine ded_rows_same e (fun r hr => ?_) ?_ ?_
      · rw [hcut]
        exact fun q => z.freeR hr (by
          obtain ⟨p, hp, e⟩ := List.mem_map.mp q
          exact List.mem_map.mpr ⟨p, List.mem_of_mem_drop hp, e⟩)
      · rw [hcut]
        intro q
        have := congrArg List.length q
        rw [List.length_map, List.length_drop] at this
        rw [List.length_map] at hNlt
        simp at this
        omega
      · rw [hcut]
        show mgN ((r0.drop N).map _) = 0
        rw [List.map_drop, ← hNd]
        exact mg_drop hne
    · unfold cutS cutFoldS
      exact prep_rows fun r hr => cpl_inj (by rw [cpl_prep, hcut, hcf, prepC_R (dOk r hr)])
    · unfold cutFoldS
      exact prep_rows fun r hr => prep_slice z hr (Int.natCast_nonneg _)
    · unfold cutFoldS lastO
      rw [ded_rows e (fun r hr => free_slice z hr (Int.natCast_nonneg _)), if_pos hpos, hd0]
      have hlh : (Txt.slice (madeS r0) (some (lostN rows r0 : Int)) none).length = (Ml (r0.drop N)).length := by rw [← cpl_len, hcf]
      have hM0l := congrArg List.length hM0
      rw [List.length_append, List.length_replicate] at hM0l
      by_cases hz : (Txt.slice (madeS r0) (some (lostN rows r0 : Int)) none).length = 0
      · rw [if_pos hz, if_neg (by omega)]
      · rw [if_neg hz, if_pos (by omega)]
        have ht : Ml (r0.drop N) ≠ [] := fun q => hz (by rw [hlh, q]; rfl)
        have hgN : grownI rows = ((N + mgN (Ml (r0.drop N)) : Nat) : Int) := by
          rw [hg, margin_eq (by omega), cpl_made, hM0, mg_rep ht]
        rw [margin_eq hz, hcf]
        unfold lastS
        refine congrArg some (congrArg (Txt.join "\n") (List.map_congr_left fun r hr => cpl_inj ?_))
        rw [cpl_slice (Int.natCast_nonneg _), hcf, cpl_slice (by omega), cpl_made, Int.toNat_natCast, ← Ml_drop r N, List.drop_drop]
        have := hlost r
        exact congrArg (fun k => List.drop k (Ml r)) (by omega)
    · have hM0l := congrArg List.length hM0
      rw [List.length_append, List.length_replicate] at hM0l
      have ht : Ml (r0.drop N) ≠ [] := fun q => by
        rw [q, List.length_nil] at hM0l
        omega
      have hgN : grownI rows = ((N + mgN (Ml (r0.drop N)) : Nat) : Int) := by
        rw [hg, margin_eq (by omega), cpl_made, hM0, mg_rep ht]
      have hla : ∀ r, 0 ≤ (lostN rows r : Int) + grownI rows - sizeI rows := fun r => by omega
      unfold lastS
      refine ⟨ded_rows_same e (fun r hr => free_slice z hr (hla r)) ?_ ?_, prep_rows fun r hr => prep_slice z hr (hla r)⟩
      all_goals
        rw [cpl_slice (hla r0), cpl_made, hl0, show ((N : Int) + grownI rows - sizeI rows).toNat = (List.replicate N 32 : List Nat).length + mgN (Ml (r0.drop N)) by rw [List.length_replicate]; omega, hM0, ← List.drop_drop, List.drop_left]
      · intro q
        have := congrArg List.length q
        have h2 := mg_lt ht
        rw [List.length_drop, List.length_nil] at this
        omega
      · exact mg_drop ht
  have foldC : 0 ≤ grownI rows → dedO (foldCutS rows) = some (foldCutS rows) ∧ prep (foldCutS rows) = foldCutS rows := by
    intro hpos
    have hlen : (madeS r0).length ≠ 0 := (margin_pos (madeS r0)).mp (hg ▸ hpos)
    have hne : Ml r0 ≠ [] := fun q => hlen (by rw [lM, q]; rfl)
    have hN : grownI rows = ((mgN (Ml r0) : Nat) : Int) := by rw [hg, margin_eq hlen, cpl_made]
    unfold foldCutS
    refine ⟨ded_rows_same e (fun r hr => free_slice z hr hpos) ?_ ?_, prep_rows fun r hr => prep_slice z hr hpos⟩
    all_goals rw [cpl_slice hpos, cpl_made, hN, Int.toNat_natCast]
    · intro q
      have := congrArg List.length q
      have h2 := mg_lt hne
      rw [List.length_drop, List.length_nil] at this
      omega
    · exact mg_drop hne
  intro q hq x hx
  simp only [stepsL, List.mem_cons, List.not_mem_nil, or_false] at hq
  rcases hq with rfl | rfl | rfl | rfl | rfl | rfl
  · cases hx
    exact ⟨c1, by rw [p1]⟩
  · cases hx
    exact ⟨c2, by rw [p2]⟩
  · dsimp only at hx ⊢
    unfold cutO at hx ⊢
    unfold cutFoldO
    split at hx
    · rename_i hpos
      cases hx
      rw [if_pos hpos, if_pos hpos]
      obtain ⟨a, b, _⟩ := cutC hpos
      exact ⟨a, by rw [b]⟩
    · cases hx
  · dsimp only at hx ⊢
    unfold cutFoldO at hx ⊢
    split at hx
    · rename_i hpos
      cases hx
      rw [if_pos hpos]
      obtain ⟨_, _, c, d, _⟩ := cutC hpos
      exact ⟨d, by rw [c]⟩
    · cases hx
  · dsimp only at hx ⊢
    unfold foldCutO at hx ⊢
    split at hx
    · rename_i hpos
      cases hx
      rw [if_pos hpos]
      obtain ⟨a, b⟩ := foldC hpos
      exact ⟨a, by rw [b]⟩
    · cases hx
  · dsimp only at hx ⊢
    unfold lastO at hx ⊢
    rw [hd0] at hx ⊢
    split at hx
    · rename_i hpos
      split at hx
      · rename_i hgt
        cases hx
        rw [if_pos hpos, if_pos hgt]
        obtain ⟨_, _, _, _, f⟩ := cutC hpos
        obtain ⟨a, b⟩ := f hgt
        exact ⟨a, by rw [b]⟩
      · cases hx
    · cases hx
end
end
end Mine

open PySem PySem.W PyProof.Rows PySem.Calls
set_option Elab.async false
set_option maxRecDepth 100000
set_option maxHeartbeats 400000
set_option linter.unusedVariables false
namespace Mine
noncomputable section
theorem rowsGo_ne : ∀ (ds : List (Nat × Str)) (ini : List (List (Nat × Str))) (last : List (Nat × Str)), rowsGo ds ini last ≠ []
  | [], ini, last => by rw [rowsGo]; simp
  | p :: ds, ini, last => by
    rw [rowsGo]
    split
    · exact rowsGo_ne ds _ _
    · exact rowsGo_ne ds _ _
theorem rowsGo_len : ∀ (ds : List (Nat × Str)) (ini : List (List (Nat × Str))) (last : List (Nat × Str)), (rowsGo ds ini last).length ≤ ini.length + 1 + ds.length
  | [], ini, last => by rw [rowsGo, List.length_append]; exact Nat.le_refl _
  | p :: ds, ini, last => by
    rw [rowsGo, List.length_cons]
    split
    · have := rowsGo_len ds (ini ++ [last]) []
      rw [List.length_append, List.length_singleton] at this
      omega
    · have := rowsGo_len ds ini (last ++ [p])
      omega
theorem rowsGo_mem {P : Nat × Str → Prop} {n : Nat} : ∀ (ds : List (Nat × Str)) (ini : List (List (Nat × Str))) (last : List (Nat × Str)), (∀ r ∈ ini, (∀ p ∈ r, P p) ∧ r.length ≤ n) → (∀ p ∈ last, P p) → (∀ p ∈ ds, p.1 ≠ 10 → P p) → last.length + ds.length ≤ n → ∀ r ∈ rowsGo ds ini last, (∀ p ∈ r, P p) ∧ r.length ≤ n
  | [], ini, last, h1, h2, _, h4, r, hr => by
    rw [rowsGo] at hr
    rcases List.mem_append.mp hr with hr | hr
    · exact h1 r hr
    · rw [List.mem_singleton.mp hr]
      exact ⟨h2, by omega⟩
  | p :: ds, ini, last, h1, h2, h3, h4, r, hr => by
    rw [rowsGo] at hr
    rw [List.length_cons] at h4
    split at hr
    · refine rowsGo_mem ds (ini ++ [last]) [] (fun r hr => ?_) (fun p hp => nomatch hp) (fun q hq => h3 q (List.mem_cons_of_mem _ hq)) (by rw [List.length_nil]; omega) r hr
      rcases List.mem_append.mp hr with hr | hr
      · exact h1 r hr
      · rw [List.mem_singleton.mp hr]
        exact ⟨h2, by omega⟩
    · rename_i hp
      refine rowsGo_mem ds ini (last ++ [p]) h1 (fun q hq => ?_) (fun q hq => h3 q (List.mem_cons_of_mem _ hq)) (by rw [List.length_append, List.length_singleton]; omega) r hr
      rcases List.mem_append.mp hq with hq | hq
      · exact h2 q hq
      · rw [List.mem_singleton.mp hq]
        exact h3 p List.mem_cons_self hp
theorem mem_slice {x : Str} {l u : Option Int} {c : Nat} (h : c ∈ cpl (Txt.slice x l u)) : c ∈ cpl x := by
  unfold Txt.slice at h
  split at h
  · exact h
  · have h' : c ∈ List.filterMap (fun k => x.cps[k]?) (Builtin.Str.strSliceIndices l u 1 x.length) := by
      have := h
      unfold cpl at this
      rwa [List.toList_toArray] at this
    obtain ⟨k, _, hk⟩ := List.mem_filterMap.mp h'
    have hk' : x.cps.toList[k]? = some c := by rw [Array.getElem?_toList]; exact hk
    exact List.mem_of_getElem? hk'
theorem mem_joinC {c : Nat} : ∀ {l : List (List Nat)}, c ∈ joinC [10] l → c = 10 ∨ ∃ a ∈ l, c ∈ a
  | [], h => nomatch h
  | [a], h => .inr ⟨a, List.mem_cons_self, h⟩
  | a :: b :: r, h => by
    rw [joinC_cut] at h
    rcases List.mem_append.mp h with h | h
    · exact .inr ⟨a, List.mem_cons_self, h⟩
    · rcases List.mem_cons.mp h with h | h
      · exact .inl h
      · exact (mem_joinC h).imp id fun ⟨x, hx, hc⟩ => ⟨x, List.mem_cons_of_mem _ hx, hc⟩
theorem str_join {rows : List (List (Nat × Str))} {f : List (Nat × Str) → Str} (z : RowsB rows) (h : ∀ r ∈ rows, (f r).length ≤ 1000 ∧ ∀ c ∈ cpl (f r), c < 1114112) : (Txt.join "\n" (rows.map f)).length ≤ 200000 ∧ PyData.strOk (Txt.join "\n" (rows.map f)) = true := by
  constructor
  · rw [join_len, nl_len, List.map_map, List.length_map]
    have h1 := sum_le (l := rows) (f := (fun x => Str.length x) ∘ f) (B := 1000) (fun r hr => (h r hr).1)
    have h2 := z.len
    omega
  · unfold PyData.strOk
    rw [Array.all_eq_true_iff_forall_mem]
    intro c hc
    rw [decide_eq_true_eq]
    have hc' : c ∈ cpl (Txt.join "\n" (rows.map f)) := Array.mem_toList_iff.mpr hc
    rw [cpl_joinN] at hc'
    rcases mem_joinC hc' with rfl | ⟨a, ha, hca⟩
    · decide
    · rw [List.map_map] at ha
      obtain ⟨r, hr, rfl⟩ := List.mem_map.mp ha
      exact (h r hr).2 c hca
theorem steps_str {rows : List (List (Nat × Str))} (z : RowsB rows) (k : RowsOk rows) : ∀ q ∈ stepsL rows, ∀ x, (q.1 = some x ∨ q.2.1 = some x ∨ q.2.2 = some x) → x.length ≤ 200000 ∧ PyData.strOk x = true := by
  have lR : ∀ r ∈ rows, (rawS r).length ≤ 1000 := fun r hr => by rw [rawS_len]; have := z.row r hr; omega
  have cR : ∀ r ∈ rows, ∀ c ∈ cpl (rawS r), c < 1114112 := fun r hr c hc => by
    rw [cpl_raw] at hc
    obtain ⟨p, hp, rfl⟩ := List.mem_map.mp hc
    exact (k.ok r hr p hp).lt
  have cM : ∀ r ∈ rows, ∀ c ∈ cpl (madeS r), c < 1114112 := fun r hr c hc => by
    rw [cpl_made] at hc
    obtain ⟨p, hp, hc⟩ := List.mem_flatMap.mp hc
    exact ((k.ok r hr p hp).cs c hc).2.2.2
  have s1 := str_join z (f := rawS) fun r hr => ⟨lR r hr, cR r hr⟩
  have s2 := str_join z (f := madeS) fun r hr => ⟨z.made hr, cM r hr⟩
  have sR : ∀ i : List (Nat × Str) → Int, _ := fun i => str_join z (f := fun r => Txt.slice (rawS r) (some (i r)) none) fun r hr => ⟨Nat.le_trans (Txt.slice_le _ _ _) (lR r hr), fun c hc => cR r hr c (mem_slice hc)⟩
  have sM : ∀ i : List (Nat × Str) → Int, _ := fun i => str_join z (f := fun r => Txt.slice (madeS r) (some (i r)) none) fun r hr => ⟨Nat.le_trans (Txt.slice_le _ _ _) (z.made hr), fun c hc => cM r hr c (mem_slice hc)⟩
  have o1 : ∀ x, cutO rows = some x → x.length ≤ 200000 ∧ PyData.strOk x = true := fun x h => by
    unfold cutO at h
    split at h
    · cases h; exact sR _
    · cases h
  have o2 : ∀ x, cutFoldO rows = some x → x.length ≤ 200000 ∧ PyData.strOk x = true := fun x h => by
    unfold cutFoldO at h
    split at h
    · cases h; exact sM _
    · cases h
  have o3 : ∀ x, lastO rows = some x → x.length ≤ 200000 ∧ PyData.strOk x = true := fun x h => by
    unfold lastO at h
    split at h
    · split at h
      · cases h; exact sM _
      · cases h
    · cases h
  have o4 : ∀ x, foldCutO rows = some x → x.length ≤ 200000 ∧ PyData.strOk x = true := fun x h => by
    unfold foldCutO at h
    split at h
    · cases h; exact sM _
    · cases h
  have o5 : ∀ x, some (firstS rows) = some x → x.length ≤ 200000 ∧ PyData.strOk x = true := fun x h => by cases h; exact s1
  have o6 : ∀ x, some (foldS rows) = some x → x.length ≤ 200000 ∧ PyData.strOk x = true := fun x h => by cases h; exact s2
  intro q hq x hx
  simp only [stepsL, List.mem_cons, List.not_mem_nil, or_false] at hq
  rcases hq with rfl | rfl | rfl | rfl | rfl | rfl
  · exact hx.elim (o5 x) fun hx => hx.elim (o1 x) (o6 x)
  · exact hx.elim (o6 x) fun hx => hx.elim (o4 x) (o6 x)
  · exact hx.elim (o1 x) fun hx => hx.elim (o1 x) (o2 x)
  · exact hx.elim (o2 x) fun hx => hx.elim (o3 x) (o2 x)
  · exact hx.elim (o4 x) fun hx => hx.elim (o4 x) (o4 x)
  · exact hx.elim (o3 x) fun hx => hx.elim (o3 x) (o3 x)
theorem lawF (ns : List Int) (hn : ns.length ≤ 63) : LawF ((scriptOf ns).map drawnC) := by
  have hlen : ((scriptOf ns).map drawnC).length ≤ 17 := by
    rw [List.length_map]
    unfold scriptOf
    split
    · exact Nat.le_refl 17
    · rw [List.length_take]; omega
  have hok : ∀ p ∈ (scriptOf ns).map drawnC, PairOk p := fun p hp => by
    obtain ⟨n, _, rfl⟩ := List.mem_map.mp hp
    exact drawn_ok' n
  generalize (scriptOf ns).map drawnC = ds at hlen hok
  have hm := rowsGo_mem (P := fun p => PairOk p ∧ p.1 ≠ 10) (n := 17) ds [] [] (fun r hr => nomatch hr) (fun p hp => nomatch hp) (fun p hp h => ⟨hok p hp, h⟩) (by rw [List.length_nil]; omega)
  have hl := rowsGo_len ds [] []
  rw [List.length_nil] at hl
  obtain ⟨r0, rs, er⟩ : ∃ r0 rs, rowsOf ds = r0 :: rs := by
    cases e : rowsOf ds with
    | nil => exact absurd e (rowsGo_ne ds [] [])
    | cons a b => exact ⟨a, b, rfl⟩
  have zb : RowsB (rowsOf ds) := ⟨by show (rowsGo ds [] []).length ≤ 100; omega, fun r hr => by have := (hm r hr).2; omega, fun r hr p hp => ((hm r hr).1 p hp).1.len⟩
  have zo : RowsOk (rowsOf ds) := ⟨fun r hr p hp => ((hm r hr).1 p hp).1, fun r hr p hp => ((hm r hr).1 p hp).2⟩
  exact ⟨hlen, fun p hp => (hok p hp).b1, ⟨r0, rs, er, er ▸ zb⟩, steps_law er zo, steps_str zb zo⟩
theorem law_holds : PySem.Challenge.rw_rw0067_01.Holds := holds_of_walk (walk_of lawF)
end
end Mine

theorem PySem.Challenge.cw_rw0067_01_holds : PySem.Challenge.rw_rw0067_01.Holds := by
  exact Mine.law_holds
