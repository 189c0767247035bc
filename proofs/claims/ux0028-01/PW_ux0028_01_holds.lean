import PyProof.Rows.All
import Wide.All
import OpenK.AllK
import Wide.FinOn
import KE.KIntText
import PySem.Challenge.RW_ux0028_01
set_option Elab.async false
set_option maxRecDepth 100000
set_option linter.unusedVariables false
local macro_rules | `(tactic| walk_at $s:str) => `(tactic| k_extra $(Lean.Syntax.mkStrLit ("my " ++ s.getString)))
noncomputable section
namespace Mine
open PySem PySem.W PyProof.Rows PySem.Spec PySem.Calls PyProof.V
section
variable {α β : Type} {p : Program} {w : World} {b : List Stmt} {env : Env} {q : Pos}
/-- the run of a tree at the top, from state s to state s', by n steps, whatever comes behind -/
noncomputable def Goes (p : Program) (w : World) (b : List Stmt) (env : Env) (q : Pos) (n : Nat) (s : Shared) (pos : Pos) (x : Sem α) (s' : Shared) (pos' : Pos) (a : α) : Prop :=
  ∀ (K : α → Sem Fin) (H : Value → Sem Fin) (gd : Bool → Bool) (lv : List Value → List Value) (N : Nat) (r : Shared),
    topRun treeTable p w 11 (some (.ref 6)) N s' ⟨K a, .body b env, pos', [topFrame q]⟩ = some r →
    topRun treeTable p w 11 (some (.ref 6)) (n + N) s ⟨x.wrap K H gd lv, .body b env, pos, [topFrame q]⟩ = some r
theorem Goes.pure' {s : Shared} {pos : Pos} {a : α} : Goes p w b env q 0 s pos (pure a : Sem α) s pos a := by
  intro K H gd lv N r h
  rw [Nat.zero_add]
  exact h
theorem Goes.bind' {n1 n2 : Nat} {s s1 s2 : Shared} {p0 p1 p2 : Pos} {x : Sem α} {a : α} {f : α → Sem β} {c : β} (h1 : Goes p w b env q n1 s p0 x s1 p1 a) (h2 : Goes p w b env q n2 s1 p1 (f a) s2 p2 c) :
    Goes p w b env q (n1 + n2) s p0 (x >>= f) s2 p2 c := by
  intro K H gd lv N r h
  rw [Nat.add_assoc, Sem.bind_eq_wrap', Sem.wrap_wrap]
  exact h1 _ _ _ _ _ _ (h2 K H gd lv N r h)
theorem Goes.keep' {n : Nat} {s s1 : Shared} {p0 p1 : Pos} {x : Sem α} {a : α} {vs : List Value} (h1 : Goes p w b env q n s p0 x s1 p1 a) : Goes p w b env q n s p0 (x.keep vs) s1 p1 a := by
  intro K H gd lv N r h
  rw [Sem.keep_eq_wrap, Sem.wrap_wrap]
  exact h1 _ _ _ _ _ _ h
theorem Goes.holding' {n : Nat} {s s1 : Shared} {p0 p1 : Pos} {x : Sem α} {a : α} {vs : List Value} (h1 : Goes p w b env q n s p0 x s1 p1 a) : Goes p w b env q n s p0 (holding vs x) s1 p1 a := by
  unfold holding
  split
  · exact h1
  · exact h1.keep'
theorem Goes.onRaise' {n : Nat} {s s1 : Shared} {p0 p1 : Pos} {x : Sem α} {a : α} {f : Value → Sem Unit} (h1 : Goes p w b env q n s p0 x s1 p1 a) : Goes p w b env q n s p0 (x.onRaise f) s1 p1 a := by
  intro K H gd lv N r h
  rw [Sem.onRaise_eq_wrap, Sem.wrap_wrap]
  exact h1 _ _ _ _ _ _ h
theorem Goes.cast {n n' : Nat} {s s1 : Shared} {p0 p1 : Pos} {x : Sem α} {a : α} (h1 : Goes p w b env q n s p0 x s1 p1 a) (e : n = n') : Goes p w b env q n' s p0 x s1 p1 a := e ▸ h1
/-! ## the steps -/
theorem Goes.rule' {t : String} {s : Shared} {pos : Pos} : Goes p w b env q 1 s pos (rule t) s pos () := by
  intro K H gd lv N r h
  rw [Nat.add_comm]
  exact h
theorem Goes.at' {t : Pos} {s : Shared} {pos : Pos} : Goes p w b env q 1 s pos (standAt t) s t () := by
  intro K H gd lv N r h
  rw [Nat.add_comm]
  exact h
theorem Goes.int' {i : Int} {s : Shared} {pos : Pos} : Goes p w b env q 1 s pos (mkInt i) { s with toks := s.toks + 1 } pos (.int i s.toks) := by
  intro K H gd lv N r h
  rw [Nat.add_comm]
  exact h
theorem Goes.text' {i : Str} {s : Shared} {pos : Pos} : Goes p w b env q 1 s pos (mkText i) { s with toks := s.toks + 1 } pos (.str i s.toks) := by
  intro K H gd lv N r h
  rw [Nat.add_comm]
  exact h
theorem Goes.load' {t : Addr} {pt : Option Value} {s : Shared} {pos : Pos} {o : Obj} (h : s.heap.get? t = some o) : Goes p w b env q 1 s pos (loadPart t pt) s pos o := by
  intro K H gd lv N r hr
  rw [Nat.add_comm]
  obtain ⟨hp, g, d, k, os⟩ := s
  show (match step (denote treeTable) p w ⟨hp, g, d, k, os⟩ ⟨.load t pt fun x => (Sem.pure x).wrap K H gd lv, .body b env, pos, [topFrame q]⟩ with | .go s' t' => topRun treeTable p w 11 (some (.ref 6)) N s' t' | .halt _ _ => none) = some r
  simp only [step]
  dsimp only at h
  rw [h]
  exact hr
theorem Goes.update' {t : Addr} {pt : Option Value} {f : Obj → Obj} {s : Shared} {pos : Pos} {o : Obj} (h : s.heap.get? t = some o) (ht : 11 ≤ t) : Goes p w b env q 1 s pos (updatePart t pt f) { s with heap := s.heap.update t f } pos () := by
  intro K H gd lv N r hr
  rw [Nat.add_comm]
  obtain ⟨hp, g, d, k, os⟩ := s
  have e : stepOk 11 (some (.ref 6)) ⟨.update t pt f fun x => (Sem.pure x).wrap K H gd lv, .body b env, pos, [topFrame q]⟩ = true := by
    simp [stepOk, Thread.calm, Thread.atCollectorCode, Thread.yieldsInsideHandler, Nat.ble_eq, ht]
  show (match stepOk 11 (some (.ref 6)) ⟨.update t pt f fun x => (Sem.pure x).wrap K H gd lv, .body b env, pos, [topFrame q]⟩ with
    | false => none
    | true => (match step (denote treeTable) p w ⟨hp, g, d, k, os⟩ ⟨.update t pt f fun x => (Sem.pure x).wrap K H gd lv, .body b env, pos, [topFrame q]⟩ with | .go s' t' => topRun treeTable p w 11 (some (.ref 6)) N s' t' | .halt _ _ => none)) = some r
  rw [e]
  simp only [step]
  dsimp only at h
  rw [h]
  exact hr
theorem Goes.alloc' {o : Obj} {s : Shared} {pos : Pos} : Goes p w b env q 1 s pos (alloc o) { s with heap := s.heap.push o } pos s.heap.objs.size := by
  intro K H gd lv N r h
  rw [Nat.add_comm]
  obtain ⟨hp, g, d, k, os⟩ := s
  exact h
/-! ## the heap as a list, one object in focus -/
noncomputable def dObj (es : List DictEntry) (n : Nat) : Obj := ⟨.type "dict", none, .dict es.toArray n, #[]⟩
noncomputable def hp (l1 : List Obj) (o : Obj) (l2 : List Obj) : Heap := ⟨(l1 ++ o :: l2).toArray, {}⟩
noncomputable abbrev sh (l1 : List Obj) (o : Obj) (l2 : List Obj) (k : Nat) (os : OsState) : Shared := ⟨hp l1 o l2, #[], {}, k, os⟩
theorem hp_get {l1 l2 : List Obj} {es : List DictEntry} {n : Nat} : (hp l1 (dObj es n) l2).get? l1.length = some (dObj es n) := by
  unfold hp Heap.get?
  simp [dObj]
theorem mod_at {o : Obj} {f : Obj → Obj} {l2 : List Obj} : ∀ l1 : List Obj, (l1 ++ o :: l2).modify l1.length f = l1 ++ f o :: l2
  | [] => rfl
  | a :: l => by
    have := mod_at (o := o) (f := f) (l2 := l2) l
    simp [List.modify_succ_cons, this]
theorem hp_update {l1 l2 : List Obj} {o : Obj} {f : Obj → Obj} : (hp l1 o l2).update l1.length f = hp l1 (f o) l2 := by
  unfold hp Heap.update
  simp only [Heap.mk.injEq, and_true]
  apply Array.ext'
  rw [Array.toList_modify]
  exact mod_at l1
theorem hp_push {l1 l2 : List Obj} {o o' : Obj} : (hp l1 o l2).push o' = hp l1 o (l2 ++ [o']) := by
  unfold hp Heap.push
  simp
theorem hp_size {l1 l2 : List Obj} {o : Obj} : (hp l1 o l2).objs.size = l1.length + (l2.length + 1) := by
  unfold hp
  simp
theorem hp_move {l1 l2 : List Obj} {o o' : Obj} : hp l1 o (l2 ++ [o']) = hp (l1 ++ o :: l2) o' [] := by
  unfold hp
  simp
/-! ## a new key in a dict -/
theorem Goes.entries' {d : Addr} {pt : Option Value} {s : Shared} {pos : Pos} {es : List DictEntry} {n : Nat} (h : s.heap.get? d = some (dObj es n)) : Goes p w b env q 1 s pos (dictEntries d pt) s pos es.toArray :=
  Goes.bind' (n1 := 1) (n2 := 0) (Goes.load' h) Goes.pure'
theorem Goes.epoch' {d : Addr} {pt : Option Value} {s : Shared} {pos : Pos} {es : List DictEntry} {n : Nat} (h : s.heap.get? d = some (dObj es n)) : Goes p w b env q 1 s pos (dictEpoch d pt) s pos n :=
  Goes.bind' (n1 := 1) (n2 := 0) (Goes.load' h) Goes.pure'
theorem no_places {es : List DictEntry} {h : Int} (hn : ∀ e ∈ es, e.hash ≠ h) : placesWithHash es.toArray.size (fun i => es.toArray[i]?.map (·.hash)) h = [] := by
  unfold placesWithHash
  rw [List.filter_eq_nil_iff]
  intro i _ hi
  rw [beq_iff_eq, Option.map_eq_some_iff] at hi
  obtain ⟨e, he, rfl⟩ := hi
  rw [List.getElem?_toArray] at he
  exact hn e (List.mem_of_getElem? he) rfl
theorem Goes.find' {d : Addr} {k : Int} {t : Tok} {s : Shared} {pos : Pos} {es : List DictEntry} {n : Nat} {h : Int} (hg : s.heap.get? d = some (dObj es n)) (hn : ∀ e ∈ es, e.hash ≠ h) :
    Goes p w b env q 1 s pos (dictFind d (.int k t) h) s pos none := by
  unfold dictFind
  refine Goes.holding' (Goes.bind' (n1 := 1) (n2 := 0) (Goes.entries' hg) ?_)
  dsimp only
  rw [no_places hn]
  exact Goes.pure'
theorem Goes.put' {l1 l2 : List Obj} {es : List DictEntry} {n k : Nat} {os : OsState} {pos : Pos} {e : DictEntry} {pt : Option Value} (h11 : 11 ≤ l1.length) (hs : es.length ≤ 1000) :
    Goes p w b env q 3 (sh l1 (dObj es n) l2 k os) pos (updateDictKeys l1.length (·.push e) pt) (sh l1 (dObj (es ++ [e]) (n + 1)) l2 k os) pos () := by
  unfold updateDictKeys
  refine Goes.bind' (n1 := 1) (n2 := 2) (Goes.load' hp_get) ?_
  refine Goes.bind' (n1 := 1) (n2 := 1) (Goes.update' hp_get h11) ?_
  have e1 : (hp l1 (dObj es n) l2).update l1.length (Obj.mapDictKeys (·.push e)) = hp l1 (dObj (es ++ [e]) (n + 1)) l2 := by
    rw [hp_update]
    unfold dObj Obj.mapDictKeys
    simp
  dsimp only
  rw [e1]
  unfold lookBehind
  refine Goes.bind' (n1 := 1) (n2 := 0) (Goes.load' hp_get) ?_
  have e2 : (dObj (es ++ [e]) (n + 1)).data.pastItsLine = none := by
    unfold dObj Data.pastItsLine
    dsimp only
    rw [if_neg]
    simp only [List.size_toArray, List.length_append, List.length_cons, List.length_nil]
    have : sizeLine = 16777216 := rfl
    omega
  rw [e2]
  exact Goes.pure'
theorem Goes.setHashed' {l1 l2 : List Obj} {es : List DictEntry} {n k : Nat} {os : OsState} {pos : Pos} {i : Int} {t : Tok} {v : Value} {h : Int} (hn : ∀ e ∈ es, e.hash ≠ h) (h11 : 11 ≤ l1.length) (hs : es.length ≤ 1000) :
    Goes p w b env q 5 (sh l1 (dObj es n) l2 k os) pos (dictSetHashed l1.length (.int i t) h v) (sh l1 (dObj (es ++ [⟨h, .int i t, v⟩]) (n + 1)) l2 k os) pos () := by
  unfold dictSetHashed
  refine Goes.holding' (Goes.bind' (n1 := 1) (n2 := 4) (Goes.find' hp_get hn) ?_)
  exact Goes.bind' (n1 := 1) (n2 := 3) Goes.rule' (Goes.put' h11 hs)
theorem Goes.dictPut' {l1 l2 : List Obj} {es : List DictEntry} {n k : Nat} {os : OsState} {pos : Pos} {i : Int} {t : Tok} {v : Value} {h : Int} (hn : ∀ e ∈ es, e.hash ≠ h) (h11 : 11 ≤ l1.length) (hs : es.length ≤ 1000) :
    Goes p w b env q 4 (sh l1 (dObj es n) l2 k os) pos (dictPut l1.length h (.int i t) v) (sh l1 (dObj (es ++ [⟨h, .int i t, v⟩]) (n + 1)) l2 k os) pos () := by
  unfold dictPut
  exact Goes.bind' (n1 := 1) (n2 := 3) (Goes.find' hp_get hn) (Goes.put' h11 hs)
/-! ## the hash of an int -/
theorem hash_go {hp' : Heap} {g : Array GenState} {dr : Drawn} {tk : Nat} {os : OsState} {k : Int} {t : Tok} {c : Bool} {pos : Pos} {K : Int → Sem Fin} {H : Value → Sem Fin} {gd : Bool → Bool} {lv : List Value → List Value} :
    topGo treeTable p (w.withFollow "special-get-raises" c) 11 (some (.ref 6)) 5 ⟨hp', g, dr, tk, os⟩ ⟨(pyHash (.int k t)).wrap K H gd lv, .body b env, pos, [topFrame q]⟩ =
      some (⟨hp', g, dr, tk + 1, os⟩, ⟨(pyHashByItsType.reduced (rawHash k)).wrap K H gd lv, .body b env, pos, [topFrame q]⟩) := by
  rw [PySem.W.Fast.te15667345088766844465, PySem.W.Fast.te14364793385576792824]
  cases c <;> kernel_rfl
theorem reduced_raw (k : Int) : pyHashByItsType.reduced (rawHash k) = (pure (hashInt k) : Sem Int) := by
  have hr := rawHash_range k
  show (if (decide (-(2 : Int) ^ 63 ≤ rawHash k) && decide (rawHash k < 2 ^ 63)) = true then _ else _) = _
  rw [if_pos (by rw [decide_eq_true hr.1, decide_eq_true hr.2]; rfl)]
  rfl
theorem Goes.hash' {k : Int} {t : Tok} {s : Shared} {pos : Pos} : Goes p w b env q 5 s pos (pyHash (.int k t)) { s with toks := s.toks + 1 } pos (hashInt k) := by
  intro K H gd lv N r h
  obtain ⟨hp', g, dr, tk, os⟩ := s
  have e := hash_go (p := p) (w := w) (b := b) (env := env) (q := q) (hp' := hp') (g := g) (dr := dr) (tk := tk) (os := os) (k := k) (t := t) (c := w.params.followText "special-get-raises") (pos := pos) (K := K) (H := H) (gd := gd) (lv := lv)
  rw [World.withFollow_self, reduced_raw] at e
  exact go_top e h
theorem Goes.set' {l1 l2 : List Obj} {es : List DictEntry} {n k : Nat} {os : OsState} {pos : Pos} {i : Int} {t u : Tok} {v : Str} (hn : ∀ e ∈ es, e.hash ≠ hashInt i) (h11 : 11 ≤ l1.length) (hs : es.length ≤ 1000) :
    Goes p w b env q 10 (sh l1 (dObj es n) l2 k os) pos (dictSet l1.length (.int i t) (.str v u)) (sh l1 (dObj (es ++ [⟨hashInt i, .int i t, .str v u⟩]) (n + 1)) l2 (k + 1) os) pos () := by
  unfold dictSet
  exact Goes.holding' (Goes.bind' (n1 := 5) (n2 := 5) Goes.hash' (Goes.setHashed' hn h11 hs))
/-! ## the display's pairs -/
/-- the two trees of a written pair -/
noncomputable def cK (i : Int) : Sem Value := mkInt i
noncomputable def cV (pos : Pos) (s : Str) : Sem Value := do let x ← mkText s; standAt pos; pure x
noncomputable def cP (pos : Pos) (e : Int × Str) : Sem Value × Sem Value := (cK e.1, cV pos e.2)
noncomputable def ent3 (t : Nat) (e : Int × Str) : DictEntry := ⟨hashInt e.1, .int e.1 t, .str e.2 (t + 1)⟩
noncomputable def ents (t d : Nat) : List (Int × Str) → List DictEntry
  | [] => []
  | e :: r => ent3 t e :: ents (t + d) d r
theorem ents_length {d : Nat} : ∀ {l : List (Int × Str)} {t : Nat}, (ents t d l).length = l.length
  | [], _ => rfl
  | _ :: l, _ => congrArg (· + 1) (ents_length (l := l))
theorem Goes.cV' {pd : Pos} {x : Str} {s : Shared} {pos : Pos} : Goes p w b env q 2 s pos (cV pd x) { s with toks := s.toks + 1 } pd (.str x s.toks) := by
  unfold cV
  exact Goes.bind' (n1 := 1) (n2 := 1) Goes.text' (Goes.bind' (n1 := 1) (n2 := 0) Goes.at' Goes.pure')
/-- a key that is fresh -/
noncomputable def Fresh (es : List DictEntry) (l : List (Int × Str)) : Prop := ∀ x ∈ l, ∀ e ∈ es, e.hash ≠ hashInt x.1
theorem fresh_step {es : List DictEntry} {x : Int × Str} {l : List (Int × Str)} {e : DictEntry} (he : e.hash = hashInt x.1) (h : Fresh es (x :: l)) (hx : ∀ y ∈ l, hashInt y.1 ≠ hashInt x.1) : Fresh (es ++ [e]) l := by
  intro y hy e' he'
  rcases List.mem_append.mp he' with he' | he'
  · exact h y (List.mem_cons_of_mem _ hy) e' he'
  · rw [List.mem_singleton.mp he', he]; exact fun q => hx y hy q.symm
noncomputable def Apart : List (Int × Str) → Prop
  | [] => True
  | x :: l => (∀ y ∈ l, hashInt y.1 ≠ hashInt x.1) ∧ Apart l
/-- a long run of pairs -/
theorem Goes.pairs' {l1 l2 : List Obj} {pd : Pos} {os : OsState} : ∀ {l : List (Int × Str)} {es : List DictEntry} {n k : Nat} {pos : Pos}, Fresh es l → Apart l → 11 ≤ l1.length → es.length + l.length ≤ 1000 →
    Goes p w b env q (13 * l.length) (sh l1 (dObj es n) l2 k os) pos (forIn (l.map (cP pd)) PUnit.unit fun (x : Sem Value × Sem Value) (_ : PUnit) => (match x with
        | (k, v) => do
          let kv ← k
          let vv ← holding [kv] v
          holding [kv, vv] (dictSet l1.length kv vv)
          pure (ForInStep.yield PUnit.unit) : Sem (ForInStep PUnit))) (sh l1 (dObj (es ++ ents k 3 l) (n + l.length)) l2 (k + 3 * l.length) os) (if l = [] then pos else pd) PUnit.unit
  | [], es, n, k, pos, _, _, _, _ => by
    simp only [List.map_nil, List.forIn_nil, ents, List.append_nil, if_true]
    exact Goes.pure'
  | x :: l, es, n, k, pos, hf, ha, h11, hs => by
    rw [List.map_cons, List.forIn_cons]
    have hs' : es.length + (l.length + 1) ≤ 1000 := hs
    refine Goes.cast (Goes.bind' (n1 := 13) (n2 := 13 * l.length) (a := ForInStep.yield PUnit.unit) (p1 := pd) (s1 := sh l1 (dObj (es ++ [ent3 k x]) (n + 1)) l2 (k + 3) os) ?_ ?_) (by rw [List.length_cons]; omega)
    · show Goes p w b env q 13 _ _ (do
          let kv ← cK x.1
          let vv ← holding [kv] (cV pd x.2)
          holding [kv, vv] (dictSet l1.length kv vv)
          pure (ForInStep.yield PUnit.unit)) _ _ _
      refine Goes.bind' (n1 := 1) (n2 := 12) Goes.int' ?_
      refine Goes.bind' (n1 := 2) (n2 := 10) (Goes.holding' Goes.cV') ?_
      exact Goes.bind' (n1 := 10) (n2 := 0) (Goes.holding' (Goes.set' (hf x (List.mem_cons_self ..)) h11 (by omega))) Goes.pure'
    · have ih := Goes.pairs' (l1 := l1) (l2 := l2) (pd := pd) (os := os) (l := l) (es := es ++ [ent3 k x]) (n := n + 1) (k := k + 3) (pos := pd) (fresh_step rfl hf ha.1) ha.2 h11 (by rw [List.length_append]; simp only [List.length_cons, List.length_nil]; omega)
      rw [List.append_assoc] at ih
      have e1 : n + 1 + l.length = n + (l.length + 1) := by omega
      have e2 : k + 3 + 3 * l.length = k + 3 * (l.length + 1) := by omega
      rw [e1, e2, show (if l = [] then pd else pd) = pd by split <;> rfl] at ih
      simp only [List.length_cons, reduceCtorEq, if_false]
      exact ih
/-! ## a run of pairs as a dict of its own -/
noncomputable abbrev sl (L : List Obj) (k : Nat) (os : OsState) : Shared := ⟨⟨L.toArray, {}⟩, #[], {}, k, os⟩
theorem Goes.newDict' {L : List Obj} {k : Nat} {os : OsState} {pos : Pos} : Goes p w b env q 1 (sl L k os) pos (alloc { cls := .type "dict", data := .dict #[] }) (sh L (dObj [] 0) [] k os) pos L.length := by
  have h := Goes.alloc' (p := p) (w := w) (b := b) (env := env) (q := q) (o := dObj [] 0) (s := sl L k os) (pos := pos)
  have e1 : (sl L k os).heap.push (dObj [] 0) = hp L (dObj [] 0) [] := by
    show Heap.push ⟨L.toArray, {}⟩ _ = _
    unfold Heap.push hp
    simp
  have e2 : (sl L k os).heap.objs.size = L.length := by simp
  rw [e1, e2] at h
  exact h
theorem fresh_nil {l : List (Int × Str)} : Fresh [] l := fun _ _ _ h => nomatch h
theorem Goes.subLong' {L : List Obj} {k : Nat} {os : OsState} {pos pd : Pos} {l : List (Int × Str)} (ha : Apart l) (h11 : 11 ≤ L.length) (h15 : 15 < l.length) (hs : l.length ≤ 1000) :
    Goes p w b env q (2 + 13 * l.length) (sl L k os) pos (subDict (l.map (cP pd))) (sh L (dObj (ents k 3 l) l.length) [] (k + 3 * l.length) os) pd L.length := by
  have e : (if l = [] then pos else pd) = pd := if_neg (by intro q; rw [q] at h15; simp at h15)
  have h := Goes.pairs' (p := p) (w := w) (b := b) (env := env) (q := q) (l1 := L) (l2 := []) (pd := pd) (os := os) (l := l) (es := []) (n := 0) (k := k) (pos := pos) fresh_nil ha h11 (by simpa using hs)
  rw [e, List.nil_append, Nat.zero_add] at h
  unfold subDict
  refine Goes.cast (Goes.bind' (n1 := 1) (n2 := 1 + 13 * l.length) Goes.newDict' ?_) (by omega)
  refine Goes.bind' (n1 := 1 + 13 * l.length) (n2 := 0) (a := ()) (Goes.holding' ?_) Goes.pure'
  rw [if_neg (by rw [List.length_map]; omega)]
  refine Goes.bind' (n1 := 1) (n2 := 13 * l.length) Goes.rule' ?_
  exact Goes.bind' (n1 := 13 * l.length) (n2 := 0) h Goes.pure'
noncomputable def vals (t : Nat) : List (Int × Str) → List (Value × Value)
  | [] => []
  | e :: r => (.int e.1 t, .str e.2 (t + 1)) :: vals (t + 2) r
theorem Goes.evalPairs' {pd : Pos} {s : Shared} : ∀ {l : List (Int × Str)} {k : Nat} {pos : Pos}, Goes p w b env q (3 * l.length) { s with toks := k } pos (evalPairs (l.map (cP pd))) { s with toks := k + 2 * l.length } (if l = [] then pos else pd) (vals k l)
  | [], k, pos => Goes.pure'
  | x :: l, k, pos => by
    have ih := Goes.evalPairs' (pd := pd) (s := s) (l := l) (k := k + 2) (pos := pd)
    rw [show (if l = [] then pd else pd) = pd by split <;> rfl, show k + 2 + 2 * l.length = k + 2 * (l.length + 1) by omega] at ih
    show Goes p w b env q _ _ _ (do
      let kv ← cK x.1
      let vv ← holding [kv] (cV pd x.2)
      return (kv, vv) :: (← holding [kv, vv] (evalPairs (l.map (cP pd))))) _ _ _
    simp only [List.length_cons, reduceCtorEq, if_false]
    refine Goes.cast (Goes.bind' (n1 := 1) (n2 := 2 + 3 * l.length) Goes.int' ?_) (by omega)
    refine Goes.bind' (n1 := 2) (n2 := 3 * l.length) (Goes.holding' Goes.cV') ?_
    exact Goes.bind' (n1 := 3 * l.length) (n2 := 0) (Goes.holding' ih) Goes.pure'
theorem Goes.sets' {l1 l2 : List Obj} {os : OsState} : ∀ {l : List (Int × Str)} {es : List DictEntry} {n k t : Nat} {pos : Pos}, Fresh es l → Apart l → 11 ≤ l1.length → es.length + l.length ≤ 1000 →
    Goes p w b env q (10 * l.length) (sh l1 (dObj es n) l2 k os) pos (forIn (vals t l) PUnit.unit fun (x : Value × Value) (_ : PUnit) => (match x with
        | (k, v) => do
          dictSet l1.length k v
          pure (ForInStep.yield PUnit.unit) : Sem (ForInStep PUnit))) (sh l1 (dObj (es ++ ents t 2 l) (n + l.length)) l2 (k + l.length) os) pos PUnit.unit
  | [], es, n, k, t, pos, _, _, _, _ => by
    simp only [vals, List.forIn_nil, ents, List.append_nil]
    exact Goes.pure'
  | x :: l, es, n, k, t, pos, hf, ha, h11, hs => by
    have hs' : es.length + (l.length + 1) ≤ 1000 := hs
    unfold vals
    rw [List.forIn_cons]
    refine Goes.cast (Goes.bind' (n1 := 10) (n2 := 10 * l.length) (a := ForInStep.yield PUnit.unit) (p1 := pos) (s1 := sh l1 (dObj (es ++ [ent3 t x]) (n + 1)) l2 (k + 1) os) ?_ ?_) (by rw [List.length_cons]; omega)
    · exact Goes.bind' (n1 := 10) (n2 := 0) (Goes.set' (hf x (List.mem_cons_self ..)) h11 (by omega)) Goes.pure'
    · have ih := Goes.sets' (l1 := l1) (l2 := l2) (os := os) (l := l) (es := es ++ [ent3 t x]) (n := n + 1) (k := k + 1) (t := t + 2) (pos := pos) (fresh_step rfl hf ha.1) ha.2 h11 (by rw [List.length_append]; simp only [List.length_cons, List.length_nil]; omega)
      rw [List.append_assoc] at ih
      have e1 : n + 1 + l.length = n + (l.length + 1) := by omega
      have e2 : k + 1 + l.length = k + (l.length + 1) := by omega
      rw [e1, e2] at ih
      simp only [List.length_cons]
      exact ih
theorem Goes.subShort' {L : List Obj} {k : Nat} {os : OsState} {pos pd : Pos} {l : List (Int × Str)} (ha : Apart l) (h11 : 11 ≤ L.length) (h15 : l.length ≤ 15) (h0 : l ≠ []) :
    Goes p w b env q (1 + 13 * l.length) (sl L k os) pos (subDict (l.map (cP pd))) (sh L (dObj (ents k 2 l) l.length) [] (k + 3 * l.length) os) pd L.length := by
  have e : (if l = [] then pos else pd) = pd := if_neg h0
  have h1 := Goes.evalPairs' (p := p) (w := w) (b := b) (env := env) (q := q) (pd := pd) (s := sh L (dObj [] 0) [] k os) (l := l) (k := k) (pos := pos)
  have h2 := Goes.sets' (p := p) (w := w) (b := b) (env := env) (q := q) (l1 := L) (l2 := []) (os := os) (l := l) (es := []) (n := 0) (k := k + 2 * l.length) (t := k) (pos := pd) fresh_nil ha h11 (by simp; omega)
  rw [e] at h1
  rw [List.nil_append, Nat.zero_add, show k + 2 * l.length + l.length = k + 3 * l.length by omega] at h2
  unfold subDict
  refine Goes.cast (Goes.bind' (n1 := 1) (n2 := 13 * l.length) Goes.newDict' ?_) (by omega)
  refine Goes.bind' (n1 := 13 * l.length) (n2 := 0) (a := ()) (Goes.holding' ?_) Goes.pure'
  rw [if_pos (by rw [List.length_map]; omega)]
  refine Goes.cast (Goes.bind' (n1 := 3 * l.length) (n2 := 10 * l.length) h1 ?_) (by omega)
  exact Goes.holding' (Goes.bind' (n1 := 10 * l.length) (n2 := 0) h2 Goes.pure')
/-! ## one dict merged into another -/
theorem Goes.typeOf' {a : Addr} {s : Shared} {pos : Pos} {es : List DictEntry} {n : Nat} (h : s.heap.get? a = some (dObj es n)) : Goes p w b env q 1 s pos (typeOf (.ref a)) s pos (.type "dict") :=
  Goes.bind' (n1 := 1) (n2 := 0) (Goes.load' h) Goes.pure'
theorem sub_dict : isSubtype (.type "dict") (.type "dict") = pure true := by
  rw [isSubtype_type]
  kernel_rfl
theorem Goes.isDict' {a : Addr} {s : Shared} {pos : Pos} {es : List DictEntry} {n : Nat} (h : s.heap.get? a = some (dObj es n)) : Goes p w b env q 1 s pos (isInstance (.ref a) (.type "dict")) s pos true := by
  unfold isInstance
  refine Goes.bind' (n1 := 1) (n2 := 0) (Goes.typeOf' h) ?_
  rw [sub_dict]
  exact Goes.pure'
theorem Goes.iterOf' {a : Addr} {s : Shared} {pos : Pos} {es : List DictEntry} {n : Nat} (h : s.heap.get? a = some (dObj es n)) : Goes p w b env q 1 s pos (specialOf (.ref a) "__iter__") s pos (some (.builtin "dict.__iter__")) := by
  unfold specialOf
  refine Goes.bind' (n1 := 1) (n2 := 0) (Goes.typeOf' h) ?_
  rw [PySem.F.slot_dict_iter.lookup]
  exact Goes.pure'
theorem hp_get2 {l1 l2 : List Obj} {o : Obj} {es : List DictEntry} {n : Nat} : (hp l1 o (l2 ++ [dObj es n])).get? (l1 ++ o :: l2).length = some (dObj es n) := by
  rw [hp_move]
  exact hp_get
/-- the turns of the merge -/
theorem Goes.turns' {l1 l2 : List Obj} {os : OsState} {n2 k : Nat} {pos : Pos} {es2 : List DictEntry} {dd : Nat} {f : Nat → PUnit → Sem (ForInStep PUnit)}
    (turn : ∀ (i : Nat) (es : List DictEntry) (n : Nat) (e : Int × Str) (t : Nat), es2[i]? = some (ent3 t e) → (∀ e' ∈ es, e'.hash ≠ hashInt e.1) → es.length ≤ 1000 →
      Goes p w b env q 6 (sh l1 (dObj es n) (l2 ++ [dObj es2 n2]) k os) pos (f i PUnit.unit) (sh l1 (dObj (es ++ [ent3 t e]) (n + 1)) (l2 ++ [dObj es2 n2]) k os) pos (ForInStep.yield PUnit.unit)) :
    ∀ {l : List (Int × Str)} {done es : List DictEntry} {n t : Nat}, es2 = done ++ ents t dd l → Fresh es l → Apart l → es.length + l.length ≤ 1000 →
    Goes p w b env q (6 * l.length) (sh l1 (dObj es n) (l2 ++ [dObj es2 n2]) k os) pos (forIn (List.range' done.length l.length) PUnit.unit f) (sh l1 (dObj (es ++ ents t dd l) (n + l.length)) (l2 ++ [dObj es2 n2]) k os) pos PUnit.unit
  | [], done, es, n, t, _, _, _, _ => by
    simp only [ents, List.append_nil, List.length_nil, List.range'_zero, List.forIn_nil]
    exact Goes.pure'
  | x :: l, done, es, n, t, he, hf, ha, hs => by
    have hs' : es.length + (l.length + 1) ≤ 1000 := hs
    rw [List.length_cons, List.range'_succ, List.forIn_cons]
    refine Goes.cast (Goes.bind' (n1 := 6) (n2 := 6 * l.length) (a := ForInStep.yield PUnit.unit) (p1 := pos) (s1 := sh l1 (dObj (es ++ [ent3 t x]) (n + 1)) (l2 ++ [dObj es2 n2]) k os) ?_ ?_) (by omega)
    · refine turn _ _ _ _ _ ?_ (hf x (List.mem_cons_self ..)) (by omega)
      rw [he, List.getElem?_append_right (Nat.le_refl _), Nat.sub_self]
      rfl
    · have ih := Goes.turns' turn (l := l) (done := done ++ [ent3 t x]) (es := es ++ [ent3 t x]) (n := n + 1) (t := t + dd) (by rw [he, List.append_assoc]; rfl) (fresh_step rfl hf ha.1) ha.2 (by rw [List.length_append]; simp only [List.length_cons, List.length_nil]; omega)
      rw [List.append_assoc, List.length_append] at ih
      rw [show n + (l.length + 1) = n + 1 + l.length by omega]
      exact ih
theorem Goes.merge' {l1 l2 : List Obj} {os : OsState} {n n2 k t dd : Nat} {pos : Pos} {l : List (Int × Str)} {es : List DictEntry} (hf : Fresh es l) (ha : Apart l) (h11 : 11 ≤ l1.length) (hs : es.length + l.length ≤ 1000) (hne : es ≠ []) :
    Goes p w b env q (5 + 6 * l.length) (sh l1 (dObj es n) (l2 ++ [dObj (ents t dd l) n2]) k os) pos (mergeMapping l1.length (.ref (l1 ++ (dObj es n) :: l2).length) false)
      (sh l1 (dObj (es ++ ents t dd l) (n + l.length)) (l2 ++ [dObj (ents t dd l) n2]) k os) pos () := by
  unfold mergeMapping
  refine Goes.cast (Goes.bind' (n1 := 1) (n2 := 4 + 6 * l.length) (Goes.isDict' hp_get2) ?_) (by omega)
  dsimp only
  rw [if_pos rfl]
  refine Goes.cast (Goes.bind' (n1 := 1) (n2 := 3 + 6 * l.length) (Goes.iterOf' hp_get2) ?_) (by omega)
  refine Goes.cast (Goes.bind' (n1 := 0) (n2 := 3 + 6 * l.length) Goes.pure' ?_) (by omega)
  have e0 : (some (Value.builtin "dict.__iter__") == some (Value.builtin "dict.__iter__")) = true := by simp
  rw [e0]
  dsimp only
  rw [if_neg (by
    rw [beq_iff_eq, List.length_append]
    intro z
    have z' : l1.length + (dObj es n :: l2).length = 1 := z
    omega)]
  refine Goes.cast (Goes.bind' (n1 := 1) (n2 := 2 + 6 * l.length) (Goes.entries' hp_get) ?_) (by omega)
  rw [if_neg (by cases es with | nil => exact absurd rfl hne | cons => simp)]
  refine Goes.cast (Goes.bind' (n1 := 1) (n2 := 1 + 6 * l.length) (Goes.entries' hp_get2) ?_) (by omega)
  refine Goes.bind' (n1 := 1) (n2 := 6 * l.length) (Goes.epoch' hp_get2) ?_
  rw [List.size_toArray, ents_length, List.range_eq_range']
  have hl : ∀ o o' : Obj, (l1 ++ o :: l2).length = (l1 ++ o' :: l2).length := fun o o' => by simp
  refine Goes.bind' (n1 := 6 * l.length) (n2 := 0) (Goes.turns' ?_ (done := []) rfl hf ha hs) Goes.pure'
  intro i es' n' x t' e1 hx hs1
  rw [hl (dObj es n) (dObj es' n')]
  refine Goes.bind' (n1 := 1) (n2 := 5) (Goes.entries' hp_get2) ?_
  rw [List.getElem?_toArray, e1]
  dsimp only
  rw [if_neg Bool.false_ne_true]
  refine Goes.bind' (n1 := 4) (n2 := 1) (Goes.holding' (Goes.dictPut' hx h11 hs1)) ?_
  rw [hl (dObj es' n') (dObj (es' ++ [ent3 t' x]) (n' + 1))]
  refine Goes.bind' (n1 := 1) (n2 := 0) (Goes.epoch' hp_get2) ?_
  rw [if_neg (by simp)]
  exact Goes.pure'
/-! ## the whole display, by runs of seventeen -/
theorem ents_app {d : Nat} : ∀ {a r : List (Int × Str)} {k : Nat}, ents k d (a ++ r) = ents k d a ++ ents (k + d * a.length) d r
  | [], r, k => by simp [ents]
  | x :: a, r, k => by
    have ih := ents_app (d := d) (a := a) (r := r) (k := k + d)
    show ent3 k x :: ents (k + d) d (a ++ r) = ent3 k x :: (ents (k + d) d a ++ _)
    rw [ih, List.length_cons, show k + d + d * a.length = k + d * (a.length + 1) by rw [Nat.mul_succ]; omega]
theorem apart_app : ∀ {a r : List (Int × Str)}, Apart (a ++ r) → Apart a ∧ Apart r
  | [], r, h => ⟨trivial, h⟩
  | x :: a, r, h => ⟨⟨fun y hy => h.1 y (List.mem_append_left _ hy), (apart_app h.2).1⟩, (apart_app h.2).2⟩
theorem fresh_app {d : Nat} : ∀ {a r : List (Int × Str)} {es : List DictEntry} {k : Nat}, Fresh es (a ++ r) → Apart (a ++ r) → Fresh (es ++ ents k d a) r
  | [], r, es, k, h, _ => by simpa [ents] using h
  | x :: a, r, es, k, h, ha => by
    have ih := fresh_app (d := d) (a := a) (r := r) (es := es ++ [ent3 k x]) (k := k + d) (fresh_step rfl h ha.1) ha.2
    rw [List.append_assoc] at ih
    exact ih
theorem fresh_left {a r : List (Int × Str)} {es : List DictEntry} (h : Fresh es (a ++ r)) : Fresh es a := fun x hx => h x (List.mem_append_left _ hx)
noncomputable def item (pd : Pos) (e : Int × Str) : Option (Sem Value) × Sem Value := (some (cK e.1), cV pd e.2)
/-- what the display does with a run -/
noncomputable def flush (run : List (Sem Value × Sem Value)) (main : Option Addr) : Sem (Option Addr) := do
    if run.isEmpty then return main
    match main with
    | none => return some (← subDict run)
    | some d =>
      let sub ← holding [.ref d] (subDict run)
      (holding [.ref d, .ref sub] (mergeMapping d (.ref sub) false)).onRaise fun x => do let _ ← holding [.ref d, x] (runValue (.builtin "proto.let_go" {}))
      return some d
theorem sl_sh {l1 l2 : List Obj} {o : Obj} {k : Nat} {os : OsState} : sl (l1 ++ o :: l2) k os = sh l1 o l2 k os := rfl
theorem sh_move {l1 l2 : List Obj} {o o' : Obj} {k : Nat} {os : OsState} : sh (l1 ++ o :: l2) o' [] k os = sh l1 o (l2 ++ [o']) k os := by
  unfold sh
  rw [hp_move]
theorem Goes.flush0' {L : List Obj} {k : Nat} {os : OsState} {pos pd : Pos} {l : List (Int × Str)} (ha : Apart l) (h11 : 11 ≤ L.length) (h15 : 15 < l.length) (hs : l.length ≤ 1000) :
    Goes p w b env q (2 + 13 * l.length) (sl L k os) pos (flush (l.map (cP pd)) none) (sh L (dObj (ents k 3 l) l.length) [] (k + 3 * l.length) os) pd (some L.length) := by
  unfold flush
  rw [if_neg (by cases l with | nil => simp at h15 | cons => simp)]
  exact Goes.bind' (n1 := 2 + 13 * l.length) (n2 := 0) (Goes.subLong' ha h11 h15 hs) Goes.pure'
theorem Goes.flushL' {l1 l2 : List Obj} {os : OsState} {n k : Nat} {pos pd : Pos} {l : List (Int × Str)} {es : List DictEntry} (hf : Fresh es l) (ha : Apart l) (h11 : 11 ≤ l1.length) (hs : es.length + l.length ≤ 1000) (hne : es ≠ []) (h15 : 15 < l.length) :
    Goes p w b env q (7 + 19 * l.length) (sh l1 (dObj es n) l2 k os) pos (flush (l.map (cP pd)) (some l1.length)) (sh l1 (dObj (es ++ ents k 3 l) (n + l.length)) (l2 ++ [dObj (ents k 3 l) l.length]) (k + 3 * l.length) os) pd (some l1.length) := by
  unfold flush
  rw [if_neg (by cases l with | nil => simp at h15 | cons => simp)]
  have h1 := Goes.subLong' (p := p) (w := w) (b := b) (env := env) (q := q) (L := l1 ++ dObj es n :: l2) (k := k) (os := os) (pos := pos) (pd := pd) ha (by rw [List.length_append]; omega) h15 (by omega)
  rw [sl_sh, sh_move] at h1
  refine Goes.cast (Goes.bind' (n1 := 2 + 13 * l.length) (n2 := 5 + 6 * l.length) (Goes.holding' h1) ?_) (by omega)
  exact Goes.bind' (n1 := 5 + 6 * l.length) (n2 := 0) (Goes.onRaise' (Goes.holding' (Goes.merge' hf ha h11 hs hne))) Goes.pure'
theorem Goes.flushS' {l1 l2 : List Obj} {os : OsState} {n k : Nat} {pos pd : Pos} {l : List (Int × Str)} {es : List DictEntry} (hf : Fresh es l) (ha : Apart l) (h11 : 11 ≤ l1.length) (hs : es.length + l.length ≤ 1000) (hne : es ≠ []) (h15 : l.length ≤ 15) (h0 : l ≠ []) :
    Goes p w b env q (6 + 19 * l.length) (sh l1 (dObj es n) l2 k os) pos (flush (l.map (cP pd)) (some l1.length)) (sh l1 (dObj (es ++ ents k 2 l) (n + l.length)) (l2 ++ [dObj (ents k 2 l) l.length]) (k + 3 * l.length) os) pd (some l1.length) := by
  unfold flush
  rw [if_neg (by cases l with | nil => exact absurd rfl h0 | cons => simp)]
  have h1 := Goes.subShort' (p := p) (w := w) (b := b) (env := env) (q := q) (L := l1 ++ dObj es n :: l2) (k := k) (os := os) (pos := pos) (pd := pd) ha (by rw [List.length_append]; omega) h15 h0
  rw [sl_sh, sh_move] at h1
  refine Goes.cast (Goes.bind' (n1 := 1 + 13 * l.length) (n2 := 5 + 6 * l.length) (Goes.holding' h1) ?_) (by omega)
  exact Goes.bind' (n1 := 5 + 6 * l.length) (n2 := 0) (Goes.onRaise' (Goes.holding' (Goes.merge' hf ha h11 hs hne))) Goes.pure'
noncomputable abbrev DSt : Type := Option Addr × List (Sem Value × Sem Value)
section
variable {f : Option (Sem Value) × Sem Value → DSt → Sem (ForInStep DSt)}
  (hF : ∀ k v main run, f (some k, v) (main, run) = if (run ++ [(k, v)]).length == 17 then (flush (run ++ [(k, v)]) main >>= fun m => pure (.yield (m, []))) else pure (.yield (main, run ++ [(k, v)])))
include hF
theorem run_on {pd : Pos} {main : Option Addr} {rest : List (Option (Sem Value) × Sem Value)} : ∀ (l : List (Int × Str)) (run : List (Sem Value × Sem Value)), run.length + l.length ≤ 16 →
    forIn (l.map (item pd) ++ rest) (main, run) f = forIn rest (main, run ++ l.map (cP pd)) f
  | [], run, _ => by simp
  | x :: l, run, h => by
    rw [List.length_cons] at h
    rw [List.map_cons, List.cons_append, List.forIn_cons]
    rw [show f (item pd x) (main, run) = pure (.yield (main, run ++ [cP pd x])) by
      rw [show item pd x = (some (cK x.1), cV pd x.2) from rfl, hF, if_neg (by simp; omega)]; rfl]
    have ih := run_on (pd := pd) (main := main) (rest := rest) l (run ++ [cP pd x]) (by simp; omega)
    rw [List.append_assoc] at ih
    exact ih
theorem Goes.chunk' {pd : Pos} {main m : Option Addr} {rest : List (Option (Sem Value) × Sem Value)} {l : List (Int × Str)} {n1 n2 : Nat} {s s1 s2 : Shared} {p0 p1 p2 : Pos} {c : DSt} (h17 : l.length = 17)
    (h1 : Goes p w b env q n1 s p0 (flush (l.map (cP pd)) main) s1 p1 m) (h2 : Goes p w b env q n2 s1 p1 (forIn rest (m, []) f) s2 p2 c) :
    Goes p w b env q (n1 + n2) s p0 (forIn (l.map (item pd) ++ rest) (main, []) f) s2 p2 c := by
  have hl : l = l.take 16 ++ [l[16]] := by
    have := List.take_append_drop 16 l
    rw [List.drop_eq_getElem_cons (by omega), List.drop_eq_nil_of_le (by omega)] at this
    exact this.symm
  rw [hl, List.map_append, List.append_assoc, run_on hF _ [] (by simp; omega), List.nil_append, List.map_cons, List.map_nil, List.cons_append, List.nil_append, List.forIn_cons]
  rw [show f (item pd l[16]) (main, (l.take 16).map (cP pd)) = (flush ((l.take 16).map (cP pd) ++ [cP pd l[16]]) main >>= fun m => pure (.yield (m, []))) by
    rw [show item pd l[16] = (some (cK l[16].1), cV pd l[16].2) from rfl, hF, if_pos (by simp; omega)]; rfl]
  have e : (l.take 16).map (cP pd) ++ [cP pd l[16]] = l.map (cP pd) := by
    conv => rhs; rw [hl]
    rw [List.map_append]; rfl
  rw [e]
  exact Goes.bind' (Goes.cast (Goes.bind' (n1 := n1) (n2 := 0) h1 Goes.pure') (Nat.add_zero _)) h2
noncomputable def subs : Nat → Nat → List (Int × Str) → List Obj
  | _, 0, _ => []
  | k, m + 1, D => dObj (ents k 3 (D.take 17)) 17 :: subs (k + 51) m (D.drop 17)
theorem Goes.loop' {l1 : List Obj} {os : OsState} {pd : Pos} (h11 : 11 ≤ l1.length) : ∀ (m : Nat) {D : List (Int × Str)} {l2 : List Obj} {es : List DictEntry} {n k : Nat} {pos : Pos}, 17 * m ≤ D.length → D.length ≤ 17 * m + 16 → Fresh es D → Apart D → es.length + D.length ≤ 1000 → es ≠ [] →
    Goes p w b env q (330 * m) (sh l1 (dObj es n) l2 k os) pos (forIn (D.map (item pd)) (some l1.length, []) f)
      (sh l1 (dObj (es ++ ents k 3 (D.take (17 * m))) (n + 17 * m)) (l2 ++ subs k m D) (k + 51 * m) os) (if m = 0 then pos else pd) (some l1.length, (D.drop (17 * m)).map (cP pd))
  | 0, D, l2, es, n, k, pos, _, hD, _, _, _, _ => by
    have e := run_on (f := f) hF (pd := pd) (main := some l1.length) (rest := []) D [] (by simp; omega)
    rw [List.append_nil, List.nil_append, List.forIn_nil] at e
    rw [e]
    simp only [Nat.mul_zero, List.take_zero, List.drop_zero, ents, subs, List.append_nil, Nat.add_zero, if_true]
    exact Goes.pure'
  | m + 1, D, l2, es, n, k, pos, h1, h2, hf, ha, hs, hne => by
    have ht : (D.take 17).length = 17 := by rw [List.length_take]; omega
    have hd : D = D.take 17 ++ D.drop 17 := (List.take_append_drop 17 D).symm
    have hdl : (D.drop 17).length = D.length - 17 := List.length_drop
    have hf' : Fresh es (D.take 17 ++ D.drop 17) := by rw [← hd]; exact hf
    have ha' : Apart (D.take 17 ++ D.drop 17) := by rw [← hd]; exact ha
    have ih := Goes.loop' (os := os) (pd := pd) h11 m (D := D.drop 17) (l2 := l2 ++ [dObj (ents k 3 (D.take 17)) 17]) (es := es ++ ents k 3 (D.take 17)) (n := n + 17) (k := k + 51) (pos := pd) (by omega) (by omega) (fresh_app hf' ha') (apart_app ha').2
      (by rw [List.length_append, ents_length, ht, hdl]; omega) (by intro z; exact hne (List.append_eq_nil_iff.mp z).1)
    have hfl := Goes.flushL' (p := p) (w := w) (b := b) (env := env) (q := q) (l1 := l1) (l2 := l2) (os := os) (n := n) (k := k) (pos := pos) (pd := pd) (fresh_left hf') (apart_app ha').1 h11 (by rw [ht]; omega) hne (by rw [ht]; omega)
    rw [ht] at hfl
    rw [show (if m = 0 then pd else pd) = pd by split <;> rfl] at ih
    have e1 : ents k 3 (D.take (17 * (m + 1))) = ents k 3 (D.take 17) ++ ents (k + 51) 3 ((D.drop 17).take (17 * m)) := by
      rw [show 17 * (m + 1) = 17 + 17 * m by omega, List.take_add, ents_app, ht]
    have e2 : D.drop (17 * (m + 1)) = (D.drop 17).drop (17 * m) := by rw [List.drop_drop]; congr 1; omega
    rw [e1, e2, ← List.append_assoc, if_neg (Nat.succ_ne_zero m)]
    have e3 : n + 17 * (m + 1) = n + 17 + 17 * m := by omega
    have e4 : k + 51 * (m + 1) = k + 51 + 51 * m := by omega
    have e5 : l2 ++ subs k (m + 1) D = l2 ++ [dObj (ents k 3 (D.take 17)) 17] ++ subs (k + 51) m (D.drop 17) := by rw [List.append_assoc]; rfl
    rw [e3, e4, e5]
    have e6 : D.map (item pd) = (D.take 17).map (item pd) ++ (D.drop 17).map (item pd) := by rw [← List.map_append, ← hd]
    rw [e6]
    exact Goes.cast (Goes.chunk' hF ht hfl ih) (by omega)
end
theorem Goes.display' {L : List Obj} {os : OsState} {pd : Pos} {D : List (Int × Str)} {k m : Nat} {pos : Pos} (h11 : 11 ≤ L.length) (h1 : 17 * m + 17 < D.length) (h2 : D.length ≤ 17 * m + 32) (ha : Apart D) (hs : D.length ≤ 1000) :
    Goes p w b env q (330 * m + 19 * (D.length - 17 * (m + 1)) + 229) (sl L k os) pos (dictDisplay (D.map (item pd)))
      (sh L (dObj (ents k 3 (D.take (17 * (m + 1))) ++ ents (k + 51 * (m + 1)) 2 (D.drop (17 * (m + 1)))) D.length)
        (subs (k + 51) m (D.drop 17) ++ [dObj (ents (k + 51 * (m + 1)) 2 (D.drop (17 * (m + 1)))) (D.length - 17 * (m + 1))]) (k + 3 * D.length) os) pd (.ref L.length) := by
  have ht : (D.take 17).length = 17 := by rw [List.length_take]; omega
  have hd : D = D.take 17 ++ D.drop 17 := (List.take_append_drop 17 D).symm
  have ha' : Apart (D.take 17 ++ D.drop 17) := by rw [← hd]; exact ha
  have hdl : (D.drop 17).length = D.length - 17 := List.length_drop
  have hf0 := Goes.flush0' (p := p) (w := w) (b := b) (env := env) (q := q) (L := L) (k := k) (os := os) (pos := pos) (pd := pd) (apart_app ha').1 h11 (by rw [ht]; omega) (by rw [ht]; omega)
  rw [ht] at hf0
  have hfr : Fresh (ents k 3 (D.take 17)) (D.drop 17) := by
    have := fresh_app (d := 3) (es := []) (k := k) (a := D.take 17) (r := D.drop 17) fresh_nil ha'
    rwa [List.nil_append] at this
  have hne : ents k 3 (D.take 17) ≠ [] := by
    intro z
    have := congrArg List.length z
    rw [ents_length, ht] at this
    cases this
  unfold dictDisplay
  dsimp only
  have h3 : (D.drop (17 * (m + 1))).length = D.length - 17 * (m + 1) := List.length_drop
  have e2 : D.drop (17 * (m + 1)) = (D.drop 17).drop (17 * m) := by rw [List.drop_drop]; congr 1; omega
  have hd2 : D.drop 17 = (D.drop 17).take (17 * m) ++ D.drop (17 * (m + 1)) := by rw [e2, List.take_append_drop]
  have ha2 : Apart ((D.drop 17).take (17 * m) ++ D.drop (17 * (m + 1))) := by rw [← hd2]; exact (apart_app ha').2
  have hfr2 : Fresh (ents k 3 (D.take 17)) ((D.drop 17).take (17 * m) ++ D.drop (17 * (m + 1))) := by rw [← hd2]; exact hfr
  have e1 : ents k 3 (D.take (17 * (m + 1))) = ents k 3 (D.take 17) ++ ents (k + 51) 3 ((D.drop 17).take (17 * m)) := by
    rw [show 17 * (m + 1) = 17 + 17 * m by omega, List.take_add, ents_app, ht]
  have hne2 : ents k 3 (D.take 17) ++ ents (k + 51) 3 ((D.drop 17).take (17 * m)) ≠ [] := fun z => hne (List.append_eq_nil_iff.mp z).1
  have hlast := Goes.flushS' (p := p) (w := w) (b := b) (env := env) (q := q) (l1 := L) (l2 := subs (k + 51) m (D.drop 17)) (os := os) (n := 17 + 17 * m) (k := k + 51 + 51 * m) (pos := if m = 0 then pd else pd) (pd := pd)
    (fresh_app (d := 3) (k := k + 51) hfr2 ha2) (apart_app ha2).2 h11 (by rw [List.length_append, ents_length, ents_length, ht, List.length_take, hdl, h3]; omega) hne2 (by rw [h3]; omega) (by intro z; have := congrArg List.length z; rw [h3] at this; simp at this; omega)
  rw [h3] at hlast
  have e7 : 17 + 17 * m + (D.length - 17 * (m + 1)) = D.length := by omega
  have e8 : k + 51 + 51 * m + 3 * (D.length - 17 * (m + 1)) = k + 3 * D.length := by omega
  have e9 : k + 51 * (m + 1) = k + 51 + 51 * m := by omega
  rw [e7, e8] at hlast
  rw [e1, e9]
  have e6 : D.map (item pd) = (D.take 17).map (item pd) ++ (D.drop 17).map (item pd) := by rw [← List.map_append, ← hd]
  rw [e6]
  refine Goes.cast (Goes.bind' (n1 := 223 + 330 * m) (n2 := 6 + 19 * (D.length - 17 * (m + 1))) (Goes.chunk' ?_ ht hf0 (Goes.loop' ?_ h11 m (D := D.drop 17) (l2 := []) (by omega) (by omega) hfr (apart_app ha').2 (by rw [ents_length, ht, hdl]; omega) hne)) ?_) (by omega)
  · intro k v main run; rfl
  · intro k v main run; rfl
  · rw [List.nil_append, ← e2]
    exact Goes.bind' (n1 := 6 + 19 * (D.length - 17 * (m + 1))) (n2 := 0) hlast Goes.pure'
end
end Mine
end
noncomputable section
namespace Mine
open PySem PySem.W PyProof.Rows PySem.Spec PySem.Calls PyProof.V
/-! ## the text's parts -/
noncomputable abbrev PW : Program := PySem.Challenge.pw_ux0028_01
noncomputable def fdOf (i : Nat) : Arguments × List Stmt × Scope := match PW.main.body[i]? with
  | some (PySem.Stmt.FunctionDef _ a b _ _ _ s _ _ _) => (a, b, s)
  | _ => (⟨[], [], none, [], [], none, []⟩, [], default)
noncomputable def b3parts : List Expr × List (Option Expr) × List Expr × Pos × Pos := match PW.main.body[12]? with
  | some (PySem.Stmt.Assign t (PySem.Expr.Dict ks vs pd) ps) => (t, ks, vs, pd, ps)
  | _ => ([], [], [], default, default)
noncomputable def b3st : Stmt := PySem.Stmt.Assign b3parts.1 (PySem.Expr.Dict b3parts.2.1 b3parts.2.2.1 b3parts.2.2.2.1) b3parts.2.2.2.2
noncomputable def keyI : Option PySem.Expr → Option Int
  | some (PySem.Expr.Constant (PySem.Const.int i) _ _) => some i
  | _ => none
noncomputable def valS : PySem.Expr → Option Str
  | PySem.Expr.Constant (PySem.Const.str s) _ _ => some s
  | _ => none
noncomputable def readKV : List (Option PySem.Expr) → List PySem.Expr → Option (List (Int × Str))
  | [], [] => some []
  | k :: ks, v :: vs => (keyI k).bind fun i => (valS v).bind fun s => (readKV ks vs).map fun r => (i, s) :: r
  | _, _ => none
/-- the table's pairs, out of the text -/
noncomputable def b3kv : List (Int × Str) := (readKV b3parts.2.1 b3parts.2.2.1).getD []
noncomputable def tabO : Obj := dObj (ents 350 3 (b3kv.take 646) ++ ents 2288 2 (b3kv.drop 646)) 650
noncomputable def b3o (a : Nat) : Obj := match a with
  | 91 => tabO
  | 129 => dObj (ents 2288 2 (b3kv.drop 646)) 4
  | a => dObj (ents (350 + 51 * (a - 91)) 3 ((b3kv.drop (17 * (a - 91))).take 17)) 17
noncomputable def env0 : Env := { scope := PW.main.scope, locals := mainNs, globals := mainNs, cells := [], code := .ref 13, frame := some 14 }
noncomputable def bodyL : List Stmt := behindTheImports PW
noncomputable abbrev code0 : Code := .body bodyL env0
noncomputable abbrev q0 : Pos := ⟨0, 0, 0, 0⟩
noncomputable abbrev tf : Frame := topFrame q0
noncomputable def o_11_0 (P : Params) : Obj := ⟨(.type "tuple"), none, (.seq #[] 0), #[]⟩
noncomputable def o_12_0 (P : Params) : Obj := ⟨.none, none, (.fields #[]), #[]⟩
noncomputable def o_13_0 (P : Params) : Obj := ⟨(.type "code"), none, (.fields #[(.str (Str.ofString "<module>") 182), (.str (Str.ofString "<module>") 183), (.str (Str.ofString "/claim/cut.py") 184), (.int 1 0), (.int 0 0), (.int 0 0), (.int 0 0), (.int 0 0), (.ref 11), (.bool false), (.int 181 0), (.ref 12), .none, .none, .none, .none, (.int 185 0), (.int 1 0), (.str (Str.ofString "/claim/cut.py") 186)]), #[]⟩
noncomputable def o_14_0 (P : Params) : Obj := ⟨(.type "frame"), none, .plain, #[(some (.ref 13)), (some (.ref 3)), (some (.ref 3)), none, (some (.str (Str.ofString "__main__") 164)), none, (some (.ref 0))]⟩
noncomputable def tr0 (P : Params) : BT := (.node (boot_o_0 P) (.node (boot_o_1 P) (.node (boot_o_3 P) (.node (boot_o_7 P) .nil .nil) (.node (o_11_0 P) .nil .nil)) (.node (boot_o_5 P) (.node (boot_o_9 P) .nil .nil) (.node (o_13_0 P) .nil .nil))) (.node (boot_o_2 P) (.node (boot_o_4 P) (.node (boot_o_8 P) .nil .nil) (.node (o_12_0 P) .nil .nil)) (.node (boot_o_6 P) (.node (boot_o_10 P) .nil .nil) (.node (o_14_0 P) .nil .nil))))
-- n 15 toks 187
noncomputable def pos0 : Pos := ⟨0, 0, 0, 0⟩
noncomputable def o_2_1 (P : Params) : Obj := ⟨.none, none, (.dict #[⟨PyData.keyHash P (Str.ofString "type.__subclasses__.Exception.0"), (.str (Str.ofString "type.__subclasses__.Exception.0") 205), (.int 24 0)⟩, ⟨PyData.keyHash P (Str.ofString "type.__subclasses__.Exception.n"), (.str (Str.ofString "type.__subclasses__.Exception.n") 206), (.int 1 0)⟩] 2), #[]⟩
noncomputable def o_3_1 (P : Params) : Obj := ⟨(.type "dict"), none, (.dict #[⟨PyData.keyHash P (Str.ofString "__name__"), (.str (Str.ofString "__name__") 165), (.str (Str.ofString "cpy313.ftplib") 187)⟩, ⟨PyData.keyHash P (Str.ofString "__doc__"), (.str (Str.ofString "__doc__") 166), .none⟩, ⟨PyData.keyHash P (Str.ofString "__package__"), (.str (Str.ofString "__package__") 167), .none⟩, ⟨PyData.keyHash P (Str.ofString "__loader__"), (.str (Str.ofString "__loader__") 168), (.builtin "__main__.__loader__#opaque")⟩, ⟨PyData.keyHash P (Str.ofString "__spec__"), (.str (Str.ofString "__spec__") 169), .none⟩, ⟨PyData.keyHash P (Str.ofString "__annotations__"), (.str (Str.ofString "__annotations__") 170), (.ref 6)⟩, ⟨PyData.keyHash P (Str.ofString "__builtins__"), (.str (Str.ofString "__builtins__") 171), (.ref 4)⟩, ⟨PyData.keyHash P (Str.ofString "__file__"), (.str (Str.ofString "__file__") 173), (.str (Str.ofString "/claim/cut.py") 172)⟩, ⟨PyData.keyHash P (Str.ofString "__cached__"), (.str (Str.ofString "__cached__") 174), .none⟩, ⟨PyData.keyHash P (Str.ofString "Error"), (.str (Str.ofString "Error") 208), (.ref 24)⟩, ⟨PyData.keyHash P (Str.ofString "error_reply"), (.str (Str.ofString "error_reply") 224), (.ref 37)⟩] 11), #[]⟩
noncomputable def o_12_1 (P : Params) : Obj := ⟨.none, none, (.fields #[(.int 2 0), (.int 0 0), (.ref 20), (.int 4 0), (.int 0 0), (.ref 33)]), #[]⟩
noncomputable def o_15_1 (P : Params) : Obj := ⟨(.type "tuple"), none, (.seq #[(.type "Exception")] 0), #[]⟩
noncomputable def o_16_1 (P : Params) : Obj := ⟨(.type "builtin_function_or_method"), none, (.fields #[(.builtin "type.__prepare__"), (.type "type")]), #[]⟩
noncomputable def o_17_1 (P : Params) : Obj := ⟨(.type "dict"), none, (.dict #[⟨PyData.keyHash P (Str.ofString "__module__"), (.str (Str.ofString "__module__") 196), (.str (Str.ofString "cpy313.ftplib") 187)⟩, ⟨PyData.keyHash P (Str.ofString "__qualname__"), (.str (Str.ofString "__qualname__") 198), (.str (Str.ofString "Error") 197)⟩, ⟨PyData.keyHash P (Str.ofString "__firstlineno__"), (.str (Str.ofString "__firstlineno__") 200), (.int 2 199)⟩, ⟨PyData.keyHash P (Str.ofString "__static_attributes__"), (.str (Str.ofString "__static_attributes__") 201), (.ref 22)⟩] 4), #[]⟩
noncomputable def o_18_1 (P : Params) : Obj := ⟨(.type "tuple"), none, (.seq #[] 0), #[]⟩
noncomputable def o_19_1 (P : Params) : Obj := ⟨.none, none, (.fields #[]), #[]⟩
noncomputable def o_20_1 (P : Params) : Obj := ⟨(.type "code"), none, (.fields #[(.str (Str.ofString "Error") 191), (.str (Str.ofString "Error") 192), (.str (Str.ofString "/claim/cut.py") 193), (.int 2 0), (.int 0 0), (.int 0 0), (.int 0 0), (.int 0 0), (.ref 18), (.bool false), (.int 181 0), (.ref 19), .none, .none, .none, .none, (.int 194 0), (.int 2 0), (.str (Str.ofString "/claim/cut.py") 195)]), #[]⟩
noncomputable def o_21_1 (P : Params) : Obj := ⟨(.type "frame"), none, .plain, #[(some (.ref 20)), (some (.ref 3)), (some (.ref 17)), none, (some (.str (Str.ofString "cpy313.ftplib") 187)), none, (some (.ref 0))]⟩
noncomputable def o_22_1 (P : Params) : Obj := ⟨(.type "tuple"), none, (.seq #[] 0), #[]⟩
noncomputable def o_23_1 (P : Params) : Obj := ⟨(.type "dict"), none, (.dict #[⟨PyData.keyHash P (Str.ofString "__module__"), (.str (Str.ofString "__module__") 196), (.str (Str.ofString "cpy313.ftplib") 187)⟩, ⟨PyData.keyHash P (Str.ofString "__firstlineno__"), (.str (Str.ofString "__firstlineno__") 200), (.int 2 199)⟩, ⟨PyData.keyHash P (Str.ofString "__static_attributes__"), (.str (Str.ofString "__static_attributes__") 201), (.ref 22)⟩, ⟨PyData.keyHash P (Str.ofString "__weakref__"), (.str (Str.ofString "__weakref__") 203), (.ref 25)⟩, ⟨PyData.keyHash P (Str.ofString "__doc__"), (.str (Str.ofString "__doc__") 204), .none⟩] 3), #[]⟩
noncomputable def o_24_1 (P : Params) : Obj := ⟨(.type "type"), none, (.cls ⟨(Str.ofString "Error"), [(.type "Exception")], [(.ref 24), (.type "Exception"), (.type "BaseException"), (.type "object")], 23, (Str.ofString "Error"), true, [], [(.ref 37)], false, none, false⟩), #[(some (.ref 15)), none, (some (.str (Str.ofString "Error") 189)), (some (.str (Str.ofString "Error") 197)), (some (.builtin "Exception.__new__")), (some (.bool true))]⟩
noncomputable def o_25_1 (P : Params) : Obj := ⟨(.type "getset_descriptor"), none, (.fields #[(.str (Str.ofString "__weakref__") 202), (.ref 24), (.builtin "ExceptionGroup.__weakref__"), .none]), #[]⟩
noncomputable def o_26_1 (P : Params) : Obj := ⟨(.type "super"), none, (.fields #[(.ref 24), (.ref 24), (.ref 24)]), #[]⟩
noncomputable def o_27_1 (P : Params) : Obj := ⟨(.type "builtin_function_or_method"), none, (.fields #[(.builtin "object.__init_subclass__"), (.ref 24)]), #[]⟩
noncomputable def o_28_1 (P : Params) : Obj := ⟨(.type "tuple"), none, (.seq #[(.ref 24)] 0), #[]⟩
noncomputable def o_29_1 (P : Params) : Obj := ⟨(.type "builtin_function_or_method"), none, (.fields #[(.builtin "type.__prepare__"), (.type "type")]), #[]⟩
noncomputable def o_30_1 (P : Params) : Obj := ⟨(.type "dict"), none, (.dict #[⟨PyData.keyHash P (Str.ofString "__module__"), (.str (Str.ofString "__module__") 216), (.str (Str.ofString "cpy313.ftplib") 187)⟩, ⟨PyData.keyHash P (Str.ofString "__qualname__"), (.str (Str.ofString "__qualname__") 218), (.str (Str.ofString "error_reply") 217)⟩, ⟨PyData.keyHash P (Str.ofString "__firstlineno__"), (.str (Str.ofString "__firstlineno__") 220), (.int 4 219)⟩, ⟨PyData.keyHash P (Str.ofString "__static_attributes__"), (.str (Str.ofString "__static_attributes__") 221), (.ref 35)⟩] 4), #[]⟩
noncomputable def o_31_1 (P : Params) : Obj := ⟨(.type "tuple"), none, (.seq #[] 0), #[]⟩
noncomputable def o_32_1 (P : Params) : Obj := ⟨.none, none, (.fields #[]), #[]⟩
noncomputable def o_33_1 (P : Params) : Obj := ⟨(.type "code"), none, (.fields #[(.str (Str.ofString "error_reply") 211), (.str (Str.ofString "error_reply") 212), (.str (Str.ofString "/claim/cut.py") 213), (.int 4 0), (.int 0 0), (.int 0 0), (.int 0 0), (.int 0 0), (.ref 31), (.bool false), (.int 181 0), (.ref 32), .none, .none, .none, .none, (.int 214 0), (.int 4 0), (.str (Str.ofString "/claim/cut.py") 215)]), #[]⟩
noncomputable def o_34_1 (P : Params) : Obj := ⟨(.type "frame"), none, .plain, #[(some (.ref 33)), (some (.ref 3)), (some (.ref 30)), none, (some (.str (Str.ofString "cpy313.ftplib") 187)), none, (some (.ref 0))]⟩
noncomputable def o_35_1 (P : Params) : Obj := ⟨(.type "tuple"), none, (.seq #[] 0), #[]⟩
noncomputable def o_36_1 (P : Params) : Obj := ⟨(.type "dict"), none, (.dict #[⟨PyData.keyHash P (Str.ofString "__module__"), (.str (Str.ofString "__module__") 216), (.str (Str.ofString "cpy313.ftplib") 187)⟩, ⟨PyData.keyHash P (Str.ofString "__firstlineno__"), (.str (Str.ofString "__firstlineno__") 220), (.int 4 219)⟩, ⟨PyData.keyHash P (Str.ofString "__static_attributes__"), (.str (Str.ofString "__static_attributes__") 221), (.ref 35)⟩, ⟨PyData.keyHash P (Str.ofString "__doc__"), (.str (Str.ofString "__doc__") 222), .none⟩] 2), #[]⟩
noncomputable def o_37_1 (P : Params) : Obj := ⟨(.type "type"), none, (.cls ⟨(Str.ofString "error_reply"), [(.ref 24)], [(.ref 37), (.ref 24), (.type "Exception"), (.type "BaseException"), (.type "object")], 36, (Str.ofString "error_reply"), true, [], [], false, none, false⟩), #[(some (.ref 28)), none, (some (.str (Str.ofString "error_reply") 209)), (some (.str (Str.ofString "error_reply") 217)), (some (.builtin "Exception.__new__")), (some (.bool true))]⟩
noncomputable def o_38_1 (P : Params) : Obj := ⟨(.type "super"), none, (.fields #[(.ref 37), (.ref 37), (.ref 37)]), #[]⟩
noncomputable def o_39_1 (P : Params) : Obj := ⟨(.type "builtin_function_or_method"), none, (.fields #[(.builtin "object.__init_subclass__"), (.ref 37)]), #[]⟩
noncomputable def tr1 (P : Params) : BT := (.node (boot_o_0 P) (.node (boot_o_1 P) (.node (o_3_1 P) (.node (boot_o_7 P) (.node (o_15_1 P) (.node (o_31_1 P) .nil .nil) .nil) (.node (o_23_1 P) (.node (o_39_1 P) .nil .nil) .nil)) (.node (o_11_0 P) (.node (o_19_1 P) (.node (o_35_1 P) .nil .nil) .nil) (.node (o_27_1 P) .nil .nil))) (.node (boot_o_5 P) (.node (boot_o_9 P) (.node (o_17_1 P) (.node (o_33_1 P) .nil .nil) .nil) (.node (o_25_1 P) .nil .nil)) (.node (o_13_0 P) (.node (o_21_1 P) (.node (o_37_1 P) .nil .nil) .nil) (.node (o_29_1 P) .nil .nil)))) (.node (o_2_1 P) (.node (boot_o_4 P) (.node (boot_o_8 P) (.node (o_16_1 P) (.node (o_32_1 P) .nil .nil) .nil) (.node (o_24_1 P) .nil .nil)) (.node (o_12_1 P) (.node (o_20_1 P) (.node (o_36_1 P) .nil .nil) .nil) (.node (o_28_1 P) .nil .nil))) (.node (boot_o_6 P) (.node (boot_o_10 P) (.node (o_18_1 P) (.node (o_34_1 P) .nil .nil) .nil) (.node (o_26_1 P) .nil .nil)) (.node (o_14_0 P) (.node (o_22_1 P) (.node (o_38_1 P) .nil .nil) .nil) (.node (o_30_1 P) .nil .nil)))))
-- n 40 toks 225
noncomputable def pos1 : Pos := ⟨4, 0, 5, 8⟩
noncomputable def o_3_2 (P : Params) : Obj := ⟨(.type "dict"), none, (.dict #[⟨PyData.keyHash P (Str.ofString "__name__"), (.str (Str.ofString "__name__") 165), (.str (Str.ofString "cpy313.stringprep") 281)⟩, ⟨PyData.keyHash P (Str.ofString "__doc__"), (.str (Str.ofString "__doc__") 166), .none⟩, ⟨PyData.keyHash P (Str.ofString "__package__"), (.str (Str.ofString "__package__") 167), .none⟩, ⟨PyData.keyHash P (Str.ofString "__loader__"), (.str (Str.ofString "__loader__") 168), (.builtin "__main__.__loader__#opaque")⟩, ⟨PyData.keyHash P (Str.ofString "__spec__"), (.str (Str.ofString "__spec__") 169), .none⟩, ⟨PyData.keyHash P (Str.ofString "__annotations__"), (.str (Str.ofString "__annotations__") 170), (.ref 6)⟩, ⟨PyData.keyHash P (Str.ofString "__builtins__"), (.str (Str.ofString "__builtins__") 171), (.ref 4)⟩, ⟨PyData.keyHash P (Str.ofString "__file__"), (.str (Str.ofString "__file__") 173), (.str (Str.ofString "/claim/cut.py") 172)⟩, ⟨PyData.keyHash P (Str.ofString "__cached__"), (.str (Str.ofString "__cached__") 174), .none⟩, ⟨PyData.keyHash P (Str.ofString "Error"), (.str (Str.ofString "Error") 208), (.ref 24)⟩, ⟨PyData.keyHash P (Str.ofString "error_reply"), (.str (Str.ofString "error_reply") 224), (.ref 37)⟩, ⟨PyData.keyHash P (Str.ofString "error_proto"), (.str (Str.ofString "error_proto") 240), (.ref 49)⟩, ⟨PyData.keyHash P (Str.ofString "parse229"), (.str (Str.ofString "parse229") 253), (.ref 58)⟩, ⟨PyData.keyHash P (Str.ofString "parse257"), (.str (Str.ofString "parse257") 264), (.ref 65)⟩, ⟨PyData.keyHash P (Str.ofString "ELLIPSIS_MARKER"), (.str (Str.ofString "ELLIPSIS_MARKER") 268), (.str (Str.ofString "...") 267)⟩, ⟨PyData.keyHash P (Str.ofString "_ellipsis_match"), (.str (Str.ofString "_ellipsis_match") 280), (.ref 72)⟩] 16), #[]⟩
noncomputable def o_12_2 (P : Params) : Obj := ⟨.none, none, (.fields #[(.int 2 0), (.int 0 0), (.ref 20), (.int 4 0), (.int 0 0), (.ref 33), (.int 6 0), (.int 0 0), (.ref 45), (.int 8 0), (.int 0 0), (.ref 57), (.int 25 0), (.int 0 0), (.ref 64), (.int 44 0), (.int 0 0), (.ref 71)]), #[]⟩
noncomputable def o_24_2 (P : Params) : Obj := ⟨(.type "type"), none, (.cls ⟨(Str.ofString "Error"), [(.type "Exception")], [(.ref 24), (.type "Exception"), (.type "BaseException"), (.type "object")], 23, (Str.ofString "Error"), true, [], [(.ref 37), (.ref 49)], false, none, false⟩), #[(some (.ref 15)), none, (some (.str (Str.ofString "Error") 189)), (some (.str (Str.ofString "Error") 197)), (some (.builtin "Exception.__new__")), (some (.bool true))]⟩
noncomputable def o_40_2 (P : Params) : Obj := ⟨(.type "tuple"), none, (.seq #[(.ref 24)] 0), #[]⟩
noncomputable def o_41_2 (P : Params) : Obj := ⟨(.type "builtin_function_or_method"), none, (.fields #[(.builtin "type.__prepare__"), (.type "type")]), #[]⟩
noncomputable def o_42_2 (P : Params) : Obj := ⟨(.type "dict"), none, (.dict #[⟨PyData.keyHash P (Str.ofString "__module__"), (.str (Str.ofString "__module__") 232), (.str (Str.ofString "cpy313.ftplib") 187)⟩, ⟨PyData.keyHash P (Str.ofString "__qualname__"), (.str (Str.ofString "__qualname__") 234), (.str (Str.ofString "error_proto") 233)⟩, ⟨PyData.keyHash P (Str.ofString "__firstlineno__"), (.str (Str.ofString "__firstlineno__") 236), (.int 6 235)⟩, ⟨PyData.keyHash P (Str.ofString "__static_attributes__"), (.str (Str.ofString "__static_attributes__") 237), (.ref 47)⟩] 4), #[]⟩
noncomputable def o_43_2 (P : Params) : Obj := ⟨(.type "tuple"), none, (.seq #[] 0), #[]⟩
noncomputable def o_44_2 (P : Params) : Obj := ⟨.none, none, (.fields #[]), #[]⟩
noncomputable def o_45_2 (P : Params) : Obj := ⟨(.type "code"), none, (.fields #[(.str (Str.ofString "error_proto") 227), (.str (Str.ofString "error_proto") 228), (.str (Str.ofString "/claim/cut.py") 229), (.int 6 0), (.int 0 0), (.int 0 0), (.int 0 0), (.int 0 0), (.ref 43), (.bool false), (.int 181 0), (.ref 44), .none, .none, .none, .none, (.int 230 0), (.int 6 0), (.str (Str.ofString "/claim/cut.py") 231)]), #[]⟩
noncomputable def o_46_2 (P : Params) : Obj := ⟨(.type "frame"), none, .plain, #[(some (.ref 45)), (some (.ref 3)), (some (.ref 42)), none, (some (.str (Str.ofString "cpy313.ftplib") 187)), none, (some (.ref 0))]⟩
noncomputable def o_47_2 (P : Params) : Obj := ⟨(.type "tuple"), none, (.seq #[] 0), #[]⟩
noncomputable def o_48_2 (P : Params) : Obj := ⟨(.type "dict"), none, (.dict #[⟨PyData.keyHash P (Str.ofString "__module__"), (.str (Str.ofString "__module__") 232), (.str (Str.ofString "cpy313.ftplib") 187)⟩, ⟨PyData.keyHash P (Str.ofString "__firstlineno__"), (.str (Str.ofString "__firstlineno__") 236), (.int 6 235)⟩, ⟨PyData.keyHash P (Str.ofString "__static_attributes__"), (.str (Str.ofString "__static_attributes__") 237), (.ref 47)⟩, ⟨PyData.keyHash P (Str.ofString "__doc__"), (.str (Str.ofString "__doc__") 238), .none⟩] 2), #[]⟩
noncomputable def o_49_2 (P : Params) : Obj := ⟨(.type "type"), none, (.cls ⟨(Str.ofString "error_proto"), [(.ref 24)], [(.ref 49), (.ref 24), (.type "Exception"), (.type "BaseException"), (.type "object")], 48, (Str.ofString "error_proto"), true, [], [], false, none, false⟩), #[(some (.ref 40)), none, (some (.str (Str.ofString "error_proto") 225)), (some (.str (Str.ofString "error_proto") 233)), (some (.builtin "Exception.__new__")), (some (.bool true))]⟩
noncomputable def o_50_2 (P : Params) : Obj := ⟨(.type "super"), none, (.fields #[(.ref 49), (.ref 49), (.ref 49)]), #[]⟩
noncomputable def o_51_2 (P : Params) : Obj := ⟨(.type "builtin_function_or_method"), none, (.fields #[(.builtin "object.__init_subclass__"), (.ref 49)]), #[]⟩
noncomputable def o_52_2 (P : Params) : Obj := ⟨(.type "tuple"), none, (.seq #[] 0), #[]⟩
noncomputable def o_53_2 (P : Params) : Obj := ⟨.none, none, (.fields #[]), #[]⟩
noncomputable def o_54_2 (P : Params) : Obj := ⟨(.type "tuple"), none, (.seq #[(.str (Str.ofString "resp") 244), (.str (Str.ofString "peer") 245), (.str (Str.ofString "left") 246), (.str (Str.ofString "right") 247), (.str (Str.ofString "parts") 248), (.str (Str.ofString "host") 249), (.str (Str.ofString "port") 250)] 0), #[]⟩
noncomputable def o_55_2 (P : Params) : Obj := ⟨(.type "tuple"), none, (.seq #[] 0), #[]⟩
noncomputable def o_56_2 (P : Params) : Obj := ⟨.none, none, (.func ⟨(Str.ofString "parse229"), (Str.ofString "parse229"), (fdOf 4).1, .stmts (fdOf 4).2.1, (fdOf 4).2.2, 0, [], .none, .none, .none, .none, none, .none, .none, 0⟩), #[]⟩
noncomputable def o_57_2 (P : Params) : Obj := ⟨(.type "code"), none, (.fields #[(.str (Str.ofString "parse229") 241), (.str (Str.ofString "parse229") 242), (.str (Str.ofString "/claim/cut.py") 243), (.int 8 0), (.int 2 0), (.int 0 0), (.int 0 0), (.int 3 0), (.ref 52), (.bool true), (.int 181 0), (.ref 53), .none, (.ref 54), (.ref 55), (.ref 56), (.int 251 0), (.int 8 0), (.str (Str.ofString "/claim/cut.py") 252)]), #[]⟩
noncomputable def o_58_2 (P : Params) : Obj := ⟨(.type "function"), none, (.func ⟨(Str.ofString "parse229"), (Str.ofString "parse229"), (fdOf 4).1, .stmts (fdOf 4).2.1, (fdOf 4).2.2, 3, [], .none, .none, .none, (.str (Str.ofString "cpy313.ftplib") 187), none, (.ref 57), .none, 0⟩), #[]⟩
noncomputable def o_59_2 (P : Params) : Obj := ⟨(.type "tuple"), none, (.seq #[] 0), #[]⟩
noncomputable def o_60_2 (P : Params) : Obj := ⟨.none, none, (.fields #[]), #[]⟩
noncomputable def o_61_2 (P : Params) : Obj := ⟨(.type "tuple"), none, (.seq #[(.str (Str.ofString "resp") 257), (.str (Str.ofString "dirname") 258), (.str (Str.ofString "i") 259), (.str (Str.ofString "n") 260), (.str (Str.ofString "c") 261)] 0), #[]⟩
noncomputable def o_62_2 (P : Params) : Obj := ⟨(.type "tuple"), none, (.seq #[] 0), #[]⟩
noncomputable def o_63_2 (P : Params) : Obj := ⟨.none, none, (.func ⟨(Str.ofString "parse257"), (Str.ofString "parse257"), (fdOf 5).1, .stmts (fdOf 5).2.1, (fdOf 5).2.2, 0, [], .none, .none, .none, .none, none, .none, .none, 0⟩), #[]⟩
noncomputable def o_64_2 (P : Params) : Obj := ⟨(.type "code"), none, (.fields #[(.str (Str.ofString "parse257") 254), (.str (Str.ofString "parse257") 255), (.str (Str.ofString "/claim/cut.py") 256), (.int 25 0), (.int 1 0), (.int 0 0), (.int 0 0), (.int 3 0), (.ref 59), (.bool true), (.int 181 0), (.ref 60), .none, (.ref 61), (.ref 62), (.ref 63), (.int 262 0), (.int 25 0), (.str (Str.ofString "/claim/cut.py") 263)]), #[]⟩
noncomputable def o_65_2 (P : Params) : Obj := ⟨(.type "function"), none, (.func ⟨(Str.ofString "parse257"), (Str.ofString "parse257"), (fdOf 5).1, .stmts (fdOf 5).2.1, (fdOf 5).2.2, 3, [], .none, .none, .none, (.str (Str.ofString "cpy313.ftplib") 187), none, (.ref 64), .none, 0⟩), #[]⟩
noncomputable def o_66_2 (P : Params) : Obj := ⟨(.type "tuple"), none, (.seq #[] 0), #[]⟩
noncomputable def o_67_2 (P : Params) : Obj := ⟨.none, none, (.fields #[]), #[]⟩
noncomputable def o_68_2 (P : Params) : Obj := ⟨(.type "tuple"), none, (.seq #[(.str (Str.ofString "want") 272), (.str (Str.ofString "got") 273), (.str (Str.ofString "ws") 274), (.str (Str.ofString "startpos") 275), (.str (Str.ofString "endpos") 276), (.str (Str.ofString "w") 277)] 0), #[]⟩
noncomputable def o_69_2 (P : Params) : Obj := ⟨(.type "tuple"), none, (.seq #[] 0), #[]⟩
noncomputable def o_70_2 (P : Params) : Obj := ⟨.none, none, (.func ⟨(Str.ofString "_ellipsis_match"), (Str.ofString "_ellipsis_match"), (fdOf 8).1, .stmts (fdOf 8).2.1, (fdOf 8).2.2, 0, [], .none, .none, .none, .none, none, .none, .none, 0⟩), #[]⟩
noncomputable def o_71_2 (P : Params) : Obj := ⟨(.type "code"), none, (.fields #[(.str (Str.ofString "_ellipsis_match") 269), (.str (Str.ofString "_ellipsis_match") 270), (.str (Str.ofString "/claim/cut.py") 271), (.int 44 0), (.int 2 0), (.int 0 0), (.int 0 0), (.int 3 0), (.ref 66), (.bool true), (.int 181 0), (.ref 67), .none, (.ref 68), (.ref 69), (.ref 70), (.int 278 0), (.int 44 0), (.str (Str.ofString "/claim/cut.py") 279)]), #[]⟩
noncomputable def o_72_2 (P : Params) : Obj := ⟨(.type "function"), none, (.func ⟨(Str.ofString "_ellipsis_match"), (Str.ofString "_ellipsis_match"), (fdOf 8).1, .stmts (fdOf 8).2.1, (fdOf 8).2.2, 3, [], .none, .none, .none, (.str (Str.ofString "cpy313.doctest") 265), none, (.ref 71), .none, 0⟩), #[]⟩
noncomputable def tr2 (P : Params) : BT := (.node (boot_o_0 P) (.node (boot_o_1 P) (.node (o_3_2 P) (.node (boot_o_7 P) (.node (o_15_1 P) (.node (o_31_1 P) (.node (o_63_2 P) .nil .nil) .nil) (.node (o_47_2 P) .nil .nil)) (.node (o_23_1 P) (.node (o_39_1 P) (.node (o_71_2 P) .nil .nil) .nil) (.node (o_55_2 P) .nil .nil))) (.node (o_11_0 P) (.node (o_19_1 P) (.node (o_35_1 P) (.node (o_67_2 P) .nil .nil) .nil) (.node (o_51_2 P) .nil .nil)) (.node (o_27_1 P) (.node (o_43_2 P) .nil .nil) (.node (o_59_2 P) .nil .nil)))) (.node (boot_o_5 P) (.node (boot_o_9 P) (.node (o_17_1 P) (.node (o_33_1 P) (.node (o_65_2 P) .nil .nil) .nil) (.node (o_49_2 P) .nil .nil)) (.node (o_25_1 P) (.node (o_41_2 P) .nil .nil) (.node (o_57_2 P) .nil .nil))) (.node (o_13_0 P) (.node (o_21_1 P) (.node (o_37_1 P) (.node (o_69_2 P) .nil .nil) .nil) (.node (o_53_2 P) .nil .nil)) (.node (o_29_1 P) (.node (o_45_2 P) .nil .nil) (.node (o_61_2 P) .nil .nil))))) (.node (o_2_1 P) (.node (boot_o_4 P) (.node (boot_o_8 P) (.node (o_16_1 P) (.node (o_32_1 P) (.node (o_64_2 P) .nil .nil) .nil) (.node (o_48_2 P) .nil .nil)) (.node (o_24_2 P) (.node (o_40_2 P) (.node (o_72_2 P) .nil .nil) .nil) (.node (o_56_2 P) .nil .nil))) (.node (o_12_2 P) (.node (o_20_1 P) (.node (o_36_1 P) (.node (o_68_2 P) .nil .nil) .nil) (.node (o_52_2 P) .nil .nil)) (.node (o_28_1 P) (.node (o_44_2 P) .nil .nil) (.node (o_60_2 P) .nil .nil)))) (.node (boot_o_6 P) (.node (boot_o_10 P) (.node (o_18_1 P) (.node (o_34_1 P) (.node (o_66_2 P) .nil .nil) .nil) (.node (o_50_2 P) .nil .nil)) (.node (o_26_1 P) (.node (o_42_2 P) .nil .nil) (.node (o_58_2 P) .nil .nil))) (.node (o_14_0 P) (.node (o_22_1 P) (.node (o_38_1 P) (.node (o_70_2 P) .nil .nil) .nil) (.node (o_54_2 P) .nil .nil)) (.node (o_30_1 P) (.node (o_46_2 P) .nil .nil) (.node (o_62_2 P) .nil .nil))))))
-- n 73 toks 283
noncomputable def pos2 : Pos := ⟨72, 0, 72, 8⟩
noncomputable def o_3_3 (P : Params) : Obj := ⟨(.type "dict"), none, (.dict #[⟨PyData.keyHash P (Str.ofString "__name__"), (.str (Str.ofString "__name__") 165), (.str (Str.ofString "cpy313.stringprep") 281)⟩, ⟨PyData.keyHash P (Str.ofString "__doc__"), (.str (Str.ofString "__doc__") 166), .none⟩, ⟨PyData.keyHash P (Str.ofString "__package__"), (.str (Str.ofString "__package__") 167), .none⟩, ⟨PyData.keyHash P (Str.ofString "__loader__"), (.str (Str.ofString "__loader__") 168), (.builtin "__main__.__loader__#opaque")⟩, ⟨PyData.keyHash P (Str.ofString "__spec__"), (.str (Str.ofString "__spec__") 169), .none⟩, ⟨PyData.keyHash P (Str.ofString "__annotations__"), (.str (Str.ofString "__annotations__") 170), (.ref 6)⟩, ⟨PyData.keyHash P (Str.ofString "__builtins__"), (.str (Str.ofString "__builtins__") 171), (.ref 4)⟩, ⟨PyData.keyHash P (Str.ofString "__file__"), (.str (Str.ofString "__file__") 173), (.str (Str.ofString "/claim/cut.py") 172)⟩, ⟨PyData.keyHash P (Str.ofString "__cached__"), (.str (Str.ofString "__cached__") 174), .none⟩, ⟨PyData.keyHash P (Str.ofString "Error"), (.str (Str.ofString "Error") 208), (.ref 24)⟩, ⟨PyData.keyHash P (Str.ofString "error_reply"), (.str (Str.ofString "error_reply") 224), (.ref 37)⟩, ⟨PyData.keyHash P (Str.ofString "error_proto"), (.str (Str.ofString "error_proto") 240), (.ref 49)⟩, ⟨PyData.keyHash P (Str.ofString "parse229"), (.str (Str.ofString "parse229") 253), (.ref 58)⟩, ⟨PyData.keyHash P (Str.ofString "parse257"), (.str (Str.ofString "parse257") 264), (.ref 65)⟩, ⟨PyData.keyHash P (Str.ofString "ELLIPSIS_MARKER"), (.str (Str.ofString "ELLIPSIS_MARKER") 268), (.str (Str.ofString "...") 267)⟩, ⟨PyData.keyHash P (Str.ofString "_ellipsis_match"), (.str (Str.ofString "_ellipsis_match") 280), (.ref 72)⟩, ⟨PyData.keyHash P (Str.ofString "b1_set"), (.str (Str.ofString "b1_set") 342), (.ref 80)⟩] 17), #[]⟩
noncomputable def o_73_3 (P : Params) : Obj := ⟨(.type "list"), none, (.seq #[(.int 173 283), (.int 847 284), (.int 6150 285), (.int 6155 286), (.int 6156 287), (.int 6157 288), (.int 8203 289), (.int 8204 290), (.int 8205 291), (.int 8288 292), (.int 65279 293)] 0), #[]⟩
noncomputable def o_74_3 (P : Params) : Obj := ⟨(.type "range"), none, (.fields #[(.int 65024 294), (.int 65040 295), (.int 1 296)]), #[]⟩
noncomputable def o_75_3 (P : Params) : Obj := ⟨(.type "list"), none, (.seq #[(.int 65024 299), (.int 65025 300), (.int 65026 301), (.int 65027 302), (.int 65028 303), (.int 65029 304), (.int 65030 305), (.int 65031 306), (.int 65032 307), (.int 65033 308), (.int 65034 309), (.int 65035 310), (.int 65036 311), (.int 65037 312), (.int 65038 313), (.int 65039 314)] 18), #[]⟩
noncomputable def o_76_3 (P : Params) : Obj := ⟨(.type "range_iterator"), none, (.fields #[(.int 65040 0), (.int 0 0), (.int 1 0)]), #[]⟩
noncomputable def o_77_3 (P : Params) : Obj := ⟨(.type "tuple"), none, (.seq #[] 0), #[]⟩
noncomputable def o_78_3 (P : Params) : Obj := ⟨(.type "StopIteration"), none, (.fields #[(.ref 77), .none, .none, .none, (.bool false), .none]), #[]⟩
noncomputable def o_79_3 (P : Params) : Obj := ⟨(.type "list"), none, (.seq #[(.int 173 283), (.int 847 284), (.int 6150 285), (.int 6155 286), (.int 6156 287), (.int 6157 288), (.int 8203 289), (.int 8204 290), (.int 8205 291), (.int 8288 292), (.int 65279 293), (.int 65024 299), (.int 65025 300), (.int 65026 301), (.int 65027 302), (.int 65028 303), (.int 65029 304), (.int 65030 305), (.int 65031 306), (.int 65032 307), (.int 65033 308), (.int 65034 309), (.int 65035 310), (.int 65036 311), (.int 65037 312), (.int 65038 313), (.int 65039 314)] 0), #[]⟩
noncomputable def o_80_3 (P : Params) : Obj := ⟨(.type "set"), none, (.set #[(65024, (.int 65024 299)), (65025, (.int 65025 300)), (65026, (.int 65026 301)), (65027, (.int 65027 302)), (65028, (.int 65028 303)), (65029, (.int 65029 304)), (6150, (.int 6150 285)), (65030, (.int 65030 305)), (65031, (.int 65031 306)), (65032, (.int 65032 307)), (65033, (.int 65033 308)), (6155, (.int 6155 286)), (6156, (.int 6156 287)), (6157, (.int 6157 288)), (8203, (.int 8203 289)), (8204, (.int 8204 290)), (8205, (.int 8205 291)), (65034, (.int 65034 309)), (65035, (.int 65035 310)), (65036, (.int 65036 311)), (65037, (.int 65037 312)), (65038, (.int 65038 313)), (65039, (.int 65039 314)), (173, (.int 173 283)), (847, (.int 847 284)), (8288, (.int 8288 292)), (65279, (.int 65279 293))] 29 ⟨127, #[0, 1, 2, 3, 4, 5, 6, 7, 8, 9, 10, 11, 12, 13, 14, 15, 16, 17, 18, 19, 20, 21, 22, 45, 79, 96, 127], #[], 0, !(P.followText "set-order"), 2, true⟩), #[]⟩
noncomputable def o_81_3 (P : Params) : Obj := ⟨(.type "list_iterator"), none, (.fields #[.none, (.int 27 0)]), #[]⟩
noncomputable def o_82_3 (P : Params) : Obj := ⟨(.type "tuple"), none, (.seq #[] 0), #[]⟩
noncomputable def o_83_3 (P : Params) : Obj := ⟨(.type "StopIteration"), none, (.fields #[(.ref 82), .none, .none, .none, (.bool false), .none]), #[]⟩
noncomputable def tr3 (P : Params) : BT := (.node (boot_o_0 P) (.node (boot_o_1 P) (.node (o_3_3 P) (.node (boot_o_7 P) (.node (o_15_1 P) (.node (o_31_1 P) (.node (o_63_2 P) .nil .nil) .nil) (.node (o_47_2 P) (.node (o_79_3 P) .nil .nil) .nil)) (.node (o_23_1 P) (.node (o_39_1 P) (.node (o_71_2 P) .nil .nil) .nil) (.node (o_55_2 P) .nil .nil))) (.node (o_11_0 P) (.node (o_19_1 P) (.node (o_35_1 P) (.node (o_67_2 P) .nil .nil) .nil) (.node (o_51_2 P) (.node (o_83_3 P) .nil .nil) .nil)) (.node (o_27_1 P) (.node (o_43_2 P) (.node (o_75_3 P) .nil .nil) .nil) (.node (o_59_2 P) .nil .nil)))) (.node (boot_o_5 P) (.node (boot_o_9 P) (.node (o_17_1 P) (.node (o_33_1 P) (.node (o_65_2 P) .nil .nil) .nil) (.node (o_49_2 P) (.node (o_81_3 P) .nil .nil) .nil)) (.node (o_25_1 P) (.node (o_41_2 P) (.node (o_73_3 P) .nil .nil) .nil) (.node (o_57_2 P) .nil .nil))) (.node (o_13_0 P) (.node (o_21_1 P) (.node (o_37_1 P) (.node (o_69_2 P) .nil .nil) .nil) (.node (o_53_2 P) .nil .nil)) (.node (o_29_1 P) (.node (o_45_2 P) (.node (o_77_3 P) .nil .nil) .nil) (.node (o_61_2 P) .nil .nil))))) (.node (o_2_1 P) (.node (boot_o_4 P) (.node (boot_o_8 P) (.node (o_16_1 P) (.node (o_32_1 P) (.node (o_64_2 P) .nil .nil) .nil) (.node (o_48_2 P) (.node (o_80_3 P) .nil .nil) .nil)) (.node (o_24_2 P) (.node (o_40_2 P) (.node (o_72_2 P) .nil .nil) .nil) (.node (o_56_2 P) .nil .nil))) (.node (o_12_2 P) (.node (o_20_1 P) (.node (o_36_1 P) (.node (o_68_2 P) .nil .nil) .nil) (.node (o_52_2 P) .nil .nil)) (.node (o_28_1 P) (.node (o_44_2 P) (.node (o_76_3 P) .nil .nil) .nil) (.node (o_60_2 P) .nil .nil)))) (.node (boot_o_6 P) (.node (boot_o_10 P) (.node (o_18_1 P) (.node (o_34_1 P) (.node (o_66_2 P) .nil .nil) .nil) (.node (o_50_2 P) (.node (o_82_3 P) .nil .nil) .nil)) (.node (o_26_1 P) (.node (o_42_2 P) (.node (o_74_3 P) .nil .nil) .nil) (.node (o_58_2 P) .nil .nil))) (.node (o_14_0 P) (.node (o_22_1 P) (.node (o_38_1 P) (.node (o_70_2 P) .nil .nil) .nil) (.node (o_54_2 P) .nil .nil)) (.node (o_30_1 P) (.node (o_46_2 P) (.node (o_78_3 P) .nil .nil) .nil) (.node (o_62_2 P) .nil .nil))))))
-- n 84 toks 343
noncomputable def pos3 : Pos := ⟨73, 0, 73, 6⟩
noncomputable def o_3_4 (P : Params) : Obj := ⟨(.type "dict"), none, (.dict #[⟨PyData.keyHash P (Str.ofString "__name__"), (.str (Str.ofString "__name__") 165), (.str (Str.ofString "cpy313.stringprep") 281)⟩, ⟨PyData.keyHash P (Str.ofString "__doc__"), (.str (Str.ofString "__doc__") 166), .none⟩, ⟨PyData.keyHash P (Str.ofString "__package__"), (.str (Str.ofString "__package__") 167), .none⟩, ⟨PyData.keyHash P (Str.ofString "__loader__"), (.str (Str.ofString "__loader__") 168), (.builtin "__main__.__loader__#opaque")⟩, ⟨PyData.keyHash P (Str.ofString "__spec__"), (.str (Str.ofString "__spec__") 169), .none⟩, ⟨PyData.keyHash P (Str.ofString "__annotations__"), (.str (Str.ofString "__annotations__") 170), (.ref 6)⟩, ⟨PyData.keyHash P (Str.ofString "__builtins__"), (.str (Str.ofString "__builtins__") 171), (.ref 4)⟩, ⟨PyData.keyHash P (Str.ofString "__file__"), (.str (Str.ofString "__file__") 173), (.str (Str.ofString "/claim/cut.py") 172)⟩, ⟨PyData.keyHash P (Str.ofString "__cached__"), (.str (Str.ofString "__cached__") 174), .none⟩, ⟨PyData.keyHash P (Str.ofString "Error"), (.str (Str.ofString "Error") 208), (.ref 24)⟩, ⟨PyData.keyHash P (Str.ofString "error_reply"), (.str (Str.ofString "error_reply") 224), (.ref 37)⟩, ⟨PyData.keyHash P (Str.ofString "error_proto"), (.str (Str.ofString "error_proto") 240), (.ref 49)⟩, ⟨PyData.keyHash P (Str.ofString "parse229"), (.str (Str.ofString "parse229") 253), (.ref 58)⟩, ⟨PyData.keyHash P (Str.ofString "parse257"), (.str (Str.ofString "parse257") 264), (.ref 65)⟩, ⟨PyData.keyHash P (Str.ofString "ELLIPSIS_MARKER"), (.str (Str.ofString "ELLIPSIS_MARKER") 268), (.str (Str.ofString "...") 267)⟩, ⟨PyData.keyHash P (Str.ofString "_ellipsis_match"), (.str (Str.ofString "_ellipsis_match") 280), (.ref 72)⟩, ⟨PyData.keyHash P (Str.ofString "b1_set"), (.str (Str.ofString "b1_set") 342), (.ref 80)⟩, ⟨PyData.keyHash P (Str.ofString "in_table_b1"), (.str (Str.ofString "in_table_b1") 349), (.ref 90)⟩] 18), #[]⟩
noncomputable def o_12_4 (P : Params) : Obj := ⟨.none, none, (.fields #[(.int 2 0), (.int 0 0), (.ref 20), (.int 4 0), (.int 0 0), (.ref 33), (.int 6 0), (.int 0 0), (.ref 45), (.int 8 0), (.int 0 0), (.ref 57), (.int 25 0), (.int 0 0), (.ref 64), (.int 44 0), (.int 0 0), (.ref 71), (.int 74 0), (.int 0 0), (.ref 89)]), #[]⟩
noncomputable def o_84_4 (P : Params) : Obj := ⟨(.type "tuple"), none, (.seq #[] 0), #[]⟩
noncomputable def o_85_4 (P : Params) : Obj := ⟨.none, none, (.fields #[]), #[]⟩
noncomputable def o_86_4 (P : Params) : Obj := ⟨(.type "tuple"), none, (.seq #[(.str (Str.ofString "code") 346)] 0), #[]⟩
noncomputable def o_87_4 (P : Params) : Obj := ⟨(.type "tuple"), none, (.seq #[] 0), #[]⟩
noncomputable def o_88_4 (P : Params) : Obj := ⟨.none, none, (.func ⟨(Str.ofString "in_table_b1"), (Str.ofString "in_table_b1"), (fdOf 11).1, .stmts (fdOf 11).2.1, (fdOf 11).2.2, 0, [], .none, .none, .none, .none, none, .none, .none, 0⟩), #[]⟩
noncomputable def o_89_4 (P : Params) : Obj := ⟨(.type "code"), none, (.fields #[(.str (Str.ofString "in_table_b1") 343), (.str (Str.ofString "in_table_b1") 344), (.str (Str.ofString "/claim/cut.py") 345), (.int 74 0), (.int 1 0), (.int 0 0), (.int 0 0), (.int 3 0), (.ref 84), (.bool true), (.int 181 0), (.ref 85), .none, (.ref 86), (.ref 87), (.ref 88), (.int 347 0), (.int 74 0), (.str (Str.ofString "/claim/cut.py") 348)]), #[]⟩
noncomputable def o_90_4 (P : Params) : Obj := ⟨(.type "function"), none, (.func ⟨(Str.ofString "in_table_b1"), (Str.ofString "in_table_b1"), (fdOf 11).1, .stmts (fdOf 11).2.1, (fdOf 11).2.2, 3, [], .none, .none, .none, (.str (Str.ofString "cpy313.stringprep") 281), none, (.ref 89), .none, 0⟩), #[]⟩
noncomputable def tr4 (P : Params) : BT := (.node (boot_o_0 P) (.node (boot_o_1 P) (.node (o_3_4 P) (.node (boot_o_7 P) (.node (o_15_1 P) (.node (o_31_1 P) (.node (o_63_2 P) .nil .nil) .nil) (.node (o_47_2 P) (.node (o_79_3 P) .nil .nil) .nil)) (.node (o_23_1 P) (.node (o_39_1 P) (.node (o_71_2 P) .nil .nil) .nil) (.node (o_55_2 P) (.node (o_87_4 P) .nil .nil) .nil))) (.node (o_11_0 P) (.node (o_19_1 P) (.node (o_35_1 P) (.node (o_67_2 P) .nil .nil) .nil) (.node (o_51_2 P) (.node (o_83_3 P) .nil .nil) .nil)) (.node (o_27_1 P) (.node (o_43_2 P) (.node (o_75_3 P) .nil .nil) .nil) (.node (o_59_2 P) .nil .nil)))) (.node (boot_o_5 P) (.node (boot_o_9 P) (.node (o_17_1 P) (.node (o_33_1 P) (.node (o_65_2 P) .nil .nil) .nil) (.node (o_49_2 P) (.node (o_81_3 P) .nil .nil) .nil)) (.node (o_25_1 P) (.node (o_41_2 P) (.node (o_73_3 P) .nil .nil) .nil) (.node (o_57_2 P) (.node (o_89_4 P) .nil .nil) .nil))) (.node (o_13_0 P) (.node (o_21_1 P) (.node (o_37_1 P) (.node (o_69_2 P) .nil .nil) .nil) (.node (o_53_2 P) (.node (o_85_4 P) .nil .nil) .nil)) (.node (o_29_1 P) (.node (o_45_2 P) (.node (o_77_3 P) .nil .nil) .nil) (.node (o_61_2 P) .nil .nil))))) (.node (o_2_1 P) (.node (boot_o_4 P) (.node (boot_o_8 P) (.node (o_16_1 P) (.node (o_32_1 P) (.node (o_64_2 P) .nil .nil) .nil) (.node (o_48_2 P) (.node (o_80_3 P) .nil .nil) .nil)) (.node (o_24_2 P) (.node (o_40_2 P) (.node (o_72_2 P) .nil .nil) .nil) (.node (o_56_2 P) (.node (o_88_4 P) .nil .nil) .nil))) (.node (o_12_4 P) (.node (o_20_1 P) (.node (o_36_1 P) (.node (o_68_2 P) .nil .nil) .nil) (.node (o_52_2 P) (.node (o_84_4 P) .nil .nil) .nil)) (.node (o_28_1 P) (.node (o_44_2 P) (.node (o_76_3 P) .nil .nil) .nil) (.node (o_60_2 P) .nil .nil)))) (.node (boot_o_6 P) (.node (boot_o_10 P) (.node (o_18_1 P) (.node (o_34_1 P) (.node (o_66_2 P) .nil .nil) .nil) (.node (o_50_2 P) (.node (o_82_3 P) .nil .nil) .nil)) (.node (o_26_1 P) (.node (o_42_2 P) (.node (o_74_3 P) .nil .nil) .nil) (.node (o_58_2 P) (.node (o_90_4 P) .nil .nil) .nil))) (.node (o_14_0 P) (.node (o_22_1 P) (.node (o_38_1 P) (.node (o_70_2 P) .nil .nil) .nil) (.node (o_54_2 P) (.node (o_86_4 P) .nil .nil) .nil)) (.node (o_30_1 P) (.node (o_46_2 P) (.node (o_78_3 P) .nil .nil) .nil) (.node (o_62_2 P) .nil .nil))))))
-- n 91 toks 350
noncomputable def pos4 : Pos := ⟨74, 0, 75, 30⟩
noncomputable def o_3_5 (P : Params) : Obj := ⟨(.type "dict"), none, (.dict #[⟨PyData.keyHash P (Str.ofString "__name__"), (.str (Str.ofString "__name__") 165), (.str (Str.ofString "cpy313.stringprep") 281)⟩, ⟨PyData.keyHash P (Str.ofString "__doc__"), (.str (Str.ofString "__doc__") 166), .none⟩, ⟨PyData.keyHash P (Str.ofString "__package__"), (.str (Str.ofString "__package__") 167), .none⟩, ⟨PyData.keyHash P (Str.ofString "__loader__"), (.str (Str.ofString "__loader__") 168), (.builtin "__main__.__loader__#opaque")⟩, ⟨PyData.keyHash P (Str.ofString "__spec__"), (.str (Str.ofString "__spec__") 169), .none⟩, ⟨PyData.keyHash P (Str.ofString "__annotations__"), (.str (Str.ofString "__annotations__") 170), (.ref 6)⟩, ⟨PyData.keyHash P (Str.ofString "__builtins__"), (.str (Str.ofString "__builtins__") 171), (.ref 4)⟩, ⟨PyData.keyHash P (Str.ofString "__file__"), (.str (Str.ofString "__file__") 173), (.str (Str.ofString "/claim/cut.py") 172)⟩, ⟨PyData.keyHash P (Str.ofString "__cached__"), (.str (Str.ofString "__cached__") 174), .none⟩, ⟨PyData.keyHash P (Str.ofString "Error"), (.str (Str.ofString "Error") 208), (.ref 24)⟩, ⟨PyData.keyHash P (Str.ofString "error_reply"), (.str (Str.ofString "error_reply") 224), (.ref 37)⟩, ⟨PyData.keyHash P (Str.ofString "error_proto"), (.str (Str.ofString "error_proto") 240), (.ref 49)⟩, ⟨PyData.keyHash P (Str.ofString "parse229"), (.str (Str.ofString "parse229") 253), (.ref 58)⟩, ⟨PyData.keyHash P (Str.ofString "parse257"), (.str (Str.ofString "parse257") 264), (.ref 65)⟩, ⟨PyData.keyHash P (Str.ofString "ELLIPSIS_MARKER"), (.str (Str.ofString "ELLIPSIS_MARKER") 268), (.str (Str.ofString "...") 267)⟩, ⟨PyData.keyHash P (Str.ofString "_ellipsis_match"), (.str (Str.ofString "_ellipsis_match") 280), (.ref 72)⟩, ⟨PyData.keyHash P (Str.ofString "b1_set"), (.str (Str.ofString "b1_set") 342), (.ref 80)⟩, ⟨PyData.keyHash P (Str.ofString "in_table_b1"), (.str (Str.ofString "in_table_b1") 349), (.ref 90)⟩, ⟨PyData.keyHash P (Str.ofString "b3_exceptions"), (.str (Str.ofString "b3_exceptions") 2300), (.ref 91)⟩] 19), #[]⟩
noncomputable def tr4b (P : Params) : BT := (.node (boot_o_0 P) (.node (boot_o_1 P) (.node (o_3_4 P) (.node (boot_o_7 P) (.node (o_15_1 P) (.node (o_31_1 P) (.node (o_63_2 P) (.node (b3o 127) .nil .nil) .nil) (.node (b3o 95) .nil .nil)) (.node (o_47_2 P) (.node (o_79_3 P) .nil .nil) (.node (b3o 111) .nil .nil))) (.node (o_23_1 P) (.node (o_39_1 P) (.node (o_71_2 P) .nil .nil) (.node (b3o 103) .nil .nil)) (.node (o_55_2 P) (.node (o_87_4 P) .nil .nil) (.node (b3o 119) .nil .nil)))) (.node (o_11_0 P) (.node (o_19_1 P) (.node (o_35_1 P) (.node (o_67_2 P) .nil .nil) (.node (b3o 99) .nil .nil)) (.node (o_51_2 P) (.node (o_83_3 P) .nil .nil) (.node (b3o 115) .nil .nil))) (.node (o_27_1 P) (.node (o_43_2 P) (.node (o_75_3 P) .nil .nil) (.node (b3o 107) .nil .nil)) (.node (o_59_2 P) (.node (b3o 91) .nil .nil) (.node (b3o 123) .nil .nil))))) (.node (boot_o_5 P) (.node (boot_o_9 P) (.node (o_17_1 P) (.node (o_33_1 P) (.node (o_65_2 P) (.node (b3o 129) .nil .nil) .nil) (.node (b3o 97) .nil .nil)) (.node (o_49_2 P) (.node (o_81_3 P) .nil .nil) (.node (b3o 113) .nil .nil))) (.node (o_25_1 P) (.node (o_41_2 P) (.node (o_73_3 P) .nil .nil) (.node (b3o 105) .nil .nil)) (.node (o_57_2 P) (.node (o_89_4 P) .nil .nil) (.node (b3o 121) .nil .nil)))) (.node (o_13_0 P) (.node (o_21_1 P) (.node (o_37_1 P) (.node (o_69_2 P) .nil .nil) (.node (b3o 101) .nil .nil)) (.node (o_53_2 P) (.node (o_85_4 P) .nil .nil) (.node (b3o 117) .nil .nil))) (.node (o_29_1 P) (.node (o_45_2 P) (.node (o_77_3 P) .nil .nil) (.node (b3o 109) .nil .nil)) (.node (o_61_2 P) (.node (b3o 93) .nil .nil) (.node (b3o 125) .nil .nil)))))) (.node (o_2_1 P) (.node (boot_o_4 P) (.node (boot_o_8 P) (.node (o_16_1 P) (.node (o_32_1 P) (.node (o_64_2 P) (.node (b3o 128) .nil .nil) .nil) (.node (b3o 96) .nil .nil)) (.node (o_48_2 P) (.node (o_80_3 P) .nil .nil) (.node (b3o 112) .nil .nil))) (.node (o_24_2 P) (.node (o_40_2 P) (.node (o_72_2 P) .nil .nil) (.node (b3o 104) .nil .nil)) (.node (o_56_2 P) (.node (o_88_4 P) .nil .nil) (.node (b3o 120) .nil .nil)))) (.node (o_12_4 P) (.node (o_20_1 P) (.node (o_36_1 P) (.node (o_68_2 P) .nil .nil) (.node (b3o 100) .nil .nil)) (.node (o_52_2 P) (.node (o_84_4 P) .nil .nil) (.node (b3o 116) .nil .nil))) (.node (o_28_1 P) (.node (o_44_2 P) (.node (o_76_3 P) .nil .nil) (.node (b3o 108) .nil .nil)) (.node (o_60_2 P) (.node (b3o 92) .nil .nil) (.node (b3o 124) .nil .nil))))) (.node (boot_o_6 P) (.node (boot_o_10 P) (.node (o_18_1 P) (.node (o_34_1 P) (.node (o_66_2 P) .nil .nil) (.node (b3o 98) .nil .nil)) (.node (o_50_2 P) (.node (o_82_3 P) .nil .nil) (.node (b3o 114) .nil .nil))) (.node (o_26_1 P) (.node (o_42_2 P) (.node (o_74_3 P) .nil .nil) (.node (b3o 106) .nil .nil)) (.node (o_58_2 P) (.node (o_90_4 P) .nil .nil) (.node (b3o 122) .nil .nil)))) (.node (o_14_0 P) (.node (o_22_1 P) (.node (o_38_1 P) (.node (o_70_2 P) .nil .nil) (.node (b3o 102) .nil .nil)) (.node (o_54_2 P) (.node (o_86_4 P) .nil .nil) (.node (b3o 118) .nil .nil))) (.node (o_30_1 P) (.node (o_46_2 P) (.node (o_78_3 P) .nil .nil) (.node (b3o 110) .nil .nil)) (.node (o_62_2 P) (.node (b3o 94) .nil .nil) (.node (b3o 126) .nil .nil)))))))
noncomputable def tr5 (P : Params) : BT := (.node (boot_o_0 P) (.node (boot_o_1 P) (.node (o_3_5 P) (.node (boot_o_7 P) (.node (o_15_1 P) (.node (o_31_1 P) (.node (o_63_2 P) (.node (b3o 127) .nil .nil) .nil) (.node (b3o 95) .nil .nil)) (.node (o_47_2 P) (.node (o_79_3 P) .nil .nil) (.node (b3o 111) .nil .nil))) (.node (o_23_1 P) (.node (o_39_1 P) (.node (o_71_2 P) .nil .nil) (.node (b3o 103) .nil .nil)) (.node (o_55_2 P) (.node (o_87_4 P) .nil .nil) (.node (b3o 119) .nil .nil)))) (.node (o_11_0 P) (.node (o_19_1 P) (.node (o_35_1 P) (.node (o_67_2 P) .nil .nil) (.node (b3o 99) .nil .nil)) (.node (o_51_2 P) (.node (o_83_3 P) .nil .nil) (.node (b3o 115) .nil .nil))) (.node (o_27_1 P) (.node (o_43_2 P) (.node (o_75_3 P) .nil .nil) (.node (b3o 107) .nil .nil)) (.node (o_59_2 P) (.node (b3o 91) .nil .nil) (.node (b3o 123) .nil .nil))))) (.node (boot_o_5 P) (.node (boot_o_9 P) (.node (o_17_1 P) (.node (o_33_1 P) (.node (o_65_2 P) (.node (b3o 129) .nil .nil) .nil) (.node (b3o 97) .nil .nil)) (.node (o_49_2 P) (.node (o_81_3 P) .nil .nil) (.node (b3o 113) .nil .nil))) (.node (o_25_1 P) (.node (o_41_2 P) (.node (o_73_3 P) .nil .nil) (.node (b3o 105) .nil .nil)) (.node (o_57_2 P) (.node (o_89_4 P) .nil .nil) (.node (b3o 121) .nil .nil)))) (.node (o_13_0 P) (.node (o_21_1 P) (.node (o_37_1 P) (.node (o_69_2 P) .nil .nil) (.node (b3o 101) .nil .nil)) (.node (o_53_2 P) (.node (o_85_4 P) .nil .nil) (.node (b3o 117) .nil .nil))) (.node (o_29_1 P) (.node (o_45_2 P) (.node (o_77_3 P) .nil .nil) (.node (b3o 109) .nil .nil)) (.node (o_61_2 P) (.node (b3o 93) .nil .nil) (.node (b3o 125) .nil .nil)))))) (.node (o_2_1 P) (.node (boot_o_4 P) (.node (boot_o_8 P) (.node (o_16_1 P) (.node (o_32_1 P) (.node (o_64_2 P) (.node (b3o 128) .nil .nil) .nil) (.node (b3o 96) .nil .nil)) (.node (o_48_2 P) (.node (o_80_3 P) .nil .nil) (.node (b3o 112) .nil .nil))) (.node (o_24_2 P) (.node (o_40_2 P) (.node (o_72_2 P) .nil .nil) (.node (b3o 104) .nil .nil)) (.node (o_56_2 P) (.node (o_88_4 P) .nil .nil) (.node (b3o 120) .nil .nil)))) (.node (o_12_4 P) (.node (o_20_1 P) (.node (o_36_1 P) (.node (o_68_2 P) .nil .nil) (.node (b3o 100) .nil .nil)) (.node (o_52_2 P) (.node (o_84_4 P) .nil .nil) (.node (b3o 116) .nil .nil))) (.node (o_28_1 P) (.node (o_44_2 P) (.node (o_76_3 P) .nil .nil) (.node (b3o 108) .nil .nil)) (.node (o_60_2 P) (.node (b3o 92) .nil .nil) (.node (b3o 124) .nil .nil))))) (.node (boot_o_6 P) (.node (boot_o_10 P) (.node (o_18_1 P) (.node (o_34_1 P) (.node (o_66_2 P) .nil .nil) (.node (b3o 98) .nil .nil)) (.node (o_50_2 P) (.node (o_82_3 P) .nil .nil) (.node (b3o 114) .nil .nil))) (.node (o_26_1 P) (.node (o_42_2 P) (.node (o_74_3 P) .nil .nil) (.node (b3o 106) .nil .nil)) (.node (o_58_2 P) (.node (o_90_4 P) .nil .nil) (.node (b3o 122) .nil .nil)))) (.node (o_14_0 P) (.node (o_22_1 P) (.node (o_38_1 P) (.node (o_70_2 P) .nil .nil) (.node (b3o 102) .nil .nil)) (.node (o_54_2 P) (.node (o_86_4 P) .nil .nil) (.node (b3o 118) .nil .nil))) (.node (o_30_1 P) (.node (o_46_2 P) (.node (o_78_3 P) .nil .nil) (.node (b3o 110) .nil .nil)) (.node (o_62_2 P) (.node (b3o 94) .nil .nil) (.node (b3o 126) .nil .nil)))))))
-- n 130 toks 2301
noncomputable def pos5 : Pos := ⟨76, 0, 76, 13⟩
noncomputable def o_3_6 (P : Params) : Obj := ⟨(.type "dict"), none, (.dict #[⟨PyData.keyHash P (Str.ofString "__name__"), (.str (Str.ofString "__name__") 165), (.str (Str.ofString "law_ux0028_01") 2309)⟩, ⟨PyData.keyHash P (Str.ofString "__doc__"), (.str (Str.ofString "__doc__") 166), .none⟩, ⟨PyData.keyHash P (Str.ofString "__package__"), (.str (Str.ofString "__package__") 167), .none⟩, ⟨PyData.keyHash P (Str.ofString "__loader__"), (.str (Str.ofString "__loader__") 168), (.builtin "__main__.__loader__#opaque")⟩, ⟨PyData.keyHash P (Str.ofString "__spec__"), (.str (Str.ofString "__spec__") 169), .none⟩, ⟨PyData.keyHash P (Str.ofString "__annotations__"), (.str (Str.ofString "__annotations__") 170), (.ref 6)⟩, ⟨PyData.keyHash P (Str.ofString "__builtins__"), (.str (Str.ofString "__builtins__") 171), (.ref 4)⟩, ⟨PyData.keyHash P (Str.ofString "__file__"), (.str (Str.ofString "__file__") 173), (.str (Str.ofString "/claim/cut.py") 172)⟩, ⟨PyData.keyHash P (Str.ofString "__cached__"), (.str (Str.ofString "__cached__") 174), .none⟩, ⟨PyData.keyHash P (Str.ofString "Error"), (.str (Str.ofString "Error") 208), (.ref 24)⟩, ⟨PyData.keyHash P (Str.ofString "error_reply"), (.str (Str.ofString "error_reply") 224), (.ref 37)⟩, ⟨PyData.keyHash P (Str.ofString "error_proto"), (.str (Str.ofString "error_proto") 240), (.ref 49)⟩, ⟨PyData.keyHash P (Str.ofString "parse229"), (.str (Str.ofString "parse229") 253), (.ref 58)⟩, ⟨PyData.keyHash P (Str.ofString "parse257"), (.str (Str.ofString "parse257") 264), (.ref 65)⟩, ⟨PyData.keyHash P (Str.ofString "ELLIPSIS_MARKER"), (.str (Str.ofString "ELLIPSIS_MARKER") 268), (.str (Str.ofString "...") 267)⟩, ⟨PyData.keyHash P (Str.ofString "_ellipsis_match"), (.str (Str.ofString "_ellipsis_match") 280), (.ref 72)⟩, ⟨PyData.keyHash P (Str.ofString "b1_set"), (.str (Str.ofString "b1_set") 342), (.ref 80)⟩, ⟨PyData.keyHash P (Str.ofString "in_table_b1"), (.str (Str.ofString "in_table_b1") 349), (.ref 90)⟩, ⟨PyData.keyHash P (Str.ofString "b3_exceptions"), (.str (Str.ofString "b3_exceptions") 2300), (.ref 91)⟩, ⟨PyData.keyHash P (Str.ofString "map_table_b3"), (.str (Str.ofString "map_table_b3") 2308), (.ref 136)⟩, ⟨PyData.keyHash P (Str.ofString "_law_prepared"), (.str (Str.ofString "_law_prepared") 2316), (.ref 141)⟩, ⟨PyData.keyHash P (Str.ofString "_law_sign"), (.str (Str.ofString "_law_sign") 2325), (.ref 148)⟩, ⟨PyData.keyHash P (Str.ofString "_law_inside"), (.str (Str.ofString "_law_inside") 2339), (.ref 155)⟩, ⟨PyData.keyHash P (Str.ofString "_law_refused"), (.str (Str.ofString "_law_refused") 2348), (.ref 162)⟩, ⟨PyData.keyHash P (Str.ofString "_law_spoilt"), (.str (Str.ofString "_law_spoilt") 2361), (.ref 169)⟩, ⟨PyData.keyHash P (Str.ofString "_law_place"), (.str (Str.ofString "_law_place") 2373), (.ref 176)⟩, ⟨PyData.keyHash P (Str.ofString "_law_told"), (.str (Str.ofString "_law_told") 2384), (.ref 183)⟩, ⟨PyData.keyHash P (Str.ofString "law"), (.str (Str.ofString "law") 2390), (.ref 188)⟩] 28), #[]⟩
noncomputable def o_12_6 (P : Params) : Obj := ⟨.none, none, (.fields #[(.int 2 0), (.int 0 0), (.ref 20), (.int 4 0), (.int 0 0), (.ref 33), (.int 6 0), (.int 0 0), (.ref 45), (.int 8 0), (.int 0 0), (.ref 57), (.int 25 0), (.int 0 0), (.ref 64), (.int 44 0), (.int 0 0), (.ref 71), (.int 74 0), (.int 0 0), (.ref 89), (.int 77 0), (.int 0 0), (.ref 135), (.int 83 0), (.int 0 0), (.ref 140), (.int 85 0), (.int 0 0), (.ref 147), (.int 96 0), (.int 0 0), (.ref 154), (.int 112 0), (.int 0 0), (.ref 161), (.int 118 0), (.int 0 0), (.ref 168), (.int 137 0), (.int 0 0), (.ref 175), (.int 147 0), (.int 0 0), (.ref 182), (.int 155 0), (.int 0 0), (.ref 187)]), #[]⟩
noncomputable def o_130_6 (P : Params) : Obj := ⟨(.type "tuple"), none, (.seq #[] 0), #[]⟩
noncomputable def o_131_6 (P : Params) : Obj := ⟨.none, none, (.fields #[]), #[]⟩
noncomputable def o_132_6 (P : Params) : Obj := ⟨(.type "tuple"), none, (.seq #[(.str (Str.ofString "code") 2304), (.str (Str.ofString "r") 2305)] 0), #[]⟩
noncomputable def o_133_6 (P : Params) : Obj := ⟨(.type "tuple"), none, (.seq #[] 0), #[]⟩
noncomputable def o_134_6 (P : Params) : Obj := ⟨.none, none, (.func ⟨(Str.ofString "map_table_b3"), (Str.ofString "map_table_b3"), (fdOf 13).1, .stmts (fdOf 13).2.1, (fdOf 13).2.2, 0, [], .none, .none, .none, .none, none, .none, .none, 0⟩), #[]⟩
noncomputable def o_135_6 (P : Params) : Obj := ⟨(.type "code"), none, (.fields #[(.str (Str.ofString "map_table_b3") 2301), (.str (Str.ofString "map_table_b3") 2302), (.str (Str.ofString "/claim/cut.py") 2303), (.int 77 0), (.int 1 0), (.int 0 0), (.int 0 0), (.int 3 0), (.ref 130), (.bool true), (.int 181 0), (.ref 131), .none, (.ref 132), (.ref 133), (.ref 134), (.int 2306 0), (.int 77 0), (.str (Str.ofString "/claim/cut.py") 2307)]), #[]⟩
noncomputable def o_136_6 (P : Params) : Obj := ⟨(.type "function"), none, (.func ⟨(Str.ofString "map_table_b3"), (Str.ofString "map_table_b3"), (fdOf 13).1, .stmts (fdOf 13).2.1, (fdOf 13).2.2, 3, [], .none, .none, .none, (.str (Str.ofString "cpy313.stringprep") 281), none, (.ref 135), .none, 0⟩), #[]⟩
noncomputable def o_137_6 (P : Params) : Obj := ⟨(.type "tuple"), none, (.seq #[] 0), #[]⟩
noncomputable def o_138_6 (P : Params) : Obj := ⟨.none, none, (.fields #[]), #[]⟩
noncomputable def o_139_6 (P : Params) : Obj := ⟨.none, none, (.func ⟨(Str.ofString "_law_prepared"), (Str.ofString "_law_prepared"), (fdOf 15).1, .stmts (fdOf 15).2.1, (fdOf 15).2.2, 0, [], .none, .none, .none, .none, none, .none, .none, 0⟩), #[]⟩
noncomputable def o_140_6 (P : Params) : Obj := ⟨(.type "code"), none, (.fields #[(.str (Str.ofString "_law_prepared") 2311), (.str (Str.ofString "_law_prepared") 2312), (.str (Str.ofString "/claim/cut.py") 2313), (.int 83 0), (.int 1 0), (.int 0 0), (.int 0 0), (.int 3 0), (.ref 137), (.bool true), (.int 181 0), (.ref 138), .none, .none, .none, (.ref 139), (.int 2314 0), (.int 83 0), (.str (Str.ofString "/claim/cut.py") 2315)]), #[]⟩
noncomputable def o_141_6 (P : Params) : Obj := ⟨(.type "function"), none, (.func ⟨(Str.ofString "_law_prepared"), (Str.ofString "_law_prepared"), (fdOf 15).1, .stmts (fdOf 15).2.1, (fdOf 15).2.2, 3, [], .none, .none, .none, (.str (Str.ofString "law_ux0028_01") 2309), none, (.ref 140), .none, 0⟩), #[]⟩
noncomputable def o_142_6 (P : Params) : Obj := ⟨(.type "tuple"), none, (.seq #[] 0), #[]⟩
noncomputable def o_143_6 (P : Params) : Obj := ⟨.none, none, (.fields #[]), #[]⟩
noncomputable def o_144_6 (P : Params) : Obj := ⟨(.type "tuple"), none, (.seq #[(.str (Str.ofString "letter") 2320), (.str (Str.ofString "way") 2321), (.str (Str.ofString "hidden") 2322)] 0), #[]⟩
noncomputable def o_145_6 (P : Params) : Obj := ⟨(.type "tuple"), none, (.seq #[] 0), #[]⟩
noncomputable def o_146_6 (P : Params) : Obj := ⟨.none, none, (.func ⟨(Str.ofString "_law_sign"), (Str.ofString "_law_sign"), (fdOf 16).1, .stmts (fdOf 16).2.1, (fdOf 16).2.2, 0, [], .none, .none, .none, .none, none, .none, .none, 0⟩), #[]⟩
noncomputable def o_147_6 (P : Params) : Obj := ⟨(.type "code"), none, (.fields #[(.str (Str.ofString "_law_sign") 2317), (.str (Str.ofString "_law_sign") 2318), (.str (Str.ofString "/claim/cut.py") 2319), (.int 85 0), (.int 2 0), (.int 0 0), (.int 0 0), (.int 3 0), (.ref 142), (.bool true), (.int 181 0), (.ref 143), .none, (.ref 144), (.ref 145), (.ref 146), (.int 2323 0), (.int 85 0), (.str (Str.ofString "/claim/cut.py") 2324)]), #[]⟩
noncomputable def o_148_6 (P : Params) : Obj := ⟨(.type "function"), none, (.func ⟨(Str.ofString "_law_sign"), (Str.ofString "_law_sign"), (fdOf 16).1, .stmts (fdOf 16).2.1, (fdOf 16).2.2, 3, [], .none, .none, .none, (.str (Str.ofString "law_ux0028_01") 2309), none, (.ref 147), .none, 0⟩), #[]⟩
noncomputable def o_149_6 (P : Params) : Obj := ⟨(.type "tuple"), none, (.seq #[] 0), #[]⟩
noncomputable def o_150_6 (P : Params) : Obj := ⟨.none, none, (.fields #[]), #[]⟩
noncomputable def o_151_6 (P : Params) : Obj := ⟨(.type "tuple"), none, (.seq #[(.str (Str.ofString "letter") 2329), (.str (Str.ofString "figures") 2330), (.str (Str.ofString "number") 2331), (.str (Str.ofString "typed") 2332), (.str (Str.ofString "meant") 2333), (.str (Str.ofString "k") 2334), (.str (Str.ofString "way") 2335), (.str (Str.ofString "field") 2336)] 0), #[]⟩
noncomputable def o_152_6 (P : Params) : Obj := ⟨(.type "tuple"), none, (.seq #[] 0), #[]⟩
noncomputable def o_153_6 (P : Params) : Obj := ⟨.none, none, (.func ⟨(Str.ofString "_law_inside"), (Str.ofString "_law_inside"), (fdOf 17).1, .stmts (fdOf 17).2.1, (fdOf 17).2.2, 0, [], .none, .none, .none, .none, none, .none, .none, 0⟩), #[]⟩
noncomputable def o_154_6 (P : Params) : Obj := ⟨(.type "code"), none, (.fields #[(.str (Str.ofString "_law_inside") 2326), (.str (Str.ofString "_law_inside") 2327), (.str (Str.ofString "/claim/cut.py") 2328), (.int 96 0), (.int 3 0), (.int 0 0), (.int 0 0), (.int 3 0), (.ref 149), (.bool true), (.int 181 0), (.ref 150), .none, (.ref 151), (.ref 152), (.ref 153), (.int 2337 0), (.int 96 0), (.str (Str.ofString "/claim/cut.py") 2338)]), #[]⟩
noncomputable def o_155_6 (P : Params) : Obj := ⟨(.type "function"), none, (.func ⟨(Str.ofString "_law_inside"), (Str.ofString "_law_inside"), (fdOf 17).1, .stmts (fdOf 17).2.1, (fdOf 17).2.2, 3, [], .none, .none, .none, (.str (Str.ofString "law_ux0028_01") 2309), none, (.ref 154), .none, 0⟩), #[]⟩
noncomputable def o_156_6 (P : Params) : Obj := ⟨(.type "tuple"), none, (.seq #[] 0), #[]⟩
noncomputable def o_157_6 (P : Params) : Obj := ⟨.none, none, (.fields #[]), #[]⟩
noncomputable def o_158_6 (P : Params) : Obj := ⟨(.type "tuple"), none, (.seq #[(.str (Str.ofString "reply") 2343), (.str (Str.ofString "peer") 2344), (.str (Str.ofString "fault") 2345)] 0), #[]⟩
noncomputable def o_159_6 (P : Params) : Obj := ⟨(.type "tuple"), none, (.seq #[] 0), #[]⟩
noncomputable def o_160_6 (P : Params) : Obj := ⟨.none, none, (.func ⟨(Str.ofString "_law_refused"), (Str.ofString "_law_refused"), (fdOf 18).1, .stmts (fdOf 18).2.1, (fdOf 18).2.2, 0, [], .none, .none, .none, .none, none, .none, .none, 0⟩), #[]⟩
noncomputable def o_161_6 (P : Params) : Obj := ⟨(.type "code"), none, (.fields #[(.str (Str.ofString "_law_refused") 2340), (.str (Str.ofString "_law_refused") 2341), (.str (Str.ofString "/claim/cut.py") 2342), (.int 112 0), (.int 2 0), (.int 0 0), (.int 0 0), (.int 3 0), (.ref 156), (.bool true), (.int 181 0), (.ref 157), .none, (.ref 158), (.ref 159), (.ref 160), (.int 2346 0), (.int 112 0), (.str (Str.ofString "/claim/cut.py") 2347)]), #[]⟩
noncomputable def o_162_6 (P : Params) : Obj := ⟨(.type "function"), none, (.func ⟨(Str.ofString "_law_refused"), (Str.ofString "_law_refused"), (fdOf 18).1, .stmts (fdOf 18).2.1, (fdOf 18).2.2, 3, [], .none, .none, .none, (.str (Str.ofString "law_ux0028_01") 2309), none, (.ref 161), .none, 0⟩), #[]⟩
noncomputable def o_163_6 (P : Params) : Obj := ⟨(.type "tuple"), none, (.seq #[] 0), #[]⟩
noncomputable def o_164_6 (P : Params) : Obj := ⟨.none, none, (.fields #[]), #[]⟩
noncomputable def o_165_6 (P : Params) : Obj := ⟨(.type "tuple"), none, (.seq #[(.str (Str.ofString "reply") 2352), (.str (Str.ofString "peer") 2353), (.str (Str.ofString "number") 2354), (.str (Str.ofString "inside") 2355), (.str (Str.ofString "mark") 2356), (.str (Str.ofString "spoilt") 2357), (.str (Str.ofString "fault") 2358)] 0), #[]⟩
noncomputable def o_166_6 (P : Params) : Obj := ⟨(.type "tuple"), none, (.seq #[] 0), #[]⟩
noncomputable def o_167_6 (P : Params) : Obj := ⟨.none, none, (.func ⟨(Str.ofString "_law_spoilt"), (Str.ofString "_law_spoilt"), (fdOf 19).1, .stmts (fdOf 19).2.1, (fdOf 19).2.2, 0, [], .none, .none, .none, .none, none, .none, .none, 0⟩), #[]⟩
noncomputable def o_168_6 (P : Params) : Obj := ⟨(.type "code"), none, (.fields #[(.str (Str.ofString "_law_spoilt") 2349), (.str (Str.ofString "_law_spoilt") 2350), (.str (Str.ofString "/claim/cut.py") 2351), (.int 118 0), (.int 3 0), (.int 0 0), (.int 0 0), (.int 3 0), (.ref 163), (.bool true), (.int 181 0), (.ref 164), .none, (.ref 165), (.ref 166), (.ref 167), (.int 2359 0), (.int 118 0), (.str (Str.ofString "/claim/cut.py") 2360)]), #[]⟩
noncomputable def o_169_6 (P : Params) : Obj := ⟨(.type "function"), none, (.func ⟨(Str.ofString "_law_spoilt"), (Str.ofString "_law_spoilt"), (fdOf 19).1, .stmts (fdOf 19).2.1, (fdOf 19).2.2, 3, [], .none, .none, .none, (.str (Str.ofString "law_ux0028_01") 2309), none, (.ref 168), .none, 0⟩), #[]⟩
noncomputable def o_170_6 (P : Params) : Obj := ⟨(.type "tuple"), none, (.seq #[] 0), #[]⟩
noncomputable def o_171_6 (P : Params) : Obj := ⟨.none, none, (.fields #[]), #[]⟩
noncomputable def o_172_6 (P : Params) : Obj := ⟨(.type "tuple"), none, (.seq #[(.str (Str.ofString "number") 2365), (.str (Str.ofString "place") 2366), (.str (Str.ofString "steps") 2367), (.str (Str.ofString "marks") 2368), (.str (Str.ofString "step") 2369), (.str (Str.ofString "told") 2370)] 0), #[]⟩
noncomputable def o_173_6 (P : Params) : Obj := ⟨(.type "tuple"), none, (.seq #[] 0), #[]⟩
noncomputable def o_174_6 (P : Params) : Obj := ⟨.none, none, (.func ⟨(Str.ofString "_law_place"), (Str.ofString "_law_place"), (fdOf 20).1, .stmts (fdOf 20).2.1, (fdOf 20).2.2, 0, [], .none, .none, .none, .none, none, .none, .none, 0⟩), #[]⟩
noncomputable def o_175_6 (P : Params) : Obj := ⟨(.type "code"), none, (.fields #[(.str (Str.ofString "_law_place") 2362), (.str (Str.ofString "_law_place") 2363), (.str (Str.ofString "/claim/cut.py") 2364), (.int 137 0), (.int 3 0), (.int 0 0), (.int 0 0), (.int 3 0), (.ref 170), (.bool true), (.int 181 0), (.ref 171), .none, (.ref 172), (.ref 173), (.ref 174), (.int 2371 0), (.int 137 0), (.str (Str.ofString "/claim/cut.py") 2372)]), #[]⟩
noncomputable def o_176_6 (P : Params) : Obj := ⟨(.type "function"), none, (.func ⟨(Str.ofString "_law_place"), (Str.ofString "_law_place"), (fdOf 20).1, .stmts (fdOf 20).2.1, (fdOf 20).2.2, 3, [], .none, .none, .none, (.str (Str.ofString "law_ux0028_01") 2309), none, (.ref 175), .none, 0⟩), #[]⟩
noncomputable def o_177_6 (P : Params) : Obj := ⟨(.type "tuple"), none, (.seq #[] 0), #[]⟩
noncomputable def o_178_6 (P : Params) : Obj := ⟨.none, none, (.fields #[]), #[]⟩
noncomputable def o_179_6 (P : Params) : Obj := ⟨(.type "tuple"), none, (.seq #[(.str (Str.ofString "letter") 2377), (.str (Str.ofString "figures") 2378), (.str (Str.ofString "reply") 2379), (.str (Str.ofString "many") 2380), (.str (Str.ofString "front") 2381)] 0), #[]⟩
noncomputable def o_180_6 (P : Params) : Obj := ⟨(.type "tuple"), none, (.seq #[] 0), #[]⟩
noncomputable def o_181_6 (P : Params) : Obj := ⟨.none, none, (.func ⟨(Str.ofString "_law_told"), (Str.ofString "_law_told"), (fdOf 21).1, .stmts (fdOf 21).2.1, (fdOf 21).2.2, 0, [], .none, .none, .none, .none, none, .none, .none, 0⟩), #[]⟩
noncomputable def o_182_6 (P : Params) : Obj := ⟨(.type "code"), none, (.fields #[(.str (Str.ofString "_law_told") 2374), (.str (Str.ofString "_law_told") 2375), (.str (Str.ofString "/claim/cut.py") 2376), (.int 147 0), (.int 3 0), (.int 0 0), (.int 0 0), (.int 3 0), (.ref 177), (.bool true), (.int 181 0), (.ref 178), .none, (.ref 179), (.ref 180), (.ref 181), (.int 2382 0), (.int 147 0), (.str (Str.ofString "/claim/cut.py") 2383)]), #[]⟩
noncomputable def o_183_6 (P : Params) : Obj := ⟨(.type "function"), none, (.func ⟨(Str.ofString "_law_told"), (Str.ofString "_law_told"), (fdOf 21).1, .stmts (fdOf 21).2.1, (fdOf 21).2.2, 3, [], .none, .none, .none, (.str (Str.ofString "law_ux0028_01") 2309), none, (.ref 182), .none, 0⟩), #[]⟩
noncomputable def o_184_6 (P : Params) : Obj := ⟨(.type "tuple"), none, (.seq #[] 0), #[]⟩
noncomputable def o_185_6 (P : Params) : Obj := ⟨.none, none, (.fields #[]), #[]⟩
noncomputable def o_186_6 (P : Params) : Obj := ⟨.none, none, (.func ⟨(Str.ofString "law"), (Str.ofString "law"), (fdOf 22).1, .stmts (fdOf 22).2.1, (fdOf 22).2.2, 0, [], .none, .none, .none, .none, none, .none, .none, 0⟩), #[]⟩
noncomputable def o_187_6 (P : Params) : Obj := ⟨(.type "code"), none, (.fields #[(.str (Str.ofString "law") 2385), (.str (Str.ofString "law") 2386), (.str (Str.ofString "/claim/cut.py") 2387), (.int 155 0), (.int 1 0), (.int 0 0), (.int 0 0), (.int 3 0), (.ref 184), (.bool true), (.int 181 0), (.ref 185), .none, .none, .none, (.ref 186), (.int 2388 0), (.int 155 0), (.str (Str.ofString "/claim/cut.py") 2389)]), #[]⟩
noncomputable def o_188_6 (P : Params) : Obj := ⟨(.type "function"), none, (.func ⟨(Str.ofString "law"), (Str.ofString "law"), (fdOf 22).1, .stmts (fdOf 22).2.1, (fdOf 22).2.2, 3, [], .none, .none, .none, (.str (Str.ofString "law_ux0028_01") 2309), none, (.ref 187), .none, 0⟩), #[]⟩
noncomputable def tr6 (P : Params) : BT := (.node (boot_o_0 P) (.node (boot_o_1 P) (.node (o_3_6 P) (.node (boot_o_7 P) (.node (o_15_1 P) (.node (o_31_1 P) (.node (o_63_2 P) (.node (b3o 127) .nil .nil) .nil) (.node (b3o 95) (.node (o_159_6 P) .nil .nil) .nil)) (.node (o_47_2 P) (.node (o_79_3 P) (.node (o_143_6 P) .nil .nil) .nil) (.node (b3o 111) (.node (o_175_6 P) .nil .nil) .nil))) (.node (o_23_1 P) (.node (o_39_1 P) (.node (o_71_2 P) (.node (o_135_6 P) .nil .nil) .nil) (.node (b3o 103) (.node (o_167_6 P) .nil .nil) .nil)) (.node (o_55_2 P) (.node (o_87_4 P) (.node (o_151_6 P) .nil .nil) .nil) (.node (b3o 119) (.node (o_183_6 P) .nil .nil) .nil)))) (.node (o_11_0 P) (.node (o_19_1 P) (.node (o_35_1 P) (.node (o_67_2 P) (.node (o_131_6 P) .nil .nil) .nil) (.node (b3o 99) (.node (o_163_6 P) .nil .nil) .nil)) (.node (o_51_2 P) (.node (o_83_3 P) (.node (o_147_6 P) .nil .nil) .nil) (.node (b3o 115) (.node (o_179_6 P) .nil .nil) .nil))) (.node (o_27_1 P) (.node (o_43_2 P) (.node (o_75_3 P) (.node (o_139_6 P) .nil .nil) .nil) (.node (b3o 107) (.node (o_171_6 P) .nil .nil) .nil)) (.node (o_59_2 P) (.node (b3o 91) (.node (o_155_6 P) .nil .nil) .nil) (.node (b3o 123) (.node (o_187_6 P) .nil .nil) .nil))))) (.node (boot_o_5 P) (.node (boot_o_9 P) (.node (o_17_1 P) (.node (o_33_1 P) (.node (o_65_2 P) (.node (b3o 129) .nil .nil) .nil) (.node (b3o 97) (.node (o_161_6 P) .nil .nil) .nil)) (.node (o_49_2 P) (.node (o_81_3 P) (.node (o_145_6 P) .nil .nil) .nil) (.node (b3o 113) (.node (o_177_6 P) .nil .nil) .nil))) (.node (o_25_1 P) (.node (o_41_2 P) (.node (o_73_3 P) (.node (o_137_6 P) .nil .nil) .nil) (.node (b3o 105) (.node (o_169_6 P) .nil .nil) .nil)) (.node (o_57_2 P) (.node (o_89_4 P) (.node (o_153_6 P) .nil .nil) .nil) (.node (b3o 121) (.node (o_185_6 P) .nil .nil) .nil)))) (.node (o_13_0 P) (.node (o_21_1 P) (.node (o_37_1 P) (.node (o_69_2 P) (.node (o_133_6 P) .nil .nil) .nil) (.node (b3o 101) (.node (o_165_6 P) .nil .nil) .nil)) (.node (o_53_2 P) (.node (o_85_4 P) (.node (o_149_6 P) .nil .nil) .nil) (.node (b3o 117) (.node (o_181_6 P) .nil .nil) .nil))) (.node (o_29_1 P) (.node (o_45_2 P) (.node (o_77_3 P) (.node (o_141_6 P) .nil .nil) .nil) (.node (b3o 109) (.node (o_173_6 P) .nil .nil) .nil)) (.node (o_61_2 P) (.node (b3o 93) (.node (o_157_6 P) .nil .nil) .nil) (.node (b3o 125) .nil .nil)))))) (.node (o_2_1 P) (.node (boot_o_4 P) (.node (boot_o_8 P) (.node (o_16_1 P) (.node (o_32_1 P) (.node (o_64_2 P) (.node (b3o 128) .nil .nil) .nil) (.node (b3o 96) (.node (o_160_6 P) .nil .nil) .nil)) (.node (o_48_2 P) (.node (o_80_3 P) (.node (o_144_6 P) .nil .nil) .nil) (.node (b3o 112) (.node (o_176_6 P) .nil .nil) .nil))) (.node (o_24_2 P) (.node (o_40_2 P) (.node (o_72_2 P) (.node (o_136_6 P) .nil .nil) .nil) (.node (b3o 104) (.node (o_168_6 P) .nil .nil) .nil)) (.node (o_56_2 P) (.node (o_88_4 P) (.node (o_152_6 P) .nil .nil) .nil) (.node (b3o 120) (.node (o_184_6 P) .nil .nil) .nil)))) (.node (o_12_6 P) (.node (o_20_1 P) (.node (o_36_1 P) (.node (o_68_2 P) (.node (o_132_6 P) .nil .nil) .nil) (.node (b3o 100) (.node (o_164_6 P) .nil .nil) .nil)) (.node (o_52_2 P) (.node (o_84_4 P) (.node (o_148_6 P) .nil .nil) .nil) (.node (b3o 116) (.node (o_180_6 P) .nil .nil) .nil))) (.node (o_28_1 P) (.node (o_44_2 P) (.node (o_76_3 P) (.node (o_140_6 P) .nil .nil) .nil) (.node (b3o 108) (.node (o_172_6 P) .nil .nil) .nil)) (.node (o_60_2 P) (.node (b3o 92) (.node (o_156_6 P) .nil .nil) .nil) (.node (b3o 124) (.node (o_188_6 P) .nil .nil) .nil))))) (.node (boot_o_6 P) (.node (boot_o_10 P) (.node (o_18_1 P) (.node (o_34_1 P) (.node (o_66_2 P) (.node (o_130_6 P) .nil .nil) .nil) (.node (b3o 98) (.node (o_162_6 P) .nil .nil) .nil)) (.node (o_50_2 P) (.node (o_82_3 P) (.node (o_146_6 P) .nil .nil) .nil) (.node (b3o 114) (.node (o_178_6 P) .nil .nil) .nil))) (.node (o_26_1 P) (.node (o_42_2 P) (.node (o_74_3 P) (.node (o_138_6 P) .nil .nil) .nil) (.node (b3o 106) (.node (o_170_6 P) .nil .nil) .nil)) (.node (o_58_2 P) (.node (o_90_4 P) (.node (o_154_6 P) .nil .nil) .nil) (.node (b3o 122) (.node (o_186_6 P) .nil .nil) .nil)))) (.node (o_14_0 P) (.node (o_22_1 P) (.node (o_38_1 P) (.node (o_70_2 P) (.node (o_134_6 P) .nil .nil) .nil) (.node (b3o 102) (.node (o_166_6 P) .nil .nil) .nil)) (.node (o_54_2 P) (.node (o_86_4 P) (.node (o_150_6 P) .nil .nil) .nil) (.node (b3o 118) (.node (o_182_6 P) .nil .nil) .nil))) (.node (o_30_1 P) (.node (o_46_2 P) (.node (o_78_3 P) (.node (o_142_6 P) .nil .nil) .nil) (.node (b3o 110) (.node (o_174_6 P) .nil .nil) .nil)) (.node (o_62_2 P) (.node (b3o 94) (.node (o_158_6 P) .nil .nil) .nil) (.node (b3o 126) .nil .nil)))))))
-- n 189 toks 2391
noncomputable def pos6 : Pos := ⟨155, 0, 185, 80⟩
noncomputable abbrev st (t : BT) (n k : Nat) (os : OsState) : SharedT := ⟨t, n, {}, #[], {}, k, os⟩
/-! ## the table's statement -/
theorem keyI_of {k : Option PySem.Expr} {i : Int} (h : keyI k = some i) : ∃ a b, k = some (PySem.Expr.Constant (PySem.Const.int i) a b) := by
  unfold keyI at h
  split at h
  · cases h; exact ⟨_, _, rfl⟩
  · cases h
theorem valS_of {v : PySem.Expr} {s : Str} (h : valS v = some s) : ∃ a b, v = PySem.Expr.Constant (PySem.Const.str s) a b := by
  unfold valS at h
  split at h
  · cases h; exact ⟨_, _, rfl⟩
  · cases h
theorem read_items {env : Env} {pd : Pos} : ∀ {ks : List (Option PySem.Expr)} {vs : List PySem.Expr} {D : List (Int × Str)}, readKV ks vs = some D →
    (evalEachOpt ks env).zip ((evalEach vs env).map fun v => do let x ← v; standAt pd; pure x) = D.map (item pd)
  | [], [], D, h => by
    cases h
    rfl
  | [], _ :: _, D, h => nomatch h
  | _ :: _, [], D, h => nomatch h
  | k :: ks, v :: vs, D, h => by
    have h : ((keyI k).bind fun i => (valS v).bind fun s => (readKV ks vs).map fun r => (i, s) :: r) = some D := h
    cases e1 : keyI k with
    | none => rw [e1] at h; cases h
    | some i =>
      rw [e1] at h
      cases e2 : valS v with
      | none => rw [e2] at h; cases h
      | some s =>
        rw [e2] at h
        cases e : readKV ks vs with
        | none => rw [e] at h; cases h
        | some r =>
          rw [e] at h
          cases h
          have ih := read_items (env := env) (pd := pd) e
          obtain ⟨a, b, rfl⟩ := keyI_of e1
          obtain ⟨c, d, rfl⟩ := valS_of e2
          show (_, _) :: (evalEachOpt ks env).zip ((evalEach vs env).map fun v => do let x ← v; standAt pd; pure x) = item pd (i, s) :: r.map (item pd)
          rw [ih]
          rfl
theorem read_b3 : readKV b3parts.2.1 b3parts.2.2.1 = some b3kv := by kernel_rfl
theorem b3_len : b3kv.length = 650 := by kernel_rfl
noncomputable def chkUp (lo : Int) : List (Int × Str) → Bool
  | [] => true
  | x :: r => decide (lo < x.1) && decide (x.1 < 1000000000) && chkUp x.1 r
theorem hash_small {k : Int} (h0 : 0 ≤ k) (h1 : k < 1000000000) : hashInt k = k := by
  have e : ((k.natAbs : Int) % ((2 ^ 61 - 1 : Nat) : Int)) = k := by
    have e1 : ((2 ^ 61 - 1 : Nat) : Int) = 2305843009213693951 := by decide
    rw [e1]
    omega
  have h2 : (k == -1) = false := by rw [beq_eq_false_iff_ne]; omega
  have : rawHash k = k := by
    simp only [rawHash, e]
    rw [if_neg (show ¬ k < 0 by omega), h2]
    rfl
  unfold hashInt
  rw [this, h2]
  rfl
theorem apart_up : ∀ {l : List (Int × Str)} {lo : Int}, 0 ≤ lo → chkUp lo l = true → (∀ y ∈ l, lo < y.1 ∧ y.1 < 1000000000) ∧ Apart l
  | [], _, _, _ => ⟨fun _ h => (nomatch h), trivial⟩
  | x :: r, lo, h0, h => by
    unfold chkUp at h
    simp only [Bool.and_eq_true, decide_eq_true_eq] at h
    obtain ⟨⟨h1, h2⟩, h3⟩ := h
    obtain ⟨a, b⟩ := apart_up (l := r) (lo := x.1) (by omega) h3
    refine ⟨?_, ⟨?_, b⟩⟩
    · intro y hy
      rcases List.mem_cons.mp hy with rfl | hy
      · exact ⟨h1, h2⟩
      · have := a y hy; omega
    · intro y hy
      have := a y hy
      rw [hash_small (by omega) (by omega), hash_small (by omega) (by omega)]
      omega
theorem b3_apart : Apart b3kv := (apart_up (lo := 0) (by decide) (by kernel_rfl)).2
noncomputable def b3rest (v : Value) : Sem Flow := do
  let so ← swappedStores b3parts.1 (PySem.Expr.Dict b3parts.2.1 b3parts.2.2.1 b3parts.2.2.2.1) env0
  assignStores env0 v so ((assignEach b3parts.1 env0).map (·.2))
theorem b3_exec : exec b3st env0 = (standAt b3parts.2.2.2.2 >>= fun _ => (standAt b3parts.2.2.2.1 >>= fun _ => dictDisplay (b3kv.map (item b3parts.2.2.2.1))) >>= b3rest) := by
  have e : swapsWithSole b3parts.1 (PySem.Expr.Dict b3parts.2.1 b3parts.2.2.1 b3parts.2.2.2.1) b3parts.2.2.2.2.line env0 = pure false := by kernel_rfl
  unfold b3st
  rw [arm_exec_Assign, e, ← read_items (env := env0) read_b3]
  rfl
theorem b3_heap (P : Params) (os : OsState) : sh ((tr4 P).list 91) (dObj (ents 350 3 (b3kv.take (17 * (37 + 1))) ++ ents (350 + 51 * (37 + 1)) 2 (b3kv.drop (17 * (37 + 1)))) 650)
        (subs (350 + 51) 37 (b3kv.drop 17) ++ [dObj (ents (350 + 51 * (37 + 1)) 2 (b3kv.drop (17 * (37 + 1)))) (650 - 17 * (37 + 1))]) (350 + 3 * 650) os = (st (tr4b P) 130 2300 os).abs := by kernel_rfl
theorem b3_store (w : World) : (fun os => segRunT treeTable PW w 11 (some (.ref 6)) 1 8 (st (tr4b w.params) 130 2300 os) ⟨(b3rest (.ref 91)).wrap doneF deadEnd id id, code0, b3parts.2.2.2.1, [tf]⟩) = fun os => some (Flow.next, st (tr5 w.params) 130 2301 os, code0, pos5) := by
  rw [PySem.W.Fast.te10110043849684766642, PySem.W.Fast.te14364793385576792824]
  kernel_rfl
theorem b3_list_len (P : Params) : ((tr4 P).list 91).length = 91 := by unfold BT.list; rw [List.length_map, List.length_range]
theorem b3_step {w : World} {os : OsState} {rest : List Stmt} {N : Nat} {r : Shared} (k : topRun treeTable PW w 11 (some (.ref 6)) N (st (tr5 w.params) 130 2301 os).abs (restOf rest env0 code0 pos5 [tf]) = some r) :
    topRun treeTable PW w 11 (some (.ref 6)) (2 + (12515 + (8 + N))) (st (tr4 w.params) 91 350 os).abs (restOf (b3st :: rest) env0 code0 pos4 [tf]) = some r := by
  have hd := Goes.display' (p := PW) (w := w) (b := bodyL) (env := env0) (q := q0) (L := (tr4 w.params).list 91) (os := os) (pd := b3parts.2.2.2.1) (D := b3kv) (k := 350) (m := 37) (pos := b3parts.2.2.2.1)
    (by rw [b3_list_len]; decide) (by rw [b3_len]; decide) (by rw [b3_len]; decide) b3_apart (by rw [b3_len]; decide)
  rw [b3_len, b3_heap, b3_list_len] at hd
  unfold restOf
  rw [execs_cons_wrap, b3_exec]
  have hs := segRun_of (congrFun (b3_store w) os)
  obtain ⟨a, ha, hN⟩ := seg_top (res := id) (K' := fun f => match f with | .next => (execs rest env0).wrap doneF (leaveH env0) id id | f => doneF f) (H' := leaveH env0) (B := [tf]) rfl 8 _ ⟨(b3rest (.ref 91)).wrap doneF deadEnd id id, code0, b3parts.2.2.2.1, [tf]⟩
    ⟨(b3rest (.ref 91)).wrap (fun f => match f with | .next => (execs rest env0).wrap doneF (leaveH env0) id id | f => doneF f) (leaveH env0) id id, code0, b3parts.2.2.2.1, [tf]⟩ _ _ _ _ ⟨rfl, rfl, .inl ⟨rfl, rfl, _, rfl, rfl⟩⟩ hs
  obtain rfl : a = .next := ha
  have h8 := hN N r k
  have hA : Goes PW w bodyL env0 q0 (1 + (1 + (330 * 37 + 19 * (650 - 17 * (37 + 1)) + 229))) (st (tr4 w.params) 91 350 os).abs pos4 (standAt b3parts.2.2.2.2 >>= fun _ => (standAt b3parts.2.2.2.1 >>= fun _ => dictDisplay (b3kv.map (item b3parts.2.2.2.1)))) (st (tr4b w.params) 130 2300 os).abs b3parts.2.2.2.1 (.ref 91) :=
    Goes.bind' (n1 := 1) Goes.at' (Goes.bind' (n1 := 1) Goes.at' hd)
  have h9 := hA (fun v => (b3rest v).wrap (fun f => match f with | .next => (execs rest env0).wrap doneF (leaveH env0) id id | f => doneF f) (leaveH env0) id id) (leaveH env0) id id (8 + N) r h8
  rw [show 2 + (12515 + (8 + N)) = (1 + (1 + (330 * 37 + 19 * (650 - 17 * (37 + 1)) + 229))) + (8 + N) by omega]
  rw [Sem.bind_eq_wrap', Sem.wrap_wrap] at h9 ⊢
  simp only [Sem.bind_eq_wrap', Sem.wrap_wrap] at h9 ⊢
  exact h9
theorem pieceA (w : World) : (fun os => segRunT treeTable PW w 11 (some (.ref 6)) 1 419 (st (tr0 w.params) 15 187 os) (piecesOf (bodyL.take 3) env0 code0 pos0 [tf])) = fun os => some (Flow.next, st (tr1 w.params) 40 225 os, code0, pos1) := by
  rw [PySem.W.Fast.te10110043849684766642, PySem.W.Fast.te14364793385576792824]
  kernel_rfl
theorem pieceB (w : World) : (fun os => segRunT treeTable PW w 11 (some (.ref 6)) 1 523 (st (tr1 w.params) 40 225 os) (piecesOf ((bodyL.drop 3).take 7) env0 code0 pos1 [tf])) = fun os => some (Flow.next, st (tr2 w.params) 73 283 os, code0, pos2) := by
  rw [PySem.W.Fast.te10110043849684766642, PySem.W.Fast.te14364793385576792824]
  kernel_rfl
theorem pieceD (w : World) : (fun os => segRunT treeTable PW w 11 (some (.ref 6)) 1 30 (st (tr3 w.params) 84 343 os) (piecesOf ((bodyL.drop 11).take 1) env0 code0 pos3 [tf])) = fun os => some (Flow.next, st (tr4 w.params) 91 350 os, code0, pos4) := by
  rw [PySem.W.Fast.te10110043849684766642, PySem.W.Fast.te14364793385576792824]
  kernel_rfl
theorem pieceF (w : World) : (fun os => segRunT treeTable PW w 11 (some (.ref 6)) 1 300 (st (tr5 w.params) 130 2301 os) (piecesOf (bodyL.drop 13) env0 code0 pos5 [tf])) = fun os => some (Flow.next, st (tr6 w.params) 189 2391 os, code0, pos6) := by
  rw [PySem.W.Fast.te10110043849684766642, PySem.W.Fast.te14364793385576792824]
  kernel_rfl
noncomputable def pC (w : World) : Prop := (fun os => segRunT treeTable PW w 11 (some (.ref 6)) 1 999 (st (tr2 w.params) 73 283 os) (piecesOf ((bodyL.drop 10).take 1) env0 code0 pos2 [tf])) = fun os => some (Flow.next, st (tr3 w.params) 84 343 os, code0, pos3)
theorem pC_ff (w : World) : pC ((w.withFollow "special-get-raises" false).withFollow "set-order" false) := by
  unfold pC
  rw [PySem.W.Fast.te10110043849684766642, PySem.W.Fast.te14364793385576792824]
  kernel_rfl
theorem pC_ft (w : World) : pC ((w.withFollow "special-get-raises" false).withFollow "set-order" true) := by
  unfold pC
  rw [PySem.W.Fast.te10110043849684766642, PySem.W.Fast.te14364793385576792824]
  kernel_rfl
theorem pC_tf (w : World) : pC ((w.withFollow "special-get-raises" true).withFollow "set-order" false) := by
  unfold pC
  rw [PySem.W.Fast.te10110043849684766642, PySem.W.Fast.te14364793385576792824]
  kernel_rfl
theorem pC_tt (w : World) : pC ((w.withFollow "special-get-raises" true).withFollow "set-order" true) := by
  unfold pC
  rw [PySem.W.Fast.te10110043849684766642, PySem.W.Fast.te14364793385576792824]
  kernel_rfl
theorem pieceC (w : World) : pC w :=
  byRow2 "set-order" (P := pC) (byRow2 "special-get-raises" (P := fun w => pC (w.withFollow "set-order" false)) pC_ff pC_tf)
    (byRow2 "special-get-raises" (P := fun w => pC (w.withFollow "set-order" true)) pC_ft pC_tt) w
noncomputable def kap : Params → Frag := (fun (a4 : Arguments) (b4 : List Stmt) (s4 : Scope) (_ : fdOf 4 = (a4, b4, s4)) (a5 : Arguments) (b5 : List Stmt) (s5 : Scope) (_ : fdOf 5 = (a5, b5, s5)) (a8 : Arguments) (b8 : List Stmt) (s8 : Scope) (_ : fdOf 8 = (a8, b8, s8)) (a11 : Arguments) (b11 : List Stmt) (s11 : Scope) (_ : fdOf 11 = (a11, b11, s11)) (a13 : Arguments) (b13 : List Stmt) (s13 : Scope) (_ : fdOf 13 = (a13, b13, s13)) (a15 : Arguments) (b15 : List Stmt) (s15 : Scope) (_ : fdOf 15 = (a15, b15, s15)) (a16 : Arguments) (b16 : List Stmt) (s16 : Scope) (_ : fdOf 16 = (a16, b16, s16)) (a17 : Arguments) (b17 : List Stmt) (s17 : Scope) (_ : fdOf 17 = (a17, b17, s17)) (a18 : Arguments) (b18 : List Stmt) (s18 : Scope) (_ : fdOf 18 = (a18, b18, s18)) (a19 : Arguments) (b19 : List Stmt) (s19 : Scope) (_ : fdOf 19 = (a19, b19, s19)) (a20 : Arguments) (b20 : List Stmt) (s20 : Scope) (_ : fdOf 20 = (a20, b20, s20)) (a21 : Arguments) (b21 : List Stmt) (s21 : Scope) (_ : fdOf 21 = (a21, b21, s21)) (a22 : Arguments) (b22 : List Stmt) (s22 : Scope) (_ : fdOf 22 = (a22, b22, s22)) (P : Params) => ((nat_lit 2, ⟨.none, none, (.dict #[⟨PyData.keyHash P (Str.ofString "type.__subclasses__.Exception.0"), (.str (Str.ofString "type.__subclasses__.Exception.0") 205), (.int 24 0)⟩, ⟨PyData.keyHash P (Str.ofString "type.__subclasses__.Exception.n"), (.str (Str.ofString "type.__subclasses__.Exception.n") 206), (.int 1 0)⟩] 2), #[]⟩) ::
 (nat_lit 3, ⟨(.type "dict"), none, (.dict #[⟨PyData.keyHash P (Str.ofString "__name__"), (.str (Str.ofString "__name__") 165), (.str (Str.ofString "law_ux0028_01") 2309)⟩, ⟨PyData.keyHash P (Str.ofString "__doc__"), (.str (Str.ofString "__doc__") 166), .none⟩, ⟨PyData.keyHash P (Str.ofString "__package__"), (.str (Str.ofString "__package__") 167), .none⟩, ⟨PyData.keyHash P (Str.ofString "__loader__"), (.str (Str.ofString "__loader__") 168), (.builtin "__main__.__loader__#opaque")⟩, ⟨PyData.keyHash P (Str.ofString "__spec__"), (.str (Str.ofString "__spec__") 169), .none⟩, ⟨PyData.keyHash P (Str.ofString "__annotations__"), (.str (Str.ofString "__annotations__") 170), (.ref 6)⟩, ⟨PyData.keyHash P (Str.ofString "__builtins__"), (.str (Str.ofString "__builtins__") 171), (.ref 4)⟩, ⟨PyData.keyHash P (Str.ofString "__file__"), (.str (Str.ofString "__file__") 173), (.str (Str.ofString "/claim/cut.py") 172)⟩, ⟨PyData.keyHash P (Str.ofString "__cached__"), (.str (Str.ofString "__cached__") 174), .none⟩, ⟨PyData.keyHash P (Str.ofString "Error"), (.str (Str.ofString "Error") 208), (.ref 24)⟩, ⟨PyData.keyHash P (Str.ofString "error_reply"), (.str (Str.ofString "error_reply") 224), (.ref 37)⟩, ⟨PyData.keyHash P (Str.ofString "error_proto"), (.str (Str.ofString "error_proto") 240), (.ref 49)⟩, ⟨PyData.keyHash P (Str.ofString "parse229"), (.str (Str.ofString "parse229") 253), (.ref 58)⟩, ⟨PyData.keyHash P (Str.ofString "parse257"), (.str (Str.ofString "parse257") 264), (.ref 65)⟩, ⟨PyData.keyHash P (Str.ofString "ELLIPSIS_MARKER"), (.str (Str.ofString "ELLIPSIS_MARKER") 268), (.str (Str.ofString "...") 267)⟩, ⟨PyData.keyHash P (Str.ofString "_ellipsis_match"), (.str (Str.ofString "_ellipsis_match") 280), (.ref 72)⟩, ⟨PyData.keyHash P (Str.ofString "b1_set"), (.str (Str.ofString "b1_set") 342), (.ref 80)⟩, ⟨PyData.keyHash P (Str.ofString "in_table_b1"), (.str (Str.ofString "in_table_b1") 349), (.ref 90)⟩, ⟨PyData.keyHash P (Str.ofString "b3_exceptions"), (.str (Str.ofString "b3_exceptions") 2300), (.ref 91)⟩, ⟨PyData.keyHash P (Str.ofString "map_table_b3"), (.str (Str.ofString "map_table_b3") 2308), (.ref 136)⟩, ⟨PyData.keyHash P (Str.ofString "_law_prepared"), (.str (Str.ofString "_law_prepared") 2316), (.ref 141)⟩, ⟨PyData.keyHash P (Str.ofString "_law_sign"), (.str (Str.ofString "_law_sign") 2325), (.ref 148)⟩, ⟨PyData.keyHash P (Str.ofString "_law_inside"), (.str (Str.ofString "_law_inside") 2339), (.ref 155)⟩, ⟨PyData.keyHash P (Str.ofString "_law_refused"), (.str (Str.ofString "_law_refused") 2348), (.ref 162)⟩, ⟨PyData.keyHash P (Str.ofString "_law_spoilt"), (.str (Str.ofString "_law_spoilt") 2361), (.ref 169)⟩, ⟨PyData.keyHash P (Str.ofString "_law_place"), (.str (Str.ofString "_law_place") 2373), (.ref 176)⟩, ⟨PyData.keyHash P (Str.ofString "_law_told"), (.str (Str.ofString "_law_told") 2384), (.ref 183)⟩, ⟨PyData.keyHash P (Str.ofString "law"), (.str (Str.ofString "law") 2390), (.ref 188)⟩] 28), #[]⟩) ::
 (nat_lit 6, ⟨(.type "dict"), none, (.dict #[] 0), #[]⟩) ::
 (nat_lit 15, ⟨(.type "tuple"), none, (.seq #[(.type "Exception")] 0), #[]⟩) ::
 (nat_lit 22, ⟨(.type "tuple"), none, (.seq #[] 0), #[]⟩) ::
 (nat_lit 23, ⟨(.type "dict"), none, (.dict #[⟨PyData.keyHash P (Str.ofString "__module__"), (.str (Str.ofString "__module__") 196), (.str (Str.ofString "cpy313.ftplib") 187)⟩, ⟨PyData.keyHash P (Str.ofString "__firstlineno__"), (.str (Str.ofString "__firstlineno__") 200), (.int 2 199)⟩, ⟨PyData.keyHash P (Str.ofString "__static_attributes__"), (.str (Str.ofString "__static_attributes__") 201), (.ref 22)⟩, ⟨PyData.keyHash P (Str.ofString "__weakref__"), (.str (Str.ofString "__weakref__") 203), (.ref 25)⟩, ⟨PyData.keyHash P (Str.ofString "__doc__"), (.str (Str.ofString "__doc__") 204), .none⟩] 3), #[]⟩) ::
 (nat_lit 24, ⟨(.type "type"), none, (.cls ⟨(Str.ofString "Error"), [(.type "Exception")], [(.ref 24), (.type "Exception"), (.type "BaseException"), (.type "object")], 23, (Str.ofString "Error"), true, [], [(.ref 37), (.ref 49)], false, none, false⟩), #[(some (.ref 15)), none, (some (.str (Str.ofString "Error") 189)), (some (.str (Str.ofString "Error") 197)), (some (.builtin "Exception.__new__")), (some (.bool true))]⟩) ::
 (nat_lit 25, ⟨(.type "getset_descriptor"), none, (.fields #[(.str (Str.ofString "__weakref__") 202), (.ref 24), (.builtin "ExceptionGroup.__weakref__"), .none]), #[]⟩) ::
 (nat_lit 28, ⟨(.type "tuple"), none, (.seq #[(.ref 24)] 0), #[]⟩) ::
 (nat_lit 35, ⟨(.type "tuple"), none, (.seq #[] 0), #[]⟩) ::
 (nat_lit 36, ⟨(.type "dict"), none, (.dict #[⟨PyData.keyHash P (Str.ofString "__module__"), (.str (Str.ofString "__module__") 216), (.str (Str.ofString "cpy313.ftplib") 187)⟩, ⟨PyData.keyHash P (Str.ofString "__firstlineno__"), (.str (Str.ofString "__firstlineno__") 220), (.int 4 219)⟩, ⟨PyData.keyHash P (Str.ofString "__static_attributes__"), (.str (Str.ofString "__static_attributes__") 221), (.ref 35)⟩, ⟨PyData.keyHash P (Str.ofString "__doc__"), (.str (Str.ofString "__doc__") 222), .none⟩] 2), #[]⟩) ::
 (nat_lit 37, ⟨(.type "type"), none, (.cls ⟨(Str.ofString "error_reply"), [(.ref 24)], [(.ref 37), (.ref 24), (.type "Exception"), (.type "BaseException"), (.type "object")], 36, (Str.ofString "error_reply"), true, [], [], false, none, false⟩), #[(some (.ref 28)), none, (some (.str (Str.ofString "error_reply") 209)), (some (.str (Str.ofString "error_reply") 217)), (some (.builtin "Exception.__new__")), (some (.bool true))]⟩) ::
 (nat_lit 40, ⟨(.type "tuple"), none, (.seq #[(.ref 24)] 0), #[]⟩) ::
 (nat_lit 47, ⟨(.type "tuple"), none, (.seq #[] 0), #[]⟩) ::
 (nat_lit 48, ⟨(.type "dict"), none, (.dict #[⟨PyData.keyHash P (Str.ofString "__module__"), (.str (Str.ofString "__module__") 232), (.str (Str.ofString "cpy313.ftplib") 187)⟩, ⟨PyData.keyHash P (Str.ofString "__firstlineno__"), (.str (Str.ofString "__firstlineno__") 236), (.int 6 235)⟩, ⟨PyData.keyHash P (Str.ofString "__static_attributes__"), (.str (Str.ofString "__static_attributes__") 237), (.ref 47)⟩, ⟨PyData.keyHash P (Str.ofString "__doc__"), (.str (Str.ofString "__doc__") 238), .none⟩] 2), #[]⟩) ::
 (nat_lit 49, ⟨(.type "type"), none, (.cls ⟨(Str.ofString "error_proto"), [(.ref 24)], [(.ref 49), (.ref 24), (.type "Exception"), (.type "BaseException"), (.type "object")], 48, (Str.ofString "error_proto"), true, [], [], false, none, false⟩), #[(some (.ref 40)), none, (some (.str (Str.ofString "error_proto") 225)), (some (.str (Str.ofString "error_proto") 233)), (some (.builtin "Exception.__new__")), (some (.bool true))]⟩) ::
 (nat_lit 52, ⟨(.type "tuple"), none, (.seq #[] 0), #[]⟩) ::
 (nat_lit 54, ⟨(.type "tuple"), none, (.seq #[(.str (Str.ofString "resp") 244), (.str (Str.ofString "peer") 245), (.str (Str.ofString "left") 246), (.str (Str.ofString "right") 247), (.str (Str.ofString "parts") 248), (.str (Str.ofString "host") 249), (.str (Str.ofString "port") 250)] 0), #[]⟩) ::
 (nat_lit 55, ⟨(.type "tuple"), none, (.seq #[] 0), #[]⟩) ::
 (nat_lit 57, ⟨(.type "code"), none, (.fields #[(.str (Str.ofString "parse229") 241), (.str (Str.ofString "parse229") 242), (.str (Str.ofString "/claim/cut.py") 243), (.int 8 0), (.int 2 0), (.int 0 0), (.int 0 0), (.int 3 0), (.ref 52), (.bool true), (.int 181 0), (.ref 53), .none, (.ref 54), (.ref 55), (.ref 56), (.int 251 0), (.int 8 0), (.str (Str.ofString "/claim/cut.py") 252)]), #[]⟩) ::
 (nat_lit 58, ⟨(.type "function"), none, (.func ⟨(Str.ofString "parse229"), (Str.ofString "parse229"), a4, .stmts b4, s4, 3, [], .none, .none, .none, (.str (Str.ofString "cpy313.ftplib") 187), none, (.ref 57), .none, 0⟩), #[]⟩) ::
 (nat_lit 59, ⟨(.type "tuple"), none, (.seq #[] 0), #[]⟩) ::
 (nat_lit 61, ⟨(.type "tuple"), none, (.seq #[(.str (Str.ofString "resp") 257), (.str (Str.ofString "dirname") 258), (.str (Str.ofString "i") 259), (.str (Str.ofString "n") 260), (.str (Str.ofString "c") 261)] 0), #[]⟩) ::
 (nat_lit 62, ⟨(.type "tuple"), none, (.seq #[] 0), #[]⟩) ::
 (nat_lit 64, ⟨(.type "code"), none, (.fields #[(.str (Str.ofString "parse257") 254), (.str (Str.ofString "parse257") 255), (.str (Str.ofString "/claim/cut.py") 256), (.int 25 0), (.int 1 0), (.int 0 0), (.int 0 0), (.int 3 0), (.ref 59), (.bool true), (.int 181 0), (.ref 60), .none, (.ref 61), (.ref 62), (.ref 63), (.int 262 0), (.int 25 0), (.str (Str.ofString "/claim/cut.py") 263)]), #[]⟩) ::
 (nat_lit 65, ⟨(.type "function"), none, (.func ⟨(Str.ofString "parse257"), (Str.ofString "parse257"), a5, .stmts b5, s5, 3, [], .none, .none, .none, (.str (Str.ofString "cpy313.ftplib") 187), none, (.ref 64), .none, 0⟩), #[]⟩) ::
 (nat_lit 66, ⟨(.type "tuple"), none, (.seq #[] 0), #[]⟩) ::
 (nat_lit 68, ⟨(.type "tuple"), none, (.seq #[(.str (Str.ofString "want") 272), (.str (Str.ofString "got") 273), (.str (Str.ofString "ws") 274), (.str (Str.ofString "startpos") 275), (.str (Str.ofString "endpos") 276), (.str (Str.ofString "w") 277)] 0), #[]⟩) ::
 (nat_lit 69, ⟨(.type "tuple"), none, (.seq #[] 0), #[]⟩) ::
 (nat_lit 71, ⟨(.type "code"), none, (.fields #[(.str (Str.ofString "_ellipsis_match") 269), (.str (Str.ofString "_ellipsis_match") 270), (.str (Str.ofString "/claim/cut.py") 271), (.int 44 0), (.int 2 0), (.int 0 0), (.int 0 0), (.int 3 0), (.ref 66), (.bool true), (.int 181 0), (.ref 67), .none, (.ref 68), (.ref 69), (.ref 70), (.int 278 0), (.int 44 0), (.str (Str.ofString "/claim/cut.py") 279)]), #[]⟩) ::
 (nat_lit 72, ⟨(.type "function"), none, (.func ⟨(Str.ofString "_ellipsis_match"), (Str.ofString "_ellipsis_match"), a8, .stmts b8, s8, 3, [], .none, .none, .none, (.str (Str.ofString "cpy313.doctest") 265), none, (.ref 71), .none, 0⟩), #[]⟩) ::
 (nat_lit 80, ⟨(.type "set"), none, (.set #[(65024, (.int 65024 299)), (65025, (.int 65025 300)), (65026, (.int 65026 301)), (65027, (.int 65027 302)), (65028, (.int 65028 303)), (65029, (.int 65029 304)), (6150, (.int 6150 285)), (65030, (.int 65030 305)), (65031, (.int 65031 306)), (65032, (.int 65032 307)), (65033, (.int 65033 308)), (6155, (.int 6155 286)), (6156, (.int 6156 287)), (6157, (.int 6157 288)), (8203, (.int 8203 289)), (8204, (.int 8204 290)), (8205, (.int 8205 291)), (65034, (.int 65034 309)), (65035, (.int 65035 310)), (65036, (.int 65036 311)), (65037, (.int 65037 312)), (65038, (.int 65038 313)), (65039, (.int 65039 314)), (173, (.int 173 283)), (847, (.int 847 284)), (8288, (.int 8288 292)), (65279, (.int 65279 293))] 29 ⟨127, #[0, 1, 2, 3, 4, 5, 6, 7, 8, 9, 10, 11, 12, 13, 14, 15, 16, 17, 18, 19, 20, 21, 22, 45, 79, 96, 127], #[], 0, !(P.followText "set-order"), 2, true⟩), #[]⟩) ::
 (nat_lit 84, ⟨(.type "tuple"), none, (.seq #[] 0), #[]⟩) ::
 (nat_lit 86, ⟨(.type "tuple"), none, (.seq #[(.str (Str.ofString "code") 346)] 0), #[]⟩) ::
 (nat_lit 87, ⟨(.type "tuple"), none, (.seq #[] 0), #[]⟩) ::
 (nat_lit 89, ⟨(.type "code"), none, (.fields #[(.str (Str.ofString "in_table_b1") 343), (.str (Str.ofString "in_table_b1") 344), (.str (Str.ofString "/claim/cut.py") 345), (.int 74 0), (.int 1 0), (.int 0 0), (.int 0 0), (.int 3 0), (.ref 84), (.bool true), (.int 181 0), (.ref 85), .none, (.ref 86), (.ref 87), (.ref 88), (.int 347 0), (.int 74 0), (.str (Str.ofString "/claim/cut.py") 348)]), #[]⟩) ::
 (nat_lit 90, ⟨(.type "function"), none, (.func ⟨(Str.ofString "in_table_b1"), (Str.ofString "in_table_b1"), a11, .stmts b11, s11, 3, [], .none, .none, .none, (.str (Str.ofString "cpy313.stringprep") 281), none, (.ref 89), .none, 0⟩), #[]⟩) ::
 (nat_lit 91, tabO) ::
 (nat_lit 130, ⟨(.type "tuple"), none, (.seq #[] 0), #[]⟩) ::
 (nat_lit 132, ⟨(.type "tuple"), none, (.seq #[(.str (Str.ofString "code") 2304), (.str (Str.ofString "r") 2305)] 0), #[]⟩) ::
 (nat_lit 133, ⟨(.type "tuple"), none, (.seq #[] 0), #[]⟩) ::
 (nat_lit 135, ⟨(.type "code"), none, (.fields #[(.str (Str.ofString "map_table_b3") 2301), (.str (Str.ofString "map_table_b3") 2302), (.str (Str.ofString "/claim/cut.py") 2303), (.int 77 0), (.int 1 0), (.int 0 0), (.int 0 0), (.int 3 0), (.ref 130), (.bool true), (.int 181 0), (.ref 131), .none, (.ref 132), (.ref 133), (.ref 134), (.int 2306 0), (.int 77 0), (.str (Str.ofString "/claim/cut.py") 2307)]), #[]⟩) ::
 (nat_lit 136, ⟨(.type "function"), none, (.func ⟨(Str.ofString "map_table_b3"), (Str.ofString "map_table_b3"), a13, .stmts b13, s13, 3, [], .none, .none, .none, (.str (Str.ofString "cpy313.stringprep") 281), none, (.ref 135), .none, 0⟩), #[]⟩) ::
 (nat_lit 137, ⟨(.type "tuple"), none, (.seq #[] 0), #[]⟩) ::
 (nat_lit 140, ⟨(.type "code"), none, (.fields #[(.str (Str.ofString "_law_prepared") 2311), (.str (Str.ofString "_law_prepared") 2312), (.str (Str.ofString "/claim/cut.py") 2313), (.int 83 0), (.int 1 0), (.int 0 0), (.int 0 0), (.int 3 0), (.ref 137), (.bool true), (.int 181 0), (.ref 138), .none, .none, .none, (.ref 139), (.int 2314 0), (.int 83 0), (.str (Str.ofString "/claim/cut.py") 2315)]), #[]⟩) ::
 (nat_lit 141, ⟨(.type "function"), none, (.func ⟨(Str.ofString "_law_prepared"), (Str.ofString "_law_prepared"), a15, .stmts b15, s15, 3, [], .none, .none, .none, (.str (Str.ofString "law_ux0028_01") 2309), none, (.ref 140), .none, 0⟩), #[]⟩) ::
 (nat_lit 142, ⟨(.type "tuple"), none, (.seq #[] 0), #[]⟩) ::
 (nat_lit 144, ⟨(.type "tuple"), none, (.seq #[(.str (Str.ofString "letter") 2320), (.str (Str.ofString "way") 2321), (.str (Str.ofString "hidden") 2322)] 0), #[]⟩) ::
 (nat_lit 145, ⟨(.type "tuple"), none, (.seq #[] 0), #[]⟩) ::
 (nat_lit 147, ⟨(.type "code"), none, (.fields #[(.str (Str.ofString "_law_sign") 2317), (.str (Str.ofString "_law_sign") 2318), (.str (Str.ofString "/claim/cut.py") 2319), (.int 85 0), (.int 2 0), (.int 0 0), (.int 0 0), (.int 3 0), (.ref 142), (.bool true), (.int 181 0), (.ref 143), .none, (.ref 144), (.ref 145), (.ref 146), (.int 2323 0), (.int 85 0), (.str (Str.ofString "/claim/cut.py") 2324)]), #[]⟩) ::
 (nat_lit 148, ⟨(.type "function"), none, (.func ⟨(Str.ofString "_law_sign"), (Str.ofString "_law_sign"), a16, .stmts b16, s16, 3, [], .none, .none, .none, (.str (Str.ofString "law_ux0028_01") 2309), none, (.ref 147), .none, 0⟩), #[]⟩) ::
 (nat_lit 149, ⟨(.type "tuple"), none, (.seq #[] 0), #[]⟩) ::
 (nat_lit 151, ⟨(.type "tuple"), none, (.seq #[(.str (Str.ofString "letter") 2329), (.str (Str.ofString "figures") 2330), (.str (Str.ofString "number") 2331), (.str (Str.ofString "typed") 2332), (.str (Str.ofString "meant") 2333), (.str (Str.ofString "k") 2334), (.str (Str.ofString "way") 2335), (.str (Str.ofString "field") 2336)] 0), #[]⟩) ::
 (nat_lit 152, ⟨(.type "tuple"), none, (.seq #[] 0), #[]⟩) ::
 (nat_lit 154, ⟨(.type "code"), none, (.fields #[(.str (Str.ofString "_law_inside") 2326), (.str (Str.ofString "_law_inside") 2327), (.str (Str.ofString "/claim/cut.py") 2328), (.int 96 0), (.int 3 0), (.int 0 0), (.int 0 0), (.int 3 0), (.ref 149), (.bool true), (.int 181 0), (.ref 150), .none, (.ref 151), (.ref 152), (.ref 153), (.int 2337 0), (.int 96 0), (.str (Str.ofString "/claim/cut.py") 2338)]), #[]⟩) ::
 (nat_lit 155, ⟨(.type "function"), none, (.func ⟨(Str.ofString "_law_inside"), (Str.ofString "_law_inside"), a17, .stmts b17, s17, 3, [], .none, .none, .none, (.str (Str.ofString "law_ux0028_01") 2309), none, (.ref 154), .none, 0⟩), #[]⟩) ::
 (nat_lit 156, ⟨(.type "tuple"), none, (.seq #[] 0), #[]⟩) ::
 (nat_lit 158, ⟨(.type "tuple"), none, (.seq #[(.str (Str.ofString "reply") 2343), (.str (Str.ofString "peer") 2344), (.str (Str.ofString "fault") 2345)] 0), #[]⟩) ::
 (nat_lit 159, ⟨(.type "tuple"), none, (.seq #[] 0), #[]⟩) ::
 (nat_lit 161, ⟨(.type "code"), none, (.fields #[(.str (Str.ofString "_law_refused") 2340), (.str (Str.ofString "_law_refused") 2341), (.str (Str.ofString "/claim/cut.py") 2342), (.int 112 0), (.int 2 0), (.int 0 0), (.int 0 0), (.int 3 0), (.ref 156), (.bool true), (.int 181 0), (.ref 157), .none, (.ref 158), (.ref 159), (.ref 160), (.int 2346 0), (.int 112 0), (.str (Str.ofString "/claim/cut.py") 2347)]), #[]⟩) ::
 (nat_lit 162, ⟨(.type "function"), none, (.func ⟨(Str.ofString "_law_refused"), (Str.ofString "_law_refused"), a18, .stmts b18, s18, 3, [], .none, .none, .none, (.str (Str.ofString "law_ux0028_01") 2309), none, (.ref 161), .none, 0⟩), #[]⟩) ::
 (nat_lit 163, ⟨(.type "tuple"), none, (.seq #[] 0), #[]⟩) ::
 (nat_lit 165, ⟨(.type "tuple"), none, (.seq #[(.str (Str.ofString "reply") 2352), (.str (Str.ofString "peer") 2353), (.str (Str.ofString "number") 2354), (.str (Str.ofString "inside") 2355), (.str (Str.ofString "mark") 2356), (.str (Str.ofString "spoilt") 2357), (.str (Str.ofString "fault") 2358)] 0), #[]⟩) ::
 (nat_lit 166, ⟨(.type "tuple"), none, (.seq #[] 0), #[]⟩) ::
 (nat_lit 168, ⟨(.type "code"), none, (.fields #[(.str (Str.ofString "_law_spoilt") 2349), (.str (Str.ofString "_law_spoilt") 2350), (.str (Str.ofString "/claim/cut.py") 2351), (.int 118 0), (.int 3 0), (.int 0 0), (.int 0 0), (.int 3 0), (.ref 163), (.bool true), (.int 181 0), (.ref 164), .none, (.ref 165), (.ref 166), (.ref 167), (.int 2359 0), (.int 118 0), (.str (Str.ofString "/claim/cut.py") 2360)]), #[]⟩) ::
 (nat_lit 169, ⟨(.type "function"), none, (.func ⟨(Str.ofString "_law_spoilt"), (Str.ofString "_law_spoilt"), a19, .stmts b19, s19, 3, [], .none, .none, .none, (.str (Str.ofString "law_ux0028_01") 2309), none, (.ref 168), .none, 0⟩), #[]⟩) ::
 (nat_lit 170, ⟨(.type "tuple"), none, (.seq #[] 0), #[]⟩) ::
 (nat_lit 172, ⟨(.type "tuple"), none, (.seq #[(.str (Str.ofString "number") 2365), (.str (Str.ofString "place") 2366), (.str (Str.ofString "steps") 2367), (.str (Str.ofString "marks") 2368), (.str (Str.ofString "step") 2369), (.str (Str.ofString "told") 2370)] 0), #[]⟩) ::
 (nat_lit 173, ⟨(.type "tuple"), none, (.seq #[] 0), #[]⟩) ::
 (nat_lit 175, ⟨(.type "code"), none, (.fields #[(.str (Str.ofString "_law_place") 2362), (.str (Str.ofString "_law_place") 2363), (.str (Str.ofString "/claim/cut.py") 2364), (.int 137 0), (.int 3 0), (.int 0 0), (.int 0 0), (.int 3 0), (.ref 170), (.bool true), (.int 181 0), (.ref 171), .none, (.ref 172), (.ref 173), (.ref 174), (.int 2371 0), (.int 137 0), (.str (Str.ofString "/claim/cut.py") 2372)]), #[]⟩) ::
 (nat_lit 176, ⟨(.type "function"), none, (.func ⟨(Str.ofString "_law_place"), (Str.ofString "_law_place"), a20, .stmts b20, s20, 3, [], .none, .none, .none, (.str (Str.ofString "law_ux0028_01") 2309), none, (.ref 175), .none, 0⟩), #[]⟩) ::
 (nat_lit 177, ⟨(.type "tuple"), none, (.seq #[] 0), #[]⟩) ::
 (nat_lit 179, ⟨(.type "tuple"), none, (.seq #[(.str (Str.ofString "letter") 2377), (.str (Str.ofString "figures") 2378), (.str (Str.ofString "reply") 2379), (.str (Str.ofString "many") 2380), (.str (Str.ofString "front") 2381)] 0), #[]⟩) ::
 (nat_lit 180, ⟨(.type "tuple"), none, (.seq #[] 0), #[]⟩) ::
 (nat_lit 182, ⟨(.type "code"), none, (.fields #[(.str (Str.ofString "_law_told") 2374), (.str (Str.ofString "_law_told") 2375), (.str (Str.ofString "/claim/cut.py") 2376), (.int 147 0), (.int 3 0), (.int 0 0), (.int 0 0), (.int 3 0), (.ref 177), (.bool true), (.int 181 0), (.ref 178), .none, (.ref 179), (.ref 180), (.ref 181), (.int 2382 0), (.int 147 0), (.str (Str.ofString "/claim/cut.py") 2383)]), #[]⟩) ::
 (nat_lit 183, ⟨(.type "function"), none, (.func ⟨(Str.ofString "_law_told"), (Str.ofString "_law_told"), a21, .stmts b21, s21, 3, [], .none, .none, .none, (.str (Str.ofString "law_ux0028_01") 2309), none, (.ref 182), .none, 0⟩), #[]⟩) ::
 (nat_lit 184, ⟨(.type "tuple"), none, (.seq #[] 0), #[]⟩) ::
 (nat_lit 187, ⟨(.type "code"), none, (.fields #[(.str (Str.ofString "law") 2385), (.str (Str.ofString "law") 2386), (.str (Str.ofString "/claim/cut.py") 2387), (.int 155 0), (.int 1 0), (.int 0 0), (.int 0 0), (.int 3 0), (.ref 184), (.bool true), (.int 181 0), (.ref 185), .none, .none, .none, (.ref 186), (.int 2388 0), (.int 155 0), (.str (Str.ofString "/claim/cut.py") 2389)]), #[]⟩) ::
 (nat_lit 188, ⟨(.type "function"), none, (.func ⟨(Str.ofString "law"), (Str.ofString "law"), a22, .stmts b22, s22, 3, [], .none, .none, .none, (.str (Str.ofString "law_ux0028_01") 2309), none, (.ref 187), .none, 0⟩), #[]⟩) :: [] : Frag)) _ _ _ rfl _ _ _ rfl _ _ _ rfl _ _ _ rfl _ _ _ rfl _ _ _ rfl _ _ _ rfl _ _ _ rfl _ _ _ rfl _ _ _ rfl _ _ _ rfl _ _ _ rfl _ _ _ rfl
noncomputable def kas : List Addr := [2, 3, 6, 15, 22, 23, 24, 25, 28, 35, 36, 37, 40, 47, 48, 49, 52, 54, 55, 57, 58, 59, 61, 62, 64, 65, 66, 68, 69, 71, 72, 80, 84, 86, 87, 89, 90, 91, 130, 132, 133, 135, 136, 137, 140, 141, 142, 144, 145, 147, 148, 149, 151, 152, 154, 155, 156, 158, 159, 161, 162, 163, 165, 166, 168, 169, 170, 172, 173, 175, 176, 177, 179, 180, 182, 183, 184, 187, 188]
noncomputable def kb : Hook := kHook kap kas (fun _ => by kernel_rfl)
noncomputable def vw : Program := PySem.W.view PW [1, 2, 3, 4, 5, 7, 8, 10, 11, 13, 15, 16, 17, 18, 19, 20, 21, 22]
noncomputable abbrev loo : List Str := [Str.ofString "b1_set", Str.ofString "b3_exceptions"]
noncomputable def xt0 : Shared → Bool := fun s => xlAt vw [] s && recOk (RowW.records (PySem.Challenge.rw_ux0028_01.row.toRowW)) s
noncomputable abbrev MM : Nat := 20000
noncomputable def hp1 (P : Params) : Heap := absHeap (tr6 P) 189 {}
theorem hSize (w : World) : ((boot_heap w.params).isNs mainGlobals && (Array.mk [] : Array GenState).size == 0, (boot_heap w.params).objs.size, (boot_heap w.params).nsMap mainGlobals "__annotations__") = (true, 11, some (.ref 6)) := by kernel_rfl
theorem hOpen : ∀ w : World, (fencedOpening treeTable PW w MM).map (fun s => (s.heap, s.gens, s.drawn, s.toks)) = some (boot_heap w.params, Array.mk [], boot_drawn, boot_toks) :=
  boot_open (by kernel_rfl) (by decide) (fun s => by kernel_rfl)
theorem pre0 (w : World) : (fun os => topGo treeTable PW w 11 (some (.ref 6)) 12 ⟨boot_heap w.params, Array.mk [], boot_drawn, boot_toks, os⟩ (topStub PW)) = fun os => some ((st (tr0 w.params) 15 187 os).abs, ⟨denote treeTable code0, code0, q0, [tf]⟩) := by
  rw [PySem.W.Fast.te15667345088766844465, PySem.W.Fast.te14364793385576792824, PySem.W.Fast.te11892475500146522536]
  kernel_rfl
theorem block0 (w : World) : (fun os => segRun treeTable PW w 11 (some (.ref 6)) 1 1 (st (tr0 w.params) 15 187 os).abs (blockOf bodyL env0 code0 q0 [tf])) = fun os => some (Flow.next, (st (tr0 w.params) 15 187 os).abs, code0, pos0) := by
  rw [PySem.W.Fast.te14374325043358763698, PySem.W.Fast.te14364793385576792824]
  kernel_rfl
theorem fin0 (w : World) : (fun os => topRun treeTable PW w 11 (some (.ref 6)) 2 (st (tr6 w.params) 189 2391 os).abs ⟨doneF .next, code0, pos6, [tf]⟩) = fun os => some (st (tr6 w.params) 189 2391 os).abs := by
  rw [PySem.W.Fast.te14082659384304107361, PySem.W.Fast.te14364793385576792824]
  kernel_rfl
theorem look1 (w : World) : (fun os : OsState => (staticsOk (importedModules PW.main.body) (boot_heap w.params) (hp1 w.params) && namesBound PW (hp1 w.params) && gensDone ⟨hp1 w.params, #[], {}, 2391, os⟩ && laidKept (boot_heap w.params) (hp1 w.params))) = fun _ => true := by kernel_rfl
theorem look3 (w : World) : (fun os : OsState => kb.obs ⟨hp1 w.params, #[], {}, 2391, os⟩) = fun _ => kb.val w := by kernel_rfl
noncomputable abbrev sF (w : World) (os : OsState) : Shared := ⟨hp1 w.params, #[], {}, 2391, os⟩
theorem lk0 (w : World) (os : OsState) : seen ((recsOf vw).map (·.name)) (ownsOf vw) [] { sF w os with gens := #[] } = expectedOf vw := by
  rw [PySem.W.Fast.te5160383126252970620, PySem.W.Fast.te3399658132070893891, PySem.W.Fast.te5991557255702980513]
  kernel_rfl
theorem lk1 (w : World) (os : OsState) : (hp1 w.params).bltView = bltViewBooted := by
  kernel_rfl
theorem lk2a (w : World) (os : OsState) : (hp1 w.params).keysOk (looseW vw loo) ((recsOf vw).map (·.name)) ((litsOf vw).map (·.1)) ((clssOf vw (looseW vw loo)).map (·.name)) = true := by
  rw [PySem.W.Fast.te10880121769531294198, PySem.W.Fast.te821141287760084731, PySem.W.Fast.te3399658132070893891, PySem.W.Fast.te7409074990110511671, PySem.W.Fast.te13664370479719496447]
  kernel_rfl
theorem lk2b (w : World) (os : OsState) : (hp1 w.params).accountedOkI (importedModules PW.main.body) = true := by
  rw [PySem.W.Fast.te14722251495701143533]
  kernel_rfl
theorem lk2c (w : World) (os : OsState) : ((hp1 w.params).isNs mainGlobals && (hp1 w.params).isNs builtinsNs) = true := by
  kernel_rfl
theorem lk2d (w : World) (os : OsState) : tablesOk vw (hp1 w.params) = true := by
  rw [PySem.W.Fast.te10994771534591457954]
  kernel_rfl
theorem lk2e (w : World) (os : OsState) : xt0 (sF w os) = true := by
  kernel_rfl
theorem lk3 (w : World) (os : OsState) : tabsOk vw (sF w os) = true := by
  rw [PySem.W.Fast.te479339242167458305]
  kernel_rfl
theorem lk4 (w : World) (os : OsState) : pinSeenD vw (drecsOf vw) (sF w os) = pinGoodD (drecsOf vw) := by
  rw [PySem.W.Fast.te16090120013241838585, PySem.W.Fast.te3247288618530077131]
  kernel_rfl
theorem lk5 (w : World) (os : OsState) : plainSeenE vw (looseW vw loo) (sF w os) = plainGoodE vw (looseW vw loo) := by
  rw [PySem.W.Fast.te2386780881361962483, PySem.W.Fast.te821141287760084731]
  kernel_rfl
theorem lk6 (w : World) (os : OsState) : plainSeenD vw loo (sF w os) = plainGoodD vw loo := by
  rw [PySem.W.Fast.te11698064438423848299]
  kernel_rfl
theorem lk7 (w : World) (os : OsState) : wideSeen vw (sF w os) = wideGood vw := by
  rw [PySem.W.Fast.te7317090234206586261]
  kernel_rfl
theorem lk8 (w : World) (os : OsState) : clsSeenW vw loo (sF w os) = clsGoodW vw loo := by
  rw [PySem.W.Fast.te7369524293546568484]
  kernel_rfl
/-! ## the head -/
theorem hLooks (w : World) : (fun os : OsState => ((staticsOk (importedModules PW.main.body) (boot_heap w.params) (hp1 w.params) && namesBound PW (hp1 w.params) && gensDone ⟨hp1 w.params, #[], {}, 2391, os⟩ && laidKept (boot_heap w.params) (hp1 w.params)),
    openSeen vw loo (importedModules PW.main.body) xt0 true ⟨hp1 w.params, #[], {}, 2391, os⟩, kb.obs ⟨hp1 w.params, #[], {}, 2391, os⟩)) = fun _ => (true, openGood vw loo, kb.val w) := by
  funext os
  refine looks_pair (congrFun (look1 w) os) (looks_pair ?_ (congrFun (look3 w) os))
  unfold openSeen openGood
  refine looks_pair (lk0 w os) (looks_pair (lk1 w os) (looks_pair ?_ (looks_pair (lk3 w os) (looks_pair (lk4 w os) (looks_pair (lk5 w os) (looks_pair (lk6 w os) (looks_pair (lk7 w os) (lk8 w os))))))))
  exact look_both (look_both (look_both (look_both (look_both (look_both (lk2a w os) (lk2b w os)) (Bool.and_eq_true_iff.mp (lk2c w os)).1) (Bool.and_eq_true_iff.mp (lk2c w os)).2) (lk2d w os)) (lk2e w os)) rfl
theorem body_eq : bodyL = bodyL.take 3 ++ ((bodyL.drop 3).take 7 ++ ((bodyL.drop 10).take 1 ++ ((bodyL.drop 11).take 1 ++ (b3st :: (bodyL.drop 13 ++ []))))) := by kernel_rfl
noncomputable abbrev MT : Nat := 12 + (1 + (419 + (523 + (999 + (30 + (2 + (12515 + (8 + (300 + 2)))))))))
theorem hRun (w : World) (os : OsState) : topRun treeTable PW w 11 (some (.ref 6)) MT ⟨boot_heap w.params, Array.mk [], boot_drawn, boot_toks, os⟩ (topStub PW) = some ⟨hp1 w.params, #[], {}, 2391, os⟩ := by
  refine go_top (congrFun (pre0 w) os) (piece_block (congrFun (block0 w) os) ?_)
  refine (congrArg (fun l => topRun treeTable PW w 11 (some (.ref 6)) (419 + (523 + (999 + (30 + (2 + (12515 + (8 + (300 + 2)))))))) (st (tr0 w.params) 15 187 os).abs (restOf l env0 code0 pos0 [tf])) body_eq).trans ?_
  refine piece_app (segRun_of (congrFun (pieceA w) os)) ?_
  refine piece_app (segRun_of (congrFun (pieceB w) os)) ?_
  refine piece_app (segRun_of (congrFun (pieceC w) os)) ?_
  refine piece_app (segRun_of (congrFun (pieceD w) os)) ?_
  refine b3_step ?_
  refine piece_app (segRun_of (congrFun (pieceF w) os)) ?_
  exact piece_nil (congrFun (fin0 w) os)
theorem leftO : LeftO PW vw loo xt0 kb.obs kb.val MM true :=
  LeftO.of_pieces (m₀ := 11) (ann := some (.ref 6)) (H₁ := hp1) (gs₁ := #[]) (d₁ := {}) (k₁ := 2391) (M := MT) hOpen hSize hRun (by decide +kernel) hLooks
end Mine
end
namespace Mine
open PySem PySem.W PyProof.Rows PySem.Spec PySem.Calls PyProof.V
noncomputable abbrev PP : Program := PySem.Challenge.rw_ux0028_01.prog
noncomputable abbrev LL : List Str := (looseW vw [Str.ofString "b1_set", Str.ofString "b3_exceptions"])
/-! ## the set b1_set and the table b3_exceptions, as the top leaves them -/
noncomputable def objAt (P : Params) (a : Nat) : Obj := ((kap P).lookup a).getD default
theorem objAt_in {P : Params} {h : Heap} (X : (kap P).In h) (a : Nat) (e : ((kap P).lookup a).isSome = true) : h.get? a = some (objAt P a) := by
  refine X a _ ?_
  unfold objAt
  cases q : (kap P).lookup a with
  | none => rw [q] at e; cases e
  | some o => rfl
noncomputable def b1L : List Int := [173, 847, 6150, 6155, 6156, 6157, 8203, 8204, 8205, 8288, 65279, 65024, 65025, 65026, 65027, 65028, 65029, 65030, 65031, 65032, 65033, 65034, 65035, 65036, 65037, 65038, 65039]
noncomputable def b1 (c : Int) : Bool := b1L.contains c
noncomputable def setEs (o : Obj) : Array (Int × Value) := match o.data with | .set es _ _ => es | _ => #[]
noncomputable def chkSet (es : List (Int × Value)) : Bool :=
  (es.all fun e => match e.2 with | .int k _ => e.1 == hashInt k && b1L.contains k | _ => false) && b1L.all fun k => es.any fun e => match e.2 with | .int j _ => j == k | _ => false
theorem set_ok (P : Params) : ∃ ep t, objAt P 80 = ⟨.type "set", none, .set (setEs (objAt P 80)) ep t, #[]⟩ ∧ t.fits (setEs (objAt P 80)).size = true ∧ (setEs (objAt P 80)).size = 27 ∧ chkSet (setEs (objAt P 80)).toList = true :=
  ⟨29, (match (objAt P 80).data with | .set _ _ t => t | _ => default), by kernel_rfl, by kernel_rfl, by kernel_rfl, by kernel_rfl⟩
theorem b1_set_in {prog : Program} {w : World} {h : Heap} (X : (kap w.params).In h) : h.SetOf (intKind prog w) 80 b1 27 := by
  obtain ⟨ep, t, ho, hf, hn, hc⟩ := set_ok w.params
  have hg := objAt_in X 80 (by kernel_rfl)
  unfold chkSet at hc
  rw [Bool.and_eq_true] at hc
  obtain ⟨c1, c2⟩ := hc
  rw [List.all_eq_true] at c1 c2
  have key : ∀ e ∈ (setEs (objAt w.params 80)).toList, ∃ k t, e.2 = .int k t ∧ e.1 = hashInt k ∧ b1L.contains k = true := by
    intro e he
    have q := c1 e he
    split at q
    · rename_i k t hk
      rw [Bool.and_eq_true, beq_iff_eq] at q
      exact ⟨k, t, hk, q.1, q.2⟩
    · cases q
  refine ⟨_, setEs (objAt w.params 80), ep, t, hg, ?_, ?_, ?_, ?_, ?_, hf, hn⟩
  · rw [ho]; exact ⟨rfl, rfl, rfl⟩
  · rw [ho]; rfl
  · intro e he
    obtain ⟨k, t, h1, h2, _⟩ := key e he
    exact ⟨⟨k, by rw [h1]; exact intKind_is _ _ _ _, h2⟩, by rw [h1]; rfl⟩
  · intro k
    constructor
    · intro hk
      have hk' : k ∈ b1L := List.contains_iff_mem.mp hk
      have q := c2 k hk'
      rw [List.any_eq_true] at q
      obtain ⟨e, he, q⟩ := q
      obtain ⟨j, u, h1, _, _⟩ := key e he
      rw [h1] at q
      have : j = k := by simpa using q
      subst this
      exact ⟨e, he, by rw [h1]; exact intKind_is _ _ _ _⟩
    · rintro ⟨e, he, q⟩
      obtain ⟨j, u, h1, _, h3⟩ := key e he
      rw [h1] at q
      have : j = k := by simpa [intKind, Value.isInt] using q
      subst this
      exact h3
  · rw [hn]; decide
noncomputable def dictEs (o : Obj) : Array DictEntry := match o.data with | .dict es _ => es | _ => #[]
noncomputable def b3Ent : List DictEntry := (dictEs (objAt (aWorld 1).params 91)).toList
noncomputable def b3Tab : List (Int × Str) := b3Ent.filterMap fun e => match e.key, e.val with | .int k _, .str x _ => some (k, x) | _, _ => none
/-- what the table answers -/
noncomputable def b3At (c : Int) : Option Str := (b3Tab.find? fun p => p.1 == c).map (·.2)
noncomputable def chkDict (es : List DictEntry) : Bool := es.all fun e => match e.key, e.val with | .int k _, .str _ _ => e.hash == hashInt k | _, _ => false
noncomputable def rising : List Int → Bool
  | a :: b :: r => decide (a < b) && rising (b :: r)
  | _ => true
theorem rising_nodup : ∀ l : List Int, rising l = true → l.Nodup ∧ ∀ a r, l = a :: r → ∀ b ∈ r, a < b
  | [], _ => ⟨List.nodup_nil, fun _ _ h => nomatch h⟩
  | [a], _ => ⟨by simp, fun _ _ h => by cases h; intro b hb; cases hb⟩
  | a :: b :: r, h => by
    simp only [rising, Bool.and_eq_true, decide_eq_true_eq] at h
    obtain ⟨n, m⟩ := rising_nodup (b :: r) h.2
    have m' := m b r rfl
    have all : ∀ x ∈ b :: r, a < x := fun x hx => by
      rcases List.mem_cons.mp hx with rfl | hx
      · exact h.1
      · exact Int.lt_trans h.1 (m' x hx)
    refine ⟨List.nodup_cons.mpr ⟨fun hm => Int.lt_irrefl _ (all a hm), n⟩, fun x y e => ?_⟩
    cases e
    exact all
theorem dict_ok (P : Params) : ∃ ep, objAt P 91 = ⟨.type "dict", none, .dict b3Ent.toArray ep, #[]⟩ := ⟨650, by kernel_rfl⟩
theorem dict_chk : chkDict b3Ent = true := by kernel_rfl
theorem dict_rising : rising (b3Tab.map (·.1)) = true := by kernel_rfl
theorem pairs_of {prog : Program} {w : World} : ∀ es : List DictEntry, chkDict es = true → ∃ kvs : List (Int × Value), Pairs (intKind prog w) es kvs ∧
    FlatPairs PyData.int kvs ((es.filterMap fun e => match e.key, e.val with | .int k _, .str x _ => some (k, x) | _, _ => none).map fun p => (PyData.int p.1, PyData.str p.2)) ∧
    kvs.map (·.1) = (es.filterMap fun e => match e.key, e.val with | .int k _, .str x _ => some (k, x) | _, _ => none).map (·.1)
  | [], _ => ⟨[], .nil, .nil, rfl⟩
  | e :: es, h => by
    unfold chkDict at h
    rw [List.all_cons, Bool.and_eq_true] at h
    obtain ⟨kvs, a, b, c⟩ := pairs_of es h.2
    obtain ⟨hs, key, val⟩ := e
    have h1 := h.1
    split at h1
    · rename_i k t x u hk hv
      dsimp only at hk hv
      subst hk hv
      refine ⟨(k, .str x u) :: kvs, .cons (intKind_is _ _ _ _) rfl a, ?_, ?_⟩
      · exact .cons (Flat.str x u) b
      · simp only [List.map_cons, List.filterMap_cons, c]
    · cases h1
theorem b3_tab_in {prog : Program} {w : World} {h : Heap} (X : (kap w.params).In h) : IntTab prog w h 91 (b3Tab.map fun p => (PyData.int p.1, PyData.str p.2)) := by
  obtain ⟨ep, ho⟩ := dict_ok w.params
  have hg := objAt_in X 91 (by kernel_rfl)
  obtain ⟨kvs, a, b, c⟩ := pairs_of (prog := prog) (w := w) b3Ent dict_chk
  refine ⟨by decide, kvs, ⟨_, b3Ent.toArray, ep, hg, ?_, ?_, ?_, ?_, ?_⟩, b⟩
  · rw [ho]; exact ⟨rfl, rfl, rfl⟩
  · rw [ho]
  · intro e he
    have q := List.all_eq_true.mp dict_chk e (by simpa using he)
    split at q
    · rename_i k t x u hk hv
      exact ⟨k, by rw [hk]; exact intKind_is _ _ _ _, beq_iff_eq.mp q⟩
    · cases q
  · exact a
  · rw [c]
    exact (rising_nodup _ dict_rising).1
/-- the table's get, by the two ways -/
theorem b3_get {prog : Program} {w : World} {A : Around} {E : Value → Shared → Prop} {s : Shared} {i : Int} {t : Tok} {Q : Value → Shared → Prop} (X : (kap w.params).In s.heap)
    (h1 : ∀ x u, b3At i = some x → Q (.str x u) { s with toks := s.toks + 1 }) (h2 : b3At i = none → Q .none { s with toks := s.toks + 1 }) :
    wpAny (model prog w) A (call (.builtin "dict.get") [.ref 91, .int i t]) Q E s := by
  refine call_get1_intTab (b3_tab_in X) fun v hv => ?_
  have e : Spec.lookup (PyData.int i) (b3Tab.map fun p => (PyData.int p.1, PyData.str p.2)) = (b3At i).map PyData.str := by
    unfold b3At
    generalize b3Tab = l
    induction l with
    | nil => rfl
    | cons p r ih =>
      rw [List.map_cons, Spec.lookup, List.find?_cons]
      rw [same_int]
      by_cases hq : p.1 = i
      · simp [hq]
      · rw [if_neg (by simpa using hq), ih, show (p.1 == i) = false from by simpa using hq]
  rw [e] at hv
  cases q : b3At i with
  | none => rw [q] at hv; obtain rfl := Flat.none_inv hv; exact h2 q
  | some x => rw [q] at hv; obtain ⟨u, rfl⟩ := Flat.str_inv hv; exact h1 x u q
end Mine
set_option maxHeartbeats 0
namespace Mine
open PySem PySem.W PyProof.Rows PySem.Spec PySem.Calls PyProof.V PyProof.Rows.LCg PyProof.Rows.LCt
noncomputable abbrev upd (m : Str → Option Value) (x : Str) (v : Value) : Str → Option Value := fun y => if y = x then some v else m y
theorem upd_eq {m : Str → Option Value} {x : Str} {v : Value} (h : m x = some v) : m = fun y => if y = x then some v else m y := by
  funext y
  by_cases e : y = x
  · rw [if_pos e, e, h]
  · rw [if_neg e]
theorem fr_to {h₀ h : Heap} {L : Addr} {m m' : Str → Option Value} (F : Fr h₀ L h m) (e : m = m') : Fr h₀ L h m' := e ▸ F
theorem fr_at1 {h₀ h : Heap} {L : Addr} {m : Str → Option Value} {x : Str} {v : Value} (F : Fr h₀ L h m) (e : m x = some v) : Fr h₀ L h (fun y => if y = x then some v else m y) := fr_to F (upd_eq e)
theorem fr_at2 {h₀ h : Heap} {L : Addr} {m : Str → Option Value} {x x' : Str} {v v' : Value} (F : Fr h₀ L h m) (e : m x = some v) (e' : m x' = some v') : Fr h₀ L h (fun y => if y = x then some v else if y = x' then some v' else m y) := by
  have := fr_at1 F e
  rw [upd_eq e'] at this
  exact this
theorem news_cons {h₀ h : Heap} {L : Addr} {news : List (Addr × Obj)} {p : Addr × Obj} (hp : p ∈ news) (N : News h₀ L h news) : News h₀ L h (p :: news) := fun q hq => by
  rcases List.mem_cons.mp hq with rfl | hq
  · exact N _ hp
  · exact N _ hq
theorem news_tail {h₀ h : Heap} {L : Addr} {news : List (Addr × Obj)} {p : Addr × Obj} (N : News h₀ L h (p :: news)) : News h₀ L h news := fun q hq => N q (List.mem_cons_of_mem _ hq)
theorem news2 {h₀ h : Heap} {L : Addr} {news : List (Addr × Obj)} {p q : Addr × Obj} (hp : p ∈ news) (hq : q ∈ news) (N : News h₀ L h news) : News h₀ L h (p :: q :: news) := news_cons (List.mem_cons_of_mem _ hp) (news_cons hq N)
theorem fr_back1 {h₀ h : Heap} {L : Addr} {m : Str → Option Value} {x y : Str} {u v : Value} (e : m y = some u) (F : Fr h₀ L h (fun z => if z = x then some v else if z = y then some u else m z)) : Fr h₀ L h (fun z => if z = x then some v else m z) := by
  refine fr_to F (funext fun z => ?_)
  by_cases h1 : z = x
  · rw [if_pos h1, if_pos h1]
  · rw [if_neg h1, if_neg h1]
    by_cases h2 : z = y
    · rw [if_pos h2, h2, e]
    · rw [if_neg h2]
theorem fr_back2 {h₀ h : Heap} {L : Addr} {m : Str → Option Value} {x y y' : Str} {u u' v : Value} (e : m y = some u) (e' : m y' = some u') (F : Fr h₀ L h (fun z => if z = x then some v else if z = y then some u else if z = y' then some u' else m z)) : Fr h₀ L h (fun z => if z = x then some v else m z) := by
  refine fr_to F (funext fun z => ?_)
  by_cases h1 : z = x
  · rw [if_pos h1, if_pos h1]
  · rw [if_neg h1, if_neg h1]
    by_cases h2 : z = y
    · rw [if_pos h2, h2, e]
    · rw [if_neg h2]
      by_cases h3 : z = y'
      · rw [if_pos h3, h3, e']
      · rw [if_neg h3]
theorem upd2 {m : Str → Option Value} {x x' : Str} {v v' : Value} (h : m x = some v) (h' : m x' = some v') : m = fun y => if y = x then some v else if y = x' then some v' else m y := by
  conv => lhs; rw [upd_eq h]
  conv => lhs; rw [upd_eq h']
theorem fr_at4 {h₀ h : Heap} {L : Addr} {m : Str → Option Value} {x1 x2 x3 x4 : Str} {v1 v2 v3 v4 : Value} (F : Fr h₀ L h m) (e1 : m x1 = some v1) (e2 : m x2 = some v2) (e3 : m x3 = some v3) (e4 : m x4 = some v4) : Fr h₀ L h (fun y => if y = x1 then some v1 else if y = x2 then some v2 else if y = x3 then some v3 else if y = x4 then some v4 else m y) := by
  refine fr_to F (funext fun y => ?_)
  repeat' split
  all_goals simp_all
theorem fr_back4 {h₀ h : Heap} {L : Addr} {m : Str → Option Value} {x x1 x2 x3 x4 : Str} {v v1 v2 v3 v4 : Value} (e1 : m x1 = some v1) (e2 : m x2 = some v2) (e3 : m x3 = some v3) (e4 : m x4 = some v4) (F : Fr h₀ L h (fun y => if y = x then some v else if y = x1 then some v1 else if y = x2 then some v2 else if y = x3 then some v3 else if y = x4 then some v4 else m y)) : Fr h₀ L h (fun y => if y = x then some v else m y) := by
  refine fr_to F (funext fun y => ?_)
  repeat' split
  all_goals simp_all
theorem fr_drop1 {h₀ h : Heap} {L : Addr} {m : Str → Option Value} {x1 : Str} {v1 : Value} (e1 : m x1 = some v1) (F : Fr h₀ L h (fun y => if y = x1 then some v1 else m y)) : Fr h₀ L h m := by
  refine fr_to F (funext fun y => ?_)
  split
  all_goals simp_all
theorem fr_drop2 {h₀ h : Heap} {L : Addr} {m : Str → Option Value} {x1 x2 : Str} {v1 v2 : Value} (e1 : m x1 = some v1) (e2 : m x2 = some v2) (F : Fr h₀ L h (fun y => if y = x1 then some v1 else if y = x2 then some v2 else m y)) : Fr h₀ L h m := by
  refine fr_to F (funext fun y => ?_)
  repeat' split
  all_goals simp_all
theorem fr_at3 {h₀ h : Heap} {L : Addr} {m : Str → Option Value} {x1 x2 x3 : Str} {v1 v2 v3 : Value} (F : Fr h₀ L h m) (e1 : m x1 = some v1) (e2 : m x2 = some v2) (e3 : m x3 = some v3) : Fr h₀ L h (fun y => if y = x1 then some v1 else if y = x2 then some v2 else if y = x3 then some v3 else m y) := by
  refine fr_to F (funext fun y => ?_)
  repeat' split
  all_goals simp_all
theorem fr_drop3 {h₀ h : Heap} {L : Addr} {m : Str → Option Value} {x1 x2 x3 : Str} {v1 v2 v3 : Value} (e1 : m x1 = some v1) (e2 : m x2 = some v2) (e3 : m x3 = some v3) (F : Fr h₀ L h (fun y => if y = x1 then some v1 else if y = x2 then some v2 else if y = x3 then some v3 else m y)) : Fr h₀ L h m := by
  refine fr_to F (funext fun y => ?_)
  repeat' split
  all_goals simp_all
theorem fr_back3 {h₀ h : Heap} {L : Addr} {m : Str → Option Value} {x x1 x2 x3 : Str} {v v1 v2 v3 : Value} (e1 : m x1 = some v1) (e2 : m x2 = some v2) (e3 : m x3 = some v3) (F : Fr h₀ L h (fun y => if y = x then some v else if y = x1 then some v1 else if y = x2 then some v2 else if y = x3 then some v3 else m y)) : Fr h₀ L h (fun y => if y = x then some v else m y) := by
  refine fr_to F (funext fun y => ?_)
  repeat' split
  all_goals simp_all
theorem fr_drop4 {h₀ h : Heap} {L : Addr} {m : Str → Option Value} {x1 x2 x3 x4 : Str} {v1 v2 v3 v4 : Value} (e1 : m x1 = some v1) (e2 : m x2 = some v2) (e3 : m x3 = some v3) (e4 : m x4 = some v4) (F : Fr h₀ L h (fun y => if y = x1 then some v1 else if y = x2 then some v2 else if y = x3 then some v3 else if y = x4 then some v4 else m y)) : Fr h₀ L h m := by
  refine fr_to F (funext fun y => ?_)
  repeat' split
  all_goals simp_all
theorem fr_at5 {h₀ h : Heap} {L : Addr} {m : Str → Option Value} {x1 x2 x3 x4 x5 : Str} {v1 v2 v3 v4 v5 : Value} (F : Fr h₀ L h m) (e1 : m x1 = some v1) (e2 : m x2 = some v2) (e3 : m x3 = some v3) (e4 : m x4 = some v4) (e5 : m x5 = some v5) : Fr h₀ L h (fun y => if y = x1 then some v1 else if y = x2 then some v2 else if y = x3 then some v3 else if y = x4 then some v4 else if y = x5 then some v5 else m y) := by
  refine fr_to F (funext fun y => ?_)
  repeat' split
  all_goals simp_all
theorem fr_drop5 {h₀ h : Heap} {L : Addr} {m : Str → Option Value} {x1 x2 x3 x4 x5 : Str} {v1 v2 v3 v4 v5 : Value} (e1 : m x1 = some v1) (e2 : m x2 = some v2) (e3 : m x3 = some v3) (e4 : m x4 = some v4) (e5 : m x5 = some v5) (F : Fr h₀ L h (fun y => if y = x1 then some v1 else if y = x2 then some v2 else if y = x3 then some v3 else if y = x4 then some v4 else if y = x5 then some v5 else m y)) : Fr h₀ L h m := by
  refine fr_to F (funext fun y => ?_)
  repeat' split
  all_goals simp_all
theorem fr_at6 {h₀ h : Heap} {L : Addr} {m : Str → Option Value} {x1 x2 x3 x4 x5 x6 : Str} {v1 v2 v3 v4 v5 v6 : Value} (F : Fr h₀ L h m) (e1 : m x1 = some v1) (e2 : m x2 = some v2) (e3 : m x3 = some v3) (e4 : m x4 = some v4) (e5 : m x5 = some v5) (e6 : m x6 = some v6) : Fr h₀ L h (fun y => if y = x1 then some v1 else if y = x2 then some v2 else if y = x3 then some v3 else if y = x4 then some v4 else if y = x5 then some v5 else if y = x6 then some v6 else m y) := by
  refine fr_to F (funext fun y => ?_)
  repeat' split
  all_goals simp_all
theorem upd_ne {m : Str → Option Value} {x y : Str} {v : Value} {o : Option Value} (e : ¬ y = x) (h : m y = o) : (fun z => if z = x then some v else m z) y = o := by
  show (if y = x then some v else m y) = o
  rw [if_neg e]; exact h
end Mine
namespace Mine
open PySem PySem.W PyProof.Rows PySem.Spec PySem.Calls PyProof.V PyProof.Rows.LCg PyProof.Rows.LCt
section
variable {prog : Program} {w : World} {A : Around} {E : Value → Shared → Prop} {s : Shared} {h₀ : Heap} {L : Addr} {m : Str → Option Value} {env : Env}
theorem str_st {y : Str} {t : Tok} {I : Addr} {n : String} : ∀ i (h h' : Heap) (o : Obj) (nw : List (Addr × Obj)), h.IsStrIter I n y t i → h.get? I = some o → h'.get? I = some o → (∀ b o, h₀.get? b = some o → h'.get? b = some o) → News h₀ L h' nw → True → h'.IsStrIter I n y t i := by
  rintro i h h' o nw ⟨o', e, r⟩ e1 e2 _ _ _
  rw [e1] at e
  cases e
  exact ⟨o, e2, r⟩
/-- where the comprehension's source is a text -/
noncomputable def SrcS (prog : Program) (w : World) (A : Around) (h₀ : Heap) (L : Addr) (m : Str → Option Value) (env : Env) (ct elt : Expr) (x : Str) (scope : Scope) (cl : List (Str × Addr)) (Q : Value → Shared → Prop) (xv : Value) (s₁ : Shared) : Prop :=
  ∃ y t news, xv = .str y t ∧ A.handled = none ∧ Fr h₀ L s₁.heap m ∧ News h₀ L s₁.heap news ∧ y.cps.size ≤ sizeLine ∧
      ∀ g, CompRestT prog w A h₀ L m env ct elt x scope cl { s₁ with heap := g } (fun _ => True) (SignAt y) (FinE h₀ L m { s₁ with heap := g } Q) y.cps.size 0 [] news
/-- the turns, where each keeps or drops its sign and hands a text -/
theorem comp_rest_TS {ct elt : Expr} {x : Str} {scope : Scope} {cl : List (Str × Addr)} {S : List (Addr × Obj) → Prop} {Fin : List Value → List (Addr × Obj) → Prop} {news : List (Addr × Obj)} {y : Str} (keep : Nat → Bool) (f : Nat → Str)
    (turn : ∀ c u I oI C oC D m₂ ys h tk (E' : Value → Shared → Prop), c ∈ y.cps.toList → NsObj oC m₂ → m₂ x = some (.str ⟨#[c]⟩ u) → Fr h₀ L h m → News h₀ L h ((I, oI) :: (C, oC) :: (D, lst ys) :: news) → Off3 I C D news → ((@Ne Nat I C) ∧ (@Ne Nat I D) ∧ (@Ne Nat C D)) →
      wpAny (model prog w) A (isTrue ct (compEnvC scope cl C env) (eval ct (compEnvC scope cl C env))) (fun ok s' => if ok = true then
        wpAny (model prog w) A (eval elt (compEnvC scope cl C env)) (CompEnd h₀ L m { s with heap := h, toks := tk } I oI C oC D (lst ys) S (fun v news' => keep c = true ∧ news' = news ∧ ∃ t, v = .str (f c) t)) E' s'
        else CompEnd h₀ L m { s with heap := h, toks := tk } I oI C oC D (lst ys) S (fun _ news' => keep c = false ∧ news' = news) Value.none s') E' { s with heap := h, toks := tk })
    (fin : ∀ ys, StrsAre ys ((y.cps.toList.filter keep).map f) → Fin ys news) : CompRestT prog w A h₀ L m env ct elt x scope cl s S (SignAt y) Fin y.cps.size 0 [] news := by
  have key : ∀ (j i : Nat) (ys : List Value), i + j = y.cps.size → StrsAre ys (((y.cps.toList.take i).filter keep).map f) → CompRestT prog w A h₀ L m env ct elt x scope cl s S (SignAt y) Fin j i ys news := by
    intro j
    induction j with
    | zero =>
      intro i ys hi hy
      have e : i = y.cps.toList.length := by rw [Array.length_toList]; omega
      subst e
      rw [List.take_length] at hy
      exact CompRestT.zero (fin ys hy)
    | succ j ih =>
      intro i ys hi hy
      refine CompRestT.succ ?_
      rintro v I oI C oC D m₂ h tk E' ⟨c, u, hc, rfl⟩ hC hx F N off ne
      have hc' : y.cps.toList[i]? = some c := by rw [Array.getElem?_toList]; exact hc
      refine wpAny_mono (turn c u I oI C oC D m₂ ys h tk E' (List.mem_of_getElem? hc') hC hx F N off ne) (fun ok s₂ hq => ?_) fun _ _ e => e
      cases ok with
      | true =>
        simp only [if_true] at hq ⊢
        refine wpAny_mono hq (fun v s₃ hq => ?_) fun _ _ e => e
        obtain ⟨h', tk', nw, e, F', N', off', hS, hk, hn, t', hv⟩ := hq
        subst hn hv
        refine ⟨h', tk', _, e, F', N', off', hS, ih (i + 1) _ (by omega) ?_⟩
        rw [List.take_add_one, hc']
        simp only [Option.toList_some, List.filter_append, List.map_append, List.filter_cons, hk, if_true, List.filter_nil, List.map_cons, List.map_nil]
        exact kct_snoc hy
      | false =>
        simp only [Bool.false_eq_true, if_false] at hq ⊢
        obtain ⟨h', tk', nw, e, F', N', off', hS, hk, hn⟩ := hq
        subst hn
        refine ⟨h', tk', _, e, F', N', off', hS, ih (i + 1) _ (by omega) ?_⟩
        rw [List.take_add_one, hc']
        simp only [Option.toList_some, List.filter_append, List.map_append, List.filter_cons, hk, Bool.false_eq_true, if_false, List.filter_nil, List.map_nil, List.append_nil]
        exact hy
  exact key y.cps.size 0 [] (by omega) (by simp only [List.take_zero, List.filter_nil, List.map_nil]; exact .nil)
/-- a comprehension with a test over the signs of a text -/
theorem ListComp_TS {ct elt iter : Expr} {x : Str} {px : Pos} {scope : Scope} {cl : List (Str × Addr)} {pos : Pos} {Q : Value → Shared → Prop} (F₀ : Fr h₀ L s.heap m)
    (hclos : closureFor scope env = pure cl) (hcell : ∀ y ∈ scope.names, y.2 ≠ .cell) (hkind : scope.kind = .function)
    (hnames : ∀ y ∈ scope.names, y.2 = .local → scope.names.lookup y.1 = some .local) (hx : scope.names.lookup x = some .local)
    (h : wpAny (model prog w) A (eval iter env) (SrcS prog w A h₀ L m env ct elt x scope cl Q) E s)
    (hs : ∀ x, foldedSetIterable iter env x = pure x := by intro _; rfl) :
    wpAny (model prog w) A (eval (.ListComp elt [⟨.Name x px, iter, [ct], 0⟩] scope pos) env) Q E s := by
  rw [eval_ListComp]
  refine wpAny_comprehension_free (use := none) rfl hs hclos hkind hnames (wpAny_mono h (fun xv s₁ h₁ => ?_) fun _ _ e => e)
  obtain ⟨y, t, news, rfl, hh, F, N, hsz, R⟩ := h₁
  have key : ∀ (n : String), (∀ A' : Around, A'.handled = none → ∀ I : Addr, Walks prog w A' I [I] [I] y.cps.size (SignAt y) (fun i h => h.IsStrIter I n y t i)) →
      wpAny (model prog w) A (newList []) (fun acc s₃ => wpAny (model prog w) A (newFunctionEnv scope env.globals cl [] env.qual none .none (some env)) (fun cenv s₄ =>
        codeAny (model prog w) A (.compStart (.ListComp elt [⟨.Name x px, iter, [ct], 0⟩] scope pos) 0 (.ref s₁.heap.objs.size) acc { cenv with scope := relabel scope env })
          (compPost (model prog w) A E none Q acc cenv.locals) s₄) E s₃) E
        { s₁ with heap := s₁.heap.push { cls := .type n, data := .fields #[.str y t, .int 0 0] } } := by
    intro n W
    refine block_T (W A hh s₁.heap.objs.size) hsz (fun i h st => by obtain ⟨o, e, _⟩ := st; exact ⟨o, e⟩) str_st hcell hkind hx ⟨_, Heap.get?_push_size _ rfl, rfl, rfl⟩ (fun b hb => ?_)
      (F.keeps fun _ _ e => Heap.get?_push_of_some _ e) (N.grown fun _ _ e => Heap.get?_push_of_some _ e) (Nat.ne_of_lt F.ns.lt) (next_is_new F) (fun p hp => Nat.ne_of_lt (Heap.lt_size (N p hp).1)) trivial (R _) ?_
    · rw [List.mem_singleton.mp hb]
      show s₁.heap.objs.size < (s₁.heap.push _).objs.size
      rw [Heap.size_push]; exact Nat.lt_succ_self _
    · intro D C h tk m' ys news' F' N' o1 hn hC₀ hD₀ hCL hDL hCD offC fin
      refine ⟨m', hn, fun h'' hs'' => fin D h'' tk (F'.change hs'' hCL hC₀) (fun p hp => ?_) o1⟩
      refine ⟨hs''.extBut _ _ ?_ (N' p hp).1, (N' p hp).2⟩
      rcases List.mem_cons.mp hp with rfl | hp
      · exact Ne.symm hCD
      · exact offC p hp
  cases ha : y.cps.all (· < 128)
  · exact wpAny_pyIter_wide ha (key _ fun A' hA I => Walks.strWide hA I y t)
  · exact wpAny_pyIter_ascii ha (key _ fun A' hA I => Walks.strAscii hA I y t)
end
end Mine
set_option maxHeartbeats 4000000
namespace Mine
open PySem PySem.W PyProof.Rows PySem.Spec PySem.Calls PyProof.V
/-- what a call of the text's def at f is shown to do, wherever it is called -/
noncomputable abbrev Cl (w : World) (s₀ : Shared) (mg mb : Str → Option Value) (lv : Nat) (f : Addr) (news : List (Addr × Obj)) (vs : List Value) (Ret : Heap → Addr → (Str → Option Value) → Shared → (Value → Shared → Prop) → Prop) : Prop :=
  ∀ {dp un : Nat} {gd : Option (List Code)} {cn : Str} {cs : Scope} {a : Addr} {ccd : Value} {cl : List (Str × Addr)} {outer : List Env} {A₀ : Around} {base h₀ : Heap} {L : Addr} {m : Str → Option Value} {s : Shared} {Q E : Value → Shared → Prop},
    Below A₀ base outer h₀ → Fr h₀ L s.heap m → (kap w.params).In h₀ → News h₀ L s.heap news → Top vw LL (ExcName.means s₀.heap) mg mb h₀ → cs.kind = .function → dp + lv < recursionLimit → un + 8 * lv < cLine →
      Ret h₀ L m s Q → wpAny (model PP w) (ktrTop dp un gd cn cs L a ccd cl outer) (call (.ref f) vs) Q E s
noncomputable def mapS (c : Nat) : Str := (b3At c).getD (Txt.lower ⟨#[c]⟩)
section
variable {w : World} {s₀ : Shared} {mg mb : Str → Option Value} {news : List (Addr × Obj)}
theorem kw1 : True := by
  (k_with "my mine enter" => (refine wpAny_call ?_; k_dflt cell_enter))
  (k_with "my compareOp In int ref" => (k_here; k_dflt (refine' wpAny_inSet_of (knd := PySem.intKind _ _) (S := b1) (n := 27) (intKind_is _ _ _ _) rfl ?hS ?_; (case hS => exact b1_set_in (Frag.In.keeps (by k_asm) (Fr.keep (by assumption)))))))
  trivial
theorem c_b1 {c : Nat} {t : Tok} : Cl w s₀ mg mb 1 90 news [.str ⟨#[c]⟩ t] (fun h₀ L m s Q => CbRet h₀ L m news s Q (fun _ => .bool (b1 c))) := by
  unfold Cl PP; k_fill; intros; rename_i hret
  walk_at "mine enter"
  k_steps
  all_goals (refine cb_retB hret rfl (by k_asm) (by k_asm))
theorem kw2 : True := by
  (k_with "my getMethod ref" => (k_here; (with_reducible show wpAny _ _ (getMethod (Value.ref 91) _ _) _ _ _); k_dflt (refine' getMethod_intTab_get (b3_tab_in ?hS) ?_; (case hS => exact (Frag.In.keeps (by k_asm) (Fr.keep (by assumption)))))))
  (k_with "my call builtin:dict.get" => (k_here; (with_reducible show wpAny _ _ (call _ [Value.ref 91, _]) _ _ _); k_dflt (refine' b3_get ?hS ?_ ?_; (case hS => exact (Frag.In.keeps (by k_asm) (Fr.keep (by assumption)))); (intro x u hb); rotate_left; intro hb; rotate_left)))
  (k_with "my call builtin:str.lower" => (k_here; (with_reducible show wpAny _ _ (call (Value.builtin "str.lower") _) _ _ _); k_dflt (refine' SCL.lower (x := ⟨#[_]⟩) (by show 1 ≤ 5592405; decide) ?_; intro _)))
  trivial
theorem c_map {c : Nat} {t : Tok} : Cl w s₀ mg mb 1 136 news [.str ⟨#[c]⟩ t] (fun h₀ L m s Q => CbRet h₀ L m news s Q (fun t => .str (mapS c) t)) := by
  unfold Cl PP; k_fill; intros; rename_i hret
  walk_at "mine enter"
  k_steps
  all_goals ((rename b3At _ = _ => hb9); refine cb_retS hret (by unfold mapS; rw [hb9]; rfl) (by k_asm) (by k_asm))
theorem kw3 : True := by
  k_with_none
  trivial
end
end Mine
set_option maxHeartbeats 4000000
namespace Mine
open PySem PySem.W PyProof.Rows PySem.Spec PySem.Calls PyProof.V PyProof.Rows.LCg PyProof.Rows.LCt
section
variable {w : World} {s₀ : Shared} {mg mb : Str → Option Value} {news : List (Addr × Obj)}
theorem kw4 : True := by
  (k_with "my mine enter" => (refine wpAny_call ?_; k_dflt cell_enter))
  (k_with "my eval ListComp" => (k_here; walk_say "MINE LC"; k_dflt (refine ListComp_TS (F₀ := by k_asm) (by with_unfolding_all rfl) (by decide) (by rfl) (by decide) (by rfl) ?_)))
  (k_with "my call ref" => (k_here; k_dflt (first | refine c_b1 (by k_asm) (by k_asm) (by k_asm) (by k_asm) (by k_asm) (by first | exact rfl | assumption) (by ktr_room) (by ktr_units) ?_ | refine c_map (by k_asm) (by k_asm) (by k_asm) (by k_asm) (by k_asm) (by first | exact rfl | assumption) (by ktr_room) (by ktr_units) ?_); intro t9 h9 tk9 F9 N9; (try dsimp only); (try k_fold)))
  trivial
theorem strsAre_values : ∀ {vs : List Value} {ys : List Str}, StrsAre vs ys → ∃ l : List (Str × Tok), vs = strValues l ∧ l.map (·.1) = ys
  | _, _, .nil => ⟨[], rfl, rfl⟩
  | _, _, .cons y t r => by
    obtain ⟨l, e1, e2⟩ := strsAre_values r
    exact ⟨(y, t) :: l, by rw [e1]; rfl, by rw [List.map_cons, e2]⟩
theorem b3_short : b3Tab.all (fun p => p.2.length ≤ 4) = true := by kernel_rfl
theorem mapS_short (c : Nat) : (mapS c).length ≤ 4 := by
  unfold mapS
  cases h : b3At c with
  | none =>
    have := len_lower ⟨#[c]⟩
    rw [Option.getD_none]
    exact Nat.le_trans this (by show 3 * 1 ≤ 4; decide)
  | some x =>
    rw [Option.getD_some]
    unfold b3At at h
    rw [Option.map_eq_some_iff] at h
    obtain ⟨p, hp, rfl⟩ := h
    have := List.all_eq_true.mp b3_short p (List.mem_of_find?_eq_some hp)
    simpa using this
theorem maps_weight : ∀ l : List Nat, ((l.map mapS).map (·.length)).sum + (l.map mapS).length ≤ 5 * l.length
  | [] => by simp
  | c :: l => by
    have := maps_weight l
    have := mapS_short c
    simp only [List.map_cons, List.sum_cons, List.length_cons, List.length_map] at *
    omega
noncomputable def prepS (x : Str) : Str := Txt.join (Str.ofString "") ((x.cps.toList.filter fun (c : Nat) => !b1 (c : Int)).map mapS)
theorem c_prep {x : Str} {t : Tok} (hx : x.length < 1000) : Cl w s₀ mg mb 3 141 news [.str x t] (fun h₀ L m s Q => CbRet h₀ L m news s Q (fun t => .str (prepS x) t)) := by
  unfold Cl PP; k_fill; intros; rename_i hret
  walk_at "mine enter"
  k_steps
  refine ⟨_, _, _, rfl, rfl, by k_asm, by k_asm, by (rw [sizeLine_eq]; exact Nat.le_trans (Nat.le_of_lt hx) (by decide)), fun g => ?_⟩
  refine comp_rest_TS (fun c => !b1 c) mapS ?turn ?fin
  case turn =>
    intro c u I oI C oC D m₂ ys h tk E' hc hC hx F N off ne
    k_steps
    · rename (b1 _ = true) => hb
      exact CompEnd.intro (by k_asm) (by k_asm) news (fun p hp => hp) off trivial ⟨by simp [hb], rfl⟩
    · rename (b1 _ = false) => hb
      exact CompEnd.intro (by k_asm) (by k_asm) news (fun p hp => hp) off trivial ⟨by simp [hb], rfl, _, rfl⟩
  case fin =>
    intro ys hys D h tk F N o1
    k_steps
    obtain ⟨l, rfl, hl⟩ := strsAre_values hys
    refine SC.join (l := l) (texts := (x.cps.toList.filter fun (c : Nat) => !b1 (c : Int)).map mapS) ?l hl ?ok ?_
    case l => exact News.isList N (.head _)
    case ok =>
      refine joinOk_of_weight (Nat.le_trans (maps_weight _) ?_) (by decide +kernel)
      have h1 := List.length_filter_le (fun (c : Nat) => !b1 (c : Int)) x.cps.toList
      have h2 : x.cps.toList.length < 1000 := hx
      omega
    intro t' k
    k_steps
    refine cb_retS hret rfl (by k_asm) (by (refine' cb_drop ?cbN ?cbS; (case cbN => assumption); (case cbS => kcj_all)))
theorem kw5 : True := by
  k_with_none
  trivial
end
end Mine
set_option maxHeartbeats 4000000
namespace Mine
open PySem PySem.W PyProof.Rows PySem.Spec PySem.Calls PyProof.V PyProof.Rows.LCg PyProof.Rows.LCt
section
variable {w : World} {s₀ : Shared} {mg mb : Str → Option Value} {news : List (Addr × Obj)}
theorem kw6 : True := by
  (k_with "my mine enter" => (refine wpAny_call ?_; k_dflt cell_enter))
  trivial
theorem getD_bd {M : Int} {l : List Int} (h : l.all (fun x => decide (0 ≤ x) && decide (x ≤ M)) = true) (hM : 0 ≤ M) (n : Nat) : 0 ≤ l.getD n 0 ∧ l.getD n 0 ≤ M := by
  rw [List.getD_eq_getElem?_getD]
  cases e : l[n]? with
  | none => exact ⟨Int.le_refl 0, hM⟩
  | some x =>
    have := List.all_eq_true.mp h x (List.mem_of_getElem? e)
    rw [Bool.and_eq_true, decide_eq_true_eq, decide_eq_true_eq] at this
    exact this
noncomputable abbrev selL : List Int := [0, 1, 2, 4, 7, 8, 9, 10, 11, 12]
theorem code_h : (((Str.ofString "h").cps.getD 0 0 : Nat) : Int) = 104 := by decide +kernel
theorem code_p : (((Str.ofString "p").cps.getD 0 0 : Nat) : Int) = 112 := by decide +kernel
theorem chr_sel {prog : Program} {A : Around} {E : Value → Shared → Prop} {s : Shared} {c : Int} {n : Nat} {t : Tok} {Q : Value → Shared → Prop} (h0 : 97 ≤ c) (h1 : c ≤ 122) (h : Q (.str ⟨#[(119808 + 52 * selL.getD n 0 + c - 97).toNat]⟩ s.toks) { s with toks := s.toks + 1 }) :
    wpAny (model prog w) A (call (.builtin "chr") [.int (119808 + 52 * selL.getD n 0 + c - 97) t]) Q E s := by
  have := getD_bd (M := 12) (l := selL) (by decide) (by decide) n
  exact chr_of_range (by omega) (by omega) h
theorem chr_hid {prog : Program} {A : Around} {E : Value → Shared → Prop} {s : Shared} {l : List Int} {n : Nat} {t : Tok} {Q : Value → Shared → Prop} (hl : l.all (fun x => decide (0 ≤ x) && decide (x ≤ 1114111)) = true) (h : Q (.str ⟨#[(l.getD n 0).toNat]⟩ s.toks) { s with toks := s.toks + 1 }) :
    wpAny (model prog w) A (call (.builtin "chr") [.int (l.getD n 0) t]) Q E s := by
  have := getD_bd hl (by decide) n
  exact chr_of_range this.1 this.2 h
theorem kw7 : True := by
  (k_with "my call builtin:chr" => (k_here; k_dflt (refine' chr_sel (n := _) ?lo ?hi ?_; (case lo => omega); (case hi => omega))))
  (k_with "my call builtin:chr" => (k_here; k_dflt (refine' chr_hid ?lo ?_; (case lo => decide +kernel))))
  (k_with "my binaryOp Add ref ref" => (k_here; (with_reducible rename CarriedAll _ (List.map PyData.int _) => hc9); (have hj9 := IntsAre.ofCarried hc9); k_dflt (refine' kmk_add_ints ?F ?N ?a ?b ?i hj9 ?_ ?z; (case F => k_asm); (case N => k_asm); (case a => kmk_list); (case b => kmk_list); (case i => l_ints); (case z => decide +kernel)); intro D' ws' h' F' N' l1 hI'))
  trivial
noncomputable abbrev hidL : List Int := [173, 847, 6150, 6155, 6156, 6157, 8203, 8204, 8205, 8288, 65279] ++ rangeInts 65024 1 (65040 - 65024 : Int).toNat
/-- the sign that a letter is typed as -/
noncomputable def signS (l : Str) (way : Int) : Str :=
  if way.fmod 6 = 1 then ⟨#[(((l.cps.getD 0 0 : Nat) : Int) - 32).toNat]⟩
  else if way.fmod 6 = 2 then ⟨#[(119808 + 52 * selL.getD ((way.fdiv 6).fmod 10).toNat 0 + ((l.cps.getD 0 0 : Nat) : Int) - 97).toNat]⟩
  else if way.fmod 6 = 3 then (if l = Str.ofString "h" then ⟨#[(8459 + (way.fdiv 6).fmod 3).toNat]⟩ else ⟨#[(8473 : Int).toNat]⟩)
  else if way.fmod 6 = 4 then (⟨#[(hidL.getD ((way.fdiv 6).fmod 27).toNat 0).toNat]⟩ : Str) ++ l
  else l
theorem not_hp : ¬ (Str.ofString "p" = Str.ofString "h") := by decide +kernel
theorem kw8 : True := by
  (k_with "my mine ledger" => first | k_asm | (refine' cb_drop ?cbN ?cbS; (case cbN => assumption); (case cbS => kcj_all)))
  trivial
theorem c_sign {x : Str} {t t1 : Tok} {way : Int} (hx : x = Str.ofString "h" ∨ x = Str.ofString "p") : Cl w s₀ mg mb 1 148 news [.str x t, .int way t1] (fun h₀ L m s Q => CbRet h₀ L m news s Q (fun t => .str (signS x way) t)) := by
  have hx1 : x.length = 1 := by rcases hx with rfl | rfl <;> rfl
  have hc : 97 ≤ ((x.cps.getD 0 0 : Nat) : Int) ∧ ((x.cps.getD 0 0 : Nat) : Int) ≤ 122 := by
    rcases hx with rfl | rfl
    · rw [code_h]; decide
    · rw [code_p]; decide
  clear hx
  unfold Cl PP; k_fill; intros; rename_i hret
  walk_at "mine enter"
  k_steps
  all_goals first | refine cb_retS hret (by (unfold signS; (repeat (first | rw [if_pos (by assumption)] | rw [if_neg (by assumption)] | rw [if_pos (eq_of_beq (by assumption))] | rw [if_neg (ne_of_beq_false (by assumption))])); try rfl)) (by k_asm) (by walk_at "mine ledger")
theorem kw9 : True := by
  k_with_none
  trivial
end
end Mine
set_option maxHeartbeats 4000000
namespace Mine
open PySem PySem.W PyProof.Rows PySem.Spec PySem.Calls PyProof.V PyProof.Rows.LCg PyProof.Rows.LCt
section
variable {M : Model} {A : Around} {E : Value → Shared → Prop} {s : Shared} {env : Env}
theorem IfExp_str {test : Expr} {x y : Str} {k1 k2 : Nat} {p1 p2 pos : Pos} {Q : Value → Shared → Prop}
    (h : wpAny M A (isTrue test env (eval test env)) (fun c s₂ => ∀ z, z = (if c = true then x else y) → z.length ≤ 8 → Q (.str z s₂.toks) { s₂ with toks := s₂.toks + 1 }) E s) (hx : x.length ≤ 8) (hy : y.length ≤ 8) :
    wpAny M A (eval (.IfExp test (.Constant (.str x) k1 p1) (.Constant (.str y) k2 p2) pos) env) Q E s := by
  refine IfExp_ (wpAny_mono h (fun c s₂ h₂ => ?_) fun _ _ x => x)
  cases c with
  | true => exact wpAny_Constant_str (h₂ x rfl hx)
  | false => exact wpAny_Constant_str (h₂ y rfl hy)
theorem IfExp_int {test : Expr} {x y : Int} {k1 k2 : Nat} {p1 p2 pos : Pos} {Q : Value → Shared → Prop}
    (h : wpAny M A (isTrue test env (eval test env)) (fun c s₂ => ∀ z, z = (if c = true then x else y) → 0 ≤ z → z ≤ 1114111 → Q (.int z s₂.toks) { s₂ with toks := s₂.toks + 1 }) E s) (hx : 0 ≤ x ∧ x ≤ 1114111) (hy : 0 ≤ y ∧ y ≤ 1114111) :
    wpAny M A (eval (.IfExp test (.Constant (.int x) k1 p1) (.Constant (.int y) k2 p2) pos) env) Q E s := by
  refine IfExp_ (wpAny_mono h (fun c s₂ h₂ => ?_) fun _ _ x => x)
  cases c with
  | true => exact wpAny_Constant_int (h₂ x rfl hx.1 hx.2)
  | false => exact wpAny_Constant_int (h₂ y rfl hy.1 hy.2)
theorem isTrue_and2 {x y : Expr} {pos : Pos} {whole : Sem Value} {Q : Bool → Shared → Prop}
    (h : wpAny M A (isTrue x env (eval x env)) (fun c s' => if c = true then wpAny M A (isTrue y env (eval y env)) Q E s' else Q false s') E s) :
    wpAny M A (isTrue (.BoolOp .And [x, y] pos) env whole) Q E s := by
  refine isTrue_and (wpAny_mono h (fun c s' h' => ?_) fun _ _ x => x)
  cases c with
  | false => exact h'
  | true =>
    refine isTrue_and (wpAny_mono h' (fun c s' h' => ?_) fun _ _ x => x)
    cases c with
    | false => exact h'
    | true => exact isTrue_and_nil h'
theorem add_named {prog : Program} {w : World} {x y : Str} {a b : Nat} {t u : Tok} {Q : Value → Shared → Prop} (hx : x.length ≤ a) (hy : y.length ≤ b) (hsz : a + b ≤ 16777216)
    (h : ∀ z t' k, z = x ++ y → z.length ≤ a + b → Q (.str z t') { s with toks := k }) : wpAny (model prog w) A (binaryOp .Add (.str x t) (.str y u)) Q E s :=
  SBL.add (fun t' k _ => h _ t' k rfl (Nat.le_trans (Nat.le_of_eq (Str.length_append x y)) (Nat.add_le_add hx hy))) (by rw [sizeLine_eq]; exact Nat.le_trans (Nat.add_le_add hx hy) hsz)
theorem chr_named {prog : Program} {w : World} {i : Int} {t : Tok} {Q : Value → Shared → Prop} (h0 : 0 ≤ i) (h1 : i ≤ 1114111) (h : ∀ z, z = ⟨#[i.toNat]⟩ → z.length ≤ 1 → Q (.str z s.toks) { s with toks := s.toks + 1 }) :
    wpAny (model prog w) A (call (.builtin "chr") [.int i t]) Q E s := chr_of_range h0 h1 (h _ rfl (Nat.le_refl 1))
theorem add_short {prog : Program} {w : World} {x y : Str} {t u : Tok} {Q : Value → Shared → Prop} (hsz : x.length + y.length ≤ 16777216)
    (h : ∀ t' k, (x ++ y).length = x.length + y.length → Q (.str (x ++ y) t') { s with toks := k }) : wpAny (model prog w) A (binaryOp .Add (.str x t) (.str y u)) Q E s :=
  SBL.add (fun t' k _ => h t' k (Str.length_append x y)) (by rw [sizeLine_eq]; exact hsz)
end
theorem off_of {l : List (Addr × Obj)} {i : Addr} (h : ∀ p ∈ l, p.1 < i) : ∀ p ∈ l, p.1 ≠ i := fun p hp => Nat.ne_of_lt (h p hp)
end Mine
namespace Mine
open PySem PySem.W PyProof.Rows PySem.Spec PySem.Calls PyProof.V
/-! ## a for over a written range, by what holds between its turns (the iterator's address known) -/
section
variable {prog : Program} {w : World} {A : Around} {E : Value → Shared → Prop} {s : Shared} {env : Env} {h₀ : Heap} {x : Str} {body : List Stmt} {Q : Flow → Shared → Prop}
theorem rest_of {I : Addr} {a : Int} {n : Nat} (J : Nat → (Str → Option Value) → List (Addr × Obj) → Prop)
    (turn : ∀ i m news t h tk, i < n → J i m news → Fr h₀ env.locals h (fun y => if y = x then some (.int (a + (i : Int)) t) else m y) →
      News h₀ env.locals h ((I, itR (a + ((i + 1 : Nat) : Int)) ((n : Int) - ((i + 1 : Nat) : Int))) :: news) →
      wpAny (model prog w) A (execs body env) (UnrPost h₀ env.locals { s with heap := h, toks := tk } I (itR (a + ((i + 1 : Nat) : Int)) ((n : Int) - ((i + 1 : Nat) : Int))) (J (i + 1)) Q) E { s with heap := h, toks := tk })
    (done : ∀ m news h tk, J n m news → Fr h₀ env.locals h m → News h₀ env.locals h news → Q .next { s with heap := h, toks := tk }) :
    ∀ k i m news, k + i = n → J i m news → RangeRest prog w A E h₀ env x body Q s I a n k i m news
  | 0, i, m, news, e, j => by
    have e' : i = n := by omega
    subst e'
    exact RangeRest.zero fun h tk F N => done m news h tk j F N
  | k + 1, i, m, news, e, j => RangeRest.succ fun t h tk F N => by
    refine wpAny_mono (turn i m news t h tk (by omega) j F N) (fun f s₂ q => ?_) fun _ _ e => e
    have up : ∀ s₂, UnrEnd h₀ env.locals { s with heap := h, toks := tk } I (itR (a + ((i + 1 : Nat) : Int)) ((n : Int) - ((i + 1 : Nat) : Int))) (J (i + 1)) s₂ →
        UnrEnd h₀ env.locals { s with heap := h, toks := tk } I (itR (a + ((i + 1 : Nat) : Int)) ((n : Int) - ((i + 1 : Nat) : Int))) (RangeRest prog w A E h₀ env x body Q s I a n k (i + 1)) s₂ := by
      rintro s₂ ⟨h', tk', m', news', e1, F', N', ho, r⟩
      exact ⟨h', tk', m', news', e1, F', N', ho, rest_of J turn done k (i + 1) m' news' (by omega) r⟩
    cases f with
    | ret v => exact q
    | brk => exact q
    | next => exact up _ q
    | cont => exact up _ q
theorem iter_rangeJ {r : Addr} {a₀ b₀ : Int} {t₀ u₀ v₀ : Tok} {n : Nat} {m₀ : Str → Option Value} {news : List (Addr × Obj)} (J : Addr → Nat → (Str → Option Value) → List (Addr × Obj) → Prop)
    (hh : A.handled = none) (hr : IsRange s.heap r a₀ b₀ 1 t₀ u₀ v₀) (hsmall : Builtin.Range.small a₀ b₀ 1 = true) (hn : Builtin.Range.rangeSize a₀ b₀ 1 = (n : Int)) (F : Fr h₀ env.locals s.heap m₀) (N : News h₀ env.locals s.heap news)
    (hJ : ∀ I : Addr, (∀ p ∈ news, p.1 < I) → J I 0 m₀ news)
    (turn : ∀ I i m news t h tk, i < n → J I i m news → Fr h₀ env.locals h (fun y => if y = x then some (.int (a₀ + (i : Int)) t) else m y) →
      News h₀ env.locals h ((I, itR (a₀ + ((i + 1 : Nat) : Int)) ((n : Int) - ((i + 1 : Nat) : Int))) :: news) →
      wpAny (model prog w) A (execs body env) (UnrPost h₀ env.locals { s with heap := h, toks := tk } I (itR (a₀ + ((i + 1 : Nat) : Int)) ((n : Int) - ((i + 1 : Nat) : Int))) (J I (i + 1)) Q) E { s with heap := h, toks := tk })
    (done : ∀ I m news h tk, J I n m news → Fr h₀ env.locals h m → News h₀ env.locals h news → Q .next { s with heap := h, toks := tk }) :
    wpAny (model prog w) A (pyIter (.ref r)) (fun it s₂ => LoopAtV prog w A h₀ env x body Q E it s₂) E s :=
  iter_rangeUnr hh hr hsmall hn F N fun I hI => rest_of (J I) (turn I) (done I) n 0 m₀ news rfl (hJ I hI)
end
end Mine
set_option maxHeartbeats 4000000
namespace Mine
open PySem PySem.W PyProof.Rows PySem.Spec PySem.Calls PyProof.V PyProof.Rows.LCg PyProof.Rows.LCt
noncomputable def sc257 : Scope := (fdOf 5).2.2
noncomputable def wh257 : Stmt := ((fdOf 5).2.1).getD 5 (.Pass default)
noncomputable def whT : Expr := match wh257 with
  | .While t _ _ _ => t
  | _ => .Name (Str.ofString "") default
noncomputable def whB : List Stmt := match wh257 with
  | .While _ b _ _ => b
  | _ => []
noncomputable def whP : Pos := match wh257 with
  | .While _ _ _ p => p
  | _ => default
noncomputable abbrev qt : Str := Str.ofString "\""
noncomputable def stop257 (x : Str) (i : Int) : Bool := (Txt.item x i == qt) && (decide ((x.length : Int) ≤ i + 1) || (Txt.item x (i + 1) != qt))
noncomputable def next257 (x : Str) (i : Int) : Int := if (Txt.item x i == qt) = true then i + 1 + 1 else i + 1
noncomputable def rd257 (x : Str) : Nat → Int → Str → Str
  | 0, _, d => d
  | k + 1, i, d => if i < (x.length : Int) then (if stop257 x i = true then d else rd257 x k (next257 x i) (d ++ Txt.item x i)) else d
theorem stop_a {x : Str} {i : Int} (h1 : (Txt.item x i == qt) = true) (h2 : (x.length : Int) ≤ i + 1) : stop257 x i = true := by
  unfold stop257; rw [h1, decide_eq_true h2]; rfl
theorem stop_b {x : Str} {i : Int} (h1 : (Txt.item x i == qt) = true) (h2 : (Txt.item x (i + 1) != qt) = true) : stop257 x i = true := by
  unfold stop257; rw [h1, h2]; simp
theorem stop_c {x : Str} {i : Int} (h1 : (Txt.item x i == qt) = true) (h0 : ¬ (x.length : Int) ≤ i + 1) (h2 : (Txt.item x (i + 1) != qt) = false) : stop257 x i = false ∧ i + 1 + 1 = next257 x i := by
  unfold stop257 next257; rw [h1, decide_eq_false h0, h2]; exact ⟨rfl, rfl⟩
theorem stop_d {x : Str} {i : Int} (h1 : (Txt.item x i == qt) = false) : stop257 x i = false ∧ i + 1 = next257 x i := by
  unfold stop257 next257; rw [h1]; exact ⟨rfl, rfl⟩
theorem next_bd {x : Str} {i : Int} (h : i < (x.length : Int)) : i + 1 ≤ next257 x i ∧ next257 x i ≤ x.length + 1 := by
  unfold next257; split <;> omega
theorem item_le (x : Str) (i : Int) : (Txt.item x i).length ≤ 1 := Nat.le_refl 1
section
variable {w : World} {s₀ : Shared} {mg mb : Str → Option Value}
variable {dp un : Nat} {gd : Option (List Code)} {cn : Str} {a : Addr} {ccd : Value} {cl : List (Str × Addr)} {outer : List Env} {A₀ : Around} {base h₀ : Heap} {L : Addr} {m : Str → Option Value} {s : Shared} {E : Value → Shared → Prop} {news : List (Addr × Obj)} {cs : Scope}
theorem test257 {Q : Bool → Shared → Prop} {x : Str} {i : Int} {tn ti : Tok} (hcs : cs = sc257) (hX : (kap w.params).In h₀) (hT : Top vw LL (ExcName.means s₀.heap) mg mb h₀) (hB : Below A₀ base outer h₀) (hF' : Fr h₀ L s.heap m) (hN : News h₀ L s.heap news)
    (ei : m (Str.ofString "i") = some (.int i ti)) (en : m (Str.ofString "n") = some (.int (x.length : Int) tn)) (hx : x.length ≤ 300) (hi : 0 ≤ i ∧ i ≤ 400)
    (h : Q (decide (i < (x.length : Int))) s) :
    wpAny (model PP w) (ktrTop dp un gd cn cs L a ccd cl outer) (isTrue whT (envX cn cs L a ccd cl) (eval whT (envX cn cs L a ccd cl))) Q E s := by
  conv at hcs => rhs; whnf
  try dsimp only at hcs
  subst hcs
  have hF := fr_at2 hF' ei en
  clear hF'
  unfold PP; revert hX; k_fill; intro hX
  conv in (occs := *) whT => all_goals whnf
  k_steps
  exact h
theorem kw10 : True := by
  (k_with "my subscriptTail Name Name str int" => (k_here; (refine KXi.item rfl (by omega) (by omega) (by omega) ?_); intro kxiE))
  (k_with "my binaryOp Add str str" => (k_here; (with_reducible refine add_named (by with_reducible assumption) (by with_reducible assumption) (by exact Nat.le_of_ble_eq_true rfl) ?_); intro z9 t9 tk9 e9 l9; (try dsimp only)))
  trivial
theorem turn257 {Q : Flow → Shared → Prop} {x d : Str} {i : Int} {tr tn ti td : Tok} (hcs : cs = sc257) (hX : (kap w.params).In h₀) (hT : Top vw LL (ExcName.means s₀.heap) mg mb h₀) (hB : Below A₀ base outer h₀) (hF' : Fr h₀ L s.heap m) (hN : News h₀ L s.heap news)
    (er : m (Str.ofString "resp") = some (.str x tr)) (ei : m (Str.ofString "i") = some (.int i ti)) (en : m (Str.ofString "n") = some (.int (x.length : Int) tn)) (ed : m (Str.ofString "dirname") = some (.str d td)) (hx : x.length ≤ 300) (hi0 : 0 ≤ i) (hi1 : i < (x.length : Int)) (hd : d.length ≤ 300)
    (hb : stop257 x i = true → ∀ h' tk' m', Fr h₀ L h' m' → News h₀ L h' news → m' (Str.ofString "dirname") = some (.str d td) → Q .brk { s with heap := h', toks := tk' })
    (hn : stop257 x i = false → ∀ h' tk' m' ti' td', Fr h₀ L h' m' → News h₀ L h' news → m' (Str.ofString "resp") = some (.str x tr) → m' (Str.ofString "i") = some (.int (next257 x i) ti') → m' (Str.ofString "n") = some (.int (x.length : Int) tn) → m' (Str.ofString "dirname") = some (.str (d ++ Txt.item x i) td') → Q .next { s with heap := h', toks := tk' }) :
    wpAny (model PP w) (ktrTop dp un gd cn cs L a ccd cl outer) (execs whB (envX cn cs L a ccd cl)) Q E s := by
  conv at hcs => rhs; whnf
  try dsimp only at hcs
  subst hcs
  have hF := fr_at4 hF' er ei en ed
  clear hF'
  have hI := item_le x i
  unfold PP; revert hX; k_fill; intro hX
  conv in whB => whnf
  k_steps
  all_goals ((rename Fr _ _ _ _ => F9); (rename News _ _ _ _ => N9))
  · exact hb (stop_a (by assumption) (by assumption)) _ _ _ F9 N9 rfl
  · exact hb (stop_b (by assumption) (by assumption)) _ _ _ F9 N9 rfl
  · obtain ⟨h1, h2⟩ := stop_c (x := x) (i := i) (by assumption) (by assumption) (by assumption)
    subst_vars
    rw [h2] at F9
    exact hn h1 _ _ _ _ _ F9 N9 rfl rfl rfl rfl
  · obtain ⟨h1, h2⟩ := stop_d (x := x) (i := i) (by assumption)
    subst_vars
    rw [h2] at F9
    exact hn h1 _ _ _ _ _ F9 N9 rfl rfl rfl rfl
theorem loop257 {Q : Flow → Shared → Prop} {x : Str} {tr tn : Tok} {gens : Array GenState} {drawn : Drawn} {os : OsState} (hcs : cs = sc257) (hX : (kap w.params).In h₀) (hT : Top vw LL (ExcName.means s₀.heap) mg mb h₀) (hB : Below A₀ base outer h₀) (hx : x.length ≤ 300)
    (hE : PassesOwn (model PP w) (ktrTop dp un gd cn cs L a ccd cl outer) (envX cn cs L a ccd cl) E) :
    ∀ (k : Nat) (i : Int) (d : Str) (m : Str → Option Value) (ti td : Tok) (hp : Heap) (tk : Nat), x.length < i + k → 0 ≤ i → i ≤ 400 → (d.length : Int) ≤ i →
      Fr h₀ L hp m → News h₀ L hp news → m (Str.ofString "resp") = some (.str x tr) → m (Str.ofString "i") = some (.int i ti) → m (Str.ofString "n") = some (.int (x.length : Int) tn) → m (Str.ofString "dirname") = some (.str d td) →
      (∀ h' tk' m' td', Fr h₀ L h' m' → News h₀ L h' news → m' (Str.ofString "dirname") = some (.str (rd257 x k i d) td') → Q .next ⟨h', gens, drawn, tk', os⟩) →
      WhlRest PP w (ktrTop dp un gd cn cs L a ccd cl outer) E (envX cn cs L a ccd cl) whT whB [] Q 1 ⟨hp, gens, drawn, tk, os⟩ := by
  intro k
  induction k with
  | zero =>
    intro i d m ti td hp tk hk h0 h4 hdl F N er ei en ed fin
    refine whl_turn (k := 0) hE (test257 hcs hX hT hB F N ei en hx ⟨h0, h4⟩ ?_)
    have e : decide (i < (x.length : Int)) = false := decide_eq_false (by omega)
    refine .no e (wpAny_execs_nil (fin _ _ _ _ F N ed))
  | succ k ih =>
    intro i d m ti td hp tk hk h0 h4 hdl F N er ei en ed fin
    refine whl_turn (k := 0) hE (test257 hcs hX hT hB F N ei en hx ⟨h0, h4⟩ ?_)
    by_cases hi : i < (x.length : Int)
    · refine .yes (decide_eq_true hi) (turn257 (news := news) hcs hX hT hB F N er ei en ed hx h0 hi (by omega) ?_ ?_)
      · intro hs h' tk' m' F' N' ed'
        refine fin h' tk' m' td F' N' ?_
        rw [ed', rd257, if_pos hi, if_pos hs]
      · intro hs h' tk' m' ti' td' F' N' er' ei' en' ed'
        have hb := next_bd hi
        have hl : ((d ++ Txt.item x i).length : Int) ≤ next257 x i := by
          have := Str.length_append d (Txt.item x i)
          have := item_le x i
          omega
        refine ih (next257 x i) (d ++ Txt.item x i) m' ti' td' h' tk' (by omega) (by omega) (by omega) hl F' N' er' ei' en' ed' ?_
        intro h2 tk2 m2 td2 F2 N2 e2
        refine fin h2 tk2 m2 td2 F2 N2 ?_
        rw [e2, rd257, if_pos hi, if_neg (by rw [hs]; decide)]
    · refine .no (decide_eq_false hi) (wpAny_execs_nil (fin _ _ _ td F N ?_))
      rw [ed, rd257, if_neg hi]
theorem while257 {Q : Flow → Shared → Prop} {A : Around} {env : Env} {st : Stmt} {x : Str} {tr tn ti td : Tok} (hA : A = ktrTop dp un gd cn cs L a ccd cl outer) (he : env = envX cn cs L a ccd cl) (hcs : cs = sc257) (hst : st = wh257) (hX : (kap w.params).In h₀) (hT : Top vw LL (ExcName.means s₀.heap) mg mb h₀) (hB : Below A₀ base outer h₀)
    (hE : PassesOwn (model PP w) A env E) (F : Fr h₀ L s.heap m) (N : News h₀ L s.heap news) (er : m (Str.ofString "resp") = some (.str x tr)) (ei : m (Str.ofString "i") = some (.int 5 ti)) (en : m (Str.ofString "n") = some (.int (x.length : Int) tn)) (ed : m (Str.ofString "dirname") = some (.str (Str.ofString "") td)) (hx : x.length ≤ 300)
    (fin : ∀ (h' : Heap) (tk' : Nat) (m' : Str → Option Value) (td' : Tok), Fr h₀ L h' (fun y => if y = Str.ofString "dirname" then some (.str (rd257 x x.length 5 (Str.ofString "")) td') else m' y) → News h₀ L h' news → Q .next { s with heap := h', toks := tk' }) :
    wpAny (model PP w) A (exec st env) Q E s := by
  rw [hA, he] at hE ⊢
  rw [hst, show wh257 = .While whT whB [] whP from by kernel_rfl]
  refine whl_start 1 (loop257 (gens := s.gens) (drawn := s.drawn) (os := s.os) hcs hX hT hB hx hE x.length 5 (Str.ofString "") m ti td s.heap s.toks (by omega) (by decide) (by decide) (by decide) F N er ei en ed ?_)
  intro h' tk' m' td' F' N' e'
  exact fin h' tk' m' td' (fr_at1 F' e') N'
theorem kw11 : True := by
  (k_with "my mine enter" => (refine wpAny_call ?_; k_dflt cell_enter))
  (k_with "my exec While Compare cons nil" => (k_here; (refine' while257 ?kA ?ke ?ks ?kc (by k_asm) (by k_asm) (by k_asm) ?kE (by k_asm) (by k_asm) (by exact rfl) (by exact rfl) (by exact rfl) (by exact rfl) (by k_asm) ?_; (case kA => rfl); (case ke => rfl); (case ks => kernel_rfl); (case kc => kernel_rfl); (case kE => passes_own)); intro h9 tk9 m9 td9 F9 N9))
  trivial
theorem ne_same {prog : Program} {A : Around} {x y : Str} {t u : Tok} {Q : Value → Shared → Prop} (e : x = y) (h : Q (.bool false) s) : wpAny (model prog w) A (compareOp .NotEq (.str x t) (.str y u)) Q E s := by
  subst e
  exact ne_str (by rw [bne_self_eq_false]; exact h)
theorem kw12 : True := by
  (k_with "my compareOp NotEq str str" => (k_here; (with_reducible refine ne_same (by with_reducible assumption) ?_)))
  trivial
theorem c_257G {x : Str} {t : Tok} (hx : x.length ≤ 300) (h5 : 5 ≤ x.length) (h3 : Txt.slice x none (some 3) = Str.ofString "257") (h4 : Txt.slice x (some 3) (some 5) = Str.ofString " \"") : Cl w s₀ mg mb 1 65 news [.str x t] (fun h₀ L m s Q => CbRet h₀ L m news s Q (fun t => .str (rd257 x x.length 5 (Str.ofString "")) t)) := by
  unfold Cl PP; k_fill; intros; rename_i hret
  walk_at "mine enter"
  k_steps
  all_goals refine cb_retS hret rfl (by k_asm) (by k_asm)
theorem kw13 : True := by
  k_with_none
  trivial
end
end Mine
set_option maxHeartbeats 4000000
namespace Mine
open PySem PySem.W PyProof.Rows PySem.Spec PySem.Calls PyProof.V PyProof.Rows.LCg PyProof.Rows.LCt
noncomputable def scPl : Scope := (fdOf 20).2.2
noncomputable def plFor : Stmt := ((fdOf 20).2.1).getD 1 (.Pass default)
noncomputable def plB : List Stmt := match plFor with
  | .For _ _ b _ _ => b
  | _ => []
noncomputable def z257 (mk : Str) : Str := Str.ofString "257 \"" ++ mk ++ Str.ofString "z"
noncomputable def tld (mk : Str) : Str := rd257 (z257 mk) (z257 mk).length 5 (Str.ofString "")
noncomputable def zf (mk : Str) : Bool := Txt.slice (tld mk) (some (-1)) none == Str.ofString "z"
noncomputable def mkN (mk : Str) : Str := if zf mk = true then Txt.slice (tld mk) none (some (-1)) else tld mk
noncomputable def plN (mk : Str) (pl st : Int) : Int := if zf mk = true then pl else pl + st
noncomputable def okM (mk : Str) : Bool := decide (mk.length ≤ 10) && decide ((tld mk).length ≤ 20) && (decide (Txt.slice (z257 mk) none (some 3) = Str.ofString "257") && decide (Txt.slice (z257 mk) (some 3) (some 5) = Str.ofString " \""))
noncomputable def okR : Nat → Str → Bool
  | 0, _ => true
  | n + 1, mk => okM mk && okR n (mkN mk)
noncomputable def plR : Str → Int → List Int → Int
  | _, pl, [] => pl
  | mk, pl, st :: r => plR (mkN mk) (plN mk pl st) r
theorem okM_1 {mk : Str} (h : okM mk = true) : mk.length ≤ 10 := by unfold okM at h; simp only [Bool.and_eq_true, decide_eq_true_eq] at h; exact h.1.1
theorem okM_2 {mk : Str} (h : okM mk = true) : (tld mk).length ≤ 20 := by unfold okM at h; simp only [Bool.and_eq_true, decide_eq_true_eq] at h; exact h.1.2
theorem okM_3 {mk : Str} (h : okM mk = true) : Txt.slice (z257 mk) none (some 3) = Str.ofString "257" := by unfold okM at h; simp only [Bool.and_eq_true, decide_eq_true_eq] at h; exact h.2.1
theorem okM_4 {mk : Str} (h : okM mk = true) : Txt.slice (z257 mk) (some 3) (some 5) = Str.ofString " \"" := by unfold okM at h; simp only [Bool.and_eq_true, decide_eq_true_eq] at h; exact h.2.2
theorem z257_len (mk : Str) : (z257 mk).length = 5 + mk.length + 1 := by
  unfold z257
  rw [Str.length_append, Str.length_append]
  rfl
theorem mul_len {k : Nat} (hk : k < 8) : (Txt.mul qt (k : Nat)).length ≤ 10 ∧ okR 3 (Txt.mul qt (k : Nat)) = true := by
  have : ∀ k, k < 8 → (Txt.mul qt ((k : Nat) : Int)).length ≤ 10 ∧ okR 3 (Txt.mul qt ((k : Nat) : Int)) = true := by decide +kernel
  exact this k hk
section
variable {w : World} {s₀ : Shared} {mg mb : Str → Option Value}
variable {dp un : Nat} {gd : Option (List Code)} {cn : Str} {a : Addr} {ccd : Value} {cl : List (Str × Addr)} {outer : List Env} {A₀ : Around} {base h₀ : Heap} {L : Addr} {m : Str → Option Value} {s : Shared} {E : Value → Shared → Prop} {news : List (Addr × Obj)} {cs : Scope}
theorem c_257z {mk x y : Str} {t : Tok} (e : x = y ++ Str.ofString "z") (e2 : y = Str.ofString "257 \"" ++ mk) (ok : okM mk = true) : Cl w s₀ mg mb 1 65 news [.str x t] (fun h₀ L m s Q => CbRet h₀ L m news s Q (fun t => .str (tld mk) t)) := by
  subst e2; subst e
  have h := z257_len mk
  have h1 := okM_1 ok
  unfold Cl; intros
  exact c_257G (x := z257 mk) (by omega) (by omega) (okM_3 ok) (okM_4 ok) (by assumption) (by assumption) (by assumption) (by assumption) (by assumption) (by assumption) (by assumption) (by assumption) (by assumption)
theorem kw14 : True := by
  (k_with "my binaryOp Add str str" => (k_here; (with_reducible refine add_named (by with_reducible assumption) (by with_reducible assumption) (by exact Nat.le_of_ble_eq_true rfl) ?_); intro z9 t9 tk9 e9 l9; (try dsimp only)))
  (k_with "my call ref" => (k_here; k_dflt (refine c_257z (by assumption) (by assumption) (by assumption) (by k_asm) (by k_asm) (by k_asm) (by k_asm) (by k_asm) (by first | exact rfl | assumption) (by ktr_room) (by ktr_units) ?_); intro t9 h9 tk9 F9 N9; (try dsimp only); (try k_fold)))
  trivial
theorem turnPl {Q : Flow → Shared → Prop} {mk : Str} {pl st : Int} {tm tp ts : Tok} (hcs : cs = scPl) (hX : (kap w.params).In h₀) (hT : Top vw LL (ExcName.means s₀.heap) mg mb h₀) (hB : Below A₀ base outer h₀) (hF' : Fr h₀ L s.heap m) (hN : News h₀ L s.heap news)
    (em : m (Str.ofString "marks") = some (.str mk tm)) (ep : m (Str.ofString "place") = some (.int pl tp)) (es : m (Str.ofString "step") = some (.int st ts)) (ok : okM mk = true) (hd : dp + 1 < recursionLimit) (hu : un + 8 * 1 < cLine)
    (h : ∀ h' tk' m' tm' tp', Fr h₀ L h' m' → News h₀ L h' news → m' (Str.ofString "marks") = some (.str (mkN mk) tm') → m' (Str.ofString "place") = some (.int (plN mk pl st) tp') → Q .next { s with heap := h', toks := tk' }) :
    wpAny (model PP w) (ktrTop dp un gd cn cs L a ccd cl outer) (execs plB (envX cn cs L a ccd cl)) Q E s := by
  conv at hcs => rhs; whnf
  try dsimp only at hcs
  subst hcs
  have hF := fr_at3 hF' em ep es
  clear hF'
  have l1 := okM_1 ok
  have l2 := okM_2 ok
  have l3 : (Str.ofString "257 \"").length ≤ 5 := by decide +kernel
  have l4 : (Str.ofString "z").length ≤ 1 := by decide +kernel
  unfold PP; revert hX; k_fill; intro hX
  conv in plB => whnf
  k_steps
  all_goals ((rename Fr _ _ _ _ => F9); (rename News _ _ _ _ => N9))
  · rename (Txt.slice (tld mk) (some (-1)) none == Str.ofString "z") = true => hz
    rw [show mkN mk = Txt.slice (tld mk) none (some (-1)) from if_pos hz, show plN mk pl st = pl from if_pos hz] at h
    exact h _ _ _ _ _ F9 N9 rfl rfl
  · rename (Txt.slice (tld mk) (some (-1)) none == Str.ofString "z") = false => hz
    have hz' : ¬ zf mk = true := fun e => by rw [show zf mk = false from hz] at e; cases e
    rw [show mkN mk = tld mk from if_neg hz', show plN mk pl st = pl + st from if_neg hz'] at h
    exact h _ _ _ _ _ F9 N9 rfl rfl
theorem restPl {Q : Flow → Shared → Prop} {A : Around} {env : Env} {body : List Stmt} {I : Addr} {lp : Addr × Obj} (hA : A = ktrTop dp un gd cn cs L a ccd cl outer) (he : env = envX cn cs L a ccd cl) (hcs : cs = scPl) (hb : body = plB) (hX : (kap w.params).In h₀) (hT : Top vw LL (ExcName.means s₀.heap) mg mb h₀) (hB : Below A₀ base outer h₀)
    (hd : dp + 1 < recursionLimit) (hu : un + 8 * 1 < cLine) (hlp : lp ∈ news) (hoff : ∀ p ∈ news, p.1 < I) : ∀ (l : List (Int × Tok)) (mk : Str) (pl : Int) (m : Str → Option Value) (tm tp : Tok), okR l.length mk = true → m (Str.ofString "marks") = some (.str mk tm) → m (Str.ofString "place") = some (.int pl tp) →
      (∀ h tk m' tp', Fr h₀ L h m' → News h₀ L h news → m' (Str.ofString "place") = some (.int (plR mk pl (l.map (·.1))) tp') → Q .next { s with heap := h, toks := tk }) →
      ListRest PP w A E h₀ env (Str.ofString "step") body Q s I lp (l.map fun p => .int p.1 p.2) m news := by
  subst hA he hb
  intro l
  induction l with
  | nil =>
    intro mk pl m tm tp ok em ep fin
    exact ListRest.zero fun h tk F N => fin h tk m tp F N ep
  | cons p l ih =>
    intro mk pl m tm tp ok em ep fin
    have ok : (okM mk && okR l.length (mkN mk)) = true := ok
    rw [Bool.and_eq_true] at ok
    refine ListRest.succ fun it h tk hit F N => ?_
    refine turnPl hcs hX hT hB F N (upd_ne (by decide +kernel) em) (upd_ne (by decide +kernel) ep) (if_pos rfl) ok.1 hd hu ?_
    intro h' tk' m' tm' tp' F' N' em' ep'
    refine ⟨h', tk', m', news, rfl, F', N', fun p hp => Nat.ne_of_lt (hoff p hp), hlp, ih (mkN mk) (plN mk pl p.1) m' tm' tp' ok.2 em' ep' fin⟩
theorem rest3 {Q : Flow → Shared → Prop} {A : Around} {env : Env} {body : List Stmt} {I : Addr} {lp : Addr × Obj} {k : Nat} {pl p1 p2 p3 : Int} {tm tp t1 t2 t3 : Tok} (hA : A = ktrTop dp un gd cn cs L a ccd cl outer) (he : env = envX cn cs L a ccd cl) (hcs : cs = scPl) (hb : body = plB) (hX : (kap w.params).In h₀) (hT : Top vw LL (ExcName.means s₀.heap) mg mb h₀) (hB : Below A₀ base outer h₀)
    (hd : dp + 1 < recursionLimit) (hu : un + 8 * 1 < cLine) (hlp : lp ∈ news) (hoff : ∀ p ∈ news, p.1 < I) (hk : k < 8) (em : m (Str.ofString "marks") = some (.str (Txt.mul qt (k : Nat)) tm)) (ep : m (Str.ofString "place") = some (.int pl tp))
    (fin : ∀ (h : Heap) (tk : Nat) (m' : Str → Option Value) (tp' : Tok), Fr h₀ L h (fun y => if y = Str.ofString "place" then some (.int (plR (Txt.mul qt (k : Nat)) pl [p1, p2, p3]) tp') else m' y) → News h₀ L h news → Q .next { s with heap := h, toks := tk }) :
    ListRest PP w A E h₀ env (Str.ofString "step") body Q s I lp [.int p1 t1, .int p2 t2, .int p3 t3] m news :=
  restPl hA he hcs hb hX hT hB hd hu hlp hoff [(p1, t1), (p2, t2), (p3, t3)] (Txt.mul qt (k : Nat)) pl m tm tp (mul_len hk).2 em ep fun h tk m' tp' F N e => fin h tk m' tp' (fr_at1 F e) N
theorem kw15 : True := by
  (k_with "my mine enter" => (refine wpAny_call ?_; k_dflt cell_enter))
  (k_with "my binaryOp Mult str int" => (k_here; (with_reducible refine KXi.mul (n := 1) (by decide +kernel) (by decide) (by omega) (by omega) ?_); intro t9 tk9 _ _))
  (k_with "my exec For Name Name cons nil" => (k_here; (with_unfolding_all refine For_invVF (by k_asm) (by exact rfl) (by exact rfl) ?_)))
  (k_with "my pyIter ref" => (k_here; (with_unfolding_all refine iter_listUnr (by rfl) (by k_asm) (by k_asm) (by assumption) (by rfl) (by rfl) ?_); intro i9 l9; (refine' rest3 ?kA ?ke ?kc ?kb (by k_asm) (by k_asm) (by k_asm) ?k1 ?k2 (by assumption) l9 (by assumption) (by exact rfl) (by exact rfl) ?_; (case kA => rfl); (case ke => rfl); (case kc => kernel_rfl); (case kb => kernel_rfl); (case k1 => ktr_room); (case k2 => ktr_units)); intro h9 tk9 m9 td9 F9 N9))
  trivial
theorem c_placeK {k : Nat} (hk : k < 8) {t t1 ta tb tc : Tok} {pl a b c : Int} {D : Addr} {n : Nat} (hD : (D, W.listOf #[.int a ta, .int b tb, .int c tc] n) ∈ news) : Cl w s₀ mg mb 2 176 news [.int (k : Nat) t, .int pl t1, .ref D] (fun h₀ L m s Q => CbRet h₀ L m news s Q (fun t => .int (plR (Txt.mul qt (k : Nat)) pl [a, b, c]) t)) := by
  unfold Cl PP; k_fill; intros; rename_i hret
  walk_at "mine enter"
  k_steps
  all_goals refine cb_retI hret rfl (by k_asm) (by k_asm)
noncomputable abbrev placeV (k : Nat) (pl a b c : Int) : Int := match k with
  | 0 => pl | 1 => pl + a | 2 => pl + b | 3 => pl + a + b | 4 => pl + c | 5 => pl + a + c | 6 => pl + b + c | _ => pl + a + b + c
theorem place_is {k : Nat} (hk : k < 8) {pl a b c : Int} : plR (Txt.mul qt (k : Nat)) pl [a, b, c] = placeV k pl a b c := by
  match k, hk with
  | 0, _ => kernel_rfl
  | 1, _ => kernel_rfl
  | 2, _ => kernel_rfl
  | 3, _ => kernel_rfl
  | 4, _ => kernel_rfl
  | 5, _ => kernel_rfl
  | 6, _ => kernel_rfl
  | 7, _ => kernel_rfl
theorem c_place {k : Nat} (hk : k < 8) {t t1 ta tb tc : Tok} {pl a b c : Int} {D : Addr} {n : Nat} (hD : (D, W.listOf #[.int a ta, .int b tb, .int c tc] n) ∈ news) : Cl w s₀ mg mb 2 176 news [.int (k : Nat) t, .int pl t1, .ref D] (fun h₀ L m s Q => CbRet h₀ L m news s Q (fun t => .int (placeV k pl a b c) t)) := by
  rw [← place_is hk]; exact c_placeK hk hD
theorem kw16 : True := by
  k_with_none
  trivial
end
end Mine
set_option maxHeartbeats 4000000
namespace Mine
open PySem PySem.W PyProof.Rows PySem.Spec PySem.Calls PyProof.V PyProof.Rows.LCg PyProof.Rows.LCt
section
variable {w : World} {s₀ : Shared} {mg mb : Str → Option Value} {news : List (Addr × Obj)}
theorem fdiv_bd {n c : Int} (h0 : 0 ≤ n) (h1 : n < 2000000) (hc : 0 < c) : 0 ≤ n.fdiv c ∧ n.fdiv c < 2000000 := by
  rw [Int.fdiv_eq_ediv_of_nonneg _ (by omega)]
  exact ⟨Int.ediv_nonneg h0 (by omega), Int.lt_of_le_of_lt (Int.ediv_le_self _ h0) h1⟩
theorem signS_len {x : Str} {way : Int} (h : x.length = 1) : (signS x way).length ≤ 2 := by
  unfold signS
  split
  · exact Nat.le_succ 1
  · split
    · exact Nat.le_succ 1
    · split
      · split <;> exact Nat.le_succ 1
      · split
        · rw [Str.length_append, h]; exact Nat.le_refl 2
        · rw [h]; decide
/-- a text handed back, named, its length bounded -/
noncomputable abbrev RetN (h₀ : Heap) (L : Addr) (m : Str → Option Value) (news : List (Addr × Obj)) (s : Shared) (Q : Value → Shared → Prop) (v : Str) (n : Nat) : Prop :=
  ∀ (z : Str), z = v → z.length ≤ n → ∀ (t : Tok) (h' : Heap) (tk' : Nat), Fr h₀ L h' m → News h₀ L h' news → Q (.str z t) { s with heap := h', toks := tk' }
theorem c_signN {x : Str} {t t1 : Tok} {way : Int} (hx : x = Str.ofString "h" ∨ x = Str.ofString "p") (h1 : x.length = 1) : Cl w s₀ mg mb 1 148 news [.str x t, .int way t1] (fun h₀ L m s Q => RetN h₀ L m news s Q (signS x way) 2) :=
  fun a b c d e f g h R => c_sign hx a b c d e f g h (fun t h' tk' F N => R _ rfl (signS_len h1) t h' tk' F N)
noncomputable def fld (way : Int) : Str := if (((way.fdiv 60).fmod 2) == 1) = true then Str.ofString "7" else Str.ofString ""
noncomputable def hpT (x : Str) : Str := ⟨#[(if (x == Str.ofString "h") = true then (13259 : Int) else 13271).toNat]⟩
noncomputable def hpM (x : Str) : Str := if (x == Str.ofString "h") = true then Str.ofString "hp" else Str.ofString "ph"
noncomputable def mkT (x : Str) (way : Int) : Str := if way.fmod 6 = 0 then hpT x else signS x way
noncomputable def mkM (x : Str) (way : Int) : Str := if way.fmod 6 = 0 then hpM x else x
/-- the four ways, as the walk writes them -/
noncomputable abbrev w1 (n : Int) : Int := n.fdiv (0 + ((0 : Nat) : Int) + 1)
noncomputable abbrev w2 (n : Int) : Int := n.fdiv (0 + ((0 + 1 : Nat) : Int) + 1)
noncomputable abbrev w3 (n : Int) : Int := n.fdiv (0 + ((0 + 1 + 1 : Nat) : Int) + 1)
noncomputable abbrev w4 (n : Int) : Int := n.fdiv (0 + ((0 + 1 + 1 + 1 : Nat) : Int) + 1)
noncomputable def insideT (x figs : Str) (n : Int) : Str := Str.ofString "" ++ mkT x (w1 n) ++ fld (w1 n) ++ mkT x (w2 n) ++ fld (w2 n) ++ signS x (w3 n) ++ (if false = true then Str.ofString "7" else Str.ofString "") ++ figs ++ signS x (w4 n) ++ (if false = true then Str.ofString "7" else Str.ofString "")
noncomputable def insideM (x figs : Str) (n : Int) : Str := Str.ofString "" ++ mkM x (w1 n) ++ fld (w1 n) ++ mkM x (w2 n) ++ fld (w2 n) ++ x ++ (if false = true then Str.ofString "7" else Str.ofString "") ++ figs ++ x ++ (if false = true then Str.ofString "7" else Str.ofString "")
/-- a list of two texts handed back -/
noncomputable abbrev RetL2 (h₀ : Heap) (L : Addr) (m : Str → Option Value) (news : List (Addr × Obj)) (s : Shared) (Q : Value → Shared → Prop) (a b : Str) : Prop :=
  ∀ (D : Addr) (t1 t2 : Tok) (h' : Heap) (tk' : Nat), Fr h₀ L h' m → News h₀ L h' ((D, W.listOf #[.str a t1, .str b t2] 0) :: news) → (∀ p ∈ news, p.1 < D) → Q (.ref D) { s with heap := h', toks := tk' }
end
noncomputable def scIn : Scope := (fdOf 17).2.2
noncomputable def inFor : Stmt := ((fdOf 17).2.1).getD 2 (.Pass default)
noncomputable def inB : List Stmt := match inFor with
  | .For _ _ b _ _ => b
  | _ => []
section
variable {M : Model} {A : Around} {E : Value → Shared → Prop} {s : Shared} {env : Env} {prog : Program} {w : World} {a b : Int} {t u : Tok} {Q : Value → Shared → Prop}
theorem lt_yes (e : a < b) (h : Q (.bool true) s) : wpAny (model prog w) A (compareOp .Lt (.int a t) (.int b u)) Q E s := P.lt_int (by rw [decide_eq_true e]; exact h)
theorem lt_no (e : ¬ a < b) (h : Q (.bool false) s) : wpAny (model prog w) A (compareOp .Lt (.int a t) (.int b u)) Q E s := P.lt_int (by rw [decide_eq_false e]; exact h)
theorem eq_yes (e : a = b) (h : Q (.bool true) s) : wpAny (model prog w) A (compareOp .Eq (.int a t) (.int b u)) Q E s := P.eq_int (by rw [beq_iff_eq.mpr e]; exact h)
theorem eq_no (e : ¬ a = b) (h : Q (.bool false) s) : wpAny (model prog w) A (compareOp .Eq (.int a t) (.int b u)) Q E s := P.eq_int (by rw [beq_eq_false_iff_ne.mpr e]; exact h)
end
section
variable {w : World} {s₀ : Shared} {mg mb : Str → Option Value}
variable {dp un : Nat} {gd : Option (List Code)} {cn : Str} {a : Addr} {ccd : Value} {cl : List (Str × Addr)} {outer : List Env} {A₀ : Around} {base h₀ : Heap} {L : Addr} {m : Str → Option Value} {s : Shared} {E : Value → Shared → Prop} {news : List (Addr × Obj)} {cs : Scope}
theorem kw17 : True := by
  (k_with "my call ref" => (k_here; k_dflt (refine c_signN (by with_reducible assumption) (by with_reducible assumption) (by k_asm) (by k_asm) (by k_asm) (by k_asm) (by k_asm) (by first | exact rfl | assumption) (by ktr_room) (by ktr_units) ?_); intro z9 e9 l9 t9 h9 tk9 F9 N9; (try dsimp only); (try k_fold)))
  (k_with "my eval IfExp" => (k_here; k_dflt (first | refine IfExp_str ?_ (by decide +kernel) (by decide +kernel) | refine IfExp_int ?_ (by decide) (by decide))))
  (k_with "my isTrue BoolOp" => (k_here; k_dflt (refine isTrue_and2 ?_)))
  (k_with "my binaryOp Add str str" => (k_here; (with_reducible refine add_named (by with_reducible assumption) (by with_reducible assumption) (by exact Nat.le_of_ble_eq_true rfl) ?_); intro z9 t9 tk9 e9 l9; (try dsimp only)))
  (k_with "my call builtin:chr" => (k_here; (with_reducible refine chr_named (by with_reducible assumption) (by with_reducible assumption) ?_); intro z9 e9 l9; (try dsimp only)))
  (k_with "my compareOp Lt int int" => (k_here; (first | refine lt_yes (by omega) ?_ | refine lt_no (by omega) ?_)))
  (k_with "my compareOp Eq int int" => (k_here; (first | refine eq_yes (by omega) ?_ | refine eq_no (by omega) ?_)))
  trivial
theorem turnA {Q : Flow → Shared → Prop} {x figs ty me : Str} {number k : Int} {t1 t2 t3 t4 t5 t6 : Tok} (hcs : cs = scIn) (hX : (kap w.params).In h₀) (hT : Top vw LL (ExcName.means s₀.heap) mg mb h₀) (hB : Below A₀ base outer h₀) (hF' : Fr h₀ L s.heap m) (hN : News h₀ L s.heap news)
    (e1 : m (Str.ofString "letter") = some (.str x t1)) (e2 : m (Str.ofString "figures") = some (.str figs t2)) (e3 : m (Str.ofString "number") = some (.int number t3)) (e4 : m (Str.ofString "typed") = some (.str ty t4)) (e5 : m (Str.ofString "meant") = some (.str me t5)) (e6 : m (Str.ofString "k") = some (.int k t6))
    (hx : x = Str.ofString "h" ∨ x = Str.ofString "p") (hx1 : x.length = 1) (hty : ty.length ≤ 300) (hme : me.length ≤ 300) (hk : 0 ≤ k) (hk2 : k < 2) (hd : dp + 1 < recursionLimit) (hu : un + 8 * 1 < cLine)
    (h : ∀ h' tk' m' t4' t5', Fr h₀ L h' m' → News h₀ L h' news → m' (Str.ofString "letter") = some (.str x t1) → m' (Str.ofString "figures") = some (.str figs t2) → m' (Str.ofString "number") = some (.int number t3) →
      m' (Str.ofString "typed") = some (.str (ty ++ mkT x (number.fdiv (k + 1)) ++ fld (number.fdiv (k + 1))) t4') → m' (Str.ofString "meant") = some (.str (me ++ mkM x (number.fdiv (k + 1)) ++ fld (number.fdiv (k + 1))) t5') → Q .next { s with heap := h', toks := tk' }) :
    wpAny (model PP w) (ktrTop dp un gd cn cs L a ccd cl outer) (execs inB (envX cn cs L a ccd cl)) Q E s := by
  conv at hcs => rhs; whnf
  try dsimp only at hcs
  subst hcs
  have hF := fr_at6 hF' e1 e2 e3 e4 e5 e6
  clear hF'
  have l1 : x.length ≤ 1 := Nat.le_of_eq hx1
  unfold PP; revert hX; k_fill; intro hX
  conv in inB => whnf
  k_steps
  all_goals ((rename Fr _ _ _ _ => F9); (rename News _ _ _ _ => N9))
  all_goals clear hx
  all_goals subst_vars
  · rw [show mkT x (number.fdiv (k + 1)) = hpT x from if_pos (by with_reducible assumption), show mkM x (number.fdiv (k + 1)) = hpM x from if_pos (by with_reducible assumption)] at h
    exact h _ _ _ _ _ F9 N9 rfl rfl rfl rfl rfl
  · rw [show mkT x (number.fdiv (k + 1)) = signS x (number.fdiv (k + 1)) from if_neg (by with_reducible assumption), show mkM x (number.fdiv (k + 1)) = x from if_neg (by with_reducible assumption)] at h
    exact h _ _ _ _ _ F9 N9 rfl rfl rfl rfl rfl
theorem turnB {Q : Flow → Shared → Prop} {x figs ty me : Str} {number k : Int} {t1 t2 t3 t4 t5 t6 : Tok} (hcs : cs = scIn) (hX : (kap w.params).In h₀) (hT : Top vw LL (ExcName.means s₀.heap) mg mb h₀) (hB : Below A₀ base outer h₀) (hF' : Fr h₀ L s.heap m) (hN : News h₀ L s.heap news)
    (e1 : m (Str.ofString "letter") = some (.str x t1)) (e2 : m (Str.ofString "figures") = some (.str figs t2)) (e3 : m (Str.ofString "number") = some (.int number t3)) (e4 : m (Str.ofString "typed") = some (.str ty t4)) (e5 : m (Str.ofString "meant") = some (.str me t5)) (e6 : m (Str.ofString "k") = some (.int k t6))
    (hx : x = Str.ofString "h" ∨ x = Str.ofString "p") (hx1 : x.length = 1) (hty : ty.length ≤ 300) (hme : me.length ≤ 300) (hk : k = 2) (hd : dp + 1 < recursionLimit) (hu : un + 8 * 1 < cLine)
    (h : ∀ h' tk' m' t4' t5', Fr h₀ L h' m' → News h₀ L h' news → m' (Str.ofString "letter") = some (.str x t1) → m' (Str.ofString "figures") = some (.str figs t2) → m' (Str.ofString "number") = some (.int number t3) →
      m' (Str.ofString "typed") = some (.str (ty ++ signS x (number.fdiv (k + 1)) ++ (if false = true then Str.ofString "7" else Str.ofString "")) t4') → m' (Str.ofString "meant") = some (.str (me ++ x ++ (if false = true then Str.ofString "7" else Str.ofString "")) t5') → Q .next { s with heap := h', toks := tk' }) :
    wpAny (model PP w) (ktrTop dp un gd cn cs L a ccd cl outer) (execs inB (envX cn cs L a ccd cl)) Q E s := by
  conv at hcs => rhs; whnf
  try dsimp only at hcs
  subst hcs
  have hF := fr_at6 hF' e1 e2 e3 e4 e5 e6
  clear hF'
  have l1 : x.length ≤ 1 := Nat.le_of_eq hx1
  unfold PP; revert hX; k_fill; intro hX
  conv in inB => whnf
  k_steps
  all_goals ((rename Fr _ _ _ _ => F9); (rename News _ _ _ _ => N9))
  all_goals clear hx
  all_goals subst_vars
  exact h _ _ _ _ _ F9 N9 rfl rfl rfl rfl rfl
theorem turnC {Q : Flow → Shared → Prop} {x figs ty me : Str} {number k : Int} {t1 t2 t3 t4 t5 t6 : Tok} (hcs : cs = scIn) (hX : (kap w.params).In h₀) (hT : Top vw LL (ExcName.means s₀.heap) mg mb h₀) (hB : Below A₀ base outer h₀) (hF' : Fr h₀ L s.heap m) (hN : News h₀ L s.heap news)
    (e1 : m (Str.ofString "letter") = some (.str x t1)) (e2 : m (Str.ofString "figures") = some (.str figs t2)) (e3 : m (Str.ofString "number") = some (.int number t3)) (e4 : m (Str.ofString "typed") = some (.str ty t4)) (e5 : m (Str.ofString "meant") = some (.str me t5)) (e6 : m (Str.ofString "k") = some (.int k t6))
    (hx : x = Str.ofString "h" ∨ x = Str.ofString "p") (hx1 : x.length = 1) (hty : ty.length ≤ 300) (hme : me.length ≤ 300) (hk : k = 3) (hf : figs.length ≤ 100) (hd : dp + 1 < recursionLimit) (hu : un + 8 * 1 < cLine)
    (h : ∀ h' tk' m' t4' t5', Fr h₀ L h' m' → News h₀ L h' news → m' (Str.ofString "letter") = some (.str x t1) → m' (Str.ofString "figures") = some (.str figs t2) → m' (Str.ofString "number") = some (.int number t3) →
      m' (Str.ofString "typed") = some (.str (ty ++ figs ++ signS x (number.fdiv (k + 1)) ++ (if false = true then Str.ofString "7" else Str.ofString "")) t4') → m' (Str.ofString "meant") = some (.str (me ++ figs ++ x ++ (if false = true then Str.ofString "7" else Str.ofString "")) t5') → Q .next { s with heap := h', toks := tk' }) :
    wpAny (model PP w) (ktrTop dp un gd cn cs L a ccd cl outer) (execs inB (envX cn cs L a ccd cl)) Q E s := by
  conv at hcs => rhs; whnf
  try dsimp only at hcs
  subst hcs
  have hF := fr_at6 hF' e1 e2 e3 e4 e5 e6
  clear hF'
  have l1 : x.length ≤ 1 := Nat.le_of_eq hx1
  unfold PP; revert hX; k_fill; intro hX
  conv in inB => whnf
  k_steps
  all_goals ((rename Fr _ _ _ _ => F9); (rename News _ _ _ _ => N9))
  all_goals clear hx
  all_goals subst_vars
  exact h _ _ _ _ _ F9 N9 rfl rfl rfl rfl rfl
theorem len_app {x y : Str} {a b : Nat} (hx : x.length ≤ a) (hy : y.length ≤ b) : (x ++ y).length ≤ a + b := Nat.le_trans (Nat.le_of_eq (Str.length_append x y)) (Nat.add_le_add hx hy)
theorem no_len : (if false = true then Str.ofString "7" else Str.ofString "").length ≤ 1 := by decide +kernel
theorem fld_len (way : Int) : (fld way).length ≤ 1 := by unfold fld; split <;> decide +kernel
theorem mkT_len {x : Str} (h : x.length = 1) (way : Int) : (mkT x way).length ≤ 2 := by
  unfold mkT; split
  · exact Nat.le_succ 1
  · exact signS_len h
theorem mkM_len {x : Str} (h : x.length = 1) (way : Int) : (mkM x way).length ≤ 2 := by
  unfold mkM; split
  · unfold hpM; split <;> decide +kernel
  · rw [h]; decide
noncomputable def tyI (x figs : Str) (n : Int) : Nat → Str
  | 0 => Str.ofString ""
  | 1 => Str.ofString "" ++ mkT x (w1 n) ++ fld (w1 n)
  | 2 => Str.ofString "" ++ mkT x (w1 n) ++ fld (w1 n) ++ mkT x (w2 n) ++ fld (w2 n)
  | 3 => Str.ofString "" ++ mkT x (w1 n) ++ fld (w1 n) ++ mkT x (w2 n) ++ fld (w2 n) ++ signS x (w3 n) ++ (if false = true then Str.ofString "7" else Str.ofString "")
  | _ => insideT x figs n
noncomputable def meI (x figs : Str) (n : Int) : Nat → Str
  | 0 => Str.ofString ""
  | 1 => Str.ofString "" ++ mkM x (w1 n) ++ fld (w1 n)
  | 2 => Str.ofString "" ++ mkM x (w1 n) ++ fld (w1 n) ++ mkM x (w2 n) ++ fld (w2 n)
  | 3 => Str.ofString "" ++ mkM x (w1 n) ++ fld (w1 n) ++ mkM x (w2 n) ++ fld (w2 n) ++ x ++ (if false = true then Str.ofString "7" else Str.ofString "")
  | _ => insideM x figs n
theorem tyI_len {x figs : Str} (h : x.length = 1) (n : Int) : ∀ i, i < 4 → (tyI x figs n i).length ≤ 300
  | 0, _ => by show (Str.ofString "").length ≤ 300; decide +kernel
  | 1, _ => Nat.le_trans (len_app (len_app (show (Str.ofString "").length ≤ 0 from by decide +kernel) (mkT_len h _)) (fld_len _)) (by decide)
  | 2, _ => Nat.le_trans (len_app (len_app (len_app (len_app (show (Str.ofString "").length ≤ 0 from by decide +kernel) (mkT_len h _)) (fld_len _)) (mkT_len h _)) (fld_len _)) (by decide)
  | 3, _ => Nat.le_trans (len_app (len_app (len_app (len_app (len_app (len_app (show (Str.ofString "").length ≤ 0 from by decide +kernel) (mkT_len h _)) (fld_len _)) (mkT_len h _)) (fld_len _)) (signS_len h)) no_len) (by decide)
theorem meI_len {x figs : Str} (h : x.length = 1) (n : Int) : ∀ i, i < 4 → (meI x figs n i).length ≤ 300
  | 0, _ => by show (Str.ofString "").length ≤ 300; decide +kernel
  | 1, _ => Nat.le_trans (len_app (len_app (show (Str.ofString "").length ≤ 0 from by decide +kernel) (mkM_len h _)) (fld_len _)) (by decide)
  | 2, _ => Nat.le_trans (len_app (len_app (len_app (len_app (show (Str.ofString "").length ≤ 0 from by decide +kernel) (mkM_len h _)) (fld_len _)) (mkM_len h _)) (fld_len _)) (by decide)
  | 3, _ => Nat.le_trans (len_app (len_app (len_app (len_app (len_app (len_app (show (Str.ofString "").length ≤ 0 from by decide +kernel) (mkM_len h _)) (fld_len _)) (mkM_len h _)) (fld_len _)) (Nat.le_of_eq h)) no_len) (by decide)
theorem turnI {Q : Flow → Shared → Prop} {x figs : Str} {number : Int} {i : Nat} {t1 t2 t3 t4 t5 t6 : Tok} (hcs : cs = scIn) (hX : (kap w.params).In h₀) (hT : Top vw LL (ExcName.means s₀.heap) mg mb h₀) (hB : Below A₀ base outer h₀) (hF' : Fr h₀ L s.heap m) (hN : News h₀ L s.heap news)
    (e1 : m (Str.ofString "letter") = some (.str x t1)) (e2 : m (Str.ofString "figures") = some (.str figs t2)) (e3 : m (Str.ofString "number") = some (.int number t3)) (e4 : m (Str.ofString "typed") = some (.str (tyI x figs number i) t4)) (e5 : m (Str.ofString "meant") = some (.str (meI x figs number i) t5)) (e6 : m (Str.ofString "k") = some (.int (0 + (i : Int)) t6))
    (hx : x = Str.ofString "h" ∨ x = Str.ofString "p") (hx1 : x.length = 1) (hf : figs.length ≤ 100) (hi : i < 4) (hd : dp + 1 < recursionLimit) (hu : un + 8 * 1 < cLine)
    (h : ∀ h' tk' m' t4' t5', Fr h₀ L h' m' → News h₀ L h' news → m' (Str.ofString "letter") = some (.str x t1) → m' (Str.ofString "figures") = some (.str figs t2) → m' (Str.ofString "number") = some (.int number t3) →
      m' (Str.ofString "typed") = some (.str (tyI x figs number (i + 1)) t4') → m' (Str.ofString "meant") = some (.str (meI x figs number (i + 1)) t5') → Q .next { s with heap := h', toks := tk' }) :
    wpAny (model PP w) (ktrTop dp un gd cn cs L a ccd cl outer) (execs inB (envX cn cs L a ccd cl)) Q E s := by
  have lt := tyI_len (figs := figs) hx1 number i hi
  have lm := meI_len (figs := figs) hx1 number i hi
  match i, hi with
  | 0, _ => exact turnA hcs hX hT hB hF' hN e1 e2 e3 e4 e5 e6 hx hx1 lt lm (by decide) (by decide) hd hu h
  | 1, _ => exact turnA hcs hX hT hB hF' hN e1 e2 e3 e4 e5 e6 hx hx1 lt lm (by decide) (by decide) hd hu h
  | 2, _ => exact turnB hcs hX hT hB hF' hN e1 e2 e3 e4 e5 e6 hx hx1 lt lm (by decide) hd hu h
  | 3, _ => exact turnC hcs hX hT hB hF' hN e1 e2 e3 e4 e5 e6 hx hx1 lt lm (by decide) hf hd hu h
theorem restIn {Q : Flow → Shared → Prop} {A : Around} {env : Env} {body : List Stmt} {I : Addr} {x figs : Str} {number : Int} {t1 t2 t3 t4 t5 : Tok} (hA : A = ktrTop dp un gd cn cs L a ccd cl outer) (he : env = envX cn cs L a ccd cl) (hcs : cs = scIn) (hb : body = inB) (hX : (kap w.params).In h₀) (hT : Top vw LL (ExcName.means s₀.heap) mg mb h₀) (hB : Below A₀ base outer h₀)
    (hd : dp + 1 < recursionLimit) (hu : un + 8 * 1 < cLine) (hoff : ∀ p ∈ news, p.1 < I) (e1 : m (Str.ofString "letter") = some (.str x t1)) (e2 : m (Str.ofString "figures") = some (.str figs t2)) (e3 : m (Str.ofString "number") = some (.int number t3)) (e4 : m (Str.ofString "typed") = some (.str (Str.ofString "") t4)) (e5 : m (Str.ofString "meant") = some (.str (Str.ofString "") t5))
    (hx : x = Str.ofString "h" ∨ x = Str.ofString "p") (hx1 : x.length = 1) (hf : figs.length ≤ 100)
    (fin : ∀ (h : Heap) (tk : Nat) (m' : Str → Option Value) (t4' t5' : Tok), Fr h₀ L h (fun y => if y = Str.ofString "typed" then some (.str (insideT x figs number) t4') else if y = Str.ofString "meant" then some (.str (insideM x figs number) t5') else m' y) → News h₀ L h news → Q .next { s with heap := h, toks := tk }) :
    RangeRest PP w A E h₀ env (Str.ofString "k") body Q s I 0 4 4 0 m news := by
  subst hA he hb
  refine rest_of (n := 4) (fun i m' nx => nx = news ∧ m' (Str.ofString "letter") = some (.str x t1) ∧ m' (Str.ofString "figures") = some (.str figs t2) ∧ m' (Str.ofString "number") = some (.int number t3) ∧ (∃ t, m' (Str.ofString "typed") = some (.str (tyI x figs number i) t)) ∧ (∃ t, m' (Str.ofString "meant") = some (.str (meI x figs number i) t))) ?turn ?done 4 0 m news rfl ⟨rfl, e1, e2, e3, ⟨t4, e4⟩, ⟨t5, e5⟩⟩
  case turn =>
    rintro i m' nx t h tk hi ⟨rfl, e1, e2, e3, ⟨t4, e4⟩, ⟨t5, e5⟩⟩ F N
    refine turnI hcs hX hT hB F N (upd_ne (by decide +kernel) e1) (upd_ne (by decide +kernel) e2) (upd_ne (by decide +kernel) e3) (upd_ne (by decide +kernel) e4) (upd_ne (by decide +kernel) e5) (if_pos rfl) hx hx1 hf hi hd hu ?_
    intro h' tk' m2 t4' t5' F' N' e1' e2' e3' e4' e5'
    exact ⟨h', tk', m2, nx, rfl, F', N', fun p hp => Nat.ne_of_lt (hoff p hp), rfl, e1', e2', e3', ⟨_, e4'⟩, ⟨_, e5'⟩⟩
  case done =>
    rintro m' nx h tk ⟨rfl, e1, e2, e3, ⟨t4, e4⟩, ⟨t5, e5⟩⟩ F N
    exact fin h tk m' t4 t5 (fr_at2 F e4 e5) N
theorem kw18 : True := by
  (k_with "my mine enter" => (refine wpAny_call ?_; k_dflt cell_enter))
  (k_with "my RangeRest" => (with_unfolding_all ((refine' restIn ?kA ?ke ?kc ?kb (by k_asm) (by k_asm) (by k_asm) ?k1 ?k2 (by assumption) (by exact rfl) (by exact rfl) (by exact rfl) (by exact rfl) (by exact rfl) (by assumption) (by assumption) (by assumption) ?_; (case kA => rfl); (case ke => rfl); (case kc => kernel_rfl); (case kb => kernel_rfl); (case k1 => ktr_room); (case k2 => ktr_units)); intro h9 tk9 m9 t8 t9 F9 N9)))
  trivial
theorem c_inside {x figs : Str} {number : Int} {t t1 t2 : Tok} (hx : x = Str.ofString "h" ∨ x = Str.ofString "p") (hx1 : x.length = 1) (hf : figs.length ≤ 100) : Cl w s₀ mg mb 2 155 news [.str x t, .str figs t1, .int number t2]
   (fun h₀ L m s Q => RetL2 h₀ L m news s Q (insideT x figs number) (insideM x figs number)) := by
  unfold Cl PP; k_fill; intros; rename_i hret
  walk_at "mine enter"
  k_steps
  (rename News _ _ _ ((_, W.listOf _ _) :: _) => kN9)
  refine' hret _ _ _ _ _ (by k_asm) (by with_reducible exact kN9) ?_
  first | assumption | (intro p hp; exact (by assumption : ∀ p ∈ _ :: _, p.1 < _) p (List.mem_cons_of_mem _ hp))
theorem kw19 : True := by
  k_with_none
  trivial
end
end Mine
namespace Mine
open PySem PySem.W PyProof.Rows PySem.Spec PySem.Calls PyProof.V
open PySem.Builtin PySem.Builtin.Str PySem.Builtin.BaseException
section
variable {prog : Program} {w : World} {A : Around} {E : Value → Shared → Prop} {s : Shared} {K : Frag} {x C t0 : Addr} {ox : Obj} {vs : Array Value} {m : Str} {tk : Tok}
theorem own_bexcArgs {M : Model} {items : List Value} {Q : Value × List Value → Shared → Prop} (ho : s.heap.get? x = some ox) (hd : ox.data = .fields vs) (h0 : vs[0]? = some (.ref t0)) (ht : s.heap.TupAt t0 items) (hq : Q (.ref t0, items) s) :
    wpAny M A (bexcArgs (.ref x)) Q E s := by
  obtain ⟨ot, k, hto, _, htd⟩ := ht
  unfold bexcArgs
  refine wpAny_bind (wpAny_field ho hd h0 (wpAny_bind (wpAny_seqItems hto htd ?_)))
  have e : items.toArray.toList = items := by simp
  show wpAny M A (pure (Value.ref t0, items.toArray.toList)) Q E s
  rw [e]; exact wpAny_pure hq
theorem own_bexcStr {Q : Fin → Shared → Prop} (ho : s.heap.get? x = some ox) (hd : ox.data = .fields vs) (h0 : vs[0]? = some (.ref t0)) (ht : s.heap.TupAt t0 [.str m tk]) (hq : Q (.done (.ret (.str m tk))) s) :
    wpAny (model prog w) A (Builtin.«BaseException.__str__» ⟨[.ref x], []⟩) Q E s := by
  unfold Builtin.«BaseException.__str__»
  repeat (first | with_reducible refine own_bexcArgs ho hd h0 ht ?_ | wp_step)
  exact hq
theorem own_type {M : Model} (hx : s.heap.get? x = some ox) (hc : ox.cls = .ref C) : Looks M s.heap (typeOf (.ref x)) (.ref C) := hc ▸ (Looks.ld hx).andThen .now
theorem own_special {M : Model} {name : Str} {id : String} {args : List Value} {Q : Option Value → Shared → Prop} (X : K.In s.heap) (hx : s.heap.get? x = some ox) (hc : ox.cls = .ref C) (hs : findIn K (.ref C) name = some (some (.builtin id)))
    (hb : ∀ self, bindSpecial (.builtin id) self = pure (.builtin id, [self])) (h : wpAny M A (call (.builtin id) (.ref x :: args)) (fun v => Q (some v)) E s) : wpAny M A (callSpecial? (.ref x) name args) Q E s :=
  wpAny_bind (wpAny_bind ((own_type hx hc).here ((looks_findIn X hs).here (wpAny_holding (wpAny_bind ((Looks.of_pure (hb _)).here (wpAny_bind (wpAny_mono h (fun _ _ z => wpAny_pure z) fun _ _ z => z))))))))
theorem own_callStr {Q : Value → Shared → Prop} (X : K.In s.heap) (hx : s.heap.get? x = some ox) (hc : ox.cls = .ref C) (hm : mroIn K C (.type "BaseException") = some true)
    (hd : ox.data = .fields vs) (h0 : vs[0]? = some (.ref t0)) (ht : s.heap.TupAt t0 [.str m tk]) (hq : Q (.str m tk) s) :
    wpAny (model prog w) A (call (.builtin "BaseException.__str__") [.ref x]) Q E s := by
  refine wpAny_call (codeAny_call_builtin (by decide +kernel) PySem.F.entry_bexc_str (check_slot (i := "BaseException.__str__") (owner := "BaseException") (n := "__str__") (by decide +kernel) (by decide +kernel) ((own_type hx hc).andThen (looks_mroIn X hm)) (PySem.F.args_bexc_str _) ?_))
  exact own_bexcStr hx hd h0 ht hq
theorem own_exc_str {Q : Value → Shared → Prop} (hu : A.in1.in1.units < cLine) (X : K.In s.heap) (hx : s.heap.get? x = some ox) (hc : ox.cls = .ref C) (hs : findIn K (.ref C) "__str__" = some (some (.builtin "BaseException.__str__"))) (hm : mroIn K C (.type "BaseException") = some true)
    (hd : ox.data = .fields vs) (h0 : vs[0]? = some (.ref t0)) (ht : s.heap.TupAt t0 [.str m tk]) (h : Q (.str m tk) s) : wpAny (model prog w) A (call (.type "str") [.ref x]) Q E s := by
  refine callType_codes (T := "str") (Bi := Builtin.«object.__init__») (Q₁ := fun r s₁ => ∃ y u, r = .str y u ∧ Q r s₁) PySem.F.called_str (PySem.F.typeCall_str_1 _) PySem.F.entry_object_init ?_ ?_
  · refine codeAny_of_tree ?_
    show wpAny _ A.in1.in1 (do checkBuiltinCall "str.__new__" ⟨[.type "str", .ref x], []⟩; again (.builtin "str.__new__" ⟨[.type "str", .ref x], []⟩)) _ _ s
    refine wpAny_bind (wpAny_of_eq (PySem.F.newCall_str_1 _) (wpAny_pure ⟨plainId_quiet (by decide +kernel) _, codeAny_builtin PySem.F.entry_str_new ?_⟩))
    rw [Around.under_plainId (by decide +kernel) _]
    rw [str_new_tree]
    refine wpAny_bind (wpAny_pure ?_)
    refine wpAny_bind (wpAny_of_eq isSubtype_str_str ?_)
    have key : wpAny (model prog w) A.in1.in1 (PySem.Builtin.Str.strOf (.ref x)) (fun r s₁ => ∃ y u, r = .str y u ∧ Q r s₁) E s := by
      unfold PySem.Builtin.Str.strOf
      rw [show isExactStr (.ref x) = false from rfl]
      refine wpAny_bind (m := cRoomFor _ _) (wpAny_cRoomFor hu ?_)
      refine wpAny_bind (m := callSpecial? (.ref x) (Str.ofString "__str__")) (own_special X hx hc hs (fun self => by kernel_rfl) (own_callStr X hx hc hm hd h0 ht ?_))
      exact wpAny_pure ⟨_, _, rfl, h⟩
    exact wpAny_bind (wpAny_mono key (fun r s₁ hr => wpAny_pure hr) fun _ _ y => y)
  · rintro obj s₁ ⟨y, u, rfl, hq⟩
    exact ⟨typeIs_str _ _ _, PySem.F.args_object_init_2 _ _, object_init_meets PySem.F.called_str.init.lookup PySem.F.called_str.made (by decide) prog w A.in1 _ s₁ ⟨typeIs_str _ _ _, rfl, hq⟩⟩
theorem own_str_got {Q : Value → Shared → Prop} {h₀ : Heap} {L : Addr} {news : List (Addr × Obj)} (hu : A.in1.in1.units < cLine) (X : K.In s.heap) (G : Got news x t0 (.ref C) [.str m tk]) (N : News h₀ L s.heap news) (hs : findIn K (.ref C) "__str__" = some (some (.builtin "BaseException.__str__"))) (hm : mroIn K C (.type "BaseException") = some true)
    (h : Q (.str m tk) s) : wpAny (model prog w) A (call (.type "str") [.ref x]) Q E s := by
  obtain ⟨oe, ot, ws, nt, h1, h2, h3, h4, h5, h6, h7⟩ := G
  exact own_exc_str hu X (N _ h1).1 h3 hs hm h4 h5 ⟨ot, nt, (N _ h2).1, h6, h7⟩ h
end
end Mine
namespace Mine
open PySem PySem.W PyProof.Rows PySem.Spec PySem.Calls PyProof.V PyProof.Rows.LCg PyProof.Rows.LCt
section
variable {prog : Program} {w : World} {A₀ A : Around} {s : Shared} {base h₀ g₀ : Heap} {L a : Addr} {m : Str → Option Value} {cn : Str} {cs : Scope} {ccd : Value} {cl : List (Str × Addr)} {news : List (Addr × Obj)} {K : Frag} {p : Program} {loose : List Str} {mean : ExcName → Option Value} {mg mb : Str → Option Value}
    {R : Result → Shared → Prop} {name qual : Str} {params : Arguments} {body : List Stmt} {scope : Scope} {dV kV doc pm cdv ct oc : Value} {an od : Option Addr} {osl : Array (Option Value)} {f : Addr} {args : Args} {binds : List (Str × Value)}
/-- a def with try in it, called out of a frame with cells -/
theorem code_defX0 (B : Below A₀ base [] h₀) (F : Fr h₀ L s.heap m) (X₀ : K.In h₀) (N : News h₀ L s.heap news) (T : Top p loose mean mg mb h₀) (hA : A.frames = some [envX cn cs L a ccd cl])
    (ho : K.lookup f = some ⟨oc, od, .func (fnOf name qual params body scope dV kV doc pm an cdv ct), osl⟩) (hcd : codeIn K cdv qual = true) (hroom : A.depth < recursionLimit)
    (hbind : BindsTo s (fnOf name qual params body scope dV kV doc pm an cdv ct) args binds) (hloc : ∀ y ∈ binds, scope.names.lookup y.1 = some .local)
    (h : ∀ g L' h₁, Fr h₀ L g m → Fr g L' h₁ (fun y => binds.reverse.lookup y) → News g L' h₁ news → Below A base [envX cn cs L a ccd cl] g → K.In g → Top p loose mean mg mb g → KtsDicts ([envX cn cs L a ccd cl].filterMap (·.frame)) g →
      wpAny (model prog w) (A.deeper (envOf qual scope L' f cdv)) (execs body (envOf qual scope L' f cdv))
        (fun fl s' => LeaveS0 ([envX cn cs L a ccd cl].filterMap (·.frame)) h₀ L m g R (match fl with | .ret v => v | _ => .none) s')
        (fun e s' => wpAny (model prog w) (A.deeper (envOf qual scope L' f cdv)) (leaving (envOf qual scope L' f cdv) e) (fun _ s'' => R (.error e) s'') (fun e' s'' => R (.error e') s'') s')
        { s with heap := h₁, toks := s.toks + binds.length })
    (hck : cs.kind = .function) (hco : scope.isCoroutine = false) (hgen : scope.isGenerator = false) (hk : scope.kind = .function)
    (hcell : ∀ x ∈ scope.names, x.2 ≠ .cell) : codeAny (model prog w) A (.call (.ref f) args) R s := by
  obtain ⟨FG, BG, st, -⟩ := groundX (R := R) B F N hA rfl hck
  have nL₀ : h₀.get? L = none := kts_self F
  obtain ⟨oL, es, ep, hLg, hLd, hLk, hLf⟩ := FG.ns
  have hNs : ∀ (sl : Array (Option Value)) h', h'.get? L = some { oL with slots := sl } → Heap.Ns h' L m := fun sl h' e => ⟨_, es, ep, e, hLd, hLk, hLf⟩
  refine codeAny_call_def (fd := fnOf name qual params body scope dV kV doc pm an cdv ct) (body := body) (binds := binds) hroom ((X₀.keeps F.keep) _ _ ho) rfl (T.nolimit.keeps F.keep) (codeRec_of (X₀.keeps F.keep) hcd) rfl hbind hcell hloc (fun h₁ hns hk₁ => ?_) hco hgen hk
  refine wpAny_mono (h _ s.heap.objs.size h₁ FG ⟨hns, fun b o e => hk₁ b o (of_hideAll _ e), Nat.le_of_eq (hideAll_size _ _)⟩
    (fun q hq => ⟨hk₁ _ _ (N q hq).1, Nat.ne_of_lt (Heap.lt_size (N q hq).1), hideAll_none _ (List.mem_map_of_mem hq)⟩) BG (X₀.keeps st) (T.keeps st) (fun b hb => by
      have z : b = L := by simpa [envX, List.filterMap] using hb
      rw [z]; exact ⟨oL, es, ep, hLg, hLd⟩)) (fun fl s' hl => ?_) fun _ _ y => y
  obtain ⟨g', L', m', news', T', F', N', k⟩ := hl
  obtain ⟨sl, hs⟩ := T'.up hLg
  refine k ⟨hNs sl _ (F'.keep _ _ hs), fun b o e => F'.keep b o (T'.other b o (st b o e) (fun q => ?_)), F.above⟩ fun q hq => ⟨(N' q hq).1, fun z => ?_, ?_⟩
  · have z : b = L := by simpa [envX, List.filterMap] using q
    rw [z, nL₀] at e; cases e
  · have := (N' q hq).2.2; rw [z, hs] at this; cases this
  · cases z : h₀.get? q.1 with
    | none => rfl
    | some o =>
      obtain ⟨sl', hs'⟩ := T'.up (st _ _ z)
      have := (N' q hq).2.2
      rw [hs'] at this
      cases this
end
end Mine
set_option maxHeartbeats 4000000
namespace Mine
open PySem PySem.W PyProof.Rows PySem.Spec PySem.Calls PyProof.V PyProof.Rows.LCg PyProof.Rows.LCt
section
variable {w : World} {s₀ : Shared} {mg mb : Str → Option Value} {news : List (Addr × Obj)}
theorem kw20 : True := by
  (k_with "my mine enter" => (refine wpAny_call ?_; k_dflt cell_enter))
  (k_with "my mine inner" => (refine' code_def ?k1 ?k2 ?k3 ?k4 ?k5 ?kA ?kF ?kK ?k6 ?k7 ?k8 ?k9 ?kB ?_ ?c2 ?c3 ?c4 ?c5; (case kA => exact rfl); (case kF => exact rfl); (case kK => first | exact rfl | assumption); (case k1 => k_asm); (case k2 => k_asm); (case k3 => k_asm); (case k4 => k_asm); (case k5 => k_asm); (case k6 => k_is); (case k7 => k_is); (case k8 => ktr_room); (case k9 => exact BindsTo.of_eq rfl); (case c5 => decide); (case kB => exact locs rfl); (case c2 => exact rfl); (case c3 => exact rfl); (case c4 => exact rfl); k_whole; intro g' L' h' FG' F' N' B' X' T'; (try dsimp only); (try k_fold)))
  (k_with "my subscriptTail Name BinOp str int" => (k_here; (refine KXi.item rfl (by omega) (by omega) (by omega) ?_); intro kxiE))
  (k_with "my call ref" => (k_here; (refine wpAny_call ?_); k_dflt (walk_at "mine inner")))
  (k_with "my mine enter0" => (refine' code_defX0 ?k1 ?k2 ?k3 ?k4 ?k5 ?kA ?k6 ?k7 ?k8 ?k9 ?kB ?_ ?cK ?c2 ?c3 ?c4 ?c5; (case kA => exact rfl); (case k2 => k_asm); (case k1 => k_asm); (case k3 => k_asm); (case k4 => k_asm); (case k5 => k_asm); (case k6 => k_is); (case k7 => k_is); (case k8 => ktr_room); (case k9 => exact BindsTo.of_eq rfl); (case kB => exact locs rfl); (case cK => assumption); (case c2 => exact rfl); (case c3 => exact rfl); (case c4 => exact rfl); (case c5 => decide); k_whole; intro g' L' h' FG' F' N' B' X' T' D'; (try dsimp only); (try k_fold)))
  (k_with "my call type:str" => (k_here; k_dflt (refine own_str_got (by ktr_units) (Frag.In.keeps (by k_asm) (Fr.keep (by assumption))) (by assumption) (by assumption) (by k_is) (by k_is) ?_)))
  trivial
/-- a call out of the law's own frame -/
noncomputable abbrev Cl0 (w : World) (s₀ : Shared) (mg mb : Str → Option Value) (lv : Nat) (f : Addr) (news : List (Addr × Obj)) (vs : List Value) (Ret : Heap → Addr → (Str → Option Value) → Shared → (Value → Shared → Prop) → Prop) : Prop :=
  ∀ {dp un : Nat} {gd : Option (List Code)} {cn : Str} {cs : Scope} {a : Addr} {ccd : Value} {cl : List (Str × Addr)} {A₀ : Around} {base h₀ : Heap} {L : Addr} {m : Str → Option Value} {s : Shared} {Q E : Value → Shared → Prop},
    (kap w.params).In base → Top vw LL (ExcName.means s₀.heap) mg mb base → Below A₀ base [] h₀ → Fr h₀ L s.heap m → (kap w.params).In h₀ → News h₀ L s.heap news → Top vw LL (ExcName.means s₀.heap) mg mb h₀ → cs.kind = .function → dp + lv < recursionLimit → un + 8 * lv < cLine →
      Ret h₀ L m s Q → wpAny (model PP w) (ktrTop dp un gd cn cs L a ccd cl []) (call (.ref f) vs) Q E s
noncomputable abbrev lf (r : Str) : Int := Txt.find r (Str.ofString "(")
noncomputable abbrev rt (r : Str) : Int := Txt.find3 r (Str.ofString ")") (lf r + 1)
noncomputable abbrev mk1 (r : Str) : Str := Txt.item r (lf r + 1)
noncomputable abbrev mk2 (r : Str) : Str := Txt.item r (rt r - 1)
noncomputable abbrev prts (r : Str) : List Str := Txt.split (Txt.slice r (some (lf r + 1)) (some (rt r))) (mk1 r)
/-- parse229 refuses it by error_proto -/
noncomputable def Proto (r : Str) : Prop := lf r < 0 ∨ rt r < 0 ∨ (mk1 r != mk2 r) = true ∨ (prts r).length ≠ 5
theorem lf_lt (r : Str) : 0 ≤ lf r → lf r < r.length := by
  intro h
  rcases find_spec r (Str.ofString "(") with e | ⟨i, e, hi, _⟩
  · rw [lf, e] at h; omega
  · have h1 : (Str.ofString "(").length = 1 := by decide +kernel
    show Txt.find r (Str.ofString "(") < _
    rw [e]; omega
theorem par_eq : Str.ofString ")" = ⟨#[41]⟩ := by decide +kernel
theorem rt_lt (r : Str) : 0 ≤ lf r → 0 ≤ rt r → lf r + 1 ≤ rt r ∧ rt r < r.length := by
  intro h0 h
  have h1 := lf_lt r h0
  unfold rt at h ⊢
  rw [par_eq] at h ⊢
  rcases StrLaws.find3_spec r 41 (lf r + 1) with ⟨e, _⟩ | ⟨k, e, h2, h3, _⟩
  · rw [e] at h; omega
  · rw [e]
    have h4 : fromIndex r.length (lf r + 1) = (lf r + 1).toNat := by
      unfold fromIndex
      rw [if_neg (by omega), Int.max_eq_right (by omega)]
    rw [h4] at h2
    omega
theorem c_refused {r : Str} {t : Tok} {pv : Value} (hr : r.length ≤ 300) (hx1 : (Txt.slice r none (some 3) != Str.ofString "229") = false) (hp : Proto r) : Cl0 w s₀ mg mb 3 162 news [.str r t, pv] (fun h₀ L m s Q => CbRet h₀ L m news s Q (fun _ => .bool true)) := by
  unfold Cl0 PP; k_fill; intros; rename_i hret
  have f1 := lf_lt r
  have f2 := rt_lt r
  dsimp only [lf, rt] at f1 f2
  refine wpAny_call ?_
  k_dflt (walk_at "mine enter0")
  k_steps
  all_goals first | refine cb_retB hret (beq_self_eq_true r) (by k_asm) (by k_asm) | refine cb_retB hret (beq_self_eq_true r) (by k_asm) (by (refine' cb_drop ?cbN ?cbS; (case cbN => assumption); (case cbS => kcj_all))) | skip
  exfalso
  rename (List.map _ _ = Txt.split _ _) => hl
  have h6 : (prts r).length = 5 := by show (Txt.split _ _).length = 5; rw [← hl, List.length_map]; omega
  rcases hp with h | h | h | h
  · exact absurd h (by assumption)
  · exact absurd h (by assumption)
  · rename ((_ != _) = false) => h7
    exact absurd (h.symm.trans h7) (by decide)
  · exact h h6
theorem kw21 : True := by
  k_with_none
  trivial
end
end Mine
set_option maxHeartbeats 4000000
namespace Mine
open PySem PySem.W PyProof.Rows PySem.Spec PySem.Calls PyProof.V PyProof.Rows.LCg PyProof.Rows.LCt
section
variable {w : World} {s₀ : Shared} {mg mb : Str → Option Value} {news : List (Addr × Obj)}
local macro_rules | `(tactic| k_mem) => `(tactic| with_reducible_and_instances assumption)
theorem kw22 : True := by
  (k_with "my mine enter" => (refine wpAny_call ?_; k_dflt cell_enter))
  (k_with "my subscriptTail Name BinOp str int" => (k_here; (refine KXi.item rfl (by omega) (by omega) (by omega) ?_); intro kxiE))
  (k_with "my call builtin:str.split" => (k_here; (with_reducible show wpAny _ _ (call (Value.builtin "str.split") _) _ _ _); (rename Txt.split _ _ = _ => hs9); (refine KSpl.split1 (by k_asm) (by k_asm) (by (rw [beq_eq_false_iff_ne]; omega)) ?_ (by rw [sizeLine_eq]; omega)); (intro D' l' h' k' e' a' F' N' l1); (rw [hs9] at e'); (kspl_open e'); (simp only [strValues, List.map_cons, List.map_nil] at N' a')))
  trivial
theorem seq0 {α : Type} {v : α} {rest : List α} : seqIndex? 0 (v :: rest).length = some 0 := by
  rw [List.length_cons]; unfold seqIndex?; simp
theorem kw23 : True := by
  (k_with "my subscriptTail Name Constant ref int" => (k_here; k_dflt (refine item_tupleT (l := _ :: _) (News.isTup (by k_asm) (by k_mem)) (by decide) (by decide) seq0 rfl ?_)))
  trivial
/-- a tuple of two handed back -/
noncomputable abbrev RetT2 (h₀ : Heap) (L : Addr) (m : Str → Option Value) (news : List (Addr × Obj)) (s : Shared) (Q : Value → Shared → Prop) (v : Value) (i : Int) : Prop :=
  ∀ (D : Addr) (t : Tok) (n : Nat) (h' : Heap) (tk' : Nat), Fr h₀ L h' m → News h₀ L h' ((D, { cls := .type "tuple", data := .seq #[v, .int i t] n }) :: news) → (∀ p ∈ news, p.1 < D) → Q (.ref D) { s with heap := h', toks := tk' }
/-- what a call of the text's def at f is shown to do, an exception in hand or none -/
noncomputable abbrev ClM (w : World) (s₀ : Shared) (mg mb : Str → Option Value) (lv : Nat) (f : Addr) (news : List (Addr × Obj)) (vs : List Value) (Ret : Heap → Addr → (Str → Option Value) → Shared → (Value → Shared → Prop) → Prop) : Prop :=
  ∀ {hd : Option Value} {dp un : Nat} {gd : Option (List Code)} {cn : Str} {cs : Scope} {a : Addr} {ccd : Value} {cl : List (Str × Addr)} {outer : List Env} {A₀ : Around} {base h₀ : Heap} {L : Addr} {m : Str → Option Value} {s : Shared} {Q E : Value → Shared → Prop},
    Below A₀ base outer h₀ → Fr h₀ L s.heap m → (kap w.params).In h₀ → News h₀ L s.heap news → Top vw LL (ExcName.means s₀.heap) mg mb h₀ → cs.kind = .function → dp + lv < recursionLimit → un + 8 * lv < cLine →
      Ret h₀ L m s Q → wpAny (model PP w) { handled := hd, depth := dp, frames := some (envX cn cs L a ccd cl :: outer), guards := gd, units := un } (call (.ref f) vs) Q E s
theorem c_229 {r a b c d e : Str} {t : Tok} {T : Addr} {v0 : Value} {rest : List Value} {nn : Nat} {port : Int} (hT : (T, { cls := .type "tuple", data := .seq (v0 :: rest).toArray nn }) ∈ news) (hr : r.length ≤ 300) (hx1 : (Txt.slice r none (some 3) != Str.ofString "229") = false)
   (h1 : ¬ lf r < 0) (h2 : ¬ rt r < 0) (h3 : (mk1 r != mk2 r) = false) (hs : Txt.split (Txt.slice r (some (lf r + 1)) (some (rt r))) (mk1 r) = [a, b, c, d, e]) (hi : PySem.intText? d = some port) (hd : d.length ≤ 300) :
   ClM w s₀ mg mb 1 58 news [.str r t, .ref T] (fun h₀ L m s Q => RetT2 h₀ L m news s Q v0 port) := by
  unfold ClM PP; k_fill; intros; rename_i hret
  have f1 := lf_lt r
  have f2 := rt_lt r
  dsimp only [lf, rt, mk1, mk2] at f1 f2 h1 h2 h3 hs
  walk_at "mine enter"
  k_steps
  all_goals first | (exfalso; omega) | skip
  refine' hret _ _ _ _ _ (by k_asm) ?N ?l
  case N => (refine' cb_drop ?cbN ?cbS; (case cbN => assumption); (case cbS => kcj_all))
  case l => (rename (_ ∧ AllLt _ _) => q9; exact ktn_ltOf q9.2)
theorem kw24 : True := by
  k_with_none
  trivial
end
end Mine
namespace Mine
open PySem PySem.W PyProof.Rows PySem.Spec PySem.Calls PyProof.V
open PySem.Builtin PySem.Builtin.Str
noncomputable def find4 (x y : Str) (i j : Int) : Int := match occurrences x y (fromIndex x.length i) (min (fromIndex x.length j) x.length) 1 with | k :: _ => (k : Int) | [] => -1
theorem gives_find4 (x y : Str) (i j : Int) (t u v v' : Tok) : Gives («str.find» ⟨[.str x t, .str y u, .int i v, .int j v'], []⟩) (.int (find4 x y i j)) := by
  show Gives (match occurrences x y (fromIndex x.length i) (min (fromIndex x.length j) x.length) 1 with | k :: _ => retInt k | [] => (do rule "str.find.not-found"; retInt (-1))) _
  unfold find4
  cases occurrences x y (fromIndex x.length i) (min (fromIndex x.length j) x.length) 1 with
  | nil => exact .rule (.of_eq rfl)
  | cons k _ => exact .of_eq rfl
theorem call_find4 {prog : Program} {w : World} {A : Around} {E : Value → Shared → Prop} {s : Shared} {x y : Str} {t u v v' : Tok} {i j : Int} {Q : Value → Shared → Prop} (hq : Q (.int (find4 x y i j) s.toks) { s with toks := s.toks + 1 }) :
    wpAny (model prog w) A (call (.builtin "str.find") [.str x t, .str y u, .int i v, .int j v']) Q E s :=
  call_gives PySem.F.slot_str_find (typeIs_str _ _ _) PySem.F.entry_str_find (PySem.F.args_str_find_4 _ _ _ _) (gives_find4 x y i j t u v v') hq
end Mine
set_option maxHeartbeats 4000000
namespace Mine
open PySem PySem.W PyProof.Rows PySem.Spec PySem.Calls PyProof.V PyProof.Rows.LCg PyProof.Rows.LCt
noncomputable def ellMid (y : Str) : List Str → Int → Int → Bool
  | [], _, _ => true
  | v :: r, st, en => if find4 y v st en < 0 then false else ellMid y r (find4 y v st en + v.length) en
/-- what _ellipsis_match says, the pattern's first and last part not empty -/
noncomputable def ellB (a : Str) (mid : List Str) (b y : Str) : Bool := match Txt.startswith y a with
  | false => false
  | true => match Txt.endswith y b with
    | false => false
    | true => if (y.length : Int) - b.length < a.length then false else ellMid y mid a.length ((y.length : Int) - b.length)
/-- the same, the pattern's first part empty -/
noncomputable def ellE (b y : Str) : Bool := match Txt.endswith y b with
  | false => false
  | true => if (y.length : Int) - b.length < 0 then false else if find4 y (Str.ofString "") 0 ((y.length : Int) - b.length) < 0 then false else true
theorem ellB_1 {a b y : Str} {mid : List Str} (h : Txt.startswith y a = false) : false = ellB a mid b y := by unfold ellB; rw [h]
theorem ellB_2 {a b y : Str} {mid : List Str} (h : Txt.startswith y a = true) (h2 : Txt.endswith y b = false) : false = ellB a mid b y := by unfold ellB; rw [h, h2]
theorem ellB_3 {a b y : Str} {mid : List Str} (h : Txt.startswith y a = true) (h2 : Txt.endswith y b = true) (h3 : (y.length : Int) - b.length < a.length) : false = ellB a mid b y := by unfold ellB; rw [h, h2]; dsimp only; rw [if_pos h3]
theorem ellB_4 {a b y : Str} {mid : List Str} {z : Bool} (h : Txt.startswith y a = true) (h2 : Txt.endswith y b = true) (h3 : ¬ (y.length : Int) - b.length < a.length) (h4 : ellMid y mid a.length ((y.length : Int) - b.length) = z) : z = ellB a mid b y := by unfold ellB; rw [h, h2]; dsimp only; rw [if_neg h3, h4]
theorem ellE_2 {b y : Str} (h2 : Txt.endswith y b = false) : false = ellE b y := by unfold ellE; rw [h2]
theorem ellE_3 {b y : Str} (h2 : Txt.endswith y b = true) (h3 : (y.length : Int) - b.length < 0) : false = ellE b y := by unfold ellE; rw [h2]; dsimp only; rw [if_pos h3]
theorem ellE_4 {b y : Str} {z : Bool} (h2 : Txt.endswith y b = true) (h3 : ¬ (y.length : Int) - b.length < 0) (h4 : ellMid y [Str.ofString ""] 0 ((y.length : Int) - b.length) = z) : z = ellE b y := by
  unfold ellE; rw [h2]; dsimp only; rw [if_neg h3, ← h4]; unfold ellMid; unfold ellMid; rfl
noncomputable def scEl : Scope := (fdOf 8).2.2
noncomputable def elB : List Stmt := match ((fdOf 8).2.1).getD 9 (.Pass default) with
  | .For _ _ b _ _ => b
  | _ => []
section
variable {w : World} {s₀ : Shared} {mg mb : Str → Option Value}
variable {dp un : Nat} {gd : Option (List Code)} {cn : Str} {a : Addr} {ccd : Value} {cl : List (Str × Addr)} {outer : List Env} {A₀ : Around} {base h₀ : Heap} {L : Addr} {m : Str → Option Value} {s : Shared} {E : Value → Shared → Prop} {news : List (Addr × Obj)} {cs : Scope}
theorem ldnX {M : Model} {A : Around} {x : Str} {v : Value} {Q : Value → Shared → Prop} (F : Fr h₀ L s.heap m) (hv : m x = some v) (h : Q v s)
    (hk : cs.kind = .function := by rfl) (hl : (envX cn cs L a ccd cl).kindOf x = some .local := by rfl) : wpAny M A (loadName (envX cn cs L a ccd cl) x) Q E s := wpAny_loadName_local hk hl F.ns hv h
theorem kw25 : True := by
  (k_with "my loadName" => (k_here; k_dflt (refine' ldnX ?F ?v ?_ ?a ?b; (case F => k_asm); (case v => rfl); (case a => rfl); (case b => rfl))))
  (k_with "my call builtin:str.find" => (k_here; (with_reducible show wpAny _ _ (call _ [_, _, _, _]) _ _ _); (refine call_find4 ?_)))
  trivial
theorem turnEl {Q : Flow → Shared → Prop} {y v : Str} {st en : Int} {t1 t2 t3 t4 : Tok} (hcs : cs = scEl) (hX : (kap w.params).In h₀) (hT : Top vw LL (ExcName.means s₀.heap) mg mb h₀) (hB : Below A₀ base outer h₀) (hF' : Fr h₀ L s.heap m) (hN : News h₀ L s.heap news)
    (e1 : m (Str.ofString "got") = some (.str y t1)) (e2 : m (Str.ofString "w") = some (.str v t2)) (e3 : m (Str.ofString "startpos") = some (.int st t3)) (e4 : m (Str.ofString "endpos") = some (.int en t4)) (hy : y.length ≤ 300) (hv : v.length ≤ 300)
    (hr : find4 y v st en < 0 → ∀ h' tk' m', Fr h₀ L h' m' → News h₀ L h' news → Q (.ret (.bool false)) { s with heap := h', toks := tk' })
    (hn : ¬ find4 y v st en < 0 → ∀ h' tk' m' t3', Fr h₀ L h' m' → News h₀ L h' news → m' (Str.ofString "got") = some (.str y t1) → m' (Str.ofString "startpos") = some (.int (find4 y v st en + (v.length : Int)) t3') → m' (Str.ofString "endpos") = some (.int en t4) → Q .next { s with heap := h', toks := tk' }) :
    wpAny (model PP w) (ktrTop dp un gd cn cs L a ccd cl outer) (execs elB (envX cn cs L a ccd cl)) Q E s := by
  conv at hcs => rhs; whnf
  try dsimp only at hcs
  subst hcs
  have hF := fr_at4 hF' e1 e2 e3 e4
  clear hF'
  unfold PP; revert hX; k_fill; intro hX
  conv in elB => whnf
  k_steps
  all_goals ((rename Fr _ _ _ _ => F9); (rename News _ _ _ _ => N9))
  · exact hr (by assumption) _ _ _ F9 N9
  · exact hn (by assumption) _ _ _ _ F9 N9 rfl rfl rfl
noncomputable def LenOk : List (Str × Tok) → Prop
  | [] => True
  | p :: r => p.1.length ≤ 300 ∧ LenOk r
theorem LenOk.cons {v : Str} {t : Tok} {r : List (Str × Tok)} (h : v.length ≤ 300) (hr : LenOk r) : LenOk ((v, t) :: r) := ⟨h, hr⟩
theorem restEl {Q : Flow → Shared → Prop} {A : Around} {env : Env} {body : List Stmt} {I : Addr} {lp : Addr × Obj} {y : Str} {en : Int} {t1 t4 : Tok} (hA : A = ktrTop dp un gd cn cs L a ccd cl outer) (he : env = envX cn cs L a ccd cl) (hcs : cs = scEl) (hb : body = elB) (hX : (kap w.params).In h₀) (hT : Top vw LL (ExcName.means s₀.heap) mg mb h₀) (hB : Below A₀ base outer h₀)
    (hlp : lp ∈ news) (hoff : ∀ p ∈ news, p.1 < I) (hy : y.length ≤ 300) : ∀ (l : List (Str × Tok)) (st : Int) (m : Str → Option Value) (t3 : Tok), LenOk l →
      m (Str.ofString "got") = some (.str y t1) → m (Str.ofString "startpos") = some (.int st t3) → m (Str.ofString "endpos") = some (.int en t4) →
      (ellMid y (l.map (·.1)) st en = false → ∀ h tk m', Fr h₀ L h m' → News h₀ L h news → Q (.ret (.bool false)) { s with heap := h, toks := tk }) →
      (ellMid y (l.map (·.1)) st en = true → ∀ h tk m', Fr h₀ L h m' → News h₀ L h news → Q .next { s with heap := h, toks := tk }) →
      ListRest PP w A E h₀ env (Str.ofString "w") body Q s I lp (l.map fun p => .str p.1 p.2) m news := by
  subst hA he hb
  intro l
  induction l with
  | nil =>
    intro st m t3 hl e1 e3 e4 hr hn
    exact ListRest.zero fun h tk F N => hn rfl h tk m F N
  | cons p l ih =>
    intro st m t3 hl e1 e3 e4 hr hn
    refine ListRest.succ fun it h tk hit F N => ?_
    refine turnEl hcs hX hT hB F N (upd_ne (by decide +kernel) e1) (if_pos rfl) (upd_ne (by decide +kernel) e3) (upd_ne (by decide +kernel) e4) hy hl.1 ?_ ?_
    · intro hf h' tk' m' F' N'
      refine hr ?_ h' tk' m' F' (fun q hq => N' q (.tail _ hq))
      show (if find4 y p.1 st en < 0 then false else _) = false
      rw [if_pos hf]
    · intro hf h' tk' m' t3' F' N' e1' e3' e4'
      have key : ellMid y ((p :: l).map (·.1)) st en = ellMid y (l.map (·.1)) (find4 y p.1 st en + (p.1.length : Int)) en := by
        show (if find4 y p.1 st en < 0 then false else _) = _
        rw [if_neg hf]
      rw [key] at hr hn
      exact ⟨h', tk', m', news, rfl, F', N', fun p hp => Nat.ne_of_lt (hoff p hp), hlp, ih _ m' t3' hl.2 e1' e3' e4' hr hn⟩
theorem rest1 {Q : Flow → Shared → Prop} {A : Around} {env : Env} {body : List Stmt} {I : Addr} {lp : Addr × Obj} {y : Str} {st en : Int} {t1 t3 t4 : Tok} {vs : List Value} (l : List (Str × Tok)) (hv : vs = l.map fun p => .str p.1 p.2) (hA : A = ktrTop dp un gd cn cs L a ccd cl outer) (he : env = envX cn cs L a ccd cl) (hcs : cs = scEl) (hb : body = elB) (hX : (kap w.params).In h₀) (hT : Top vw LL (ExcName.means s₀.heap) mg mb h₀) (hB : Below A₀ base outer h₀)
    (hlp : lp ∈ news) (hoff : ∀ p ∈ news, p.1 < I) (e1 : m (Str.ofString "got") = some (.str y t1)) (e3 : m (Str.ofString "startpos") = some (.int st t3)) (e4 : m (Str.ofString "endpos") = some (.int en t4)) (hy : y.length ≤ 300) (hl : LenOk l)
    (hr : ellMid y (l.map (·.1)) st en = false → ∀ (h : Heap) (tk : Nat) (m' : Str → Option Value), Fr h₀ L h m' → News h₀ L h news → Q (.ret (.bool false)) { s with heap := h, toks := tk })
    (hn : ellMid y (l.map (·.1)) st en = true → ∀ (h : Heap) (tk : Nat) (m' : Str → Option Value), Fr h₀ L h m' → News h₀ L h news → Q .next { s with heap := h, toks := tk }) :
      ListRest PP w A E h₀ env (Str.ofString "w") body Q s I lp vs m news := by
  rw [hv]
  exact restEl hA he hcs hb hX hT hB hlp hoff hy l st m t3 hl e1 e3 e4 hr hn
theorem kw26 : True := by
  k_with_none
  trivial
end
section
variable {w : World} {s₀ : Shared} {mg mb : Str → Option Value} {news : List (Addr × Obj)}
theorem kw27 : True := by
  (k_with "my mine enter" => (refine wpAny_call ?_; k_dflt cell_enter))
  (k_with "my call builtin:str.split" => (k_here; (with_reducible show wpAny _ _ (call (Value.builtin "str.split") _) _ _ _); (rename Txt.split _ _ = _ => hs9); (refine KSpl.split1 (by k_asm) (by k_asm) (by decide) ?_ (by rw [sizeLine_eq]; omega)); (intro D' l' h' k' e' a' F' N' l1); (rw [hs9] at e'); (kspl_open e'); (simp only [strValues, List.map_cons, List.map_nil] at N' a')))
  (k_with "my exec For Name Name cons nil" => (k_here; (with_unfolding_all refine For_invVF (by k_asm) (by exact rfl) (by exact rfl) ?_)))
  (k_with "my pyIter ref" => (k_here; (with_unfolding_all refine iter_listUnr (by rfl) (by k_asm) (by k_asm) (by k_mem) (by rfl) (by rfl) ?_); intro i9 l9; walk_at "mine rest"))
  (k_with "my mine rest" => ((first | refine' rest1 [] (by exact rfl) ?kA ?ke ?kc ?kb (by k_asm) (by k_asm) (by k_asm) (by k_mem) (by assumption) (by exact rfl) (by exact rfl) (by exact rfl) (by assumption) ?kl ?_ ?_ | refine' rest1 [(_, _)] (by exact rfl) ?kA ?ke ?kc ?kb (by k_asm) (by k_asm) (by k_asm) (by k_mem) (by assumption) (by exact rfl) (by exact rfl) (by exact rfl) (by assumption) ?kl ?_ ?_ | refine' rest1 [(_, _), (_, _)] (by exact rfl) ?kA ?ke ?kc ?kb (by k_asm) (by k_asm) (by k_asm) (by k_mem) (by assumption) (by exact rfl) (by exact rfl) (by exact rfl) (by assumption) ?kl ?_ ?_ | refine' rest1 [(_, _), (_, _), (_, _)] (by exact rfl) ?kA ?ke ?kc ?kb (by k_asm) (by k_asm) (by k_asm) (by k_mem) (by assumption) (by exact rfl) (by exact rfl) (by exact rfl) (by assumption) ?kl ?_ ?_); (case kA => rfl); (case ke => rfl); (case kc => kernel_rfl); (case kb => kernel_rfl); (case kl => (repeat' (first | exact trivial | refine LenOk.cons (by omega) ?_))); all_goals (intro q9 h9 tk9 m9 F9 N9)))
  trivial
theorem c_ell2 {x y a b : Str} {t t1 : Tok} (hx : x.length ≤ 300) (hy : y.length ≤ 300) (hin : Txt.contains x (Str.ofString "...") = true) (hs : Txt.split x (Str.ofString "...") = [a, b]) (ha : 0 < a.length) (hb : 0 < b.length) (ha' : a.length ≤ 300) (hb' : b.length ≤ 300) :
   Cl w s₀ mg mb 1 72 news [.str x t, .str y t1] (fun h₀ L m s Q => CbRet h₀ L m news s Q (fun _ => .bool (ellB a [] b y))) := by
  unfold Cl PP; k_fill; intros; rename_i hret
  walk_at "mine enter"
  k_steps
  all_goals first
    | (exfalso; unfold Txt.contains at hin; (rename (List.isEmpty _ = true) => h9); rw [h9] at hin; exact absurd hin (by decide))
    | (exfalso; omega)
    | (refine cb_retB hret ?_ (by k_asm) (by first | k_asm | (refine' cb_drop ?cbN ?cbS; (case cbN => assumption); (case cbS => kcj_all))); first | exact ellB_1 (by with_reducible assumption) | exact ellB_2 (by with_reducible assumption) (by with_reducible assumption) | exact ellB_4 (by with_reducible assumption) (by with_reducible assumption) (by omega) (by assumption) | exact ellB_3 (by with_reducible assumption) (by with_reducible assumption) (by omega))
theorem c_ell4 {x y a b c d : Str} {t t1 : Tok} (hx : x.length ≤ 300) (hy : y.length ≤ 300) (hin : Txt.contains x (Str.ofString "...") = true) (hs : Txt.split x (Str.ofString "...") = [a, c, d, b]) (ha : 0 < a.length) (hb : 0 < b.length) (ha' : a.length ≤ 300) (hb' : b.length ≤ 300) (hc : c.length = 1) (hd : d.length = 1) :
   Cl w s₀ mg mb 1 72 news [.str x t, .str y t1] (fun h₀ L m s Q => CbRet h₀ L m news s Q (fun _ => .bool (ellB a [c, d] b y))) := by
  unfold Cl PP; k_fill; intros; rename_i hret
  walk_at "mine enter"
  k_steps
  all_goals first
    | (exfalso; unfold Txt.contains at hin; (rename (List.isEmpty _ = true) => h9); rw [h9] at hin; exact absurd hin (by decide))
    | (exfalso; omega)
    | (refine cb_retB hret ?_ (by k_asm) (by first | k_asm | (refine' cb_drop ?cbN ?cbS; (case cbN => assumption); (case cbS => kcj_all))); first | exact ellB_1 (by with_reducible assumption) | exact ellB_2 (by with_reducible assumption) (by with_reducible assumption) | exact ellB_4 (by with_reducible assumption) (by with_reducible assumption) (by omega) (by assumption) | exact ellB_3 (by with_reducible assumption) (by with_reducible assumption) (by omega))
theorem c_ell5 {x y a b c d e : Str} {t t1 : Tok} (hx : x.length ≤ 300) (hy : y.length ≤ 300) (hin : Txt.contains x (Str.ofString "...") = true) (hs : Txt.split x (Str.ofString "...") = [a, c, d, e, b]) (ha : 0 < a.length) (hb : 0 < b.length) (ha' : a.length ≤ 300) (hb' : b.length ≤ 300) (hc : c.length = 1) (hd : d.length = 1) (he : e.length = 1) :
   Cl w s₀ mg mb 1 72 news [.str x t, .str y t1] (fun h₀ L m s Q => CbRet h₀ L m news s Q (fun _ => .bool (ellB a [c, d, e] b y))) := by
  unfold Cl PP; k_fill; intros; rename_i hret
  walk_at "mine enter"
  k_steps
  all_goals first
    | (exfalso; unfold Txt.contains at hin; (rename (List.isEmpty _ = true) => h9); rw [h9] at hin; exact absurd hin (by decide))
    | (exfalso; omega)
    | (refine cb_retB hret ?_ (by k_asm) (by first | k_asm | (refine' cb_drop ?cbN ?cbS; (case cbN => assumption); (case cbS => kcj_all))); first | exact ellB_1 (by with_reducible assumption) | exact ellB_2 (by with_reducible assumption) (by with_reducible assumption) | exact ellB_4 (by with_reducible assumption) (by with_reducible assumption) (by omega) (by assumption) | exact ellB_3 (by with_reducible assumption) (by with_reducible assumption) (by omega))
theorem emp_len : (Str.ofString "").length ≤ 300 := by decide +kernel
theorem kw28 : True := by
  (k_with "my mine rest" => ((refine' rest1 [(_, _)] (by exact rfl) ?kA ?ke ?kc ?kb (by k_asm) (by k_asm) (by k_asm) (by k_mem) (by assumption) (by exact rfl) (by exact rfl) (by exact rfl) (by assumption) ?kl ?_ ?_); (case kA => rfl); (case ke => rfl); (case kc => kernel_rfl); (case kb => kernel_rfl); (case kl => exact ⟨emp_len, trivial⟩); all_goals (intro q9 h9 tk9 m9 F9 N9)))
  trivial
theorem c_ellE {x y b : Str} {t t1 : Tok} (hx : x.length ≤ 300) (hy : y.length ≤ 300) (hin : Txt.contains x (Str.ofString "...") = true) (hs : Txt.split x (Str.ofString "...") = [Str.ofString "", b]) (hb : 0 < b.length) (hb' : b.length ≤ 300) :
   Cl w s₀ mg mb 1 72 news [.str x t, .str y t1] (fun h₀ L m s Q => CbRet h₀ L m news s Q (fun _ => .bool (ellE b y))) := by
  unfold Cl PP; k_fill; intros; rename_i hret
  walk_at "mine enter"
  k_steps
  all_goals first
    | (exfalso; unfold Txt.contains at hin; (rename (List.isEmpty _ = true) => h9); rw [h9] at hin; exact absurd hin (by decide))
    | (exfalso; omega)
    | (refine cb_retB hret ?_ (by k_asm) (by first | k_asm | (refine' cb_drop ?cbN ?cbS; (case cbN => assumption); (case cbS => kcj_all))); first | exact ellE_2 (by with_reducible assumption) | exact ellE_4 (by with_reducible assumption) (by omega) (by assumption) | exact ellE_3 (by with_reducible assumption) (by omega))
theorem kw29 : True := by
  k_with_none
  trivial
end
end Mine
set_option maxHeartbeats 4000000
namespace Mine
open PySem PySem.W PyProof.Rows PySem.Spec PySem.Calls PyProof.V PyProof.Rows.LCg PyProof.Rows.LCt
section
theorem unrEndW_mine {h₀ : Heap} {L : Addr} {s₁ : Shared} {I : Addr} {it : Obj} {rest : (Str → Option Value) → List (Addr × Obj) → Prop} {h' : Heap} {tk : Nat} {m' : Str → Option Value} {news' : List (Addr × Obj)}
   (F : Fr h₀ L h' m') (N : News h₀ L h' ((I,it)::news')) (off : ∀ p ∈ news', p.1 < I) (r : rest m' news') : UnrEndW h₀ L s₁ [(I,it)] rest {s₁ with heap := h', toks := tk} :=
  ⟨h', tk, m', news', rfl, F, N, fun p hp q hq => by rw [List.mem_singleton.mp hq]; exact Nat.ne_of_lt (off p hp), r⟩
theorem isList_of {h₀ h : Heap} {L l : Addr} {news : List (Addr × Obj)} {vs : Array Value} {n : Nat} (N : News h₀ L h news) (hm : (l, W.listOf vs n) ∈ news) : h.IsList l vs := ⟨_, (N _ hm).1, rfl, n, rfl⟩
theorem add_le {prog : Program} {w : World} {A : Around} {E : Value → Shared → Prop} {s : Shared} {x y : Str} {a b : Nat} {t u : Tok} {Q : Value → Shared → Prop} (hx : x.length ≤ a) (hy : y.length ≤ b) (hsz : a + b ≤ 16777216)
    (h : ∀ t' k, (x ++ y).length ≤ a + b → Q (.str (x ++ y) t') { s with toks := k }) : wpAny (model prog w) A (binaryOp .Add (.str x t) (.str y u)) Q E s :=
  add_named hx hy hsz fun z t' k e l => by subst e; exact h t' k l
variable {w : World} {s₀ : Shared} {mg mb : Str → Option Value} {news : List (Addr × Obj)}
theorem kw30 : True := by
  (k_with "my mine enter" => (refine wpAny_call ?_; k_dflt cell_enter))
  (k_with "my pyIter ref" => (k_here; (with_unfolding_all refine iter_tupTurns (by rfl) (by k_asm) (by k_asm) (by k_mem) (by rfl) (by rfl) ?_); intro i9 l9))
  (k_with "my UnrEndW" => (with_unfolding_all refine unrEndW_mine (by assumption) (by first | assumption | (refine' cb_drop ?cbN ?cbS; (case cbN => assumption); (case cbS => kcj_all))) (by assumption) ⟨by k_subL, ?_⟩))
  (k_with "my binaryOp Mult ref int" => (k_here; (with_reducible show wpAny _ _ (binaryOp Operator.Mult (Value.ref _) (Value.int _ _)) _ _ _); k_dflt (refine KMa.mul (by k_asm) (by k_asm) (isList_of (by k_asm) (by k_mem)) (by decide) (by decide) (Nat.le_of_ble_eq_true rfl) rfl ?_); intro D' h' F' N' l1; (try k_lt l1)))
  trivial
noncomputable abbrev tb (L front figs : Str) : Str := L ++ front ++ figs ++ L ++ Str.ofString ")"
noncomputable abbrev tx (L front figs : Str) : Str := Str.ofString "..." ++ L ++ front ++ figs ++ L ++ Str.ofString ")"
/-- the reply answers the patterns of _law_told -/
structure ToldOk (a b L figs y : Str) : Prop where
  g1 : ellB a [L, L] b y = true
  g2 : ellB a [L, L, L] b y = false
  g3 : ellE (tb L (Str.ofString "") figs) y = true
  g4 : ellE (tb L (Str.ofString "0") figs) y = false
  c3 : Txt.contains (tx L (Str.ofString "") figs) (Str.ofString "...") = true
  c4 : Txt.contains (tx L (Str.ofString "0") figs) (Str.ofString "...") = true
  s3 : Txt.split (tx L (Str.ofString "") figs) (Str.ofString "...") = [Str.ofString "", tb L (Str.ofString "") figs]
  s4 : Txt.split (tx L (Str.ofString "0") figs) (Str.ofString "...") = [Str.ofString "", tb L (Str.ofString "0") figs]
theorem tb_len {L front figs : Str} (hL : L.length = 1) (hf : front.length ≤ 1) (hg : figs.length ≤ 100) : 0 < (tb L front figs).length ∧ (tb L front figs).length ≤ 300 ∧ (tx L front figs).length ≤ 300 := by
  have e1 : (Str.ofString ")").length = 1 := by decide +kernel
  have e2 : (Str.ofString "...").length = 3 := by decide +kernel
  simp only [tb, tx, Str.length_append, e1, e2, hL]
  omega
noncomputable abbrev x4 (Z : Str) : Str := Str.ofString "229 (" ++ Txt.join (Str.ofString "...") [Z, Z, Z, Z] ++ Str.ofString ")"
noncomputable abbrev x5 (Z : Str) : Str := Str.ofString "229 (" ++ Txt.join (Str.ofString "...") [Z, Z, Z, Z, Z] ++ Str.ofString ")"
noncomputable abbrev x2 (Z : Str) : Str := Str.ofString "229 (" ++ Z ++ Str.ofString "..." ++ Z ++ Str.ofString ")"
noncomputable abbrev y2 (Z : Str) : Str := Str.ofString "229 (" ++ Z ++ Str.ofString ")"
/-- the patterns of _law_told that are the letter's alone -/
structure LetOk (a b Z : Str) : Prop where
  l : Z.length = 1
  a0 : 0 < a.length
  b0 : 0 < b.length
  a3 : a.length ≤ 300
  b3 : b.length ≤ 300
  l4 : (x4 Z).length ≤ 300
  c4 : Txt.contains (x4 Z) (Str.ofString "...") = true
  s4 : Txt.split (x4 Z) (Str.ofString "...") = [a, Z, Z, b]
  l5 : (x5 Z).length ≤ 300
  c5 : Txt.contains (x5 Z) (Str.ofString "...") = true
  s5 : Txt.split (x5 Z) (Str.ofString "...") = [a, Z, Z, Z, b]
  l2 : (x2 Z).length ≤ 300
  m2 : (y2 Z).length ≤ 300
  c2 : Txt.contains (x2 Z) (Str.ofString "...") = true
  s2 : Txt.split (x2 Z) (Str.ofString "...") = [a, b]
  e2 : ellB a [] b (y2 Z) = false
  j4 : (Txt.join (Str.ofString "...") [Z, Z, Z, Z]).length ≤ 100
  j5 : (Txt.join (Str.ofString "...") [Z, Z, Z, Z, Z]).length ≤ 100
theorem let_h : LetOk (Str.ofString "229 (h") (Str.ofString "h)") (Str.ofString "h") := ⟨by decide +kernel, by decide +kernel, by decide +kernel, by decide +kernel, by decide +kernel, by decide +kernel, by decide +kernel, by decide +kernel, by decide +kernel, by decide +kernel, by decide +kernel, by decide +kernel, by decide +kernel, by decide +kernel, by decide +kernel, by decide +kernel, by decide +kernel, by decide +kernel⟩
theorem let_p : LetOk (Str.ofString "229 (p") (Str.ofString "p)") (Str.ofString "p") := ⟨by decide +kernel, by decide +kernel, by decide +kernel, by decide +kernel, by decide +kernel, by decide +kernel, by decide +kernel, by decide +kernel, by decide +kernel, by decide +kernel, by decide +kernel, by decide +kernel, by decide +kernel, by decide +kernel, by decide +kernel, by decide +kernel, by decide +kernel, by decide +kernel⟩
theorem t4_ {a b Z y x : Str} {t t1 : Tok} {figs : Str} (hx : x = x4 Z) (lo : LetOk a b Z) (ok : ToldOk a b Z figs y) (hy : y.length ≤ 300) :
   Cl w s₀ mg mb 1 72 news [.str x t, .str y t1] (fun h₀ L m s Q => CbRet h₀ L m news s Q (fun _ => .bool true)) := by
  rw [← ok.g1]; subst hx
  exact c_ell4 lo.l4 hy lo.c4 lo.s4 lo.a0 lo.b0 lo.a3 lo.b3 lo.l lo.l
theorem t5_ {a b Z y x : Str} {t t1 : Tok} {figs : Str} (hx : x = x5 Z) (lo : LetOk a b Z) (ok : ToldOk a b Z figs y) (hy : y.length ≤ 300) :
   Cl w s₀ mg mb 1 72 news [.str x t, .str y t1] (fun h₀ L m s Q => CbRet h₀ L m news s Q (fun _ => .bool false)) := by
  rw [← ok.g2]; subst hx
  exact c_ell5 lo.l5 hy lo.c5 lo.s5 lo.a0 lo.b0 lo.a3 lo.b3 lo.l lo.l lo.l
theorem t0_ {a b Z y x : Str} {t t1 : Tok} {figs : Str} (hx : x = tx Z (Str.ofString "") figs) (lo : LetOk a b Z) (ok : ToldOk a b Z figs y) (hy : y.length ≤ 300) (hf : figs.length ≤ 100) :
   Cl w s₀ mg mb 1 72 news [.str x t, .str y t1] (fun h₀ L m s Q => CbRet h₀ L m news s Q (fun _ => .bool true)) := by
  rw [← ok.g3]; subst hx
  have l := tb_len (L := Z) (front := Str.ofString "") lo.l (by decide +kernel) hf
  unfold Cl; intros; exact c_ellE l.2.2 hy ok.c3 ok.s3 l.1 l.2.1 (by assumption) (by assumption) (by assumption) (by assumption) (by assumption) (by assumption) (by assumption) (by assumption) (by assumption)
theorem t1_ {a b Z y x : Str} {t t1 : Tok} {figs : Str} (hx : x = tx Z (Str.ofString "0") figs) (lo : LetOk a b Z) (ok : ToldOk a b Z figs y) (hy : y.length ≤ 300) (hf : figs.length ≤ 100) :
   Cl w s₀ mg mb 1 72 news [.str x t, .str y t1] (fun h₀ L m s Q => CbRet h₀ L m news s Q (fun _ => .bool false)) := by
  rw [← ok.g4]; subst hx
  have l := tb_len (L := Z) (front := Str.ofString "0") lo.l (by decide +kernel) hf
  unfold Cl; intros; exact c_ellE l.2.2 hy ok.c4 ok.s4 l.1 l.2.1 (by assumption) (by assumption) (by assumption) (by assumption) (by assumption) (by assumption) (by assumption) (by assumption) (by assumption)
theorem t2_ {a b Z y x : Str} {t t1 : Tok} (hx : x = x2 Z) (hy : y = y2 Z) (lo : LetOk a b Z) :
   Cl w s₀ mg mb 1 72 news [.str x t, .str y t1] (fun h₀ L m s Q => CbRet h₀ L m news s Q (fun _ => .bool false)) := by
  subst hx; subst hy
  rw [← lo.e2]
  exact c_ell2 lo.l2 lo.m2 lo.c2 lo.s2 lo.a0 lo.b0 lo.a3 lo.b3
theorem kw31 : True := by
  (k_with "my call ref" => (k_here; k_dflt (first | refine t4_ (by with_reducible rfl) (by with_reducible assumption) (by with_reducible assumption) (by with_reducible assumption) (by k_asm) (by k_asm) (by k_asm) (by k_asm) (by k_asm) (by first | exact rfl | assumption) (by ktr_room) (by ktr_units) ?_ | refine t5_ (by with_reducible rfl) (by with_reducible assumption) (by with_reducible assumption) (by with_reducible assumption) (by k_asm) (by k_asm) (by k_asm) (by k_asm) (by k_asm) (by first | exact rfl | assumption) (by ktr_room) (by ktr_units) ?_ | refine t0_ (by with_reducible rfl) (by with_reducible assumption) (by with_reducible assumption) (by with_reducible assumption) (by with_reducible assumption) (by k_asm) (by k_asm) (by k_asm) (by k_asm) (by k_asm) (by first | exact rfl | assumption) (by ktr_room) (by ktr_units) ?_ | refine t1_ (by with_reducible rfl) (by with_reducible assumption) (by with_reducible assumption) (by with_reducible assumption) (by with_reducible assumption) (by k_asm) (by k_asm) (by k_asm) (by k_asm) (by k_asm) (by first | exact rfl | assumption) (by ktr_room) (by ktr_units) ?_ | refine t2_ (by with_reducible rfl) (by with_reducible rfl) (by with_reducible assumption) (by k_asm) (by k_asm) (by k_asm) (by k_asm) (by k_asm) (by first | exact rfl | assumption) (by ktr_room) (by ktr_units) ?_ ); intro t9 h9 tk9 F9 N9; (try dsimp only); (try k_fold)))
  (k_with "my binaryOp Add str str" => (k_here; (with_reducible refine add_le (by with_reducible assumption) (by with_reducible assumption) (by exact Nat.le_of_ble_eq_true rfl) ?_); intro t9 tk9 l9; (try dsimp only)))
  trivial
theorem c_told {a b Z figs y : Str} {t t1 t2 : Tok} (lo : LetOk a b Z) (hy : y.length ≤ 300) (hf : figs.length ≤ 100) (ok : ToldOk a b Z figs y) :
   Cl w s₀ mg mb 2 183 news [.str Z t, .str figs t1, .str y t2] (fun h₀ L m s Q => CbRet h₀ L m news s Q (fun _ => .bool true)) := by
  have hZ := Nat.le_of_eq lo.l
  have hj4 := lo.j4
  have hj5 := lo.j5
  have n1 : (Str.ofString "229 (").length ≤ 5 := by decide +kernel
  have n2 : (Str.ofString ")").length ≤ 1 := by decide +kernel
  have n3 : (Str.ofString "...").length ≤ 3 := by decide +kernel
  have n4 : (Str.ofString "").length ≤ 0 := by decide +kernel
  have n5 : (Str.ofString "0").length ≤ 1 := by decide +kernel
  unfold Cl PP; k_fill; intros; rename_i hret
  walk_at "mine enter"
  k_steps
  all_goals first | refine cb_retB hret rfl (by k_asm) (by first | k_asm | (refine' cb_drop ?cbN ?cbS; (case cbN => assumption); (case cbS => kcj_all)))
theorem kw32 : True := by
  k_with_none
  trivial
end
end Mine
namespace Mine
open PySem PySem.W PyProof.Rows PySem.Spec PySem.Calls PyProof.V PyProof.Rows.LCg PyProof.Rows.LCt
open AutoSeq1 (wpAny_loadPart')
section
variable {prog : Program} {w : World} {A : Around} {E : Value → Shared → Prop} {s : Shared}
/-! ## enumerate over a tuple -/
theorem enum_newT (l : Addr) (items : Array Value) (n : Nat) (dct : Option Addr) (sl : Array (Option Value)) :
    Meets (Builtin.«enumerate.__new__» ⟨[.type "enumerate", .ref l], []⟩) (fun _ R s => s.heap.get? l = some { cls := .type "tuple", dict := dct, data := .seq items n, slots := sl } ∧
      R (.ok (.ret (.ref (s.heap.push { cls := .type "tuple_iterator", data := .fields #[.ref l, .int 0 0] }).objs.size)))
        { s with heap := (s.heap.push { cls := .type "tuple_iterator", data := .fields #[.ref l, .int 0 0] }).push { cls := .type "enumerate", data := .fields #[.none, .bool false, .ref s.heap.objs.size, rawInt 0, .none, .none] } }) :=
  .of_wp fun prog w A R s h => by
    obtain ⟨hp, g, d, tk, os⟩ := s
    obtain ⟨hl, h⟩ := h
    have hsub := sub_enumerate
    have hT : Heap.IsTuple (Shared.heap ⟨hp, g, d, tk, os⟩) l items := ⟨_, hl, rfl, n, rfl⟩
    wp_walk using wpAny_loadPart' hl
    refine wpAny_stack_any fun st => wpAny_pure ?_
    split
    · rename_i c _ _ _ _ _
      cases (c == Value.type "enumerate") <;> (wp_walk using wpAny_loadPart' hl, wpAny_pyIter_tuple hT; exact ⟨_, rfl, h⟩)
    · wp_walk using wpAny_loadPart' hl, wpAny_pyIter_tuple hT
      exact ⟨_, rfl, h⟩
theorem call_enumT {l : Addr} {items : Array Value} {Q : Value → Shared → Prop} (hT : s.heap.IsTuple l items)
    (h : ∀ h', IsEnum h' (s.heap.objs.size + 1) s.heap.objs.size 0 .none → h'.IsTupleIter s.heap.objs.size l 0 → h'.objs.size = s.heap.objs.size + 2 →
      (∀ b o, s.heap.get? b = some o → h'.get? b = some o) → Q (.ref (s.heap.objs.size + 1)) { s with heap := h' }) :
    wpAny (model prog w) A (call (.type "enumerate") [.ref l]) Q E s := by
  obtain ⟨⟨c, dct, dt, sl⟩, hl, hc, n, hd⟩ := hT
  replace hc : c = .type "tuple" := hc
  replace hd : dt = .seq items n := hd
  subst hc hd
  refine callType_new F.called_enumerate (by decide) (F.typeCall_enumerate_1 _) (F.newCall_enumerate_1 _) (fun obj => F.args_object_init_2 obj _) F.entry_enumerate_new
    (enum_newT l items n dct sl) ⟨hl, ?_⟩
  have hz : (s.heap.push { cls := .type "tuple_iterator", data := .fields #[.ref l, .int 0 0] }).objs.size = s.heap.objs.size + 1 := Heap.size_push ..
  show _ ∧ _
  rw [hz]
  have he : IsEnum ((s.heap.push { cls := .type "tuple_iterator", data := .fields #[.ref l, .int 0 0] }).push
      { cls := .type "enumerate", data := .fields #[.none, .bool false, .ref s.heap.objs.size, rawInt 0, .none, .none] }) (s.heap.objs.size + 1) s.heap.objs.size 0 .none := by
    have := Heap.get?_push_size (s.heap.push { cls := .type "tuple_iterator", data := .fields #[.ref l, .int 0 0] })
      (o := { cls := .type "enumerate", data := .fields #[.none, .bool false, .ref s.heap.objs.size, rawInt 0, .none, .none] }) rfl
    rw [hz] at this
    exact this
  exact ⟨⟨_, he, rfl⟩, h _ he ⟨_, Heap.get?_push_of_some _ (Heap.get?_push_size _ rfl), rfl, rfl⟩ (by rw [Heap.size_push, hz]) fun b o x => Heap.get?_push_of_some _ (Heap.get?_push_of_some _ x)⟩
theorem next_tuple_item {it t : Addr} {i : Nat} {items : Array Value} {x : Value} {Q : Value → Shared → Prop} (hit : s.heap.IsTupleIter it t i) (ht : s.heap.IsTuple t items) (hx : items[i]? = some x)
    (hQ : ∀ h', h'.IsTupleIter it t (i + 1) → Heap.SameBut it s.heap h' → Q x { s with heap := h' }) :
    wpAny (model prog w) A (Builtin.SmallTypes.nextOf (.ref it)) Q E s := by
  obtain ⟨o, ho, hc, hd⟩ := id hit
  obtain ⟨ol, hol, _, nl, hdl⟩ := ht
  unfold Builtin.SmallTypes.nextOf
  refine wpAny_bind (wpAny_callSpecial?_slot (name := Str.ofString "__next__") hit.typeIs F.slot_tuple_iterator_next
    (wpAny_call_entry F.slot_tuple_iterator_next hit.typeIs F.entry_tuple_iterator_next ?_ (F.args_tuple_iterator_next_1 _)))
  show wpAny _ _ (field (.ref it) 0 >>= _) _ _ s
  refine wpAny_bind (wpAny_field ho hd (x := .ref t) rfl ?_)
  show wpAny _ _ (if (Value.ref t == Value.none) = true then _ else _) _ _ s
  rw [if_neg (show ¬ ((Value.ref t == Value.none) = true) from Bool.false_ne_true)]
  show wpAny _ _ (field (.ref it) 1 >>= _) _ _ s
  refine wpAny_bind (wpAny_field ho hd (x := .int i 0) rfl ?_)
  show wpAny _ _ (seqItems? (.ref t) >>= _) _ _ s
  refine wpAny_bind (wpAny_seqItems hol hdl ?_)
  simp only [Int.toNat_natCast, hx]
  refine wpAny_bind (wpAny_setField ho hd (by simp) (wpAny_pure ⟨x, rfl, wpAny_pure (hQ _ ?_ (Heap.SameBut.update ..))⟩))
  exact ⟨_, Heap.get?_update_self _ ho (Obj.isFreed_of_fields (Obj.data_mapFields hd _)), (Obj.cls_mapFields ..).trans hc, by
    rw [Obj.data_mapFields hd]; simp [rawInt]⟩
theorem next_tuple_end {it t : Addr} {i : Nat} {items : Array Value} {Q : Value → Shared → Prop} (hh : A.handled = none) (hit : s.heap.IsTupleIter it t i) (ht : s.heap.IsTuple t items) (hx : items[i]? = none)
    (hE : ∀ h' e, Heap.ExtBut it s.heap h' → (∃ o, h'.get? e = some o ∧ o.cls = .type "StopIteration") → E (.ref e) { s with heap := h' }) :
    wpAny (model prog w) A (Builtin.SmallTypes.nextOf (.ref it)) Q E s := by
  obtain ⟨o, ho, hc, hd⟩ := id hit
  obtain ⟨ol, hol, _, nl, hdl⟩ := ht
  unfold Builtin.SmallTypes.nextOf
  refine wpAny_bind (wpAny_callSpecial?_slot (name := Str.ofString "__next__") hit.typeIs F.slot_tuple_iterator_next
    (wpAny_call_entry F.slot_tuple_iterator_next hit.typeIs F.entry_tuple_iterator_next ?_ (F.args_tuple_iterator_next_1 _)))
  show wpAny _ _ (field (.ref it) 0 >>= _) _ _ s
  refine wpAny_bind (wpAny_field ho hd (x := .ref t) rfl ?_)
  show wpAny _ _ (if (Value.ref t == Value.none) = true then _ else _) _ _ s
  rw [if_neg (show ¬ ((Value.ref t == Value.none) = true) from Bool.false_ne_true)]
  show wpAny _ _ (field (.ref it) 1 >>= _) _ _ s
  refine wpAny_bind (wpAny_field ho hd (x := .int i 0) rfl ?_)
  show wpAny _ _ (seqItems? (.ref t) >>= _) _ _ s
  refine wpAny_bind (wpAny_seqItems hol hdl ?_)
  simp only [Int.toNat_natCast, hx]
  refine wpAny_bind (wpAny_rule (wpAny_bind (wpAny_setField ho hd (by simp) ?_)))
  show wpAny _ _ (newExc (.type "StopIteration") [] >>= _) _ _ _
  refine wpAny_bind ?_
  simp only [newExc, newTuple]
  refine wpAny_bind (wpAny_newObj_type ?_ (by size_fits))
  refine wpAny_bind (m := firstArgMember _ _) (wpAny_of_eq (a := Value.none) (by first | rfl | (simp only [firstArgMember]; rfl)) ?_)
  refine wpAny_newObj_type ?_ (by size_fits)
  simp only [raiseNew]
  refine wpAny_bind (wpAny_handled ?_)
  first | rw [show A.in1.handled = none from hh] | rw [hh]
  refine wpAny_bind (wpAny_pure (wpAny_throw ?_))
  exact hE _ _ (((Heap.SameBut.update ..).extBut.push _).push _) ⟨_, Heap.get?_push_size _ rfl, rfl⟩
end
theorem draws_tuple {prog : Program} {w : World} {A : Around} (hh : A.handled = none) (it l : Addr) (hne : l ≠ it) (items : Array Value) :
    Draws prog w A it [it, l] items.size (fun i v => items[i]? = some v) (fun i h => h.IsTupleIter it l i ∧ h.IsTuple l items) where
  live := fun _ _ st => let ⟨o, ho, _⟩ := st.1; ⟨o, ho⟩
  frame := fun _ _ _ st hk => ⟨let ⟨o, ho, r⟩ := st.1; ⟨o, hk it (by simp) o ho, r⟩, let ⟨o, ho, r⟩ := st.2; ⟨o, hk l (by simp) o ho, r⟩⟩
  item := fun i s Q E hi st hQ => by
    refine next_tuple_item st.1 st.2 (x := items[i]) (by simp [hi]) fun h' hit' hs' => ?_
    exact hQ _ h' s.toks (by simp [hi]) ⟨hit', st.2.extBut hs'.extBut hne⟩ hs'
  done := fun s Q E st hE => next_tuple_end hh st.1 st.2 (by simp) hE
section
variable {prog : Program} {w : World} {A : Around} {E : Value → Shared → Prop} {s : Shared} {h₀ : Heap} {L : Addr} {m : Str → Option Value} {env : Env}
/-- where the source is an enumerate over a made tuple -/
noncomputable def SrcEn (prog : Program) (w : World) (A : Around) (h₀ : Heap) (L : Addr) (m : Str → Option Value) (env : Env) (elt : Expr) (a b : Str) (scope : Scope) (cl : List (Str × Addr)) (Q : Value → Shared → Prop) (xv : Value) (s₁ : Shared) : Prop :=
  ∃ (e it ax : Addr) (items : Array Value) (nt : Nat) (news : List (Addr × Obj)), xv = .ref e ∧ A.handled = none ∧ IsEnum s₁.heap e it 0 .none ∧ s₁.heap.IsTupleIter it ax 0 ∧ (ax, { cls := .type "tuple", data := .seq items nt }) ∈ news ∧
    Fr h₀ L s₁.heap m ∧ News h₀ L s₁.heap news ∧ items.size ≤ sizeLine ∧ e ≠ it ∧ L ≠ e ∧ L ≠ it ∧ h₀.get? e = none ∧ h₀.get? it = none ∧ (∀ p ∈ news, p.1 ≠ e ∧ p.1 ≠ it) ∧
    (∀ i x t I oI C oC D ys J oJ m₂ h tk (E' : Value → Shared → Prop), items[i]? = some x → NsObj oC m₂ → m₂ a = some (.int (i : Nat) t) → m₂ b = some x → Fr h₀ L h m → News h₀ L h ((I, oI) :: (C, oC) :: (D, lst ys) :: (J, oJ) :: news) →
      Off3 I C D ((J, oJ) :: news) → ((@Ne Nat I C) ∧ (@Ne Nat I D) ∧ (@Ne Nat C D)) →
      wpAny (model prog w) A (eval elt (compEnvC scope cl C env)) (CompEnd h₀ L m { s₁ with heap := h, toks := tk } I oI C oC D (lst ys) (fun _ => True) (fun v news' => news' = (J, oJ) :: news ∧ ∃ c t, v = .int c t)) E' { s₁ with heap := h, toks := tk }) ∧
    ∀ ys : List Value, ys.length = items.size → (∀ v ∈ ys, ∃ c t, v = .int c t) → FinE h₀ L m s₁ Q ys news
theorem ListComp_En {elt iter : Expr} {a b : Str} {pa pb tp : Pos} {kk : Nat} {scope : Scope} {cl : List (Str × Addr)} {pos : Pos} {Q : Value → Shared → Prop} (_F₀ : Fr h₀ L s.heap m)
    (hclos : closureFor scope env = pure cl) (hcell : ∀ y ∈ scope.names, y.2 ≠ .cell) (hkind : scope.kind = .function)
    (hnames : ∀ y ∈ scope.names, y.2 = .local → scope.names.lookup y.1 = some .local) (hxa : scope.names.lookup a = some .local) (hxb : scope.names.lookup b = some .local) (hab : ¬ a = b)
    (h : wpAny (model prog w) A (eval iter env) (SrcEn prog w A h₀ L m env elt a b scope cl Q) E s)
    (hs : ∀ x, foldedSetIterable iter env x = pure x := by intro _; rfl) :
    wpAny (model prog w) A (eval (.ListComp elt [⟨.Tuple [.Name a pa, .Name b pb] kk tp, iter, [], 0⟩] scope pos) env) Q E s := by
  rw [eval_ListComp]
  refine wpAny_comprehension_free (use := none) rfl hs hclos hkind hnames (wpAny_mono h (fun xv s₁ h₁ => ?_) fun _ _ e => e)
  obtain ⟨e, it, ax, items, nt, news, rfl, hh, hE, hI, hax, F, N, hsz, hei, hLe, hLi, he₀, hi₀, off, turn, fin⟩ := h₁
  refine wpAny_pyIter_enum hE ?_
  have hlax : ax ≠ it := (off _ hax).2
  have heax : e ≠ ax := fun q => (off _ hax).1 q.symm
  have W := WalksT.enumerateD (draws_tuple (prog := prog) (w := w) (A := A.in1) hh it ax hlax items) e hei (by simp [hei, heax]) (by simp)
  refine wpAny_newObj_type (wpAny_newFunctionEnv hcell (by intro y hy; simp at hy) (fun h₁ hns₁ hsb₁ => ?_) hkind)
  dsimp only at hns₁ hsb₁ ⊢
  generalize hH2 : s₁.heap.push { cls := .type "list", dict := none, data := .seq ([] : List Value).toArray } = H2 at hns₁ hsb₁ ⊢
  have hC : H2.objs.size = s₁.heap.objs.size + 1 := by rw [← hH2, Heap.size_push]
  have hDC : s₁.heap.objs.size ≠ H2.objs.size := by rw [hC]; exact Nat.ne_of_lt (Nat.lt_succ_self _)
  have below : ∀ b, b < s₁.heap.objs.size → b ≠ H2.objs.size ∧ b ≠ s₁.heap.objs.size := fun b hb => ⟨by rw [hC]; exact Nat.ne_of_lt (Nat.lt_succ_of_lt hb), Nat.ne_of_lt hb⟩
  have old : ∀ b o, s₁.heap.get? b = some o → h₁.get? b = some o := fun b o y => hsb₁.extBut b o (below b (Heap.lt_size y)).1 (Heap.get?_push_of_some _ (hH2 ▸ Heap.get?_push_of_some _ y))
  have hacc : h₁.get? s₁.heap.objs.size = some (lst []) := hsb₁.extBut _ _ hDC (Heap.get?_push_of_some _ (hH2 ▸ Heap.get?_push_size _ rfl))
  have elt' : e < s₁.heap.objs.size := Heap.lt_size hE
  have ilt' : it < s₁.heap.objs.size := by obtain ⟨o, ho, _⟩ := hI; exact Heap.lt_size ho
  have fresh₀ : ∀ c, s₁.heap.objs.size ≤ c → h₀.get? c = none := fun c hc => by
    cases q : h₀.get? c with
    | none => rfl
    | some o' => exact absurd (Heap.lt_size (F.keep c o' q)) (Nat.not_lt.mpr hc)
  have hD₀ : h₀.get? s₁.heap.objs.size = none := fresh₀ _ (Nat.le_refl _)
  have hC₀ : h₀.get? H2.objs.size = none := fresh₀ _ (by rw [hC]; exact Nat.le_succ _)
  have hLlt : L < s₁.heap.objs.size := F.ns.lt
  have hDL : s₁.heap.objs.size ≠ L := Ne.symm (below L hLlt).2
  have hCL : H2.objs.size ≠ L := Ne.symm (below L hLlt).1
  have hCe : e ≠ H2.objs.size := (below e elt').1
  have hDe : e ≠ s₁.heap.objs.size := (below e elt').2
  have hCi : it ≠ H2.objs.size := (below it ilt').1
  have hDi : it ≠ s₁.heap.objs.size := (below it ilt').2
  have nlt : ∀ p ∈ news, p.1 ≠ H2.objs.size ∧ p.1 ≠ s₁.heap.objs.size := fun p hp => below _ (Heap.lt_size (N p hp).1)
  have loop : ∀ s₃ : Shared, s₃ = { s₁ with heap := h₁, toks := s₁.toks + ([] : List (Str × Value)).length } →
      codeAny (model prog w) A (.compLoop (.ListComp elt [⟨.Tuple [.Name a pa, .Name b pb] kk tp, iter, [], 0⟩] scope pos) 0 (.ref e) (.ref s₁.heap.objs.size) (compEnvC scope cl H2.objs.size env))
        (compPost (model prog w) A E none Q (.ref s₁.heap.objs.size) H2.objs.size) s₃ := by
    rintro s₃ rfl
    refine kcp_loop
      (fun k s' => ∃ h' tk i ys m', s' = { s₁ with heap := h', toks := tk } ∧ i ≤ items.size ∧ k = items.size + 1 - i ∧ ys.length = i ∧ (∀ v ∈ ys, ∃ c t, v = .int c t) ∧ ((∃ old, IsEnum h' e it i old) ∧ h'.IsTupleIter it ax i ∧ h'.IsTuple ax items) ∧ Fr h₀ L h' m ∧ h'.Ns H2.objs.size m' ∧
        News h₀ L h' ((s₁.heap.objs.size, lst ys) :: news)) ?_ (items.size + 1)
      ⟨h₁, _, 0, [], _, rfl, Nat.zero_le _, rfl, rfl, (fun _ hv => nomatch hv), ⟨⟨_, old _ _ hE⟩, (by obtain ⟨o, ho, r⟩ := hI; exact ⟨o, old _ _ ho, r⟩), ⟨_, old _ _ (N _ hax).1, rfl, _, rfl⟩⟩, F.keeps old, hns₁, fun p hp => ?_⟩
    · rintro k s' ⟨h', tk, i, ys, m', rfl, hi, rfl, hyl, hyi, hst, F', hn', N'⟩
      by_cases hlt : i < items.size
      · refine W.item i _ _ _ hlt hst fun T vals h₂ tk₂ hP hTs hT hMid hk₂ => ?_
        obtain ⟨t, x, hx, rfl⟩ := hP
        refine W.go _ _ _ i T _ _ _ hMid fun h₃ hst₃ hk₃ => ?_
        have hTw : T ∉ [e, it] := W.apart i T _ hMid
        have up₃ : ∀ c o, c ≠ e → c ≠ it → h'.get? c = some o → h₃.get? c = some o := fun c o h1 h2 y => hk₃ c o (by simp [h1, h2]) (hk₂ c o (by simp [h1, h2]) y)
        have hT₃ : h₃.IsTuple T #[.int i t, x] := by obtain ⟨o, ho, r⟩ := hT; exact ⟨o, hk₃ T o hTw ho, r⟩
        refine kcp_assign (env := compEnvC scope cl H2.objs.size env) hh hT₃ (lookup_relabel_local hxa) (lookup_relabel_local hxb) (by simp [compEnvC, relabel, hkind]) (hn'.at' fun o y => up₃ _ o (Ne.symm hCe) (Ne.symm hCi) y) fun h₄ tk₄ hn₄ hs₄ => ?_
        have up : ∀ c o, c ≠ e → c ≠ it → c ≠ H2.objs.size → h'.get? c = some o → h₄.get? c = some o := fun c o h1 h2 h3 y => hs₄ c o h3 (up₃ c o h1 h2 y)
        obtain ⟨⟨old₃, hE₃⟩, hI₃, hT₃'⟩ := hst₃
        obtain ⟨oJ, hoJ, hJr⟩ := hI₃
        have hE₄ : IsEnum h₄ e it ((i + 1 : Nat) : Int) old₃ := hs₄ e _ hCe hE₃
        have hJ₄ : h₄.get? it = some oJ := hs₄ it _ hCi hoJ
        have hX₄ : h₄.IsTuple ax items := by obtain ⟨o, ho, r⟩ := hT₃'; exact ⟨o, hs₄ ax o (nlt _ hax).1 ho, r⟩
        obtain ⟨oC, heC, hoC⟩ := ns_obj hn₄
        have F₄ : Fr h₀ L h₄ m := ⟨F'.ns.at' fun o y => up _ o hLe hLi (Ne.symm hCL) y, fun c o y => up c o (fun q => by rw [q, he₀] at y; cases y) (fun q => by rw [q, hi₀] at y; cases y) (fun q => by rw [q, hC₀] at y; cases y) (F'.keep c o y), F'.above⟩
        have N₄ : News h₀ L h₄ ((e, _) :: (H2.objs.size, oC) :: (s₁.heap.objs.size, lst ys) :: (it, oJ) :: news) := fun q hq => by
          rcases List.mem_cons.mp hq with rfl | hq
          · exact ⟨hE₄, Ne.symm hLe, he₀⟩
          rcases List.mem_cons.mp hq with rfl | hq
          · exact ⟨heC, hCL, hC₀⟩
          rcases List.mem_cons.mp hq with rfl | hq
          · have z := N' _ (List.mem_cons_self ..)
            exact ⟨up _ _ (Ne.symm hDe) (Ne.symm hDi) hDC z.1, z.2⟩
          rcases List.mem_cons.mp hq with rfl | hq
          · exact ⟨hJ₄, Ne.symm hLi, hi₀⟩
          · have z := N' q (List.mem_cons_of_mem _ hq)
            exact ⟨up _ _ (off q hq).1 (off q hq).2 (nlt q hq).1 z.1, z.2⟩
        have off₄ : Off3 e H2.objs.size s₁.heap.objs.size ((it, oJ) :: news) := Off3.of fun q hq => by
          rcases List.mem_cons.mp hq with rfl | hq
          · exact ⟨Ne.symm hei, hCi, hDi⟩
          · exact ⟨(off q hq).1, (nlt q hq).1, (nlt q hq).2⟩
        refine wpAny_mono (turn i x t e _ H2.objs.size oC s₁.heap.objs.size ys it oJ _ h₄ tk₄ _ hx hoC (by simp [hab]) (by simp) F₄ N₄ off₄ ⟨hCe, hDe, Ne.symm hDC⟩) (fun y s₅ h₅ => ?_) fun _ _ q => q
        obtain ⟨h₅, tk₅, news₅, rfl, F₅, N₅, _, _, rfl, c, tc, rfl⟩ := h₅
        have zI := (N₅ (e, _) (List.mem_cons_self ..)).1
        have zC := (N₅ (H2.objs.size, oC) (List.mem_cons_of_mem _ (List.mem_cons_self ..))).1
        have zD := (N₅ (s₁.heap.objs.size, lst ys) (List.mem_cons_of_mem _ (List.mem_cons_of_mem _ (List.mem_cons_self ..)))).1
        have zJ := (N₅ (it, oJ) (List.mem_cons_of_mem _ (List.mem_cons_of_mem _ (List.mem_cons_of_mem _ (List.mem_cons_self ..))))).1
        have N₅' : News h₀ L h₅ news := fun q hq => N₅ q (List.mem_cons_of_mem _ (List.mem_cons_of_mem _ (List.mem_cons_of_mem _ (List.mem_cons_of_mem _ hq))))
        refine append_at (hsz := by show ys.toArray.size ≤ sizeLine; rw [List.size_toArray, hyl]; exact Nat.le_trans hi hsz) zD fun h₆ hs₆ hD₆ => ?_
        refine ⟨items.size + 1 - (i + 1), by omega, h₆, tk₅, i + 1, ys ++ [.int c tc], _, rfl, hlt, rfl, by rw [List.length_append, List.length_singleton, hyl], ?_, ⟨⟨old₃, hs₆.extBut e _ hDe zI⟩, ⟨oJ, hs₆.extBut it _ hDi zJ, hJr⟩, ?_⟩, F₅.change hs₆ hDL hD₀,
          (hoC.ns zC).sameBut hs₆ (Ne.symm hDC), fun q hq => ?_⟩
        · intro v hv
          rcases List.mem_append.mp hv with hv | hv
          · exact hyi v hv
          · exact ⟨c, tc, List.mem_singleton.mp hv⟩
        · have z := (N₅' _ hax).1
          exact ⟨_, hs₆.extBut ax _ (nlt _ hax).2 z, rfl, _, rfl⟩
        · rcases List.mem_cons.mp hq with rfl | hq
          · exact ⟨hD₆.trans (congrArg some (lst_snoc ys _)), hDL, hD₀⟩
          · exact ⟨hs₆.extBut _ _ (nlt q hq).2 (N₅' q hq).1, (N₅' q hq).2⟩
      · have hin : i = items.size := Nat.le_antisymm hi (Nat.not_lt.mp hlt)
        subst hin
        refine W.done _ _ _ hst fun h₂ tk₂ hk₂ => ?_
        have up₂ : ∀ c o, c ≠ e → c ≠ it → h'.get? c = some o → h₂.get? c = some o := fun c o h1 h2 y => hk₂ c o (by simp [h1, h2]) y
        have F₂ : Fr h₀ L h₂ m := ⟨F'.ns.at' fun o y => up₂ _ o hLe hLi y, fun c o y => up₂ c o (fun q => by rw [q, he₀] at y; cases y) (fun q => by rw [q, hi₀] at y; cases y) (F'.keep c o y), F'.above⟩
        refine ⟨m', hn'.at' fun o y => up₂ _ o (Ne.symm hCe) (Ne.symm hCi) y, fun h'' hs'' => fin ys hyl hyi _ h'' tk₂ (F₂.change hs'' hCL hC₀) (fun q hq => ?_) ?_⟩
        · rcases List.mem_cons.mp hq with rfl | hq
          · have z := N' _ (List.mem_cons_self ..)
            exact ⟨hs''.extBut _ _ hDC (up₂ _ _ (Ne.symm hDe) (Ne.symm hDi) z.1), z.2⟩
          · have z := N' q (List.mem_cons_of_mem _ hq)
            exact ⟨hs''.extBut _ _ (nlt q hq).1 (up₂ _ _ (off q hq).1 (off q hq).2 z.1), z.2⟩
        · have : Off3 e H2.objs.size s₁.heap.objs.size news := Off3.of fun q hq => ⟨(off q hq).1, (nlt q hq).1, (nlt q hq).2⟩
          exact this.one
    · rcases List.mem_cons.mp hp with rfl | hp
      · exact ⟨hacc, hDL, hD₀⟩
      · exact ⟨old _ _ (N p hp).1, (N p hp).2⟩
  exact codeAny_compStart_list (loop _ rfl) (wpAny_pyIter_enum (old _ _ hE) (loop _ rfl))
theorem call_enum_src {elt : Expr} {a b : Str} {scope : Scope} {cl : List (Str × Addr)} {Q : Value → Shared → Prop} {T : Addr} {items : Array Value} {nt : Nat} {news : List (Addr × Obj)} (hh : A.handled = none)
    (F : Fr h₀ L s.heap m) (N : News h₀ L s.heap news) (hm : (T, { cls := .type "tuple", data := .seq items nt }) ∈ news) (hsz : items.size ≤ sizeLine)
    (turn : ∀ i x t I oI C oC D ys J oJ m₂ h tk (E' : Value → Shared → Prop), items[i]? = some x → NsObj oC m₂ → m₂ a = some (.int (i : Nat) t) → m₂ b = some x → Fr h₀ L h m → News h₀ L h ((I, oI) :: (C, oC) :: (D, lst ys) :: (J, oJ) :: news) →
      Off3 I C D ((J, oJ) :: news) → ((@Ne Nat I C) ∧ (@Ne Nat I D) ∧ (@Ne Nat C D)) →
      wpAny (model prog w) A (eval elt (compEnvC scope cl C env)) (CompEnd h₀ L m { s with heap := h, toks := tk } I oI C oC D (lst ys) (fun _ => True) (fun v news' => news' = (J, oJ) :: news ∧ ∃ c t, v = .int c t)) E' { s with heap := h, toks := tk })
    (fin : ∀ ys : List Value, ys.length = items.size → (∀ v ∈ ys, ∃ c t, v = .int c t) → FinE h₀ L m s Q ys news) :
    wpAny (model prog w) A (call (.type "enumerate") [.ref T]) (SrcEn prog w A h₀ L m env elt a b scope cl Q) E s := by
  have ht : s.heap.IsTuple T items := ⟨_, (N _ hm).1, rfl, _, rfl⟩
  refine call_enumT ht fun h' hE hI hsz' hk => ?_
  have new : ∀ c, s.heap.objs.size ≤ c → h₀.get? c = none := fun c hc => by
    cases q : h₀.get? c with
    | none => rfl
    | some o' => exact absurd (Heap.lt_size (F.keep c o' q)) (Nat.not_lt.mpr hc)
  refine ⟨_, _, T, items, nt, news, rfl, hh, hE, hI, hm, F.keeps hk, fun p hp => ⟨hk _ _ (N p hp).1, (N p hp).2⟩, hsz, Nat.succ_ne_self _, Nat.ne_of_lt (Nat.lt_succ_of_lt F.ns.lt), Nat.ne_of_lt F.ns.lt, new _ (Nat.le_succ _), new _ (Nat.le_refl _),
    fun p hp => ⟨Nat.ne_of_lt (Nat.lt_succ_of_lt (Heap.lt_size (N p hp).1)), Nat.ne_of_lt (Heap.lt_size (N p hp).1)⟩, turn, fin⟩
theorem ints_of : ∀ {vs : List Value}, (∀ v ∈ vs, ∃ c t, v = Value.int c t) → ∃ ns, IntsAre vs ns
  | [], _ => ⟨[], .nil⟩
  | v :: vs, h => by
    obtain ⟨c, t, rfl⟩ := h v (List.mem_cons_self ..)
    obtain ⟨ns, hn⟩ := ints_of fun v hv => h v (List.mem_cons_of_mem _ hv)
    exact ⟨c :: ns, .cons c t hn⟩
theorem of_ints : ∀ {vs : List Value} {ns : List Int}, IntsAre vs ns → ∀ v ∈ vs, ∃ c t, v = Value.int c t
  | _, _, .nil, _, h => nomatch h
  | _, _, .cons n t r, v, h => by
    rcases List.mem_cons.mp h with rfl | h
    · exact ⟨n, t, rfl⟩
    · exact of_ints r v h
theorem pick_ints {vs : List Value} {ns : List Int} (hI : IntsAre vs ns) (lo hi st : Option Int) : ∃ ms, IntsAre (slicePick vs.toArray lo hi st).toList ms := by
  refine ints_of fun v hv => ?_
  unfold slicePick at hv
  rw [List.toList_toArray, List.mem_filterMap] at hv
  obtain ⟨i, _, hi'⟩ := hv
  refine of_ints hI v ?_
  rw [List.getElem?_toArray] at hi'
  exact List.mem_of_getElem? hi'
theorem sum_pick {l : Addr} {vs : List Value} {ns : List Int} {lo hi st : Option Int} {nn : Nat} {Q : Value → Shared → Prop} {news : List (Addr × Obj)} (hI : IntsAre vs ns) (hh : A.handled = none) (F : Fr h₀ L s.heap m) (N : News h₀ L s.heap news)
    (hl : (l, { cls := .type "list", data := .seq (slicePick vs.toArray lo hi st) nn }) ∈ news)
    (h : ∀ c h' tk t', Fr h₀ L h' m → News h₀ L h' news → Q (.int c t') { s with heap := h', toks := tk }) :
    wpAny (model prog w) A (call (.builtin "sum") [.ref l]) Q E s := by
  obtain ⟨ms, hm⟩ := pick_ints hI lo hi st
  exact sumK hh F N (vs := (slicePick vs.toArray lo hi st).toList) ⟨_, (N _ hl).1, rfl, _, rfl⟩ hm fun h' tk t' F' N' => h _ h' tk t' F' N'
theorem cons_of {ys : List Value} {n : Nat} (hl : ys.length = n + 1) (h : ∀ v ∈ ys, ∃ c t, v = Value.int c t) : ∃ d e r, ys = .int d e :: r ∧ r.length = n ∧ ∀ v ∈ r, ∃ c t, v = Value.int c t := by
  obtain ⟨v, r, rfl⟩ := List.exists_cons_of_length_eq_add_one hl
  obtain ⟨d, e, rfl⟩ := h v (.head _)
  exact ⟨d, e, r, rfl, Nat.succ.inj hl, fun w hw => h w (.tail _ hw)⟩
theorem ten_of {ys : List Value} (hl : ys.length = 10) (h : ∀ v ∈ ys, ∃ c t, v = Value.int c t) : ∃ d0 e0 d1 e1 d2 e2 d3 e3 d4 e4 d5 e5 d6 e6 d7 e7 d8 e8 d9 e9, ys = [.int d0 e0, .int d1 e1, .int d2 e2, .int d3 e3, .int d4 e4, .int d5 e5, .int d6 e6, .int d7 e7, .int d8 e8, .int d9 e9] := by
  obtain ⟨d0, e0, r0, rfl, l0, h0⟩ := cons_of hl h
  obtain ⟨d1, e1, r1, rfl, l1, h1⟩ := cons_of l0 h0
  obtain ⟨d2, e2, r2, rfl, l2, h2⟩ := cons_of l1 h1
  obtain ⟨d3, e3, r3, rfl, l3, h3⟩ := cons_of l2 h2
  obtain ⟨d4, e4, r4, rfl, l4, h4⟩ := cons_of l3 h3
  obtain ⟨d5, e5, r5, rfl, l5, h5⟩ := cons_of l4 h4
  obtain ⟨d6, e6, r6, rfl, l6, h6⟩ := cons_of l5 h5
  obtain ⟨d7, e7, r7, rfl, l7, h7⟩ := cons_of l6 h6
  obtain ⟨d8, e8, r8, rfl, l8, h8⟩ := cons_of l7 h7
  obtain ⟨d9, e9, r9, rfl, l9, h9⟩ := cons_of l8 h8
  obtain rfl := List.length_eq_zero_iff.mp l9
  exact ⟨_, _, _, _, _, _, _, _, _, _, _, _, _, _, _, _, _, _, _, _, rfl⟩
end
end Mine
namespace Mine
open PySem PySem.W PyProof.Rows PySem.Spec PySem.Calls PyProof.V PyProof.Rows.LCg PyProof.Rows.LCt
section
variable {prog : Program} {w : World} {A : Around} {E : Value → Shared → Prop} {s : Shared} {h₀ : Heap} {L : Addr} {news : List (Addr × Obj)} {Q : Value → Shared → Prop}
theorem reads_peer {a : Addr} {n : Nat} {x : Str} {i : Int} {t u : Tok} (N : News h₀ L s.heap news) (ha : (a, { cls := .type "tuple", data := .seq #[.str x t, .int i u] n }) ∈ news) :
    ∃ as, Reads s.heap (.ref a) (PyData.tuple [.str x, .int i]) as := ⟨_, reads_tuple_at (News.get N ha) rfl rfl (ReadsAll.cons (Reads.str _ _) (ReadsAll.cons (Reads.int _ _) ReadsAll.nil))⟩
theorem shaped_peer {x : Str} {i : Int} (hx : (PyData.str x).canLay0 = true) : SeqAt.shaped (PyData.tuple [.str x, .int i]) = true := by
  show (((PyData.str x).canLay0 && ((PyData.int i).canLay0 && true)) && _) = true
  rw [hx]
  simp [PyData.canLay0, PyData.depth, PyData.depthAll]
theorem eq_peers {a b : Addr} {n1 n2 : Nat} {x : Str} {i : Int} {t1 t2 u1 u2 : Tok} (N : News h₀ L s.heap news) (ha : (a, { cls := .type "tuple", data := .seq #[.str x t1, .int i u1] n1 }) ∈ news) (hb : (b, { cls := .type "tuple", data := .seq #[.str x t2, .int i u2] n2 }) ∈ news)
    (hx : (PyData.str x).canLay0 = true) (hu : A.units + 64 < cLine) (h : Q (.bool true) s) : wpAny (model prog w) A (compareOp .Eq (.ref a) (.ref b)) Q E s := by
  obtain ⟨as, ra⟩ := reads_peer N ha
  obtain ⟨bs, rb⟩ := reads_peer N hb
  refine eq_dataH ra rb ?_ ?_ hu ?_
  · exact shaped_peer hx
  · exact shaped_peer hx
  · have : PyData.eqv (.tuple [.str x, .int i]) (.tuple [.str x, .int i]) = true := by simp [PyData.eqv, PyData.eqvAll]
    rw [this]; exact h
theorem ne_peers {a b : Addr} {n1 n2 : Nat} {x : Str} {i : Int} {t1 t2 u1 u2 : Tok} (N : News h₀ L s.heap news) (ha : (a, { cls := .type "tuple", data := .seq #[.str x t1, .int i u1] n1 }) ∈ news) (hb : (b, { cls := .type "tuple", data := .seq #[.str x t2, .int i u2] n2 }) ∈ news)
    (hx : (PyData.str x).canLay0 = true) (hu : A.units + 64 < cLine) (h : Q (.bool false) s) : wpAny (model prog w) A (compareOp .NotEq (.ref a) (.ref b)) Q E s := by
  obtain ⟨as, ra⟩ := reads_peer N ha
  obtain ⟨bs, rb⟩ := reads_peer N hb
  refine ne_dataH ra rb ?_ ?_ hu ?_
  · exact shaped_peer hx
  · exact shaped_peer hx
  · have : PyData.eqv (.tuple [.str x, .int i]) (.tuple [.str x, .int i]) = true := by simp [PyData.eqv, PyData.eqvAll]
    rw [this]; exact h
end
end Mine
set_option maxHeartbeats 0
namespace Mine
open PySem PySem.W PyProof.Rows PySem.Spec PySem.Calls PyProof.V PyProof.Rows.LCg PyProof.Rows.LCt
noncomputable def lawB : List Stmt := (fdOf 22).2.1
noncomputable def lawSc : Scope := (fdOf 22).2.2
noncomputable def lawS (i : Nat) : Stmt := lawB.getD i (.Pass default)
noncomputable abbrev lawCl (c1 c2 c3 : Addr) : List (Str × Addr) := [(Str.ofString "place", c3), (Str.ofString "cells", c2), (Str.ofString "script", c1)]
noncomputable def lawF (i : Nat) : Stmt := match lawS 6 with
  | .For _ _ body _ _ => body.getD i (.Pass default)
  | s => s
theorem mul3 {prog : Program} {w : World} {A : Around} {E : Value → Shared → Prop} {s : Shared} {t u : Tok} {x : Int} {Q : Value → Shared → Prop} (h : ∀ z t' k, z = Txt.mul (Str.ofString "0") (x.fmod 3) → z.length ≤ 2 → Q (.str z t') { s with toks := k }) :
    wpAny (model prog w) A (binaryOp .Mult (.str (Str.ofString "0") t) (.int (x.fmod 3) u)) Q E s := by
  have h0 := Int.fmod_nonneg_of_pos x (show (0 : Int) < 3 by decide)
  have h1 := Int.fmod_lt_of_pos x (show (0 : Int) < 3 by decide)
  refine KXi.mul (n := 1) (by decide +kernel) (by decide) (by omega) (by omega) fun t' k _ hl => h _ _ _ rfl ?_
  have := hl h0
  omega
theorem str_named {prog : Program} {w : World} {A : Around} {E : Value → Shared → Prop} {s : Shared} {t : Tok} {a : Int} {Q : Value → Shared → Prop} (h0 : 0 ≤ a) (h1 : a < 10 ^ 13) (h : ∀ z : Str, z = Str.ofString (toString a) → z.length ≤ 13 → Q (.str z s.toks) { s with toks := s.toks + 1 }) :
    wpAny (model prog w) A (call (.type "str") [.int a t]) Q E s := by
  refine P.str_of_int ?_ (h _ rfl (toString_length_le h0 (by decide) h1))
  by_cases z : a.natAbs = 0
  · rw [z]; decide
  · exact Nat.lt_trans ((Nat.log2_lt (k := 64) z).mpr (by omega)) (by decide)
noncomputable def figsV (po nu : Int) : Str := (if decide (po < 0) = true then Str.ofString "-" else Str.ofString "") ++ Txt.mul (Str.ofString "0") ((nu.fdiv 7).fmod 3) ++ Str.ofString (toString (if po < 0 then -po else po))
section
variable {s : Shared} {w : World}
theorem item_word {prog : Program} {A : Around} {E : Value → Shared → Prop} {Q : Value → Shared → Prop} {value slice : PySem.Expr} {x W : PySem.Str} {t u : Tok} {k : Nat} (hk : k < 8) (hW : W.length = 8) (hw : Txt.item W (k : Int) = x) (h : Q (.str x s.toks) { s with toks := s.toks + 1 })
    (hs : subscripted slice false (.str W t) (.int (k : Nat) u) = operate [.str W t, .int (k : Nat) u] (getItem (.str W t) (.int (k : Nat) u)) := by with_unfolding_all rfl)
    (ht : ∀ r, letTemporaryGo value (.str W t) r = pure () := by intro _; with_unfolding_all rfl) : wpAny (model prog w) A (subscriptTail value slice (.str W t) (.int (k : Nat) u)) Q E s := by
  refine KXi.item hW (by omega) (by omega) (by decide) (fun _ => ?_) hs ht
  rw [hw]; exact h
end
end Mine
set_option maxHeartbeats 0
namespace Mine
open PySem PySem.W PyProof.Rows PySem.Spec PySem.Calls PyProof.V PyProof.Rows.LCg PyProof.Rows.LCt
section
variable {w : World} {s₀ : Shared} {mg mb : Str → Option Value}
variable {dp un : Nat} {gd : Option (List Code)} {cn : Str} {a : Addr} {ccd : Value} {A₀ : Around} {base h₀ : Heap} {L c1 c2 c3 : Addr} {m : Str → Option Value} {s : Shared} {Q : Flow → Shared → Prop} {E : Value → Shared → Prop} {news : List (Addr × Obj)}
theorem kw33 : True := by
  (k_with "my binaryOp Pow int int" => (k_here; (with_reducible refine pow_int_small (by first | decide | omega) (by first | decide | omega) (by first | decide | omega) ?_)))
  (k_with "my eval IfExp" => (k_here; k_dflt (first | refine IfExp_str ?_ (by decide +kernel) (by decide +kernel) | refine IfExp_int ?_ (by decide) (by decide))))
  (k_with "my binaryOp Add str str" => (k_here; (with_reducible refine add_named (by with_reducible assumption) (by with_reducible assumption) (by exact Nat.le_of_ble_eq_true rfl) ?_); intro z9 t9 tk9 e9 l9; (try dsimp only)))
  (k_with "my binaryOp Mult str int" => (k_here; (with_reducible refine mul3 ?_); intro z9 t9 tk9 e9 l9; (try dsimp only)))
  (k_with "my call type:str" => (k_here; (with_reducible refine str_named (by omega) (by omega) ?_); intro z9 e9 l9; (try dsimp only)))
  trivial
theorem c_placeN {k : Nat} (hk : k < 8) {t t1 ta tb tc : Tok} {pl p1 p2 p3 : Int} {D : Addr} {dp un : Nat} {gd : Option (List Code)} {cn : Str} {cs : Scope} {a : Addr} {ccd : Value} {cl : List (Str × Addr)} {outer : List Env} {A₀ : Around} {base h₀ : Heap} {L : Addr} {m : Str → Option Value} {s : Shared} {Q E : Value → Shared → Prop}
    (B : Below A₀ base outer h₀) (F : Fr h₀ L s.heap m) (X : (kap w.params).In h₀) (N : News h₀ L s.heap news) (T : Top vw LL (ExcName.means s₀.heap) mg mb h₀) (hD : (D, lst [.int p1 ta, .int p2 tb, .int p3 tc]) ∈ news) (h1 : cs.kind = .function) (h2 : dp + 2 < recursionLimit) (h3 : un + 8 * 2 < cLine)
    (R : CbRet h₀ L m news s Q (fun t => .int (placeV k pl p1 p2 p3) t)) : wpAny (model PP w) (ktrTop dp un gd cn cs L a ccd cl outer) (call (.ref 176) [.int (k : Nat) t, .int pl t1, .ref D]) Q E s :=
  c_place (n := 3) hk (show (D, W.listOf #[.int p1 ta, .int p2 tb, .int p3 tc] 3) ∈ news from hD) B F X N T h1 h2 h3 R
theorem kw34 : True := by
  (k_with "my call ref" => (k_here; k_dflt (refine c_placeN (by assumption) (by k_asm) (by k_asm) (by k_asm) (by k_asm) (by k_asm) (by k_mem) (by first | exact rfl | assumption) (by ktr_room) (by ktr_units) ?_); intro t9 h9 tk9 F9 N9; (try dsimp only); (try k_fold)))
  trivial
theorem law_b0 {cs : Scope} {k : Nat} (hk : k < 8) {I S D : Addr} {oI o1 o2 o3 : Obj} {t ta tb tc : Tok} {p1 p2 p3 : Int} {d0 d1 d2 d3 d4 d5 d6 d7 d8 d9 : Int} {e0 e1 e2 e3 e4 e5 e6 e7 e8 e9 : Tok} {v3 : Option Value} (hcs : cs = lawSc) (hX : (kap w.params).In h₀) (hT : Top vw LL (ExcName.means s₀.heap) mg mb h₀) (hB : Below A₀ base [] h₀)
    (h2 : o2.data = .cell (some (.ref D))) (h3 : o3.data = .cell v3) (hF' : Fr h₀ L s.heap m) (ek9 : m (Str.ofString "k") = some (.int (k : Nat) t)) (es : m (Str.ofString "steps") = some (.ref S))
    (hN : News h₀ L s.heap [(I, oI), (S, lst [.int p1 ta, .int p2 tb, .int p3 tc]), (D, lst [.int d0 e0, .int d1 e1, .int d2 e2, .int d3 e3, .int d4 e4, .int d5 e5, .int d6 e6, .int d7 e7, .int d8 e8, .int d9 e9]), (c3, o3), (c2, o2), (c1, o1)]) (hd : dp + 30 < recursionLimit) (hu : un + 8 * 30 < cLine) (n0 : @Ne Nat I c3) (n1 : @Ne Nat S c3) (n2 : @Ne Nat D c3) (n3 : @Ne Nat c2 c3) (n4 : @Ne Nat c1 c3)
    (h : ∀ h' tk' o3' tp, Fr h₀ L h' m → News h₀ L h' [(I, oI), (S, lst [.int p1 ta, .int p2 tb, .int p3 tc]), (D, lst [.int d0 e0, .int d1 e1, .int d2 e2, .int d3 e3, .int d4 e4, .int d5 e5, .int d6 e6, .int d7 e7, .int d8 e8, .int d9 e9]), (c3, o3'), (c2, o2), (c1, o1)] →
      o3'.data = .cell (some (.int (placeV k (d3.fmod 1000 - 500) p1 p2 p3) tp)) → Q .next { s with heap := h', toks := tk' }) :
    wpAny (model PP w) (ktrTop dp un gd cn cs L a ccd (lawCl c1 c2 c3) []) (exec (lawF 0) (envX cn cs L a ccd (lawCl c1 c2 c3))) Q E s := by
  conv at hcs => rhs; whnf
  dsimp only at hcs
  subst hcs
  have hF := fr_at2 hF' ek9 es
  clear hF'
  unfold PP; revert hX; k_fill; intro hX
  conv in lawF 0 => whnf
  k_steps
  exact h _ _ _ _ (fr_drop2 ek9 es (by with_reducible assumption)) (by with_reducible assumption) (by assumption)
theorem kw35 : True := by
  (k_with "my eval ListComp" => (k_here; k_dflt (refine LCg.ListComp_U (F₀ := by k_asm) (by with_unfolding_all rfl) (by decide) (by rfl) (by decide) (by rfl) ?_)))
  (k_with "my CompSrc" => (k_here; k_dflt (refine LCg.CompSrc.range (by rfl) (by k_asm) (by k_asm) (by assumption) (by first | decide | rfl) (by first | rfl | decide) (by first | size_fits | exact Nat.le_of_ble_eq_true rfl) ?_; intro g')))
  (k_with "my CompRest" => (with_unfolding_all first | (refine LCg.CompRest.succ ?_; intro v' I' oI' C' oC' D' m' h' tk' E' hv' hC' hx' F' N' off' ne'; obtain ⟨t9', hv9'⟩ := hv'; subst hv9') | refine LCg.CompRest.zero ?_))
  (k_with "my CompEnd" => ((rename Fr _ _ _ _ => F9); (rename News _ _ _ _ => N9); (rename LCg.Off3 _ _ _ _ => off9); (with_reducible refine LCg.CompEnd.intro F9 N9 _ (fun p hp => hp) off9 trivial ?_)))
  (k_with "my binaryOp Pow int int" => (k_here; (with_reducible refine pow_int_small (by first | decide | omega) (by first | decide | omega) (by first | decide | omega) ?_)))
  trivial
theorem law_b1 {cs : Scope} (hcs : cs = lawSc) (hX : (kap w.params).In h₀) (hT : Top vw LL (ExcName.means s₀.heap) mg mb h₀) (hB : Below A₀ base [] h₀) (hF' : Fr h₀ L s.heap m) (hN : News h₀ L s.heap news) (hd : dp + 30 < recursionLimit) (hu : un + 8 * 30 < cLine) {D : Addr} {o2 o3 : Obj} {tp : Tok} {pl : Int} {d0 d1 d2 d3 d4 d5 d6 d7 d8 d9 : Int} {e0 e1 e2 e3 e4 e5 e6 e7 e8 e9 : Tok} (hpl : -10000 ≤ pl ∧ pl ≤ 10000)
    (h2 : o2.data = .cell (some (.ref D))) (h3 : o3.data = .cell (some (.int pl tp))) (hm2 : (c2, o2) ∈ news) (hm3 : (c3, o3) ∈ news) (hmD : (D, lst [.int d0 e0, .int d1 e1, .int d2 e2, .int d3 e3, .int d4 e4, .int d5 e5, .int d6 e6, .int d7 e7, .int d8 e8, .int d9 e9]) ∈ news)
    (h : ∀ h' tk' t' po, po = (d4.fmod 1000 - 500) + (d5.fmod 1000 - 500) * pl + (d6.fmod 1000 - 500) * pl ^ 2 + (d7.fmod 1000 - 500) * pl ^ 3 → Fr h₀ L h' (fun y => if y = Str.ofString "port" then some (.int po t') else m y) → News h₀ L h' news → Q .next { s with heap := h', toks := tk' }) :
    wpAny (model PP w) (ktrTop dp un gd cn cs L a ccd (lawCl c1 c2 c3) []) (exec (lawF 1) (envX cn cs L a ccd (lawCl c1 c2 c3))) Q E s := by
  conv at hcs => rhs; whnf
  dsimp only at hcs
  subst hcs
  have hN' := news_cons (List.mem_cons_of_mem _ (List.mem_cons_of_mem _ hmD)) (news2 hm3 hm2 hN)
  have hF := hF'
  clear hN hF'
  unfold PP; revert hX; k_fill; intro hX
  conv in lawF 1 => whnf
  k_steps
  (rename Fr _ _ _ _ => F9); (rename News _ _ _ _ => N9)
  refine' h _ _ _ _ ?e F9 (fun q hq => N9 q (List.mem_cons_of_mem _ (List.mem_cons_of_mem _ (List.mem_cons_of_mem _ (List.mem_cons_of_mem _ hq)))))
  show ((d4.fmod 1000 - 500) * pl ^ 0 + ((d5.fmod 1000 - 500) * pl ^ 1 + ((d6.fmod 1000 - 500) * pl ^ 2 + ((d7.fmod 1000 - 500) * pl ^ 3 + 0)))) = _
  rw [Int.pow_zero, show pl ^ 1 = pl from by rw [Int.pow_succ, Int.pow_zero, Int.one_mul]]
  simp only [Int.mul_one, Int.add_zero, Int.add_assoc]
theorem kw36 : True := by
  k_with_none
  trivial
end
end Mine
set_option maxHeartbeats 0
namespace Mine
open PySem PySem.W PyProof.Rows PySem.Spec PySem.Calls PyProof.V PyProof.Rows.LCg PyProof.Rows.LCt
section
variable {w : World} {s₀ : Shared} {mg mb : Str → Option Value}
variable {dp un : Nat} {gd : Option (List Code)} {cn : Str} {a : Addr} {ccd : Value} {A₀ : Around} {base h₀ : Heap} {L c1 c2 c3 : Addr} {m : Str → Option Value} {s : Shared} {Q : Flow → Shared → Prop} {E : Value → Shared → Prop} {news : List (Addr × Obj)}
theorem kw37 : True := by
  (k_with "my binaryOp Pow int int" => (k_here; (with_reducible refine pow_int_small (by first | decide | omega) (by first | decide | omega) (by first | decide | omega) ?_)))
  (k_with "my eval IfExp" => (k_here; k_dflt (first | refine IfExp_str ?_ (by decide +kernel) (by decide +kernel) | refine IfExp_int ?_ (by decide) (by decide))))
  (k_with "my binaryOp Add str str" => (k_here; (with_reducible refine add_named (by with_reducible assumption) (by with_reducible assumption) (by exact Nat.le_of_ble_eq_true rfl) ?_); intro z9 t9 tk9 e9 l9; (try dsimp only)))
  (k_with "my binaryOp Mult str int" => (k_here; (with_reducible refine mul3 ?_); intro z9 t9 tk9 e9 l9; (try dsimp only)))
  (k_with "my call type:str" => (k_here; (with_reducible refine str_named (by omega) (by omega) ?_); intro z9 e9 l9; (try dsimp only)))
  trivial
theorem law_b2 {cs : Scope} {k : Nat} {t : Tok} (hk : k < 8) (hcs : cs = lawSc) {D : Addr} {o2 : Obj} {d0 d1 d2 d3 d4 d5 d6 d7 d8 d9 : Int} {e0 e1 e2 e3 e4 e5 e6 e7 e8 e9 : Tok} (hX : (kap w.params).In h₀) (hT : Top vw LL (ExcName.means s₀.heap) mg mb h₀)
    (h2 : o2.data = .cell (some (.ref D))) (hm2 : (c2, o2) ∈ news) (hmD : (D, lst [.int d0 e0, .int d1 e1, .int d2 e2, .int d3 e3, .int d4 e4, .int d5 e5, .int d6 e6, .int d7 e7, .int d8 e8, .int d9 e9]) ∈ news) (hF' : Fr h₀ L s.heap m) (ek : m (Str.ofString "k") = some (.int (k : Nat) t))
    (hN : News h₀ L s.heap news)
    (h : ∀ h' tk' t' nu, nu = (d8.fmod 1000000).fdiv ((k : Nat) + 1) + 37 * (k : Nat) → Fr h₀ L h' (fun y => if y = Str.ofString "number" then some (.int nu t') else m y) → News h₀ L h' news → Q .next { s with heap := h', toks := tk' }) :
    wpAny (model PP w) (ktrTop dp un gd cn cs L a ccd (lawCl c1 c2 c3) []) (exec (lawF 2) (envX cn cs L a ccd (lawCl c1 c2 c3))) Q E s := by
  conv at hcs => rhs; whnf
  dsimp only at hcs
  subst hcs
  have hF := fr_at1 hF' ek
  have hN' := news2 hmD hm2 hN
  clear hF' hN
  unfold PP; revert hX; k_fill; intro hX
  conv in lawF 2 => whnf
  k_steps
  (rename Fr _ _ _ _ => F9); (rename News _ _ _ _ => N9)
  exact h _ _ _ _ rfl (fr_back1 ek F9) (news_tail (news_tail N9))
theorem law_b3 {cs : Scope} {po nu : Int} {t tn : Tok} (hcs : cs = lawSc) (hX : (kap w.params).In h₀) (hT : Top vw LL (ExcName.means s₀.heap) mg mb h₀)
    (hF' : Fr h₀ L s.heap m) (ep : m (Str.ofString "port") = some (.int po t)) (en : m (Str.ofString "number") = some (.int nu tn)) (hN : News h₀ L s.heap news) (hp0 : -10000000000000 < po) (hp1 : po < 10000000000000)
    (h : ∀ h' tk' t' fg, fg = figsV po nu → fg.length ≤ 23 → Fr h₀ L h' (fun y => if y = Str.ofString "figures" then some (.str fg t') else m y) → News h₀ L h' news → Q .next { s with heap := h', toks := tk' }) :
    wpAny (model PP w) (ktrTop dp un gd cn cs L a ccd (lawCl c1 c2 c3) []) (exec (lawF 3) (envX cn cs L a ccd (lawCl c1 c2 c3))) Q E s := by
  conv at hcs => rhs; whnf
  dsimp only at hcs
  subst hcs
  have hF := fr_at2 hF' ep en
  clear hF'
  unfold PP; revert hX; k_fill; intro hX
  conv in lawF 3 => whnf
  k_steps
  (rename Fr _ _ _ _ => F9); (rename News _ _ _ _ => N9)
  subst_vars
  exact h _ _ _ _ rfl (by assumption) (fr_back2 ep en F9) N9
theorem kw38 : True := by
  k_with_none
  trivial
end
end Mine
set_option maxHeartbeats 0
namespace Mine
open PySem PySem.W PyProof.Rows PySem.Spec PySem.Calls PyProof.V PyProof.Rows.LCg PyProof.Rows.LCt
section
variable {w : World} {s₀ : Shared} {mg mb : Str → Option Value}
variable {dp un : Nat} {gd : Option (List Code)} {cn : Str} {a : Addr} {ccd : Value} {A₀ : Around} {base h₀ : Heap} {L c1 c2 c3 : Addr} {m : Str → Option Value} {s : Shared} {Q : Flow → Shared → Prop} {E : Value → Shared → Prop} {news : List (Addr × Obj)}
theorem kw39 : True := by
  (k_with "my binaryOp Pow int int" => (k_here; (with_reducible refine pow_int_small (by first | decide | omega) (by first | decide | omega) (by first | decide | omega) ?_)))
  (k_with "my eval IfExp" => (k_here; k_dflt (first | refine IfExp_str ?_ (by decide +kernel) (by decide +kernel) | refine IfExp_int ?_ (by decide) (by decide))))
  (k_with "my binaryOp Add str str" => (k_here; (with_reducible refine add_named (by with_reducible assumption) (by with_reducible assumption) (by exact Nat.le_of_ble_eq_true rfl) ?_); intro z9 t9 tk9 e9 l9; (try dsimp only)))
  (k_with "my binaryOp Mult str int" => (k_here; (with_reducible refine mul3 ?_); intro z9 t9 tk9 e9 l9; (try dsimp only)))
  (k_with "my call type:str" => (k_here; (with_reducible refine str_named (by omega) (by omega) ?_); intro z9 e9 l9; (try dsimp only)))
  (k_with "my subscriptTail Name Name str int" => (k_here; (with_reducible refine item_word (by with_reducible assumption) (by with_reducible assumption) (by with_reducible assumption) ?_)))
  (k_with "my call ref" => (k_here; first | (k_dflt (refine c_inside (by with_reducible assumption) (by with_reducible assumption) (by omega) (by k_asm) (by k_asm) (by k_asm) (by k_asm) (by k_asm) (by first | exact rfl | assumption) (by ktr_room) (by ktr_units) ?_); intro D9 t9 u9 h9 tk9 F9 N9 l9; (try dsimp only); (try k_fold)) | (k_dflt (refine c_prep (by omega) (by k_asm) (by k_asm) (by k_asm) (by k_asm) (by k_asm) (by first | exact rfl | assumption) (by ktr_room) (by ktr_units) ?_); intro t9 h9 tk9 F9 N9; (try dsimp only); (try k_fold))))
  trivial
theorem law_b4 {cs : Scope} {k : Nat} {t tw tf tn : Tok} {wd x fg : Str} {nu : Int} (hcs : cs = lawSc) (hk : k < 8) (hX : (kap w.params).In h₀) (hT : Top vw LL (ExcName.means s₀.heap) mg mb h₀) (hB : Below A₀ base [] h₀)
    (hF' : Fr h₀ L s.heap m) (ew : m (Str.ofString "word") = some (.str wd tw)) (ek9 : m (Str.ofString "k") = some (.int (k : Nat) t)) (ef : m (Str.ofString "figures") = some (.str fg tf)) (en : m (Str.ofString "number") = some (.int nu tn)) (hN : News h₀ L s.heap news)
    (hW : wd.length = 8) (hw : Txt.item wd (k : Int) = x) (hx : x = Str.ofString "h" ∨ x = Str.ofString "p") (hx1 : x.length = 1) (hfg : fg.length ≤ 23) (hd : dp + 10 < recursionLimit) (hu : un + 8 * 10 < cLine)
    (h : ∀ h' tk' D t1 t2, Fr h₀ L h' (fun y => if y = Str.ofString "inside" then some (.ref D) else m y) → News h₀ L h' ((D, W.listOf #[.str (insideT x fg nu) t1, .str (insideM x fg nu) t2] 0) :: news) → Q .next { s with heap := h', toks := tk' }) :
    wpAny (model PP w) (ktrTop dp un gd cn cs L a ccd (lawCl c1 c2 c3) []) (exec (lawF 4) (envX cn cs L a ccd (lawCl c1 c2 c3))) Q E s := by
  conv at hcs => rhs; whnf
  dsimp only at hcs
  subst hcs
  have hF := fr_at4 hF' ew ek9 ef en
  clear hF'
  unfold PP; revert hX; k_fill; intro hX
  conv in lawF 4 => whnf
  k_steps
  (rename Fr _ _ _ _ => F9); (rename News _ _ _ _ => N9)
  exact h _ _ _ _ _ (fr_back4 ew ek9 ef en F9) N9
theorem law_b5 {cs : Scope} {D : Addr} {iT iM : Str} {ta tb : Tok} {nn : Nat} (hcs : cs = lawSc) (hX : (kap w.params).In h₀) (hT : Top vw LL (ExcName.means s₀.heap) mg mb h₀) (hB : Below A₀ base [] h₀)
    (hF' : Fr h₀ L s.heap m) (ei : m (Str.ofString "inside") = some (.ref D)) (hD : (D, W.listOf #[.str iT ta, .str iM tb] nn) ∈ news) (hN' : News h₀ L s.heap news) (hiT : iT.length ≤ 60)
    (h : ∀ h' tk' t', Fr h₀ L h' (fun y => if y = Str.ofString "typed" then some (.str (Str.ofString "229 (" ++ iT ++ Str.ofString ")") t') else m y) → News h₀ L h' news → Q .next { s with heap := h', toks := tk' }) :
    wpAny (model PP w) (ktrTop dp un gd cn cs L a ccd (lawCl c1 c2 c3) []) (exec (lawF 5) (envX cn cs L a ccd (lawCl c1 c2 c3))) Q E s := by
  conv at hcs => rhs; whnf
  dsimp only at hcs
  subst hcs
  have hF := fr_at1 hF' ei
  have hN := news_cons hD hN'
  clear hF' hN'
  unfold PP; revert hX; k_fill; intro hX
  conv in lawF 5 => whnf
  k_steps
  (rename Fr _ _ _ _ => F9); (rename News _ _ _ _ => N9)
  exact h _ _ _ (fr_back1 ei F9) (news_tail N9)
theorem law_b6 {cs : Scope} {ty : Str} {ta : Tok} (hcs : cs = lawSc) (hX : (kap w.params).In h₀) (hT : Top vw LL (ExcName.means s₀.heap) mg mb h₀) (hB : Below A₀ base [] h₀)
    (hF' : Fr h₀ L s.heap m) (et : m (Str.ofString "typed") = some (.str ty ta)) (hN : News h₀ L s.heap news) (hty : ty.length ≤ 100) (hd : dp + 10 < recursionLimit) (hu : un + 8 * 10 < cLine)
    (h : ∀ h' tk' t', Fr h₀ L h' (fun y => if y = Str.ofString "reply" then some (.str (prepS ty) t') else m y) → News h₀ L h' news → Q .next { s with heap := h', toks := tk' }) :
    wpAny (model PP w) (ktrTop dp un gd cn cs L a ccd (lawCl c1 c2 c3) []) (exec (lawF 6) (envX cn cs L a ccd (lawCl c1 c2 c3))) Q E s := by
  conv at hcs => rhs; whnf
  dsimp only at hcs
  subst hcs
  have hF := fr_at1 hF' et
  clear hF'
  unfold PP; revert hX; k_fill; intro hX
  conv in lawF 6 => whnf
  k_steps
  (rename Fr _ _ _ _ => F9); (rename News _ _ _ _ => N9)
  exact h _ _ _ (fr_back1 et F9) N9
theorem kw40 : True := by
  k_with_none
  trivial
end
end Mine
set_option maxHeartbeats 4000000
namespace Mine
open PySem PySem.W PyProof.Rows PySem.Spec PySem.Calls PyProof.V PyProof.Rows.LCg PyProof.Rows.LCt
section
variable {w : World} {s₀ : Shared} {mg mb : Str → Option Value} {news : List (Addr × Obj)}
theorem kw41 : True := by
  (k_with "my mine enter" => (refine wpAny_call ?_; k_dflt cell_enter))
  (k_with "my mine inner" => (refine' code_def ?k1 ?k2 ?k3 ?k4 ?k5 ?kA ?kF ?kK ?k6 ?k7 ?k8 ?k9 ?kB ?_ ?c2 ?c3 ?c4 ?c5; (case kA => exact rfl); (case kF => exact rfl); (case kK => first | exact rfl | assumption); (case k1 => k_asm); (case k2 => k_asm); (case k3 => k_asm); (case k4 => k_asm); (case k5 => k_asm); (case k6 => k_is); (case k7 => k_is); (case k8 => ktr_room); (case k9 => exact BindsTo.of_eq rfl); (case c5 => decide); (case kB => exact locs rfl); (case c2 => exact rfl); (case c3 => exact rfl); (case c4 => exact rfl); k_whole; intro g' L' h' FG' F' N' B' X' T'; (try dsimp only); (try k_fold)))
  (k_with "my subscriptTail Name BinOp str int" => (k_here; (refine KXi.item rfl (by omega) (by omega) (by omega) ?_); intro kxiE))
  (k_with "my call ref" => (k_here; (refine wpAny_call ?_); k_dflt (walk_at "mine inner")))
  (k_with "my mine enter0" => (refine' code_defX0 ?k1 ?k2 ?k3 ?k4 ?k5 ?kA ?k6 ?k7 ?k8 ?k9 ?kB ?_ ?cK ?c2 ?c3 ?c4 ?c5; (case kA => exact rfl); (case k2 => k_asm); (case k1 => k_asm); (case k3 => k_asm); (case k4 => k_asm); (case k5 => k_asm); (case k6 => k_is); (case k7 => k_is); (case k8 => ktr_room); (case k9 => exact BindsTo.of_eq rfl); (case kB => exact locs rfl); (case cK => assumption); (case c2 => exact rfl); (case c3 => exact rfl); (case c4 => exact rfl); (case c5 => decide); k_whole; intro g' L' h' FG' F' N' B' X' T' D'; (try dsimp only); (try k_fold)))
  (k_with "my call type:str" => (k_here; k_dflt (refine own_str_got (by ktr_units) (Frag.In.keeps (by k_asm) (Fr.keep (by assumption))) (by assumption) (by assumption) (by k_is) (by k_is) ?_)))
  (k_with "my mine enterS" => (refine' code_defS ?k1 ?k2 ?k3 ?k4 ?k5 ?XB ?TB ?D ?T0 ?kA ?k6 ?k7 ?k8 ?k9 ?kB ?_ ?cK ?c2 ?c3 ?c4 ?c5; (case kA => exact rfl); (case k2 => k_asm); (case k1 => k_asm); (case XB => assumption); (case TB => assumption); (case D => assumption); (case T0 => assumption); (case k3 => k_asm); (case k4 => k_asm); (case k5 => k_asm); (case k6 => k_is); (case k7 => k_is); (case k8 => ktr_room); (case k9 => exact BindsTo.of_eq rfl); (case kB => exact locs rfl); (case cK => assumption); (case c2 => exact rfl); (case c3 => exact rfl); (case c4 => exact rfl); (case c5 => decide); k_whole; intro g' L' h' FG' F' N' B' X' T' D'; (try dsimp only); (try k_fold)))
  trivial
/-- a call out of a def that the law calls: frames below may be turned -/
noncomputable abbrev ClS (w : World) (s₀ : Shared) (mg mb : Str → Option Value) (lv : Nat) (f : Addr) (news : List (Addr × Obj)) (vs : List Value) (v : Tok → Value) : Prop :=
  ∀ {dp un : Nat} {gd : Option (List Code)} {cn : Str} {cs : Scope} {a : Addr} {ccd : Value} {outer : List Env} {A₀ : Around} {base g₀ h₀ : Heap} {L : Addr} {m : Str → Option Value} {s : Shared} {Q E : Value → Shared → Prop},
    (kap w.params).In base → Top vw LL (ExcName.means s₀.heap) mg mb base → KtsDicts (outer.filterMap (·.frame)) h₀ → KtsTurn (outer.filterMap (·.frame)) g₀ h₀ →
    Below A₀ base outer h₀ → Fr h₀ L s.heap m → (kap w.params).In h₀ → News h₀ L s.heap news → Top vw LL (ExcName.means s₀.heap) mg mb h₀ → cs.kind = .function → dp + lv < recursionLimit → un + 8 * lv < cLine →
      (∀ (h₀' : Heap) (t : Tok) (h' : Heap) (tk' : Nat), KtsTurn (outer.filterMap (·.frame)) g₀ h₀' → Fr h₀' L h' m → News h₀' L h' news → Below A₀ base outer h₀' → (kap w.params).In h₀' → Top vw LL (ExcName.means s₀.heap) mg mb h₀' →
        KtsDicts (outer.filterMap (·.frame)) h₀' → Q (v t) { s with heap := h', toks := tk' }) → wpAny (model PP w) (ktrTop dp un gd cn cs L a ccd [] outer) (call (.ref f) vs) Q E s
theorem c_refusedS {r : Str} {t : Tok} {pv : Value} (hr : r.length ≤ 300) (hx1 : (Txt.slice r none (some 3) != Str.ofString "229") = false) (hp : Proto r) : ClS w s₀ mg mb 3 162 news [.str r t, pv] (fun _ => .bool true) := by
  unfold ClS PP; k_fill; intros; rename_i hret
  have f1 := lf_lt r
  have f2 := rt_lt r
  dsimp only [lf, rt] at f1 f2
  refine wpAny_call ?_
  k_dflt (walk_at "mine enterS")
  k_steps
  all_goals try rw [beq_self_eq_true r]
  all_goals first | exact hret _ 0 _ _ (by assumption) (by k_asm) (by first | k_asm | (refine' cb_drop ?cbN ?cbS; (case cbN => assumption); (case cbS => kcj_all))) (by k_asm) (by k_asm) (by k_asm) (by assumption) | skip
  exfalso
  rename (List.map _ _ = Txt.split _ _) => hl
  have h6 : (prts r).length = 5 := by show (Txt.split _ _).length = 5; rw [← hl, List.length_map]; omega
  rcases hp with h | h | h | h
  · exact absurd h (by assumption)
  · exact absurd h (by assumption)
  · rename ((_ != _) = false) => h7
    exact absurd (h.symm.trans h7) (by decide)
  · exact h h6
theorem kw42 : True := by
  k_with_none
  trivial
end
end Mine
namespace Mine
open PySem PySem.W PyProof.Rows PySem.Spec PySem.Calls PyProof.V
/-! ## under the claim's caller: the walks that know that the caller stands below -/
noncomputable def Cal (Γ : PySem.Ctx) : Prop := ((Γ.code :: Γ.below.map (·.1)).any Code.isCaller) = true
noncomputable def wpC {α : Type} (M : Model) (A : Around) (t : Sem α) (Q : α → Shared → Prop) (E : Value → Shared → Prop) (s : Shared) : Prop :=
  ∀ Γ p, Γ.In A → Cal Γ → Sem.wp M Γ t (fun a _ s' => Q a s') (fun e _ s' => E e s') p s
noncomputable def codeC (M : Model) (A : Around) (c : Code) (R : Result → Shared → Prop) (s : Shared) : Prop :=
  ∀ Γ p, Γ.code = c → Γ.Below A → (Γ.below.map (·.1)).any Code.isCaller = true → wpCode M Γ R p s
section
variable {α β : Type} {M : Model} {A : Around} {E : Value → Shared → Prop} {s : Shared}
theorem wpC_of {t : Sem α} {Q : α → Shared → Prop} (h : wpAny M A t Q E s) : wpC M A t Q E s := fun Γ p hΓ _ => h Γ p hΓ
theorem codeC_of {c : Code} {R : Result → Shared → Prop} (h : codeAny M A c R s) : codeC M A c R s := fun Γ p hc hΓ _ => h Γ p hc hΓ
theorem wpC_mono {t : Sem α} {Q Q' : α → Shared → Prop} {E' : Value → Shared → Prop} (h : wpC M A t Q E s) (hQ : ∀ a s, Q a s → Q' a s) (hE : ∀ e s, E e s → E' e s) : wpC M A t Q' E' s :=
  fun Γ p hΓ hc => Sem.wp_mono M Γ t (fun a _ s => hQ a s) (fun e _ s => hE e s) p s (h Γ p hΓ hc)
theorem wpC_bind {m : Sem α} {f : α → Sem β} {Q : β → Shared → Prop} (h : wpC M A m (fun a s' => wpC M A (f a) Q E s') E s) : wpC M A (m >>= f) Q E s := fun Γ p hΓ hc => by
  rw [Sem.wp_bind']
  exact Sem.wp_mono M Γ m (fun a p' s' h' => h' Γ p' hΓ hc) (fun _ _ _ h' => h') p s (h Γ p hΓ hc)
theorem wpC_pre {m : Sem α} {f : α → Sem β} {Q : β → Shared → Prop} (h : wpAny M A m (fun a s' => wpC M A (f a) Q E s') E s) : wpC M A (m >>= f) Q E s := wpC_bind (wpC_of h)
theorem wpC_post {m : Sem α} {f : α → Sem β} {Q : β → Shared → Prop} (h : wpC M A m (fun a s' => wpAny M A (f a) Q E s') E s) : wpC M A (m >>= f) Q E s := wpC_bind (wpC_mono h (fun _ _ => wpC_of) fun _ _ x => x)
theorem wpC_holding {vs : List Value} {m : Sem α} {Q : α → Shared → Prop} (h : wpC M A m Q E s) : wpC M A (holding vs m) Q E s := fun Γ p hΓ hc => by rw [Sem.wp_holding]; exact h Γ p hΓ hc
theorem wpC_attempt {m : Sem α} {Q : Except Value α → Shared → Prop} (h : wpC M A m (fun a => Q (.ok a)) (fun e => Q (.error e)) s) : wpC M A m.attempt Q E s := fun Γ p hΓ hc => by rw [Sem.wp_attempt]; exact h Γ p hΓ hc
theorem wpC_onRaise {m : Sem α} {k : Value → Sem Unit} {Q : α → Shared → Prop} (h : wpC M A m Q (fun e s' => wpC M A (k e) (fun _ s'' => E e s'') E s') s) : wpC M A (m.onRaise k) Q E s := fun Γ p hΓ hc => by
  rw [Sem.wp_onRaise]
  exact Sem.wp_mono M Γ m (fun _ _ _ h' => h') (fun e p' s' h' => h' Γ p' hΓ hc) p s (h Γ p hΓ hc)
theorem wpC_runValue {c : Code} {Q : Value → Shared → Prop}
    (hc : codeC M A c (fun r s' => match r with | .ok (.ret v) => Q v s' | .ok _ => False | .error e => E e s') s) : wpC M A (runValue c) Q E s := fun Γ p hΓ hcal => by
  rw [Sem.wp_runValue]; exact hc _ p rfl (hΓ.enter c none p (by intro x; cases x)) (by simpa [Ctx.enter, Cal] using hcal)
theorem wpC_call {f : Value} {pos : List Value} {kw : List (Str × Value)} {Q : Value → Shared → Prop}
    (hc : codeC M A (.call f ⟨pos, kw⟩) (fun r s' => match r with | .ok (.ret v) => Q v s' | .ok _ => False | .error e => E e s') s) : wpC M A (call f pos kw) Q E s := wpC_runValue hc
theorem codeC_of_tree {c : Code} {R : Result → Shared → Prop}
    (h : wpC M (A.under c) (M.den c) (fun fin s' => match fin with | .done f => R (.ok f) s' | .again c' => c'.quiet = true ∧ codeC M A c' R s')
      (fun e s' => R (.error e) s') s) : codeC M A c R s := fun Γ p hc hΓ hcal => by
  rw [wpCode_iff_wp, hc]
  refine Sem.wp_mono M Γ _ (fun fin p' s' h' => ?_) (fun _ _ _ h' => h') p s (h Γ p (hc ▸ hΓ.in) (by simp only [Cal, List.any_cons]; rw [hcal, Bool.or_true]))
  cases fin with
  | done f => exact h'
  | again c' => exact ⟨h'.1, h'.2 (Γ.goto c') p' rfl (hΓ.goto c') hcal⟩
/-- under the caller no mark is made -/
theorem wpC_mark {own : List String} {e : Value} {Q : Unit → Shared → Prop} (h : Q () s) : wpC M A (markTheRefusal own e) Q E s := fun Γ p hΓ hcal => by
  unfold markTheRefusal
  rw [Sem.wp_bind']
  show Sem.wp M Γ (if pythonCodeMadeTheCall own (((Γ.code, p) :: Γ.below).map (·.1)) = true then _ else _) _ _ p s
  have : pythonCodeMadeTheCall own (((Γ.code, p) :: Γ.below).map (·.1)) = false := by
    have h1 : (((Γ.code, p) :: Γ.below).map (·.1)).any Code.isCaller = true := hcal
    show (!((((Γ.code, p) :: Γ.below).map (·.1)).any Code.isCaller) && _ && _) = false
    rw [h1]; rfl
  rw [this]
  exact h
end
section
variable {prog : Program} {w : World} {A : Around} {R : Result → Shared → Prop} {E : Value → Shared → Prop} {s : Shared}
theorem codeC_func {body env}
    (h : wpC (model prog w) (A.deeper env) (execs body env) (fun f s' => R (.ok (.ret (match f with | .ret v => v | _ => .none))) s')
      (fun e s' => wpAny (model prog w) (A.deeper env) (leaving env e) (fun _ s'' => R (.error e) s'') (fun e' s'' => R (.error e') s'') s') s) :
    codeC (model prog w) A (.func body env) R s := by
  refine codeC_of_tree ?_
  show wpC _ (A.deeper env) (do point; match ← (execs body env).onRaise (leaving env) with | .ret v => ret v | _ => ret .none) _ _ s
  refine wpC_pre (wpAny_point (wpC_post (wpC_onRaise (wpC_mono h (fun f s' h' => ?_) fun _ _ h' => wpC_of h'))))
  cases f <;> exact wpAny_pure h'
theorem codeC_call_builtin {id : String} {args : Args} {b : Builtin} (hq : plainId id = true) (hb : entryFor table id = some b)
    (h : wpAny (model prog w) A.in1 (checkBuiltinCall id args) (fun _ s₁ => wpC (model prog w) A.in1 (b args)
      (fun fin s' => match fin with | .done f => R (.ok f) s' | .again c' => c'.quiet = true ∧ codeC (model prog w) A c' R s') (fun e s' => R (.error e) s') s₁)
      (fun e s' => R (.error e) s') s) : codeC (model prog w) A (.call (.builtin id) args) R s := by
  refine codeC_of_tree ?_
  show wpC _ A.in1 (do checkBuiltinCall id args; again (.builtin id args)) _ _ s
  refine wpC_pre (wpAny_mono h (fun _ s₁ h₁ => wpC_of (wpAny_pure (And.intro (plainId_quiet hq args) (codeC_of_tree ?_)))) fun _ _ h' => h')
  show wpC _ _ (match entryFor table id with | some b => b args | none => unsupported ((withoutEnding? id "#data").getD id)) _ _ s₁
  rw [hb, Around.under_plainId hq args]; exact h₁
theorem codeC_builtin {id : String} {args : Args} {b : Builtin} (hb : entryFor table id = some b)
    (h : wpC (model prog w) (A.under (.builtin id args)) (b args)
      (fun fin s' => match fin with | .done f => R (.ok f) s' | .again c' => c'.quiet = true ∧ codeC (model prog w) A c' R s') (fun e s' => R (.error e) s') s) :
    codeC (model prog w) A (.builtin id args) R s := by
  refine codeC_of_tree ?_
  show wpC _ _ (match entryFor table id with | some b => b args | none => unsupported ((withoutEnding? id "#data").getD id)) _ _ s
  rw [hb]; exact h
theorem codeC_call_function {a : Addr} {args : Args} {o : Obj} {fd : FuncData} {body : List Stmt} (hroom : A.depth < recursionLimit) (ho : s.heap.get? a = some o)
    (hd' : o.data = .func fd) (hco : fd.scope.isCoroutine = false) (hgen : fd.scope.isGenerator = false) (hbody : fd.body = .stmts body) (hcd : s.heap.CodeRec fd.code fd.qualname)
    (h : wpAny (model prog w) A.in1 (bindArgs fd args) (fun binds s₁ =>
      wpAny (model prog w) A.in1 (newFunctionEnv fd.scope fd.globals fd.closure binds (fd.qualname ++ ".<locals>.") (some a) fd.code none fd.builtins)
        (fun env s₂ => s₂.heap.NoLimit ∧ codeC (model prog w) A (.func body env) R s₂) (fun e s' => R (.error e) s') s₁) (fun e s' => R (.error e) s') s) :
    codeC (model prog w) A (.call (.ref a) args) R s := by
  refine codeC_of_tree ?_
  show wpC _ A.in1 (callAny (.ref a) args) _ _ s
  simp only [callAny]
  refine wpC_of (wpAny_bind (wpAny_load ho ?_))
  obtain ⟨c, oc, vs, tq, hc, hoc, hdc, hq⟩ := hcd
  simp only [hd', callFunction, hco, hgen, hbody, hc]
  rw [hc] at h
  refine wpAny_bind (m := field (.ref c) 1) (wpAny_field hoc hdc hq (wpAny_bind (wpAny_pure ?_)))
  exact wpAny_bind (wpAny_mono h (fun binds s₁ h₁ => wpAny_bind (wpAny_mono h₁ (fun env s₂ h₂ => wpAny_bind (wpAny_enterFrame h₂.1 hroom
    (wpAny_pure (And.intro rfl h₂.2)))) fun _ _ h' => h')) fun _ _ h' => h')
theorem codeC_call_def {a : Addr} {o : Obj} {fd : FuncData} {body : List Stmt} {args : Args} {binds : List (Str × Value)}
    (hroom : A.depth < recursionLimit) (ho : s.heap.get? a = some o) (hdata : o.data = .func fd) (hlim : s.heap.NoLimit) (hcd : s.heap.CodeRec fd.code fd.qualname)
    (hbody : fd.body = .stmts body) (hbind : BindsTo s fd args binds)
    (hcell : ∀ x ∈ fd.scope.names, x.2 ≠ .cell) (hloc : ∀ x ∈ binds, fd.scope.names.lookup x.1 = some .local)
    (h : ∀ h₀, h₀.Ns s.heap.objs.size (fun x => binds.reverse.lookup x) → (∀ b o, s.heap.get? b = some o → h₀.get? b = some o) →
      wpC (model prog w) (A.deeper (callEnv fd s.heap.objs.size a)) (execs body (callEnv fd s.heap.objs.size a)) (fun f s' => R (.ok (.ret (match f with | .ret v => v | _ => .none))) s')
        (fun e s' => wpAny (model prog w) (A.deeper (callEnv fd s.heap.objs.size a)) (leaving (callEnv fd s.heap.objs.size a) e) (fun _ s'' => R (.error e) s'') (fun e' s'' => R (.error e') s'') s')
        { s with heap := h₀, toks := s.toks + binds.length })
    (hco : fd.scope.isCoroutine = false := by rfl) (hgen : fd.scope.isGenerator = false := by rfl) (hk : fd.scope.kind = .function := by rfl) :
    codeC (model prog w) A (.call (.ref a) args) R s := by
  refine codeC_call_function hroom ho hdata hco hgen hbody hcd (hbind _ _ _ _ ?_)
  refine wpAny_newFunctionEnv hcell hloc (fun h₀ hns₀ hsb₀ => ⟨hlim.fresh _ hsb₀, codeC_func (h h₀ hns₀ fun b o e => ?_)⟩) hk
  exact hsb₀.extBut b o (Nat.ne_of_lt (Heap.lt_size e)) (Heap.get?_push_of_some _ e)
end
section
variable {M : Model} {A : Around} {E : Value → Shared → Prop} {s : Shared} {env : Env}
theorem execs_append_eq : ∀ (pre rest : List Stmt), execs (pre ++ rest) env = (do match ← execs pre env with | .next => execs rest env | f => pure f)
  | [], rest => by show execs rest env = _; rfl
  | st :: pre, rest => by
    rw [List.cons_append, execs_cons, execs_cons, bind_assoc]
    congr 1
    funext f
    cases f <;> first | exact execs_append_eq pre rest | rfl
theorem wpC_execs_append {pre rest : List Stmt} {Q : Flow → Shared → Prop} (h : wpAny M A (execs pre env) (fun f s' => match f with | .next => wpC M A (execs rest env) Q E s' | f => Q f s') E s) : wpC M A (execs (pre ++ rest) env) Q E s := by
  rw [execs_append_eq]
  refine wpC_pre (wpAny_mono h (fun f s' h' => ?_) fun _ _ x => x)
  cases f <;> first | exact h' | exact wpC_of (wpAny_pure h')
theorem wpC_execs_cons {st : Stmt} {rest : List Stmt} {Q : Flow → Shared → Prop} (h : wpC M A (exec st env) (fun f s' => match f with | .next => wpC M A (execs rest env) Q E s' | f => Q f s') E s) : wpC M A (execs (st :: rest) env) Q E s := by
  rw [execs_cons]
  refine wpC_bind (wpC_mono h (fun f s' h' => ?_) fun _ _ x => x)
  cases f <;> first | exact h' | exact wpC_of (wpAny_pure h')
theorem wpC_Try_except {body orelse : List Stmt} {h₀ : ExceptHandler} {hs : List ExceptHandler} {pos : Pos} {Q : Flow → Shared → Prop}
    (h : wpC M A (execs body env) (fun f s₁ => match f with | .next => wpAny M A (execs orelse env) Q E s₁ | f => Q f s₁)
      (fun e s₁ => wpAny M A (noteFrame e env) (fun _ s₂ => wpAny M A (setFlight e none) (fun _ s₃ => wpAny M A (handleBy e env (h₀ :: hs)) Q E s₃) E s₂) E s₁) s) :
    wpC M A (exec (.Try body (h₀ :: hs) orelse [] pos) env) Q E s := by
  rw [arm_exec_Try]
  refine wpC_pre (wpAny_standAt ?_)
  unfold tryStmt
  simp only [List.isEmpty_nil, if_true, List.isEmpty_cons, Bool.false_and, Bool.false_eq_true, if_false]
  refine wpC_bind (wpC_attempt (wpC_mono h (fun f s₁ h₁ => ?_) fun e s₁ h₁ => ?_))
  · cases f <;> first | exact wpC_of h₁ | exact wpC_of (wpAny_pure h₁)
  · exact wpC_of (wpAny_bind (wpAny_mono h₁ (fun _ _ h₂ => wpAny_bind h₂) fun _ _ x => x))
end
end Mine
set_option maxHeartbeats 4000000
namespace Mine
open PySem PySem.W PyProof.Rows PySem.Spec PySem.Calls PyProof.V PySem.NumText
section
variable {prog : Program} {w : World} {A : Around} {E : Value → Shared → Prop} {s : Shared}
theorem bad_text {x : Str} {u : Tok} {Q : Value → Shared → Prop} (hx : x.length ≤ 300) (hc : ∀ c ∈ x.cps.toList, c < 16 ^ 8) (hn : PySem.intText? x = none) (hh : A.handled = none)
    (hE : ∀ h' tk e, Heap.NewExc s.heap h' e "ValueError" → E (.ref e) { s with heap := h', toks := tk }) :
    wpC (model prog w) A ((int_private% "intFromText") (.str x u) (numTextOf x) 10) Q E s := by
  have hs : ((numTextOf x).takeWhile (· != 0)).length ≤ 640 := Nat.le_trans (seen_length x) (Nat.le_trans hx (by decide))
  have hrep : (reprText x).length ≤ sizeLine := by rw [sizeLine_eq]; exact Nat.le_trans (PySem.StrLaws.reprText_len x hc) (by omega)
  have hmsg : ∀ y : Str, (((Str.ofString (toString "invalid literal for int() with base " ++ toString 10 ++ toString ": ")) ++ (⟨y.cps.extract 0 200⟩ : Str))).length ≤ sizeLine := fun y => by
    rw [Str.length_append, sizeLine_eq]
    have h1 : (Str.ofString (toString "invalid literal for int() with base " ++ toString 10 ++ toString ": ")).length ≤ 60 := by decide +kernel
    have h2 : (⟨y.cps.extract 0 200⟩ : Str).length ≤ 200 := by show (y.cps.extract 0 200).size ≤ 200; rw [Array.size_extract]; omega
    omega
  conv => arg 3; whnf
  generalize Nat.decLe _ _ = d
  cases d with
  | isFalse h => exact absurd hs h
  | isTrue h =>
  dsimp only
  refine wpC_pre (wpAny_pure ?_)
  have hr := read0 x hs
  rw [hn] at hr
  rcases hr with ⟨n, h1, _⟩ | ⟨_, hr⟩
  · cases h1
  rcases hr with hr | ⟨i, hr, hl⟩
  case inr.inl =>
    rw [show (int_private% "readNumeral") 0 10 ((numTextOf x).takeWhile (· != 0)) = _ from hr]
    dsimp only
    refine wpC_pre (wpAny_of_eq (a := none) rfl ?_)
    rw [if_neg (by simp)]
    refine wpC_pre (wpAny_rule ?_)
    refine wpC_pre (wpAny_of_eq (a := none) rfl ?_)
    dsimp only
    refine wpC_pre (wpAny_pyRepr_str ?_ hrep)
    refine wpC_pre (wpAny_mkStr ?_ (hmsg _))
    unfold newExc newTuple
    refine wpC_pre (wpAny_bind (wpAny_newObj_type ?_ (by size_fits)))
    refine wpAny_bind (m := firstArgMember _ _) (wpAny_of_eq (a := Value.none) (by simp only [firstArgMember, excClass_ValueError.noFirst]; rfl) ?_)
    rw [excClass_ValueError.noOwn]
    refine wpAny_newObj_type ?_ (by size_fits)
    refine wpC_bind (wpC_mark ?_)
    unfold raiseNew
    refine wpC_of (wpAny_bind (wpAny_handled ?_))
    rw [hh]
    first
      | refine wpAny_throw ?_
      | refine wpAny_bind (wpAny_pure (wpAny_throw ?_))
    exact hE _ _ _ ⟨fun b o hb => Heap.get?_push_of_some _ (Heap.get?_push_of_some _ hb), Heap.get?_none_of_le (by simp), _, .ref s.heap.objs.size, Heap.get?_push_size _ rfl, rfl, by simp⟩
  case inr.inr =>
    rw [show (int_private% "readNumeral") 0 10 ((numTextOf x).takeWhile (· != 0)) = _ from hr]
    dsimp only
    rw [if_neg hl]
    refine wpC_pre (wpAny_rule ?_)
    refine wpC_pre (wpAny_of_eq (a := none) rfl ?_)
    dsimp only
    refine wpC_pre (wpAny_pyRepr_str ?_ hrep)
    refine wpC_pre (wpAny_mkStr ?_ (hmsg _))
    unfold newExc newTuple
    refine wpC_pre (wpAny_bind (wpAny_newObj_type ?_ (by size_fits)))
    refine wpAny_bind (m := firstArgMember _ _) (wpAny_of_eq (a := Value.none) (by simp only [firstArgMember, excClass_ValueError.noFirst]; rfl) ?_)
    rw [excClass_ValueError.noOwn]
    refine wpAny_newObj_type ?_ (by size_fits)
    refine wpC_bind (wpC_mark ?_)
    unfold raiseNew
    refine wpC_of (wpAny_bind (wpAny_handled ?_))
    rw [hh]
    first
      | refine wpAny_throw ?_
      | refine wpAny_bind (wpAny_pure (wpAny_throw ?_))
    exact hE _ _ _ ⟨fun b o hb => Heap.get?_push_of_some _ (Heap.get?_push_of_some _ hb), Heap.get?_none_of_le (by simp), _, .ref s.heap.objs.size, Heap.get?_push_size _ rfl, rfl, by simp⟩
end
end Mine
set_option maxHeartbeats 4000000
namespace Mine
open PySem PySem.W PyProof.Rows PySem.Spec PySem.Calls PyProof.V PySem.NumText
section
variable {prog : Program} {w : World} {A : Around} {E : Value → Shared → Prop} {s : Shared}
theorem bad_obj {x : Str} {u : Tok} {Q : Value → Shared → Prop} (hx : x.length ≤ 300) (hc : ∀ c ∈ x.cps.toList, c < 16 ^ 8) (hn : PySem.intText? x = none) (hh : A.handled = none)
    (hE : ∀ h' tk e, Heap.NewExc s.heap h' e "ValueError" → E (.ref e) { s with heap := h', toks := tk }) :
    wpC (model prog w) A ((int_private% "intFromObject") (.str x u)) Q E s := by
  have f3 := KIN.str_int
  have f4 := KIN.str_idx
  have f5 := KIN.str_trunc
  have f6 : typeOf (.str x u) = pure (.type "str") := rfl
  refine wpC_pre ?_
  repeat wp_step
  dsimp only
  refine wpC_pre ?_
  repeat wp_step
  rw [if_neg (by simp)]
  refine wpC_pre ?_
  repeat wp_step
  dsimp only
  refine wpC_pre (wpAny_of_eq (a := some (numTextOf x)) rfl ?_)
  dsimp only
  exact bad_text hx hc hn hh hE
theorem bad_new {x : Str} {u : Tok} {Q : Fin → Shared → Prop} (hx : x.length ≤ 300) (hc : ∀ c ∈ x.cps.toList, c < 16 ^ 8) (hn : PySem.intText? x = none) (hh : A.handled = none)
    (hE : ∀ h' tk e, Heap.NewExc s.heap h' e "ValueError" → E (.ref e) { s with heap := h', toks := tk }) :
    wpC (model prog w) A (Builtin.«int.__new__» ⟨[.type "int", .str x u], []⟩) Q E s := by
  unfold Builtin.«int.__new__»
  dsimp only
  refine wpC_pre (wpAny_of_eq (a := true) rfl ?_)
  rw [if_neg (by decide)]
  refine wpC_pre (wpAny_of_eq (a := true) F.conv_sub_int ?_)
  rw [if_neg (by decide)]
  refine wpC_pre (wpAny_of_eq (a := ()) F.madeHere_int ?_)
  rw [if_neg (by simp)]
  rw [if_neg (by simp)]
  refine wpC_pre (wpAny_of_eq (a := PUnit.unit) rfl ?_)
  refine wpC_bind (wpC_mono (bad_obj hx hc hn hh hE (Q := fun _ _ => False)) (fun _ _ h => h.elim) (fun _ _ h => h))
theorem bad_call {x : Str} {t : Tok} {Q : Value → Shared → Prop} (hx : x.length ≤ 300) (hc : ∀ c ∈ x.cps.toList, c < 16 ^ 8) (hn : PySem.intText? x = none) (hh : A.handled = none)
    (hE : ∀ h' tk e, Heap.NewExc s.heap h' e "ValueError" → E (.ref e) { s with heap := h', toks := tk }) :
    wpC (model prog w) A (call (.type "int") [.str x t]) Q E s := by
  refine wpC_call (codeC_of_tree ?_)
  show wpC _ _ (callAny (.type "int") _) _ _ _
  refine wpC_of (wpAny_pure ⟨Code.quiet_builtin _ (by decide +kernel), codeC_builtin F.entry_type_call ?_⟩)
  rw [Around.under_plain (weight_type_call_type "int" _ []) (units_type_call_type "int" _ [])]
  unfold Builtin.«type.__call__»
  dsimp only
  rw [if_neg (by decide)]
  rw [if_neg (by rw [F.called_int.canCreate]; decide)]
  refine wpC_pre (wpAny_of_eq (F.typeCall_int_1 _) ?_)
  refine wpC_pre (wpAny_of_eq F.mro_int ?_)
  rw [if_neg (by decide)]
  refine wpC_pre (wpAny_of_eq F.called_int.made ?_)
  refine wpC_pre (wpAny_pure ?_)
  refine wpC_bind (wpC_holding (wpC_call (codeC_call_builtin F.called_int.plain F.entry_int_new (wpAny_of_eq (F.newCall_int_1 _) ?_))))
  exact wpC_mono (bad_new hx hc hn hh hE (Q := fun _ _ => False)) (fun _ _ h => h.elim) (fun _ _ h => h)
end
end Mine
set_option maxHeartbeats 4000000
namespace Mine
open PySem PySem.W PyProof.Rows PySem.Spec PySem.Calls PyProof.V PyProof.Rows.LCg PyProof.Rows.LCt
section
variable {M : Model} {A : Around} {E : Value → Shared → Prop} {s : Shared} {env : Env}
theorem wpC_keep {α : Type} {vs : List Value} {m : Sem α} {Q : α → Shared → Prop} (h : wpC M A m Q E s) : wpC M A (m.keep vs) Q E s := fun Γ p hΓ hc => by rw [Sem.wp_keep]; exact h Γ p hΓ hc
theorem wpC_Call {func : Expr} {args : List Expr} {pos : Pos} {Q : Value → Shared → Prop}
    (h : wpAny M A (eval func env) (fun f s₁ => wpC M A (callWith pos f [] (backTo pos (starEach args env)) []) Q E s₁) E s)
    (he : eval (.Call func args [] pos) env = (do callWith pos (← eval func env) [] (backTo pos (starEach args env)) (backToKw pos (keywordEach [] env))) := by rfl) :
    wpC M A (eval (.Call func args [] pos) env) Q E s := by
  rw [he]; exact wpC_pre h
theorem wpC_callWith_function {pos : Pos} {a : Addr} {o : Obj} {fd : FuncData} {first : List Value} {args : List (Bool × Sem Value)} {Q : Value → Shared → Prop}
    (h : wpAny M A (evalArgs (.ref a) true args []) (fun x s₁ => (s₁.heap.get? a = some o ∧ o.data = .func fd) ∧ wpC M A (call (.ref a) (first ++ x.pos) x.kw) Q E s₁) E s) :
    wpC M A (callWith pos (.ref a) first args []) Q E s := by
  unfold callWith
  refine wpC_pre (wpAny_holding (wpAny_mono h (fun x s₁ h₁ => wpC_pre (wpAny_standAt ?_)) fun _ _ x => x))
  have tail : ∀ {t : Sem Value}, wpC M A t Q E s₁ → wpC M A (t >>= fun r => holding [r] point >>= fun _ => pure r) Q E s₁ :=
    fun ht => wpC_post (wpC_mono ht (fun r s₂ hr => wpAny_bind (wpAny_holding (wpAny_point (wpAny_pure hr)))) fun _ _ x => x)
  cases hs : args.any (·.1) <;> simp only [List.any_nil, Bool.or_false] <;>
    refine wpC_pre (m := keeperOf (.ref a)) ?_ <;> unfold keeperOf <;>
    refine wpAny_bind (wpAny_load h₁.1.1 ?_) <;> rw [h₁.1.2] <;> refine wpAny_pure ?_
  all_goals repeat' split
  all_goals first
    | exact tail h₁.2
    | (refine tail ?_; unfold callMarked; exact wpC_keep h₁.2)
theorem wpC_callWith_def {pos : Pos} {f : Addr} {o : Obj} {fd : FuncData} {e : Expr} {rest : List Expr} {Q : Value → Shared → Prop} (hdat : o.data = .func fd)
    (h : wpAny M A (spliced (backTo pos (starEach (e :: rest) env))) (fun vs s₁ => s₁.heap.get? f = some o ∧ wpC M A (call (.ref f) vs) Q E s₁) E s)
    (he : starEach (e :: rest) env = (false, eval e env) :: starEach rest env := by rfl) :
    wpC M A (callWith pos (.ref f) [] (backTo pos (starEach (e :: rest) env)) []) Q E s := by
  rw [he] at h ⊢
  exact wpC_callWith_function (o := o) (fd := fd) (evalArgs_plain (wpAny_mono h (fun vs s₁ h₁ => ⟨⟨h₁.1, hdat⟩, h₁.2⟩) fun _ _ x => x))
theorem wpC_callWith_type1 {pos : Pos} {T : String} {e : Expr} {rest : List Expr} {Q : Value → Shared → Prop}
    (h : wpAny M A (spliced (backTo pos (starEach (e :: rest) env))) (fun vs s₁ => wpC M A (call (.type T) vs) Q E s₁) E s)
    (he : starEach (e :: rest) env = (false, eval e env) :: starEach rest env := by rfl)
    (hplain : (backTo pos (starEach rest env)).any (·.1) = false := by rfl) :
    wpC M A (callWith pos (.type T) [] (backTo pos (starEach (e :: rest) env)) []) Q E s := by
  rw [he] at h ⊢
  have hp : (backTo pos ((false, eval e env) :: starEach rest env)).any (·.1) = false := by show (false || (backTo pos (starEach rest env)).any (·.1)) = false; rw [hplain]; rfl
  have h' : wpAny M A (evalArgs (.type T) true (backTo pos ((false, eval e env) :: starEach rest env)) []) (fun a s₁ => wpC M A (call (.type T) a.pos a.kw) Q E s₁) E s := evalArgs_plain h
  unfold callWith
  refine wpC_pre (wpAny_holding (wpAny_mono h' (fun a s₁ h₁ => wpC_pre (wpAny_standAt ?_)) fun _ _ x => x))
  simp only [hp, List.any_nil, Bool.or_false]
  refine wpC_pre (wpAny_pure ?_)
  exact wpC_post (wpC_mono h₁ (fun r s₂ hr => wpAny_bind (wpAny_holding (wpAny_point (wpAny_pure hr)))) fun _ _ x => x)
theorem wpC_Expr {e : Expr} {pos : Pos} {Q : Flow → Shared → Prop} (h : wpC M A (eval e env) (fun _ _ => False) E s) (hi : interactive env = false := by rfl) (hs : swapsWith e none pos.line env = pure false := by rfl) :
    wpC M A (exec (.Expr e pos) env) Q E s := by
  rw [exec_Expr (hi := hi) (hs := hs)]
  exact wpC_pre (wpAny_standAt (wpC_bind (wpC_mono h (fun _ _ x => x.elim) fun _ _ x => x)))
theorem wpC_Assign_raises {x : Str} {pos' : Pos} {value : Expr} {pos : Pos} {Q : Flow → Shared → Prop} (h : wpC M A (eval value env) (fun _ _ => False) E s) (hs : swapsWith value (some (.Name x pos')) pos.line env = pure false := by rfl) :
    wpC M A (exec (.Assign [.Name x pos'] value pos) env) Q E s := by
  rw [exec_Assign_Name (hs := hs)]
  exact wpC_pre (wpAny_standAt (wpC_bind (wpC_mono h (fun _ _ x => x.elim) fun _ _ x => x)))
/-- an if whose test is «not (a plain expression)» -/
theorem wpC_If_not {e : Expr} {p1 pos : Pos} {body orelse : List Stmt} {Q : Flow → Shared → Prop}
    (h : wpC M A (eval e env) (fun v s₁ => wpAny M A (truthy v) (fun c s₂ => wpAny M A (if (!c) = true then execs body env else execs orelse env) Q E s₂) E s₁) E s)
    (he : isTrue e env (eval e env) = (do let v ← eval e env; standAt e.pos; holding [v] (truthy v)) := by rfl) :
    wpC M A (exec (.If (.UnaryOp .Not e p1) body orelse pos) env) Q E s := by
  rw [exec_If]
  refine wpC_pre (wpAny_standAt ?_)
  show wpC M A ((do return !(← isTrue e env (eval e env))) >>= fun c => if c = true then execs body env else execs orelse env) Q E s
  rw [he]
  simp only [bind_assoc, pure_bind]
  refine wpC_post (wpC_mono h (fun v s₁ h₁ => ?_) fun _ _ x => x)
  refine wpAny_bind (wpAny_standAt ?_)
  refine wpAny_bind (wpAny_holding (wpAny_mono h₁ (fun c s₂ h₂ => ?_) fun _ _ x => x))
  exact h₂
end
section
variable {prog : Program} {w : World} {A₀ A : Around} {s : Shared} {base h₀ : Heap} {outer : List Env} {L a : Addr} {m : Str → Option Value} {env : Env} {cn : Str} {cs : Scope} {ccd : Value} {cl : List (Str × Addr)} {news : List (Addr × Obj)} {K : Frag} {p : Program} {loose : List Str} {mean : ExcName → Option Value} {mg mb : Str → Option Value}
    {R : Result → Shared → Prop} {name qual : Str} {params : Arguments} {body : List Stmt} {scope : Scope} {dV kV doc pm cdv ct oc : Value} {an od : Option Addr} {osl : Array (Option Value)} {f : Addr} {args : Args} {binds : List (Str × Value)}
/-- code_def under the caller -/
theorem codeC_def (B : Below A₀ base outer h₀) (F : Fr h₀ L s.heap m) (X₀ : K.In h₀) (N : News h₀ L s.heap news) (T : Top p loose mean mg mb h₀) (hA : A.frames = some (env :: outer)) (hf : env.frame = some L) (hke : env.scope.kind = .function)
    (ho : K.lookup f = some ⟨oc, od, .func (fnOf name qual params body scope dV kV doc pm an cdv ct), osl⟩) (hcd : codeIn K cdv qual = true) (hroom : A.depth < recursionLimit)
    (hbind : BindsTo s (fnOf name qual params body scope dV kV doc pm an cdv ct) args binds) (hloc : ∀ y ∈ binds, scope.names.lookup y.1 = some .local)
    (h : ∀ g L' h₁, Fr h₀ L g m → Fr g L' h₁ (fun y => binds.reverse.lookup y) → News g L' h₁ news → Below A base (env :: outer) g → K.In g → Top p loose mean mg mb g →
      wpC (model prog w) (A.deeper (envOf qual scope L' f cdv)) (execs body (envOf qual scope L' f cdv))
        (fun fl s' => LeaveK h₀ L m g R (match fl with | .ret v => v | _ => .none) s')
        (fun e s' => wpAny (model prog w) (A.deeper (envOf qual scope L' f cdv)) (leaving (envOf qual scope L' f cdv) e) (fun _ s'' => R (.error e) s'') (fun e' s'' => R (.error e') s'') s')
        { s with heap := h₁, toks := s.toks + binds.length })
    (hco : scope.isCoroutine = false) (hgen : scope.isGenerator = false) (hk : scope.kind = .function)
    (hcell : ∀ x ∈ scope.names, x.2 ≠ .cell) : codeC (model prog w) A (.call (.ref f) args) R s := by
  obtain ⟨FG, BG, st, lv⟩ := groundX (R := R) B F N hA hf hke
  refine codeC_call_def (fd := fnOf name qual params body scope dV kV doc pm an cdv ct) (body := body) (binds := binds) hroom ((X₀.keeps F.keep) _ _ ho) rfl (T.nolimit.keeps F.keep) (codeRec_of (X₀.keeps F.keep) hcd) rfl hbind hcell hloc (fun h₁ hns hk₁ => ?_) hco hgen hk
  exact wpC_mono (h _ s.heap.objs.size h₁ FG ⟨hns, fun b o e => hk₁ b o (of_hideAll _ e), Nat.le_of_eq (hideAll_size _ _)⟩
    (fun p hp => ⟨hk₁ _ _ (N p hp).1, Nat.ne_of_lt (Heap.lt_size (N p hp).1), hideAll_none _ (List.mem_map_of_mem hp)⟩) BG (X₀.keeps st) (T.keeps st)) (fun fl s' hl => lv _ _ hl) fun _ _ y => y
/-- code_defX0 under the caller -/
theorem codeC_defX0 (B : Below A₀ base [] h₀) (F : Fr h₀ L s.heap m) (X₀ : K.In h₀) (N : News h₀ L s.heap news) (T : Top p loose mean mg mb h₀) (hA : A.frames = some [envX cn cs L a ccd cl])
    (ho : K.lookup f = some ⟨oc, od, .func (fnOf name qual params body scope dV kV doc pm an cdv ct), osl⟩) (hcd : codeIn K cdv qual = true) (hroom : A.depth < recursionLimit)
    (hbind : BindsTo s (fnOf name qual params body scope dV kV doc pm an cdv ct) args binds) (hloc : ∀ y ∈ binds, scope.names.lookup y.1 = some .local)
    (h : ∀ g L' h₁, Fr h₀ L g m → Fr g L' h₁ (fun y => binds.reverse.lookup y) → News g L' h₁ news → Below A base [envX cn cs L a ccd cl] g → K.In g → Top p loose mean mg mb g → KtsDicts ([envX cn cs L a ccd cl].filterMap (·.frame)) g →
      wpC (model prog w) (A.deeper (envOf qual scope L' f cdv)) (execs body (envOf qual scope L' f cdv))
        (fun fl s' => LeaveS0 ([envX cn cs L a ccd cl].filterMap (·.frame)) h₀ L m g R (match fl with | .ret v => v | _ => .none) s')
        (fun e s' => wpAny (model prog w) (A.deeper (envOf qual scope L' f cdv)) (leaving (envOf qual scope L' f cdv) e) (fun _ s'' => R (.error e) s'') (fun e' s'' => R (.error e') s'') s')
        { s with heap := h₁, toks := s.toks + binds.length })
    (hck : cs.kind = .function) (hco : scope.isCoroutine = false) (hgen : scope.isGenerator = false) (hk : scope.kind = .function)
    (hcell : ∀ x ∈ scope.names, x.2 ≠ .cell) : codeC (model prog w) A (.call (.ref f) args) R s := by
  obtain ⟨FG, BG, st, -⟩ := groundX (R := R) B F N hA rfl hck
  have nL₀ : h₀.get? L = none := kts_self F
  obtain ⟨oL, es, ep, hLg, hLd, hLk, hLf⟩ := FG.ns
  have hNs : ∀ (sl : Array (Option Value)) h', h'.get? L = some { oL with slots := sl } → Heap.Ns h' L m := fun sl h' e => ⟨_, es, ep, e, hLd, hLk, hLf⟩
  refine codeC_call_def (fd := fnOf name qual params body scope dV kV doc pm an cdv ct) (body := body) (binds := binds) hroom ((X₀.keeps F.keep) _ _ ho) rfl (T.nolimit.keeps F.keep) (codeRec_of (X₀.keeps F.keep) hcd) rfl hbind hcell hloc (fun h₁ hns hk₁ => ?_) hco hgen hk
  refine wpC_mono (h _ s.heap.objs.size h₁ FG ⟨hns, fun b o e => hk₁ b o (of_hideAll _ e), Nat.le_of_eq (hideAll_size _ _)⟩
    (fun q hq => ⟨hk₁ _ _ (N q hq).1, Nat.ne_of_lt (Heap.lt_size (N q hq).1), hideAll_none _ (List.mem_map_of_mem hq)⟩) BG (X₀.keeps st) (T.keeps st) (fun b hb => by
      have z : b = L := by simpa [envX, List.filterMap] using hb
      rw [z]; exact ⟨oL, es, ep, hLg, hLd⟩)) (fun fl s' hl => ?_) fun _ _ y => y
  obtain ⟨g', L', m', news', T', F', N', k⟩ := hl
  obtain ⟨sl, hs⟩ := T'.up hLg
  refine k ⟨hNs sl _ (F'.keep _ _ hs), fun b o e => F'.keep b o (T'.other b o (st b o e) (fun q => ?_)), F.above⟩ fun q hq => ⟨(N' q hq).1, fun z => ?_, ?_⟩
  · have z : b = L := by simpa [envX, List.filterMap] using q
    rw [z, nL₀] at e; cases e
  · have := (N' q hq).2.2; rw [z, hs] at this; cases this
  · cases z : h₀.get? q.1 with
    | none => rfl
    | some o =>
      obtain ⟨sl', hs'⟩ := T'.up (st _ _ z)
      have := (N' q hq).2.2
      rw [hs'] at this
      cases this
end
end Mine
namespace Mine
open PySem PySem.W PyProof.Rows PySem.Spec PySem.Calls PyProof.V PyProof.Rows.LCg PyProof.Rows.LCt
/-! ## a for over a made tuple, the frames below turned in its turns -/
section
variable {prog : Program} {w : World} {A : Around} {E : Value → Shared → Prop} {s : Shared} {env : Env} {h₀ : Heap} {target : Expr} {body : List Stmt} {Q : Flow → Shared → Prop}
noncomputable def StepS (C : Heap → Prop) (J : (Str → Option Value) → Prop) (L I : Addr) (it : Obj) (news : List (Addr × Obj)) (Q : Flow → Shared → Prop) (s : Shared) (f : Flow) (s₃ : Shared) : Prop :=
  match f with
  | .ret v => Q (.ret v) s₃
  | .brk => False
  | _ => ∃ g' h' tk m', s₃ = { s with heap := h', toks := tk } ∧ C g' ∧ J m' ∧ Fr g' L h' m' ∧ News g' L h' ((I, it) :: news)
noncomputable def TurnsS (prog : Program) (w : World) (A : Around) (env : Env) (target : Expr) (body : List Stmt) (Q : Flow → Shared → Prop) (E : Value → Shared → Prop) (it : Value) (s : Shared) : Prop :=
  ∃ (I ax : Addr) (lo : Obj) (vs : List Value) (n : Nat) (news : List (Addr × Obj)) (C : Heap → Prop) (J : (Str → Option Value) → Prop) (g : Heap) (m : Str → Option Value), it = .ref I ∧ A.handled = none ∧ s.heap.IsTupleIter I ax 0 ∧ (ax, lo) ∈ news ∧ lo.cls = .type "tuple" ∧ lo.data = .seq vs.toArray n ∧
    C g ∧ J m ∧ Fr g env.locals s.heap m ∧ News g env.locals s.heap news ∧ (∀ p ∈ news, p.1 < I) ∧ env.locals ≠ I ∧ (∀ g, C g → g.get? I = none) ∧
    (∀ v ∈ vs, ∀ io g h₁ tk₁ m₁, C g → J m₁ → Fr g env.locals h₁ m₁ → News g env.locals h₁ ((I, io) :: news) →
      wpAny (model prog w) A (assign target env v) (fun _ s₂ => wpAny (model prog w) A (execs body env) (StepS C J env.locals I io news Q { s with heap := h₁, toks := tk₁ }) E s₂) E { s with heap := h₁, toks := tk₁ }) ∧
    ∀ g h' tk m', C g → J m' → Fr g env.locals h' m' → News g env.locals h' news → Q .next { s with heap := h', toks := tk }
theorem For_S {iter : Expr} {pos : Pos} (h : wpAny (model prog w) A (eval iter env) (fun xv s₁ => wpAny (model prog w) A (pyIter xv) (fun it s₂ => TurnsS prog w A env target body Q E it s₂) E s₁) E s)
    (hs : ∀ x, foldedSetIterable iter env x = pure x := by intro _; rfl) (hE : PassesOwn (model prog w) A env E := by passes_own) :
    wpAny (model prog w) A (exec (.For target iter body [] pos) env) Q E s := by
  refine wpAny_For (wpAny_mono h (fun xv s₁ h₁ => wpAny_mono h₁ (fun it s₂ h₂ => ?_) fun _ _ e => e) fun _ _ e => e) hs
  obtain ⟨I, ax, lo, vs, n, news, C, J, g, m, rfl, hh, hit, hm, hc, hd, hC, hJ, F, N, lt, hLI, hI, step, fin⟩ := h₂
  have hne : ax ≠ I := Nat.ne_of_lt (lt _ hm)
  have W := Walks.tuple (prog := prog) (w := w) hh I ax hne vs.toArray
  have hsz : vs.toArray.size = vs.length := List.size_toArray
  refine codeAny_forLoop_any (R := fun r s' => match r with | .ok f => Q f s' | .error e => cameBackBy (model prog w) A env E e s')
    (fun k s' => ∃ i g h' tk m', s' = { s₂ with heap := h', toks := tk } ∧ i ≤ vs.length ∧ k = vs.length + 1 - i ∧ h'.IsTupleIter I ax i ∧ C g ∧ J m' ∧ Fr g env.locals h' m' ∧ News g env.locals h' news) ?_ (vs.length + 1)
    ⟨0, g, s₂.heap, s₂.toks, m, rfl, Nat.zero_le _, rfl, hit, hC, hJ, F, N⟩
  rintro k s' ⟨i, g, h', tk, m', rfl, hi, rfl, hit', hC', hJ', F', N'⟩
  have htup : h'.IsTuple ax vs.toArray := ⟨lo, (N' _ hm).1, hc, n, hd⟩
  have up : ∀ h₁ : Heap, (∀ b o, b ∉ [I] → h'.get? b = some o → h₁.get? b = some o) → Fr g env.locals h₁ m' ∧ News g env.locals h₁ news := fun h₁ hk => by
    refine ⟨⟨F'.ns.at' fun o e => hk _ o (by simpa using hLI) e, fun b o e => hk b o (fun q => ?_) (F'.keep b o e), F'.above⟩, fun p hp => ⟨hk _ _ (fun q => ?_) (N' p hp).1, (N' p hp).2⟩⟩
    · have q' : b = I := by simpa using q
      rw [q', hI g hC'] at e; cases e
    · have q' : p.1 = I := by simpa using q
      exact absurd (lt p hp) (q' ▸ Nat.lt_irrefl _)
  by_cases hlt : i < vs.length
  · refine W.item i _ _ _ (hsz ▸ hlt) ⟨hit', htup⟩ fun v h₁ tk₁ hP st hk => ?_
    refine letGo_tupleiter st.1 ?_
    obtain ⟨F₁, N₁⟩ := up h₁ hk
    obtain ⟨io, hio, hir⟩ := st.1
    have hv : v ∈ vs := by
      have : vs.toArray[i]? = some v := hP
      rw [List.getElem?_toArray] at this
      exact List.mem_of_getElem? this
    have N₂ : News g env.locals h₁ ((I, io) :: news) := fun p hp => by
      rcases List.mem_cons.mp hp with rfl | hp
      · exact ⟨hio, Ne.symm hLI, hI g hC'⟩
      · exact N₁ p hp
    refine wpAny_mono (step v hv io g h₁ tk₁ m' hC' hJ' F₁ N₂) (fun _ s₃ h₃ => wpAny_mono (wpAny_passesOwn hE h₃) (fun f s₄ h₄ => ?_) fun _ _ e => e) hE
    have done : ∀ s₄, (∃ g' h' tk m', s₄ = { s₂ with heap := h', toks := tk } ∧ C g' ∧ J m' ∧ Fr g' env.locals h' m' ∧ News g' env.locals h' ((I, io) :: news)) → ∃ j, j < vs.length + 1 - i ∧ ∃ i g h' tk m', s₄ = { s₂ with heap := h', toks := tk } ∧ i ≤ vs.length ∧ j = vs.length + 1 - i ∧ h'.IsTupleIter I ax i ∧ C g ∧ J m' ∧ Fr g env.locals h' m' ∧ News g env.locals h' news := by
      rintro s₄ ⟨g', h₅, tk₅, m₅, rfl, hC₅, hJ₅, F₅, N₅⟩
      exact ⟨vs.length + 1 - (i + 1), by omega, i + 1, g', h₅, tk₅, m₅, rfl, hlt, rfl, ⟨io, (N₅ _ (List.mem_cons_self ..)).1, hir⟩, hC₅, hJ₅, F₅, fun p hp => N₅ p (List.mem_cons_of_mem _ hp)⟩
    cases f with
    | ret v => exact h₄
    | brk => exact False.elim h₄
    | next => exact done _ h₄
    | cont => exact done _ h₄
  · have hin : i = vs.length := by omega
    subst hin
    refine W.done _ _ _ (by rw [hsz]; exact ⟨hit', htup⟩) fun h₁ tk₁ hk => wpAny_execs_nil ?_
    obtain ⟨F₁, N₁⟩ := up h₁ hk
    exact fin g h₁ tk₁ m' hC' hJ' F₁ N₁
theorem iter_tupS (C : Heap → Prop) (J : (Str → Option Value) → Prop) {ax : Addr} {lo : Obj} {vs : List Value} {n : Nat} {m₀ : Str → Option Value} {news : List (Addr × Obj)} {fs : List Addr}
    (hh : A.handled = none) (F : Fr h₀ env.locals s.heap m₀) (N : News h₀ env.locals s.heap news) (hm : (ax, lo) ∈ news) (hc : lo.cls = .type "tuple") (hd : lo.data = .seq vs.toArray n) (hC : C h₀) (hJ : J m₀) (turn : ∀ g, C g → KtsTurn fs h₀ g)
    (step : ∀ I io g h₁ tk₁ m₁, (∀ p ∈ news, p.1 < I) → ∀ v ∈ vs, C g → J m₁ → Fr g env.locals h₁ m₁ → News g env.locals h₁ ((I, io) :: news) →
      wpAny (model prog w) A (assign target env v) (fun _ s₂ => wpAny (model prog w) A (execs body env) (StepS C J env.locals I io news Q { s with heap := h₁, toks := tk₁ }) E s₂) E { s with heap := h₁, toks := tk₁ })
    (fin : ∀ g h' tk m', C g → J m' → Fr g env.locals h' m' → News g env.locals h' news → Q .next { s with heap := h', toks := tk }) :
    wpAny (model prog w) A (pyIter (.ref ax)) (fun it s₂ => TurnsS prog w A env target body Q E it s₂) E s := by
  have hax := N _ hm
  have hl : s.heap.IsTuple ax vs.toArray := ⟨lo, hax.1, hc, n, hd⟩
  have hnew : h₀.get? s.heap.objs.size = none := next_is_new F
  refine wpAny_pyIter_tuple hl ?_
  have lt : ∀ p ∈ news, p.1 < s.heap.objs.size := fun p hp => Heap.lt_size (N p hp).1
  refine ⟨s.heap.objs.size, ax, lo, vs, n, news, C, J, h₀, m₀, rfl, hh, ⟨_, Heap.get?_push_size _ rfl, rfl, rfl⟩, hm, hc, hd, hC, hJ, F.keeps fun b o e => Heap.get?_push_of_some _ e, fun p hp => ⟨Heap.get?_push_of_some _ (N p hp).1, (N p hp).2⟩, lt, Nat.ne_of_lt F.ns.lt, fun g hg => (turn g hg).none_ _ hnew,
    fun v hv io g h₁ tk₁ m₁ c j f n => step _ io g h₁ tk₁ m₁ lt v hv c j f n, fin⟩
end
end Mine
set_option maxHeartbeats 4000000
namespace Mine
open PySem PySem.W PyProof.Rows PySem.Spec PySem.Calls PyProof.V PyProof.Rows.LCg PyProof.Rows.LCt
section
variable {w : World} {s₀ : Shared} {mg mb : Str → Option Value} {news : List (Addr × Obj)}
local macro_rules | `(tactic| k_mem) => `(tactic| with_reducible_and_instances assumption)
theorem kw43 : True := by
  (k_with "my mine inner" => (refine' code_def ?k1 ?k2 ?k3 ?k4 ?k5 ?kA ?kF ?kK ?k6 ?k7 ?k8 ?k9 ?kB ?_ ?c2 ?c3 ?c4 ?c5; (case kA => exact rfl); (case kF => exact rfl); (case kK => first | exact rfl | assumption); (case k1 => k_asm); (case k2 => k_asm); (case k3 => k_asm); (case k4 => k_asm); (case k5 => k_asm); (case k6 => k_is); (case k7 => k_is); (case k8 => ktr_room); (case k9 => exact BindsTo.of_eq rfl); (case c5 => decide); (case kB => exact locs rfl); (case c2 => exact rfl); (case c3 => exact rfl); (case c4 => exact rfl); k_whole; intro g' L' h' FG' F' N' B' X' T'; (try dsimp only); (try k_fold)))
  (k_with "my mine innerC" => (refine' codeC_def ?k1 ?k2 ?k3 ?k4 ?k5 ?kA ?kF ?kK ?k6 ?k7 ?k8 ?k9 ?kB ?_ ?c2 ?c3 ?c4 ?c5; (case kA => exact rfl); (case kF => exact rfl); (case kK => first | exact rfl | assumption); (case k1 => k_asm); (case k2 => k_asm); (case k3 => k_asm); (case k4 => k_asm); (case k5 => k_asm); (case k6 => k_is); (case k7 => k_is); (case k8 => ktr_room); (case k9 => exact BindsTo.of_eq rfl); (case c5 => decide); (case kB => exact locs rfl); (case c2 => exact rfl); (case c3 => exact rfl); (case c4 => exact rfl); k_whole; intro g' L' h' FG' F' N' B' X' T'; (try dsimp only); (try k_fold)))
  (k_with "my subscriptTail Name Constant ref int" => (k_here; k_dflt (refine item_tupleT (l := _ :: _) (News.isTup (by k_asm) (by k_mem)) (by decide) (by decide) seq0 rfl ?_)))
  (k_with "my call builtin:str.split" => (k_here; (with_reducible show wpAny _ _ (call (Value.builtin "str.split") _) _ _ _); (rename Txt.split _ _ = _ => hs9); (refine KSpl.split1 (by k_asm) (by k_asm) (by (rw [beq_eq_false_iff_ne]; omega)) ?_ (by rw [sizeLine_eq]; omega)); (intro D' l' h' k' e' a' F' N' l1); (rw [hs9] at e'); (kspl_open e'); (simp only [strValues, List.map_cons, List.map_nil] at N' a')))
  trivial
theorem wpC_callWith_K {K : Frag} {A : Around} {E : Value → Shared → Prop} {s : Shared} {env : Env} {M : Model} {pos : Pos} {f : Addr} {fd : FuncData} {oc : Value} {od : Option Addr} {osl : Array (Option Value)} {e : Expr} {rest : List Expr} {Q : Value → Shared → Prop} (ho : K.lookup f = some ⟨oc, od, .func fd, osl⟩)
    (h : wpAny M A (spliced (backTo pos (starEach (e :: rest) env))) (fun vs s₁ => K.In s₁.heap ∧ wpC M A (call (.ref f) vs) Q E s₁) E s)
    (he : starEach (e :: rest) env = (false, eval e env) :: starEach rest env := by rfl) :
    wpC M A (callWith pos (.ref f) [] (backTo pos (starEach (e :: rest) env)) []) Q E s :=
  wpC_callWith_def (o := ⟨oc, od, .func fd, osl⟩) rfl (wpAny_mono h (fun _ _ h₁ => ⟨h₁.1 _ _ ho, h₁.2⟩) fun _ _ x => x) he
/-- parse229 answers it -/
noncomputable def Ansd (x : Str) (port : Int) : Prop := x.length ≤ 300 ∧ (Txt.slice x none (some 3) != Str.ofString "229") = false ∧ ¬ lf x < 0 ∧ ¬ rt x < 0 ∧ (mk1 x != mk2 x) = false ∧
  ∃ a b c d e, Txt.split (Txt.slice x (some (lf x + 1)) (some (rt x))) (mk1 x) = [a, b, c, d, e] ∧ PySem.intText? d = some port ∧ d.length ≤ 300
/-- parse229's int refuses it -/
noncomputable def Badd (x : Str) : Prop := x.length ≤ 300 ∧ (Txt.slice x none (some 3) != Str.ofString "229") = false ∧ ¬ lf x < 0 ∧ ¬ rt x < 0 ∧ (mk1 x != mk2 x) = false ∧
  ∃ a b c d e, Txt.split (Txt.slice x (some (lf x + 1)) (some (rt x))) (mk1 x) = [a, b, c, d, e] ∧ PySem.intText? d = none ∧ d.length ≤ 300 ∧ ∀ c ∈ d.cps.toList, c < 16 ^ 8
theorem c_229A {r : Str} {t : Tok} {T : Addr} {v0 : Value} {rest : List Value} {nn : Nat} {port : Int} {hd : Option Value} {dp un : Nat} {gd : Option (List Code)} {cn : Str} {cs : Scope} {a : Addr} {ccd : Value} {cl : List (Str × Addr)} {outer : List Env} {A₀ : Around} {base h₀ : Heap} {L : Addr} {m : Str → Option Value} {s : Shared} {Q E : Value → Shared → Prop}
    (h : Ansd r port) (B : Below A₀ base outer h₀) (F : Fr h₀ L s.heap m) (X : (kap w.params).In h₀) (N : News h₀ L s.heap news) (P : Top vw LL (ExcName.means s₀.heap) mg mb h₀) (hT : (T, { cls := .type "tuple", data := .seq (v0 :: rest).toArray nn }) ∈ news) (hk : cs.kind = .function) (hd' : dp + 1 < recursionLimit) (hu : un + 8 * 1 < cLine)
    (k : RetT2 h₀ L m news s Q v0 port) : wpAny (model PP w) { handled := hd, depth := dp, frames := some (envX cn cs L a ccd cl :: outer), guards := gd, units := un } (call (.ref 58) [.str r t, .ref T]) Q E s := by
  obtain ⟨h1, h2, h3, h4, h5, a, b, c, d, e, h6, h7, h8⟩ := h
  exact c_229 hT h1 h2 h3 h4 h5 h6 h7 h8 B F X N P hk hd' hu k
theorem ne_self9 {x : Str} (h : (x != x) = true) : False := by simp at h
theorem kw44 : True := by
  (k_with "my subscriptTail Name BinOp str int" => (k_here; (refine KXi.item rfl (by omega) (by omega) (by omega) ?_); intro kxiE))
  (k_with "my subscriptTail Name Constant str int" => (k_here; (refine KXi.item rfl (by omega) (by omega) (by omega) ?_); intro kxiE))
  trivial
/-- a text that _law_refused calls refused -/
noncomputable def Refd (x : Str) : Prop := x.length ≤ 300 ∧ (Txt.slice x none (some 3) != Str.ofString "229") = false ∧ Proto x
theorem c_refusedR {r : Str} {t : Tok} {pv : Value} {dp un : Nat} {gd : Option (List Code)} {cn : Str} {cs : Scope} {a : Addr} {ccd : Value} {outer : List Env} {A₀ : Around} {base g₀ h₀ : Heap} {L : Addr} {m : Str → Option Value} {s : Shared} {Q E : Value → Shared → Prop}
    (h : Refd r) (B : Below A₀ base outer h₀) (F : Fr h₀ L s.heap m) (X : (kap w.params).In h₀) (N : News h₀ L s.heap news) (T : Top vw LL (ExcName.means s₀.heap) mg mb h₀) (XB : (kap w.params).In base) (TB : Top vw LL (ExcName.means s₀.heap) mg mb base)
    (D : KtsDicts (outer.filterMap (·.frame)) h₀) (T0 : KtsTurn (outer.filterMap (·.frame)) g₀ h₀) (hk : cs.kind = .function) (hd : dp + 3 < recursionLimit) (hu : un + 8 * 3 < cLine)
    (k : ∀ (h₀' : Heap) (t : Tok) (h' : Heap) (tk' : Nat), KtsTurn (outer.filterMap (·.frame)) g₀ h₀' → Fr h₀' L h' m → News h₀' L h' news → Below A₀ base outer h₀' → (kap w.params).In h₀' → Top vw LL (ExcName.means s₀.heap) mg mb h₀' →
        KtsDicts (outer.filterMap (·.frame)) h₀' → Q (.bool true) { s with heap := h', toks := tk' }) : wpAny (model PP w) (ktrTop dp un gd cn cs L a ccd [] outer) (call (.ref 162) [.str r t, pv]) Q E s :=
  c_refusedS h.1 h.2.1 h.2.2 XB TB D T0 B F X N T hk hd hu k
theorem kw45 : True := by
  (k_with "my call ref" => (k_here; first | (k_dflt (refine c_refusedR (by with_reducible assumption) (by k_asm) (by k_asm) (by k_asm) (by k_asm) (by k_asm) (by assumption) (by assumption) (by assumption) (by first | assumption | exact KtsTurn.refl) (by first | exact rfl | assumption) (by ktr_room) (by ktr_units) ?_); intro g9 t9 h9 tk9 T9 F9 N9 B9 X9 P9 D9; (try dsimp only); (try k_fold)) | (k_dflt (refine c_229A (by with_reducible assumption) (by k_asm) (by k_asm) (by k_asm) (by k_asm) (by k_asm) (by k_mem) (by first | exact rfl | assumption) (by ktr_room) (by ktr_units) ?_); intro D9 t9 n9 h9 tk9 F9 N9 l9; (try dsimp only); (try k_fold)) | ((with_reducible show wpAny _ _ (call (Value.ref 58) _) _ _ _); (refine wpAny_call ?_); k_dflt (walk_at "mine inner"))))
  (k_with "my call type:str" => (k_here; k_dflt (refine own_str_got (by ktr_units) (Frag.In.keeps (by k_asm) (Fr.keep (by assumption))) (by assumption) (by assumption) (by k_is) (by k_is) ?_)))
  trivial
noncomputable def CS (w : World) (s₀ : Shared) (mg mb : Str → Option Value) (A₀ : Around) (base : Heap) (outer : List Env) (g₁ g : Heap) : Prop :=
  KtsTurn (outer.filterMap (·.frame)) g₁ g ∧ Below A₀ base outer g ∧ (kap w.params).In g ∧ Top vw LL (ExcName.means s₀.heap) mg mb g ∧ KtsDicts (outer.filterMap (·.frame)) g
noncomputable def JS (m₀ m : Str → Option Value) : Prop := ∃ o, m = fun y => if y = Str.ofString "spoilt" then o else m₀ y
theorem js_intro {m₀ : Str → Option Value} {v o : Option Value} : JS m₀ (fun y => if y = Str.ofString "spoilt" then v else if y = Str.ofString "spoilt" then o else m₀ y) := by
  refine ⟨v, ?_⟩
  funext y
  by_cases h : y = Str.ofString "spoilt"
  · rw [if_pos h, if_pos h]
  · rw [if_neg h, if_neg h, if_neg h]
theorem stepS_mine {A₀ : Around} {base : Heap} {outer : List Env} {g₁ g' h' : Heap} {L I : Addr} {io : Obj} {Q : Flow → Shared → Prop} {s : Shared} {m m₀ : Str → Option Value} {tk : Nat}
    (B : Below A₀ base outer g') (X : (kap w.params).In g') (P : Top vw LL (ExcName.means s₀.heap) mg mb g') (T : KtsTurn (outer.filterMap (·.frame)) g₁ g') (D : KtsDicts (outer.filterMap (·.frame)) g')
    (F : Fr g' L h' m) (J : JS m₀ m) (N : News g' L h' ((I, io) :: news)) :
    StepS (CS w s₀ mg mb A₀ base outer g₁) (JS m₀) L I io news Q s .next { s with heap := h', toks := tk } := ⟨g', h', tk, m, rfl, ⟨T, B, X, P, D⟩, J, F, N⟩
theorem iter_spoilt {A : Around} {E : Value → Shared → Prop} {s : Shared} {env : Env} {h₀ base : Heap} {A₀ : Around} {outer : List Env} {target : Expr} {body : List Stmt} {Q : Flow → Shared → Prop} {ax : Addr} {lo : Obj} {vs : List Value} {n : Nat} {m₀ : Str → Option Value}
    (hh : A.handled = none) (B : Below A₀ base outer h₀) (F : Fr h₀ env.locals s.heap m₀) (N : News h₀ env.locals s.heap news) (X : (kap w.params).In h₀) (P : Top vw LL (ExcName.means s₀.heap) mg mb h₀) (D : KtsDicts (outer.filterMap (·.frame)) h₀)
    (hm : (ax, lo) ∈ news) (hc : lo.cls = .type "tuple") (hd : lo.data = .seq vs.toArray n) (hall : ∀ v ∈ vs, ∃ x t, v = .str x t ∧ Refd x)
    (step : ∀ I io g h₁ tk₁ o x t, (∀ p ∈ news, p.1 < I) → Refd x → KtsTurn (outer.filterMap (·.frame)) h₀ g → Below A₀ base outer g → (kap w.params).In g → Top vw LL (ExcName.means s₀.heap) mg mb g → KtsDicts (outer.filterMap (·.frame)) g →
      Fr g env.locals h₁ (fun y => if y = Str.ofString "spoilt" then o else m₀ y) → News g env.locals h₁ ((I, io) :: news) →
      wpAny (model PP w) A (assign target env (.str x t)) (fun _ s₂ => wpAny (model PP w) A (execs body env) (StepS (CS w s₀ mg mb A₀ base outer h₀) (JS m₀) env.locals I io news Q { s with heap := h₁, toks := tk₁ }) E s₂) E { s with heap := h₁, toks := tk₁ })
    (fin : ∀ g h' tk o, KtsTurn (outer.filterMap (·.frame)) h₀ g → Below A₀ base outer g → (kap w.params).In g → Top vw LL (ExcName.means s₀.heap) mg mb g → KtsDicts (outer.filterMap (·.frame)) g →
      Fr g env.locals h' (fun y => if y = Str.ofString "spoilt" then o else m₀ y) → News g env.locals h' news → Q .next { s with heap := h', toks := tk }) :
    wpAny (model PP w) A (pyIter (.ref ax)) (fun it s₂ => TurnsS PP w A env target body Q E it s₂) E s := by
  refine iter_tupS (CS w s₀ mg mb A₀ base outer h₀) (JS m₀) hh F N hm hc hd ⟨KtsTurn.refl, B, X, P, D⟩ ⟨m₀ (Str.ofString "spoilt"), ?_⟩ (fun g hg => hg.1) (fun I io g h₁ tk₁ m₁ lt v hv hC hJ F₁ N₁ => ?_) (fun g h' tk m' hC hJ F' N' => ?_)
  · funext y
    by_cases h : y = Str.ofString "spoilt"
    · rw [if_pos h, h]
    · rw [if_neg h]
  · obtain ⟨x, t, rfl, hx⟩ := hall v hv
    obtain ⟨o, rfl⟩ := hJ
    exact step I io g h₁ tk₁ o x t lt hx hC.1 hC.2.1 hC.2.2.1 hC.2.2.2.1 hC.2.2.2.2 F₁ N₁
  · obtain ⟨o, rfl⟩ := hJ
    exact fin g h' tk o hC.1 hC.2.1 hC.2.2.1 hC.2.2.2.1 hC.2.2.2.2 F' N'
theorem all8 {x1 x2 x3 x4 x5 x6 x7 x8 : Str} {t1 t2 t3 t4 t5 t6 t7 t8 : Tok} (q1 : Refd x1) (q2 : Refd x2) (q3 : Refd x3) (q4 : Refd x4) (q5 : Refd x5) (q6 : Refd x6) (q7 : Refd x7) (q8 : Refd x8) : ∀ v ∈ [Value.str x1 t1, Value.str x2 t2, Value.str x3 t3, Value.str x4 t4, Value.str x5 t5, Value.str x6 t6, Value.str x7 t7, Value.str x8 t8], ∃ x t, v = .str x t ∧ Refd x := by
  intro v hv
  simp only [List.mem_cons, List.not_mem_nil, or_false] at hv
  rcases hv with rfl | rfl | rfl | rfl | rfl | rfl | rfl | rfl
  · exact ⟨_, _, rfl, q1⟩
  · exact ⟨_, _, rfl, q2⟩
  · exact ⟨_, _, rfl, q3⟩
  · exact ⟨_, _, rfl, q4⟩
  · exact ⟨_, _, rfl, q5⟩
  · exact ⟨_, _, rfl, q6⟩
  · exact ⟨_, _, rfl, q7⟩
  · exact ⟨_, _, rfl, q8⟩
--X
theorem kw46 : True := by
  (k_with "my exec For Name Tuple cons nil" => (k_here; (with_unfolding_all refine For_S ?_)))
  (k_with "my pyIter ref" => (k_here; (with_unfolding_all refine iter_spoilt (by rfl) (by k_asm) (by k_asm) (by k_asm) (by k_asm) (by k_asm) (by assumption) (by k_mem) (by rfl) (by rfl) (by exact all8 (by with_reducible assumption) (by with_reducible assumption) (by with_reducible assumption) (by with_reducible assumption) (by with_reducible assumption) (by with_reducible assumption) (by with_reducible assumption) (by with_reducible assumption)) ?_ ?_); (intro i9 io9 g9 h9 tk9 o9 x9 t9 l9 r9 T9 B9 X9 P9 D9 F9 N9; rotate_left); (intro g9 h9 tk9 o9 T9 B9 X9 P9 D9 F9 N9; rotate_left)))
  (k_with "my StepS" => (with_unfolding_all refine stepS_mine (by k_asm) (by k_asm) (by k_asm) (by assumption) (by assumption) (by assumption) js_intro (by first | assumption | (refine' cb_drop ?cbN ?cbS; (case cbN => assumption); (case cbS => kcj_all)))))
  (k_with "my compareOp Eq ref ref" => (k_here; (with_reducible show wpAny _ _ (compareOp CmpOp.Eq (Value.ref _) (Value.ref _)) _ _ _); k_dflt (refine eq_peers (by k_asm) (by k_mem) (by k_mem) (by assumption) (by first | units_room | ktr_units | exact Nat.le_of_ble_eq_true rfl) ?_)))
  (k_with "my mine enterC" => (refine' codeC_defX0 ?k1 ?k2 ?k3 ?k4 ?k5 ?kA ?k6 ?k7 ?k8 ?k9 ?kB ?_ ?cK ?c2 ?c3 ?c4 ?c5; (case kA => exact rfl); (case k2 => k_asm); (case k1 => k_asm); (case k3 => k_asm); (case k4 => k_asm); (case k5 => k_asm); (case k6 => k_is); (case k7 => k_is); (case k8 => ktr_room); (case k9 => exact BindsTo.of_eq rfl); (case kB => exact locs rfl); (case cK => assumption); (case c2 => exact rfl); (case c3 => exact rfl); (case c4 => exact rfl); (case c5 => decide); k_whole; intro g' L' h' FG' F' N' B' X' T' D'; (try dsimp only); (try k_fold)))
  trivial
/-- a call out of the law's own frame, the caller known -/
noncomputable abbrev Cl0C (w : World) (s₀ : Shared) (mg mb : Str → Option Value) (lv : Nat) (f : Addr) (news : List (Addr × Obj)) (vs : List Value) (Ret : Heap → Addr → (Str → Option Value) → Shared → (Value → Shared → Prop) → Prop) : Prop :=
  ∀ {dp un : Nat} {gd : Option (List Code)} {cn : Str} {cs : Scope} {a : Addr} {ccd : Value} {cl : List (Str × Addr)} {A₀ : Around} {base h₀ : Heap} {L : Addr} {m : Str → Option Value} {s : Shared} {Q E : Value → Shared → Prop},
    (kap w.params).In base → Top vw LL (ExcName.means s₀.heap) mg mb base → Below A₀ base [] h₀ → Fr h₀ L s.heap m → (kap w.params).In h₀ → News h₀ L s.heap news → Top vw LL (ExcName.means s₀.heap) mg mb h₀ → cs.kind = .function → dp + lv < recursionLimit → un + 8 * lv < cLine →
      Ret h₀ L m s Q → wpC (model PP w) (ktrTop dp un gd cn cs L a ccd cl []) (call (.ref f) vs) Q E s
noncomputable abbrev sIn (r : Str) : Str := Txt.slice r (some 5) (some (-1))
noncomputable abbrev sMk (r : Str) : Str := Txt.item (sIn r) 0
noncomputable abbrev sp1 (r : Str) : Str := Str.ofString "229 " ++ sIn r ++ Str.ofString ")"
noncomputable abbrev sp2 (r : Str) : Str := Txt.slice r none (some (-1))
noncomputable abbrev sp3 (r : Str) : Str := Str.ofString "229 )(" ++ sIn r
noncomputable abbrev sp5 (r : Str) : Str := Txt.slice r none (some (-2)) ++ Str.ofString ")"
noncomputable abbrev sp6 (r : Str) : Str := Txt.slice r none (some (-1)) ++ Str.ofString "x)"
noncomputable abbrev sp7 (r : Str) : Str := Str.ofString "229 (" ++ sMk r ++ sIn r ++ Str.ofString ")"
noncomputable abbrev sp8 (r : Str) : Str := Str.ofString "229 (" ++ sMk r ++ sMk r ++ Str.ofString "21" ++ sMk r ++ Str.ofString ")"
noncomputable abbrev sp9 (r : Str) : Str := Txt.slice r none (some (-2)) ++ Str.ofString "x" ++ Txt.slice r (some (-2)) none
noncomputable abbrev sp10 (r : Str) : Str := Str.ofString "229 )" ++ Txt.slice r (some 4) none ++ Str.ofString " (1)"
noncomputable def spSc : Scope := (fdOf 19).2.2
noncomputable def spS (i : Nat) : Stmt := ((fdOf 19).2.1).getD i (.Pass default)
theorem frWrap {g h : Heap} {L : Addr} {m : Str → Option Value} {n : Str} {v : Value} (F : Fr g L h m) (e : m n = some v) : Fr g L h (fun y => if y = n then some v else m y) := by
  have : m = (fun y => if y = n then some v else m y) := by
    funext y
    by_cases h : y = n
    · rw [if_pos h, h, e]
    · rw [if_neg h]
  rw [← this]; exact F
theorem sp_end {S5 S6 : Stmt} {sc : Scope} (h5 : S5 = spS 5) (h6 : S6 = spS 6) (hsc : sc = spSc) {dp un : Nat} {gd : Option (List Code)} {cn : Str} {cs : Scope} {a : Addr} {ccd : Value} {cl : List (Str × Addr)} {base g₁ g h' : Heap} {L L' T : Addr} {m' : Str → Option Value} {s : Shared} {tk : Nat}
   {Q : Flow → Shared → Prop} {E₀ : Value → Shared → Prop} {r : Str} {t : Tok} {v0 : Value} {rest : List Value} {nn : Nat} {port : Int}
   (hT : (T, { cls := .type "tuple", data := .seq (v0 :: rest).toArray nn }) ∈ news) (hr : r.length ≤ 250) (qb : Badd (sp9 r)) (qa : Ansd (sp10 r) port) (qr : Ansd r port) (hv : ∃ hn : Str, ∃ ht, v0 = .str hn ht ∧ (PyData.str hn).canLay0 = true)
   (hk : cs.kind = .function) (hd : dp + 20 < recursionLimit) (hu : un + 8 * 20 < cLine)
   (F : Fr g L' h' (fun y => if y = Str.ofString "reply" then some (.str r t) else if y = Str.ofString "peer" then some (.ref T) else m' y))
   (B : Below (ktrTop dp un gd cn cs L a ccd cl []) base [envX cn cs L a ccd cl] g) (XB : (kap w.params).In base) (PB : Top vw LL (ExcName.means s₀.heap) mg mb base) (X : (kap w.params).In g) (P : Top vw LL (ExcName.means s₀.heap) mg mb g)
   (D : KtsDicts ([envX cn cs L a ccd cl].filterMap (·.frame)) g) (T0 : KtsTurn ([envX cn cs L a ccd cl].filterMap (·.frame)) g₁ g) (N : News g L' h' news)
   (hret : ∀ g' h'' tk' m'', KtsTurn ([envX cn cs L a ccd cl].filterMap (·.frame)) g₁ g' → Below (ktrTop dp un gd cn cs L a ccd cl []) base [envX cn cs L a ccd cl] g' → (kap w.params).In g' → Top vw LL (ExcName.means s₀.heap) mg mb g' → KtsDicts ([envX cn cs L a ccd cl].filterMap (·.frame)) g' →
      Fr g' L' h'' m'' → News g' L' h'' news → Q (.ret (.bool true)) { s with heap := h'', toks := tk' }) :
   wpC (model PP w) ((ktrTop dp un gd cn cs L a ccd cl []).deeper (envOf (Str.ofString "_law_spoilt") sc L' 169 (.ref 168))) (execs [S5, S6] (envOf (Str.ofString "_law_spoilt") sc L' 169 (.ref 168))) Q (fun e s' => wpAny (model PP w) ((ktrTop dp un gd cn cs L a ccd cl []).deeper (envOf (Str.ofString "_law_spoilt") sc L' 169 (.ref 168))) (leaving (envOf (Str.ofString "_law_spoilt") sc L' 169 (.ref 168)) e) (fun _ s'' => E₀ e s'') (fun e' s'' => E₀ e' s'') s') { s with heap := h', toks := tk } := by
  conv at h5 => rhs; whnf
  conv at h6 => rhs; whnf
  conv at hsc => rhs; whnf
  subst h5 h6 hsc
  unfold PP; revert X; k_fill; intro X
  obtain ⟨hn, ht, rfl, hv⟩ := hv
  refine wpC_execs_cons ?_
  refine wpC_Try_except ?_
  refine wpC_execs_cons ?_
  refine wpC_Expr ?_ (by rfl) (by rfl)
  refine wpC_Call ?_ (by rfl)
  k_steps
  refine wpC_callWith_K (K := kap w.params) (by k_is) ?_ (by rfl)
  k_steps
  refine wpC_call ?_
  unfold sp9 at qb
  generalize Txt.slice r none (some (-2)) ++ Str.ofString "x" ++ Txt.slice r (some (-2)) none = x9 at qb ⊢
  obtain ⟨b1, b2, b3, b4, b5, xa, xb, xc, xd, xe, b6, b7, b8, b9⟩ := qb
  have f1 := lf_lt x9
  have f2 := rt_lt x9
  dsimp only [lf, rt, mk1, mk2] at f1 f2 b3 b4 b5 b6
  k_dflt (walk_at "mine innerC")
  refine wpC_execs_append (pre := [_, _, _, _, _, _, _, _, _]) (rest := [_, _]) ?_
  k_steps
  show wpC _ _ (execs (_ :: _) _) _ _ _
  refine wpC_execs_cons (wpC_Assign_raises ?_ (by rfl))
  refine wpC_Call ?_ (by rfl)
  k_steps
  refine wpC_callWith_type1 ?_ (by rfl) (by rfl)
  k_steps
  refine bad_call b8 b9 b7 rfl ?_
  intro hE tkE eE NE
  k_steps
  refine' hret _ _ _ _ (by assumption) (by k_asm) (by k_asm) (by k_asm) (by assumption) (by k_asm) ?_
  first | assumption | (refine' cb_drop ?cbN ?cbS; (case cbN => assumption); (case cbS => kcj_all))
theorem kw47 : True := by
  k_with_none
  trivial
end
end Mine
set_option maxHeartbeats 0
namespace Mine
open PySem PySem.W PyProof.Rows PySem.Spec PySem.Calls PyProof.V PyProof.Rows.LCg PyProof.Rows.LCt
section
variable {w : World} {s₀ : Shared} {mg mb : Str → Option Value}
variable {dp un : Nat} {gd : Option (List Code)} {cn : Str} {a : Addr} {ccd : Value} {A₀ : Around} {base h₀ : Heap} {L c1 c2 c3 : Addr} {m : Str → Option Value} {s : Shared} {Q : Flow → Shared → Prop} {E : Value → Shared → Prop} {news : List (Addr × Obj)}
theorem kw48 : True := by
  (k_with "my binaryOp Pow int int" => (k_here; (with_reducible refine pow_int_small (by first | decide | omega) (by first | decide | omega) (by first | decide | omega) ?_)))
  (k_with "my eval IfExp" => (k_here; k_dflt (first | refine IfExp_str ?_ (by decide +kernel) (by decide +kernel) | refine IfExp_int ?_ (by decide) (by decide))))
  (k_with "my binaryOp Add str str" => (k_here; (with_reducible refine add_named (by with_reducible assumption) (by with_reducible assumption) (by exact Nat.le_of_ble_eq_true rfl) ?_); intro z9 t9 tk9 e9 l9; (try dsimp only)))
  (k_with "my binaryOp Mult str int" => (k_here; (with_reducible refine mul3 ?_); intro z9 t9 tk9 e9 l9; (try dsimp only)))
  (k_with "my call type:str" => (k_here; (with_reducible refine str_named (by omega) (by omega) ?_); intro z9 e9 l9; (try dsimp only)))
  (k_with "my subscriptTail Name Constant ref int" => (k_here; k_dflt (refine item_tupleT (l := _ :: _) (News.isTup (by k_asm) (by k_mem)) (by decide) (by decide) seq0 rfl ?_)))
  (k_with "my call ref" => (k_here; k_dflt (refine c_229A (by with_reducible assumption) (by k_asm) (by k_asm) (by k_asm) (by k_asm) (by k_asm) (by k_mem) (by first | exact rfl | assumption) (by ktr_room) (by ktr_units) ?_); intro D9 t9 n9 h9 tk9 F9 N9 l9; (try dsimp only); (try k_fold)))
  trivial
theorem law_b7 {cs : Scope} (hcs : cs = lawSc) (hX : (kap w.params).In h₀) (hT : Top vw LL (ExcName.means s₀.heap) mg mb h₀) (hB : Below A₀ base [] h₀) (hF' : Fr h₀ L s.heap m) (hN : News h₀ L s.heap news) (hd : dp + 30 < recursionLimit) (hu : un + 8 * 30 < cLine) {k : Nat} {t : Tok} (hk : k < 8) (ek : m (Str.ofString "k") = some (.int (k : Nat) t))
    (h : ∀ h' tk' T t0 v1 rest nn, Fr h₀ L h' (fun y => if y = Str.ofString "peer" then some (.ref T) else m y) → News h₀ L h' ((T, { cls := .type "tuple", data := .seq (.str (Str.ofString "x" ++ Str.ofString (toString (k : Int))) t0 :: v1 :: rest).toArray nn }) :: news) → Q .next { s with heap := h', toks := tk' }) :
    wpAny (model PP w) (ktrTop dp un gd cn cs L a ccd (lawCl c1 c2 c3) []) (exec (lawF 7) (envX cn cs L a ccd (lawCl c1 c2 c3))) Q E s := by
  conv at hcs => rhs; whnf
  dsimp only at hcs
  subst hcs
  have hF := fr_at1 hF' ek
  clear hF'
  unfold PP; revert hX; k_fill; intro hX
  conv in lawF 7 => whnf
  k_steps
  all_goals ((rename Fr _ _ _ _ => F9); (rename News _ _ _ _ => N9); subst_vars)
  all_goals exact h _ _ _ _ _ _ _ (fr_back1 ek F9) N9
theorem law_b8 {cs : Scope} (hcs : cs = lawSc) (hX : (kap w.params).In h₀) (hT : Top vw LL (ExcName.means s₀.heap) mg mb h₀) (hB : Below A₀ base [] h₀) (hF' : Fr h₀ L s.heap m) (hN : News h₀ L s.heap news) (hd : dp + 30 < recursionLimit) (hu : un + 8 * 30 < cLine) {rp iT iM : Str} {tr ta tb : Tok} {D : Addr} {nn : Nat} (er : m (Str.ofString "reply") = some (.str rp tr)) (ei : m (Str.ofString "inside") = some (.ref D)) (hD : (D, W.listOf #[.str iT ta, .str iM tb] nn) ∈ news) (hr : rp = Str.ofString "229 (" ++ iM ++ Str.ofString ")") (hiM : iM.length ≤ 60)
    (h : ∀ h' tk', Fr h₀ L h' m → News h₀ L h' news → Q .next { s with heap := h', toks := tk' }) :
    wpAny (model PP w) (ktrTop dp un gd cn cs L a ccd (lawCl c1 c2 c3) []) (exec (lawF 8) (envX cn cs L a ccd (lawCl c1 c2 c3))) Q E s := by
  conv at hcs => rhs; whnf
  dsimp only at hcs
  subst hcs
  have hF := fr_at2 hF' er ei
  have hN' := news_cons hD hN
  clear hF' hN
  unfold PP; revert hX; k_fill; intro hX
  conv in lawF 8 => whnf
  k_steps
  · exact (ne_self9 (hr ▸ (by assumption : (rp != Str.ofString "229 (" ++ iM ++ Str.ofString ")") = true))).elim
  · (rename Fr _ _ _ _ => F9); (rename News _ _ _ _ => N9)
    exact h _ _ (fr_drop2 er ei F9) (news_tail N9)
theorem law_b9 {cs : Scope} (hcs : cs = lawSc) (hX : (kap w.params).In h₀) (hT : Top vw LL (ExcName.means s₀.heap) mg mb h₀) (hB : Below A₀ base [] h₀) (hF' : Fr h₀ L s.heap m) (hN : News h₀ L s.heap news) (hd : dp + 30 < recursionLimit) (hu : un + 8 * 30 < cLine) {rp : Str} {po : Int} {tr : Tok} {T : Addr} {v0 : Value} {rest : List Value} {nn : Nat} (er : m (Str.ofString "reply") = some (.str rp tr)) (ep : m (Str.ofString "peer") = some (.ref T)) (hpT : (T, { cls := .type "tuple", data := .seq (v0 :: rest).toArray nn }) ∈ news) (ha : Ansd rp po)
    (h : ∀ h' tk' D t' n', Fr h₀ L h' (fun y => if y = Str.ofString "answer" then some (.ref D) else m y) → News h₀ L h' ((D, { cls := .type "tuple", data := .seq #[v0, .int po t'] n' }) :: news) → Q .next { s with heap := h', toks := tk' }) :
    wpAny (model PP w) (ktrTop dp un gd cn cs L a ccd (lawCl c1 c2 c3) []) (exec (lawF 9) (envX cn cs L a ccd (lawCl c1 c2 c3))) Q E s := by
  conv at hcs => rhs; whnf
  dsimp only at hcs
  subst hcs
  have hF := fr_at2 hF' er ep
  clear hF'
  unfold PP; revert hX; k_fill; intro hX
  conv in lawF 9 => whnf
  k_steps
  (rename Fr _ _ _ _ => F9); (rename News _ _ _ _ => N9)
  exact h _ _ _ _ _ (fr_back2 er ep F9) N9
theorem kw49 : True := by
  k_with_none
  trivial
end
end Mine
set_option maxHeartbeats 0
namespace Mine
open PySem PySem.W PyProof.Rows PySem.Spec PySem.Calls PyProof.V PyProof.Rows.LCg PyProof.Rows.LCt
section
variable {w : World} {s₀ : Shared} {mg mb : Str → Option Value}
variable {dp un : Nat} {gd : Option (List Code)} {cn : Str} {a : Addr} {ccd : Value} {A₀ : Around} {base h₀ : Heap} {L c1 c2 c3 : Addr} {m : Str → Option Value} {s : Shared} {Q : Flow → Shared → Prop} {E : Value → Shared → Prop} {news : List (Addr × Obj)}
theorem kw50 : True := by
  (k_with "my binaryOp Pow int int" => (k_here; (with_reducible refine pow_int_small (by first | decide | omega) (by first | decide | omega) (by first | decide | omega) ?_)))
  (k_with "my eval IfExp" => (k_here; k_dflt (first | refine IfExp_str ?_ (by decide +kernel) (by decide +kernel) | refine IfExp_int ?_ (by decide) (by decide))))
  (k_with "my binaryOp Add str str" => (k_here; (with_reducible refine add_named (by with_reducible assumption) (by with_reducible assumption) (by exact Nat.le_of_ble_eq_true rfl) ?_); intro z9 t9 tk9 e9 l9; (try dsimp only)))
  (k_with "my binaryOp Mult str int" => (k_here; (with_reducible refine mul3 ?_); intro z9 t9 tk9 e9 l9; (try dsimp only)))
  (k_with "my call type:str" => (k_here; (with_reducible refine str_named (by omega) (by omega) ?_); intro z9 e9 l9; (try dsimp only)))
  (k_with "my subscriptTail Name Constant ref int" => (k_here; k_dflt (refine item_tupleT (l := [_, _]) (News.isTup (by k_asm) (List.mem_cons_of_mem _ (by assumption))) (by decide) (by decide) (show seqIndex? 1 2 = some 1 from by decide) rfl ?_)))
  (k_with "my subscriptTail Name Constant ref int" => (k_here; k_dflt (refine item_tupleT (l := _ :: _) (News.isTup (by k_asm) (by k_mem)) (by decide) (by decide) seq0 rfl ?_)))
  (k_with "my compareOp NotEq ref ref" => (k_here; (with_reducible show wpAny _ _ (compareOp CmpOp.NotEq (Value.ref _) (Value.ref _)) _ _ _); k_dflt (refine ne_peers (by k_asm) (List.mem_cons_of_mem _ (by assumption)) (List.mem_cons_self ..) (by assumption) (by first | units_room | ktr_units | exact Nat.le_of_ble_eq_true rfl) ?_)))
  trivial
theorem c_refused0 {r : Str} {t : Tok} {pv : Value} (h : Refd r) : Cl0 w s₀ mg mb 3 162 news [.str r t, pv] (fun h₀ L m s Q => CbRet h₀ L m news s Q (fun _ => .bool true)) := by
  unfold Cl0
  intro dp un gd cn cs a ccd cl A₀ base h₀ L m s Q E h1 h2 h3 h4 h5 h6 h7 h8 h9 h10 h11
  exact c_refused h.1 h.2.1 h.2.2 h1 h2 h3 h4 h5 h6 h7 h8 h9 h10 h11
theorem c_ellh {y : Str} {t t1 : Tok} {nb : Bool} (hy : y.length ≤ 100) (hb : ellB (Str.ofString "229 (h") [] (Str.ofString "h)") y = nb) : Cl w s₀ mg mb 1 72 news [.str (Str.ofString "229 (h...h)") t, .str y t1] (fun h₀ L m s Q => CbRet h₀ L m news s Q (fun _ => .bool nb)) := by
  subst hb
  exact c_ell2 (by decide +kernel) (by omega) (by decide +kernel) (by decide +kernel) (by decide +kernel) (by decide +kernel) (by decide +kernel) (by decide +kernel)
theorem kw51 : True := by
  (k_with "my call ref" => (k_here; k_dflt (refine c_ellh (by with_reducible assumption) (by with_reducible assumption) (by k_asm) (by k_asm) (by k_asm) (by k_asm) (by k_asm) (by first | exact rfl | assumption) (by ktr_room) (by ktr_units) ?_); intro t9 h9 tk9 F9 N9; (try dsimp only); (try k_fold)))
  trivial
theorem law_b10 {cs : Scope} (hcs : cs = lawSc) (hX : (kap w.params).In h₀) (hT : Top vw LL (ExcName.means s₀.heap) mg mb h₀) (hB : Below A₀ base [] h₀) (hF' : Fr h₀ L s.heap m) (hN : News h₀ L s.heap news) (hd : dp + 30 < recursionLimit) (hu : un + 8 * 30 < cLine) {hn : Str} {t0 tp t1 : Tok} {v1 : Value} {rest : List Value} {po : Int} {T D : Addr} {nn n2 : Nat} (ea : m (Str.ofString "answer") = some (.ref D)) (ep : m (Str.ofString "peer") = some (.ref T)) (eo : m (Str.ofString "port") = some (.int po tp)) (hpT : (T, { cls := .type "tuple", data := .seq (.str hn t0 :: v1 :: rest).toArray nn }) ∈ news)
    (hpD : (D, { cls := .type "tuple", data := .seq #[.str hn t0, .int po t1] n2 }) ∈ news) (hl : (PyData.str hn).canLay0 = true) 
    (h : ∀ h' tk', Fr h₀ L h' m → News h₀ L h' news → Q .next { s with heap := h', toks := tk' }) :
    wpAny (model PP w) (ktrTop dp un gd cn cs L a ccd (lawCl c1 c2 c3) []) (exec (lawF 10) (envX cn cs L a ccd (lawCl c1 c2 c3))) Q E s := by
  conv at hcs => rhs; whnf
  dsimp only at hcs
  subst hcs
  have hF := fr_at3 hF' ea ep eo
  clear hF'
  unfold PP; revert hX; k_fill; intro hX
  conv in lawF 10 => whnf
  k_steps
  (rename Fr _ _ _ _ => F9); (rename News _ _ _ _ => N9)
  exact h _ _ (fr_drop3 ea ep eo F9) (news_tail N9)
theorem law_b11 {cs : Scope} (hcs : cs = lawSc) (hX : (kap w.params).In h₀) (hT : Top vw LL (ExcName.means s₀.heap) mg mb h₀) (hB : Below A₀ base [] h₀) (hF' : Fr h₀ L s.heap m) (hN : News h₀ L s.heap news) (hd : dp + 30 < recursionLimit) (hu : un + 8 * 30 < cLine) {ty iT iM : Str} {ta tb tt : Tok} {vp : Value} {D : Addr} {nn : Nat} (XB : (kap w.params).In base) (TB : Top vw LL (ExcName.means s₀.heap) mg mb base) (ei : m (Str.ofString "inside") = some (.ref D)) (et : m (Str.ofString "typed") = some (.str ty tt)) (ep : m (Str.ofString "peer") = some vp) (hD : (D, W.listOf #[.str iT ta, .str iM tb] nn) ∈ news) (hlen : 1 ≤ iT.length) (hlen2 : iT.length ≤ 60)
    (hr : (Txt.item iT 0 != Txt.item iT (-1)) = true → Refd ty)
    (h : ∀ h' tk', Fr h₀ L h' m → News h₀ L h' news → Q .next { s with heap := h', toks := tk' }) :
    wpAny (model PP w) (ktrTop dp un gd cn cs L a ccd (lawCl c1 c2 c3) []) (exec (lawF 11) (envX cn cs L a ccd (lawCl c1 c2 c3))) Q E s := by
  conv at hcs => rhs; whnf
  dsimp only at hcs
  subst hcs
  have hF := fr_at3 hF' ei et ep
  have hN' := news_cons hD hN
  clear hF' hN
  unfold PP; revert hX; k_fill; intro hX
  conv in lawF 11 => whnf
  k_steps
  · refine c_refused0 (hr (by assumption)) XB TB (by k_asm) (by k_asm) (by k_asm) (by k_asm) (by k_asm) rfl (by ktr_room) (by ktr_units) ?_
    intro t9 h9 tk9 F9 N9
    (try dsimp only); (try k_fold)
    k_steps
    clear hF hN'
    (rename Fr _ _ _ _ => F9); (rename News _ _ _ _ => N9)
    exact h _ _ (fr_drop3 ei et ep F9) (news_tail N9)
  · (rename Fr _ _ _ _ => F9); (rename News _ _ _ _ => N9)
    exact h _ _ (fr_drop3 ei et ep F9) (news_tail N9)
theorem law_b12 {cs : Scope} (hcs : cs = lawSc) (hX : (kap w.params).In h₀) (hT : Top vw LL (ExcName.means s₀.heap) mg mb h₀) (hB : Below A₀ base [] h₀) (hF' : Fr h₀ L s.heap m) (hN : News h₀ L s.heap news) (hd : dp + 30 < recursionLimit) (hu : un + 8 * 30 < cLine) {rp : Str} {tr : Tok} {nb : Bool} (er : m (Str.ofString "reply") = some (.str rp tr)) (hr : rp.length ≤ 100) (hb : ellB (Str.ofString "229 (h") [] (Str.ofString "h)") rp = nb)
    (h : ∀ h' tk', Fr h₀ L h' (fun y => if y = Str.ofString "near" then some (.bool nb) else m y) → News h₀ L h' news → Q .next { s with heap := h', toks := tk' }) :
    wpAny (model PP w) (ktrTop dp un gd cn cs L a ccd (lawCl c1 c2 c3) []) (exec (lawF 12) (envX cn cs L a ccd (lawCl c1 c2 c3))) Q E s := by
  conv at hcs => rhs; whnf
  dsimp only at hcs
  subst hcs
  have hF := fr_at1 hF' er
  clear hF'
  unfold PP; revert hX; k_fill; intro hX
  conv in lawF 12 => whnf
  k_steps
  (rename Fr _ _ _ _ => F9); (rename News _ _ _ _ => N9)
  exact h _ _ (fr_back1 er F9) N9
theorem law_b14 {cs : Scope} (hcs : cs = lawSc) (hX : (kap w.params).In h₀) (hT : Top vw LL (ExcName.means s₀.heap) mg mb h₀) (hB : Below A₀ base [] h₀) (hF' : Fr h₀ L s.heap m) (hN : News h₀ L s.heap news) (hd : dp + 30 < recursionLimit) (hu : un + 8 * 30 < cLine) {rs po : Int} {tr tp : Tok} {nb : Bool} (er : m (Str.ofString "rest") = some (.int rs tr)) (ep : m (Str.ofString "port") = some (.int po tp)) (en : m (Str.ofString "near") = some (.bool nb)) 
    (h : ∀ h' tk' t', Fr h₀ L h' (fun y => if y = Str.ofString "rest" then some (.int (rs + if nb = true then po else -po) t') else m y) → News h₀ L h' news → Q .next { s with heap := h', toks := tk' }) :
    wpAny (model PP w) (ktrTop dp un gd cn cs L a ccd (lawCl c1 c2 c3) []) (exec (lawF 14) (envX cn cs L a ccd (lawCl c1 c2 c3))) Q E s := by
  conv at hcs => rhs; whnf
  dsimp only at hcs
  subst hcs
  have hF := fr_at3 hF' er ep en
  clear hF'
  unfold PP; revert hX; k_fill; intro hX
  conv in lawF 14 => whnf
  k_steps
  all_goals ((rename Fr _ _ _ _ => F9); (rename News _ _ _ _ => N9))
  all_goals subst nb
  all_goals exact h _ _ _ (fr_back3 er ep en F9) N9
theorem kw52 : True := by
  k_with_none
  trivial
end
end Mine
set_option maxHeartbeats 0
namespace Mine
open PySem PySem.W PyProof.Rows PySem.Spec PySem.Calls PyProof.V PyProof.Rows.LCg PyProof.Rows.LCt
section
variable {w : World} {s₀ : Shared} {mg mb : Str → Option Value}
variable {dp un : Nat} {gd : Option (List Code)} {cn : Str} {a : Addr} {ccd : Value} {A₀ : Around} {base h₀ : Heap} {L c1 c2 c3 : Addr} {m : Str → Option Value} {s : Shared} {Q : Flow → Shared → Prop} {E : Value → Shared → Prop} {news : List (Addr × Obj)}
theorem kw53 : True := by
  (k_with "my binaryOp Pow int int" => (k_here; (with_reducible refine pow_int_small (by first | decide | omega) (by first | decide | omega) (by first | decide | omega) ?_)))
  (k_with "my eval IfExp" => (k_here; k_dflt (first | refine IfExp_str ?_ (by decide +kernel) (by decide +kernel) | refine IfExp_int ?_ (by decide) (by decide))))
  (k_with "my binaryOp Add str str" => (k_here; (with_reducible refine add_named (by with_reducible assumption) (by with_reducible assumption) (by exact Nat.le_of_ble_eq_true rfl) ?_); intro z9 t9 tk9 e9 l9; (try dsimp only)))
  (k_with "my binaryOp Mult str int" => (k_here; (with_reducible refine mul3 ?_); intro z9 t9 tk9 e9 l9; (try dsimp only)))
  (k_with "my call type:str" => (k_here; (with_reducible refine str_named (by omega) (by omega) ?_); intro z9 e9 l9; (try dsimp only)))
  (k_with "my subscriptTail Name Name str int" => (k_here; (with_reducible refine item_word (by with_reducible assumption) (by with_reducible assumption) (by with_reducible assumption) ?_)))
  (k_with "my call ref" => (k_here; first | (k_dflt (refine c_told let_h (by omega) (by omega) (by with_reducible assumption) (by k_asm) (by k_asm) (by k_asm) (by k_asm) (by k_asm) (by first | exact rfl | assumption) (by ktr_room) (by ktr_units) ?_); intro t9 h9 tk9 F9 N9; (try dsimp only); (try k_fold)) | (k_dflt (refine c_told let_p (by omega) (by omega) (by with_reducible assumption) (by k_asm) (by k_asm) (by k_asm) (by k_asm) (by k_asm) (by first | exact rfl | assumption) (by ktr_room) (by ktr_units) ?_); intro t9 h9 tk9 F9 N9; (try dsimp only); (try k_fold))))
  trivial
theorem law_b13_h {cs : Scope} (hcs : cs = lawSc) (hX : (kap w.params).In h₀) (hT : Top vw LL (ExcName.means s₀.heap) mg mb h₀) (hB : Below A₀ base [] h₀) (hF' : Fr h₀ L s.heap m) (hN : News h₀ L s.heap news) (hd : dp + 30 < recursionLimit) (hu : un + 8 * 30 < cLine) {rp wd fg : Str} {tr tw tf t : Tok} {k : Nat} (hk : k < 8) (er : m (Str.ofString "reply") = some (.str rp tr)) (en : m (Str.ofString "near") = some (.bool true)) (ek9 : m (Str.ofString "k") = some (.int (k : Nat) t)) (ew : m (Str.ofString "word") = some (.str wd tw)) (ef : m (Str.ofString "figures") = some (.str fg tf))
    (hW : wd.length = 8) (hw : Txt.item wd (k : Int) = Str.ofString "h") (hr : rp.length ≤ 100) (hfg : fg.length ≤ 23) (ok : ToldOk (Str.ofString "229 (h") (Str.ofString "h)") (Str.ofString "h") fg rp)
    (h : ∀ h' tk', Fr h₀ L h' m → News h₀ L h' news → Q .next { s with heap := h', toks := tk' }) :
    wpAny (model PP w) (ktrTop dp un gd cn cs L a ccd (lawCl c1 c2 c3) []) (exec (lawF 13) (envX cn cs L a ccd (lawCl c1 c2 c3))) Q E s := by
  conv at hcs => rhs; whnf
  dsimp only at hcs
  subst hcs
  have hF := fr_at5 hF' er en ek9 ew ef
  clear hF'
  unfold PP; revert hX; k_fill; intro hX
  conv in lawF 13 => whnf
  k_steps
  clear hN hF
  (rename Fr _ _ _ _ => F9); (rename News _ _ _ _ => N9)
  exact h _ _ (fr_drop5 er en ek9 ew ef F9) N9
theorem law_b13_p {cs : Scope} (hcs : cs = lawSc) (hX : (kap w.params).In h₀) (hT : Top vw LL (ExcName.means s₀.heap) mg mb h₀) (hB : Below A₀ base [] h₀) (hF' : Fr h₀ L s.heap m) (hN : News h₀ L s.heap news) (hd : dp + 30 < recursionLimit) (hu : un + 8 * 30 < cLine) {rp wd fg : Str} {tr tw tf t : Tok} {k : Nat} (hk : k < 8) (er : m (Str.ofString "reply") = some (.str rp tr)) (en : m (Str.ofString "near") = some (.bool false)) (ek9 : m (Str.ofString "k") = some (.int (k : Nat) t)) (ew : m (Str.ofString "word") = some (.str wd tw)) (ef : m (Str.ofString "figures") = some (.str fg tf))
    (hW : wd.length = 8) (hw : Txt.item wd (k : Int) = Str.ofString "p") (hr : rp.length ≤ 100) (hfg : fg.length ≤ 23) (ok : ToldOk (Str.ofString "229 (p") (Str.ofString "p)") (Str.ofString "p") fg rp)
    (h : ∀ h' tk', Fr h₀ L h' m → News h₀ L h' news → Q .next { s with heap := h', toks := tk' }) :
    wpAny (model PP w) (ktrTop dp un gd cn cs L a ccd (lawCl c1 c2 c3) []) (exec (lawF 13) (envX cn cs L a ccd (lawCl c1 c2 c3))) Q E s := by
  conv at hcs => rhs; whnf
  dsimp only at hcs
  subst hcs
  have hF := fr_at5 hF' er en ek9 ew ef
  clear hF'
  unfold PP; revert hX; k_fill; intro hX
  conv in lawF 13 => whnf
  k_steps
  clear hN hF
  (rename Fr _ _ _ _ => F9); (rename News _ _ _ _ => N9)
  exact h _ _ (fr_drop5 er en ek9 ew ef F9) N9
theorem kw54 : True := by
  k_with_none
  trivial
end
end Mine
set_option maxHeartbeats 0
namespace Mine
open PySem PySem.W PyProof.Rows PySem.Spec PySem.Calls PyProof.V PyProof.Rows.LCg PyProof.Rows.LCt
noncomputable abbrev tyS (x fg : Str) (nu : Int) : Str := Str.ofString "229 (" ++ insideT x fg nu ++ Str.ofString ")"
/-- what a turn asks of its texts -/
structure TurnOk (x fg : Str) (nu po : Int) : Prop where
  reply : prepS (tyS x fg nu) = Str.ofString "229 (" ++ insideM x fg nu ++ Str.ofString ")"
  lenT : (insideT x fg nu).length ≤ 60
  lenT1 : 1 ≤ (insideT x fg nu).length
  lenM : (insideM x fg nu).length ≤ 60
  ans : Ansd (prepS (tyS x fg nu)) po
  ref : (Txt.item (insideT x fg nu) 0 != Txt.item (insideT x fg nu) (-1)) = true → Refd (tyS x fg nu)
  far : x = Str.ofString "h" ∧ ellB (Str.ofString "229 (h") [] (Str.ofString "h)") (prepS (tyS x fg nu)) = true ∧ ToldOk (Str.ofString "229 (h") (Str.ofString "h)") (Str.ofString "h") fg (prepS (tyS x fg nu)) ∨
    x = Str.ofString "p" ∧ ellB (Str.ofString "229 (h") [] (Str.ofString "h)") (prepS (tyS x fg nu)) = false ∧ ToldOk (Str.ofString "229 (p") (Str.ofString "p)") (Str.ofString "p") fg (prepS (tyS x fg nu))
noncomputable abbrev plV (k : Nat) (d3 p1 p2 p3 : Int) : Int := placeV k (d3.fmod 1000 - 500) p1 p2 p3
noncomputable abbrev poV (d4 d5 d6 d7 pl : Int) : Int := (d4.fmod 1000 - 500) + (d5.fmod 1000 - 500) * pl + (d6.fmod 1000 - 500) * pl ^ 2 + (d7.fmod 1000 - 500) * pl ^ 3
noncomputable abbrev nuV (k : Nat) (d8 : Int) : Int := (d8.fmod 1000000).fdiv ((k : Nat) + 1) + 37 * (k : Nat)
theorem wrap_len {i : Str} (h : i.length ≤ 60) : (Str.ofString "229 (" ++ i ++ Str.ofString ")").length ≤ 100 := by
  have e1 : (Str.ofString "229 (").length = 5 := by decide +kernel
  have e2 : (Str.ofString ")").length = 1 := by decide +kernel
  rw [Str.length_append, Str.length_append, e1, e2]; omega
section
variable {w : World} {s₀ : Shared} {mg mb : Str → Option Value}
variable {dp un : Nat} {gd : Option (List Code)} {cn : Str} {a : Addr} {ccd : Value} {A₀ : Around} {base h₀ : Heap} {L c1 c2 c3 : Addr} {m : Str → Option Value} {s : Shared} {Q : Flow → Shared → Prop} {E : Value → Shared → Prop}
theorem law_turn {k : Nat} (hk : k < 8) {I S D : Addr} {oI o1 o2 o3 : Obj} {t tw tr ta tb tc : Tok} {wd x : Str} {rs p1 p2 p3 : Int} {d0 d1 d2 d3 d4 d5 d6 d7 d8 d9 : Int} {e0 e1 e2 e3 e4 e5 e6 e7 e8 e9 : Tok} {v3 : Option Value} (hX : (kap w.params).In h₀) (hT : Top vw LL (ExcName.means s₀.heap) mg mb h₀) (hB : Below A₀ base [] h₀)
    (XB : (kap w.params).In base) (TB : Top vw LL (ExcName.means s₀.heap) mg mb base)
    (h2 : o2.data = .cell (some (.ref D))) (h3 : o3.data = .cell v3) (hF : Fr h₀ L s.heap m) (ek : m (Str.ofString "k") = some (.int (k : Nat) t)) (es : m (Str.ofString "steps") = some (.ref S)) (ew : m (Str.ofString "word") = some (.str wd tw)) (er : m (Str.ofString "rest") = some (.int rs tr))
    (hW : wd.length = 8) (hw : Txt.item wd (k : Int) = x) (hx1 : x.length = 1)
    (hN : News h₀ L s.heap [(I, oI), (S, lst [.int p1 ta, .int p2 tb, .int p3 tc]), (D, lst [.int d0 e0, .int d1 e1, .int d2 e2, .int d3 e3, .int d4 e4, .int d5 e5, .int d6 e6, .int d7 e7, .int d8 e8, .int d9 e9]), (c3, o3), (c2, o2), (c1, o1)]) (hd : dp + 30 < recursionLimit) (hu : un + 8 * 30 < cLine) (n0 : @Ne Nat I c3) (n1 : @Ne Nat S c3) (n2 : @Ne Nat D c3) (n3 : @Ne Nat c2 c3) (n4 : @Ne Nat c1 c3)
    (hpl : -10000 ≤ plV k d3 p1 p2 p3 ∧ plV k d3 p1 p2 p3 ≤ 10000) (hp0 : -10000000000000 < poV d4 d5 d6 d7 (plV k d3 p1 p2 p3)) (hp1 : poV d4 d5 d6 d7 (plV k d3 p1 p2 p3) < 10000000000000)
    (ok : TurnOk x (figsV (poV d4 d5 d6 d7 (plV k d3 p1 p2 p3)) (nuV k d8)) (nuV k d8) (poV d4 d5 d6 d7 (plV k d3 p1 p2 p3)))
    (hcl : (PyData.str (Str.ofString "x" ++ Str.ofString (toString (k : Int)))).canLay0 = true)
    (h : ∀ h' tk' m' o3' T t0 v1 rest nn tq tr', Fr h₀ L h' m' → News h₀ L h' [(T, { cls := .type "tuple", data := .seq (.str (Str.ofString "x" ++ Str.ofString (toString (k : Int))) t0 :: v1 :: rest).toArray nn }), (I, oI), (S, lst [.int p1 ta, .int p2 tb, .int p3 tc]), (D, lst [.int d0 e0, .int d1 e1, .int d2 e2, .int d3 e3, .int d4 e4, .int d5 e5, .int d6 e6, .int d7 e7, .int d8 e8, .int d9 e9]), (c3, o3'), (c2, o2), (c1, o1)] →
      (∃ v, o3'.data = .cell v) → m' (Str.ofString "steps") = some (.ref S) → m' (Str.ofString "word") = some (.str wd tw) →
      m' (Str.ofString "rest") = some (.int (rs + if x = Str.ofString "h" then poV d4 d5 d6 d7 (plV k d3 p1 p2 p3) else - poV d4 d5 d6 d7 (plV k d3 p1 p2 p3)) tr') → m' (Str.ofString "peer") = some (.ref T) →
      m' (Str.ofString "reply") = some (.str (prepS (tyS x (figsV (poV d4 d5 d6 d7 (plV k d3 p1 p2 p3)) (nuV k d8)) (nuV k d8))) tq) → Q .next { s with heap := h', toks := tk' }) :
    wpAny (model PP w) (ktrTop dp un gd cn lawSc L a ccd (lawCl c1 c2 c3) []) (execs [lawF 0, lawF 1, lawF 2, lawF 3, lawF 4, lawF 5, lawF 6, lawF 7, lawF 8, lawF 9, lawF 10, lawF 11, lawF 12, lawF 13, lawF 14] (envX cn lawSc L a ccd (lawCl c1 c2 c3))) Q E s := by
  refine wpAny_execs_cons (law_b0 hk rfl hX hT hB h2 h3 hF ek es hN hd hu n0 n1 n2 n3 n4 fun h' tk' o3' tp F N h3' => ?_)
  clear hF hN h3
  refine wpAny_execs_cons (law_b1 rfl hX hT hB F N hd hu hpl h2 h3' (.tail _ (.tail _ (.tail _ (.tail _ (.head _))))) (.tail _ (.tail _ (.tail _ (.head _)))) (.tail _ (.tail _ (.head _))) fun h' tk' t1 po epo F N => ?_)
  subst epo
  refine wpAny_execs_cons (law_b2 hk rfl hX hT h2 (.tail _ (.tail _ (.tail _ (.tail _ (.head _))))) (.tail _ (.tail _ (.head _))) F ek N fun h' tk' t2 nu enu F N => ?_)
  subst enu
  refine wpAny_execs_cons (law_b3 rfl hX hT F rfl rfl N hp0 hp1 fun h' tk' t3 fg efg lfg F N => ?_)
  subst efg
  have hx : x = Str.ofString "h" ∨ x = Str.ofString "p" := ok.far.elim (fun q => .inl q.1) fun q => .inr q.1
  refine wpAny_execs_cons (law_b4 rfl hk hX hT hB F ew ek rfl rfl N hW hw hx hx1 lfg (by omega) (by omega) fun h' tk' Di u1 u2 F N => ?_)
  refine wpAny_execs_cons (law_b5 rfl hX hT hB F rfl (.head _) N ok.lenT fun h' tk' t5 F N => ?_)
  refine wpAny_execs_cons (law_b6 rfl hX hT hB F rfl N ?lty (by omega) (by omega) fun h' tk' t6 F N => ?_)
  case lty => exact wrap_len ok.lenT
  refine wpAny_execs_cons (law_b7 rfl hX hT hB F N hd hu hk ek fun h' tk' T t0 v1 rest nn F N => ?_)
  refine wpAny_execs_cons (law_b8 rfl hX hT hB F N hd hu rfl rfl (.tail _ (.head _)) ok.reply ok.lenM fun h' tk' F N => ?_)
  refine wpAny_execs_cons (law_b9 rfl hX hT hB F N hd hu rfl rfl (.head _) ok.ans fun h' tk' Da t9 n9 F N => ?_)
  refine wpAny_execs_cons (law_b10 rfl hX hT hB F N hd hu rfl rfl rfl (.tail _ (.head _)) (.head _) hcl fun h' tk' F N => ?_)
  refine wpAny_execs_cons (law_b11 rfl hX hT hB F N hd hu XB TB rfl rfl rfl (.tail _ (.tail _ (.head _))) ok.lenT1 ok.lenT ok.ref fun h' tk' F N => ?_)
  have lrp : (prepS (tyS x (figsV (poV d4 d5 d6 d7 (plV k d3 p1 p2 p3)) (nuV k d8)) (nuV k d8))).length ≤ 100 := by
    rw [ok.reply]; exact wrap_len ok.lenM
  rcases ok.far with ⟨rfl, far, tol⟩ | ⟨rfl, far, tol⟩
  · refine wpAny_execs_cons (law_b12 rfl hX hT hB F N hd hu rfl lrp far fun h' tk' F N => ?_)
    refine wpAny_execs_cons (law_b13_h rfl hX hT hB F N hd hu hk rfl rfl ek ew rfl hW hw lrp lfg tol fun h' tk' F N => ?_)
    refine wpAny_execs_cons (law_b14 rfl hX hT hB F N hd hu er rfl rfl fun h' tk' t14 F N => ?_)
    refine wpAny_execs_nil (h _ _ _ o3' T t0 v1 rest nn t6 t14 F (fun q hq => N q ?_) ⟨_, h3'⟩ es ew ?_ rfl rfl)
    · cases hq with
      | head => exact .tail _ (.head _)
      | tail _ hq => exact .tail _ (.tail _ (.tail _ hq))
    · rw [if_pos rfl]; rfl
  · refine wpAny_execs_cons (law_b12 rfl hX hT hB F N hd hu rfl lrp far fun h' tk' F N => ?_)
    refine wpAny_execs_cons (law_b13_p rfl hX hT hB F N hd hu hk rfl rfl ek ew rfl hW hw lrp lfg tol fun h' tk' F N => ?_)
    refine wpAny_execs_cons (law_b14 rfl hX hT hB F N hd hu er rfl rfl fun h' tk' t14 F N => ?_)
    refine wpAny_execs_nil (h _ _ _ o3' T t0 v1 rest nn t6 t14 F (fun q hq => N q ?_) ⟨_, h3'⟩ es ew ?_ rfl rfl)
    · cases hq with
      | head => exact .tail _ (.head _)
      | tail _ hq => exact .tail _ (.tail _ (.tail _ hq))
    · rw [if_neg not_hp]; rfl
end
end Mine
namespace Mine
open PySem PySem.W PyProof.Rows PySem.Spec PySem.Calls PyProof.V PyProof.Rows.LCg PyProof.Rows.LCt
/-! ## a comprehension without a test over the signs of a text -/
section
variable {prog : Program} {w : World} {A : Around} {E : Value → Shared → Prop} {s : Shared} {h₀ : Heap} {L : Addr} {m : Str → Option Value} {env : Env}
noncomputable def SrcSU (prog : Program) (w : World) (A : Around) (h₀ : Heap) (L : Addr) (m : Str → Option Value) (env : Env) (elt : Expr) (x : Str) (scope : Scope) (cl : List (Str × Addr)) (Q : Value → Shared → Prop) (xv : Value) (s₁ : Shared) : Prop :=
  ∃ y t news, xv = .str y t ∧ A.handled = none ∧ Fr h₀ L s₁.heap m ∧ News h₀ L s₁.heap news ∧ y.cps.size ≤ sizeLine ∧
      ∀ g, LCg.CompRest prog w A h₀ L m env elt x scope cl { s₁ with heap := g } (fun _ => True) (SignAt y) (LCg.FinE h₀ L m { s₁ with heap := g } Q) y.cps.size 0 [] news
theorem comp_rest_U {elt : Expr} {x : Str} {scope : Scope} {cl : List (Str × Addr)} {S : List (Addr × Obj) → Prop} {Fin : List Value → List (Addr × Obj) → Prop} {news : List (Addr × Obj)} {y : Str} (f : Nat → Str)
    (turn : ∀ c u I oI C oC D m₂ ys h tk (E' : Value → Shared → Prop), c ∈ y.cps.toList → NsObj oC m₂ → m₂ x = some (.str ⟨#[c]⟩ u) → Fr h₀ L h m → News h₀ L h ((I, oI) :: (C, oC) :: (D, lst ys) :: news) → LCg.Off3 I C D news → ((@Ne Nat I C) ∧ (@Ne Nat I D) ∧ (@Ne Nat C D)) →
      wpAny (model prog w) A (eval elt (compEnvC scope cl C env)) (LCg.CompEnd h₀ L m { s with heap := h, toks := tk } I oI C oC D (lst ys) S (fun v news' => news' = news ∧ ∃ t, v = .str (f c) t)) E' { s with heap := h, toks := tk })
    (fin : ∀ ys, StrsAre ys (y.cps.toList.map f) → Fin ys news) : LCg.CompRest prog w A h₀ L m env elt x scope cl s S (SignAt y) Fin y.cps.size 0 [] news := by
  have key : ∀ (j i : Nat) (ys : List Value), i + j = y.cps.size → StrsAre ys ((y.cps.toList.take i).map f) → LCg.CompRest prog w A h₀ L m env elt x scope cl s S (SignAt y) Fin j i ys news := by
    intro j
    induction j with
    | zero =>
      intro i ys hi hy
      have e : i = y.cps.toList.length := by rw [Array.length_toList]; omega
      subst e
      rw [List.take_length] at hy
      exact LCg.CompRest.zero (fin ys hy)
    | succ j ih =>
      intro i ys hi hy
      refine LCg.CompRest.succ ?_
      rintro v I oI C oC D m₂ h tk E' ⟨c, u, hc, rfl⟩ hC hx F N off ne
      have hc' : y.cps.toList[i]? = some c := by rw [Array.getElem?_toList]; exact hc
      refine wpAny_mono (turn c u I oI C oC D m₂ ys h tk E' (List.mem_of_getElem? hc') hC hx F N off ne) (fun v s₃ hq => ?_) fun _ _ e => e
      obtain ⟨h', tk', nw, e, F', N', off', hS, hn, t', hv⟩ := hq
      subst hn hv
      refine ⟨h', tk', _, e, F', N', off', hS, ih (i + 1) _ (by omega) ?_⟩
      rw [List.take_add_one, hc']
      simp only [Option.toList_some, List.map_append, List.map_cons, List.map_nil]
      exact kct_snoc hy
  exact key y.cps.size 0 [] (by omega) (by simp only [List.take_zero, List.map_nil]; exact .nil)
theorem ListComp_TU {elt iter : Expr} {x : Str} {px : Pos} {scope : Scope} {cl : List (Str × Addr)} {pos : Pos} {Q : Value → Shared → Prop} (F₀ : Fr h₀ L s.heap m)
    (hclos : closureFor scope env = pure cl) (hcell : ∀ y ∈ scope.names, y.2 ≠ .cell) (hkind : scope.kind = .function)
    (hnames : ∀ y ∈ scope.names, y.2 = .local → scope.names.lookup y.1 = some .local) (hx : scope.names.lookup x = some .local)
    (h : wpAny (model prog w) A (eval iter env) (SrcSU prog w A h₀ L m env elt x scope cl Q) E s)
    (hs : ∀ x, foldedSetIterable iter env x = pure x := by intro _; rfl) :
    wpAny (model prog w) A (eval (.ListComp elt [⟨.Name x px, iter, [], 0⟩] scope pos) env) Q E s := by
  rw [eval_ListComp]
  refine wpAny_comprehension_free (use := none) rfl hs hclos hkind hnames (wpAny_mono h (fun xv s₁ h₁ => ?_) fun _ _ e => e)
  obtain ⟨y, t, news, rfl, hh, F, N, hsz, R⟩ := h₁
  have key : ∀ (n : String), (∀ A' : Around, A'.handled = none → ∀ I : Addr, Walks prog w A' I [I] [I] y.cps.size (SignAt y) (fun i h => h.IsStrIter I n y t i)) →
      wpAny (model prog w) A (newList []) (fun acc s₃ => wpAny (model prog w) A (newFunctionEnv scope env.globals cl [] env.qual none .none (some env)) (fun cenv s₄ =>
        codeAny (model prog w) A (.compStart (.ListComp elt [⟨.Name x px, iter, [], 0⟩] scope pos) 0 (.ref s₁.heap.objs.size) acc { cenv with scope := relabel scope env })
          (compPost (model prog w) A E none Q acc cenv.locals) s₄) E s₃) E
        { s₁ with heap := s₁.heap.push { cls := .type n, data := .fields #[.str y t, .int 0 0] } } := by
    intro n W
    refine LCg.block_U (W A hh s₁.heap.objs.size) hsz (fun i h st => by obtain ⟨o, e, _⟩ := st; exact ⟨o, e⟩) str_st hcell hkind hx ⟨_, Heap.get?_push_size _ rfl, rfl, rfl⟩ (fun b hb => ?_)
      (F.keeps fun _ _ e => Heap.get?_push_of_some _ e) (N.grown fun _ _ e => Heap.get?_push_of_some _ e) (Nat.ne_of_lt F.ns.lt) (next_is_new F) (fun p hp => Nat.ne_of_lt (Heap.lt_size (N p hp).1)) trivial (R _) ?_
    · rw [List.mem_singleton.mp hb]
      show s₁.heap.objs.size < (s₁.heap.push _).objs.size
      rw [Heap.size_push]; exact Nat.lt_succ_self _
    · intro D C h tk m' ys news' F' N' o1 hn hC₀ hD₀ hCL hDL hCD offC fin
      refine ⟨m', hn, fun h'' hs'' => fin D h'' tk (F'.change hs'' hCL hC₀) (fun p hp => ?_) o1⟩
      refine ⟨hs''.extBut _ _ ?_ (N' p hp).1, (N' p hp).2⟩
      rcases List.mem_cons.mp hp with rfl | hp
      · exact Ne.symm hCD
      · exact offC p hp
  cases ha : y.cps.all (· < 128)
  · exact wpAny_pyIter_wide ha (key _ fun A' hA I => Walks.strWide hA I y t)
  · exact wpAny_pyIter_ascii ha (key _ fun A' hA I => Walks.strAscii hA I y t)
end
end Mine
set_option maxHeartbeats 0
namespace Mine
open PySem PySem.W PyProof.Rows PySem.Spec PySem.Calls PyProof.V PyProof.Rows.LCg PyProof.Rows.LCt
section
variable {w : World} {s₀ : Shared} {mg mb : Str → Option Value}
variable {dp un : Nat} {gd : Option (List Code)} {cn : Str} {a : Addr} {ccd : Value} {A₀ : Around} {base h₀ : Heap} {L c1 c2 c3 : Addr} {m : Str → Option Value} {s : Shared} {Q : Flow → Shared → Prop} {E : Value → Shared → Prop} {news : List (Addr × Obj)}
theorem kw55 : True := by
  (k_with "my binaryOp Pow int int" => (k_here; (with_reducible refine pow_int_small (by first | decide | omega) (by first | decide | omega) (by first | decide | omega) ?_)))
  (k_with "my eval IfExp" => (k_here; k_dflt (first | refine IfExp_str ?_ (by decide +kernel) (by decide +kernel) | refine IfExp_int ?_ (by decide) (by decide))))
  (k_with "my binaryOp Add str str" => (k_here; (with_reducible refine add_named (by with_reducible assumption) (by with_reducible assumption) (by exact Nat.le_of_ble_eq_true rfl) ?_); intro z9 t9 tk9 e9 l9; (try dsimp only)))
  (k_with "my binaryOp Mult str int" => (k_here; (with_reducible refine mul3 ?_); intro z9 t9 tk9 e9 l9; (try dsimp only)))
  (k_with "my call type:str" => (k_here; (with_reducible refine str_named (by omega) (by omega) ?_); intro z9 e9 l9; (try dsimp only)))
  trivial
/-- a letter of the word, folded -/
noncomputable def foldC (c : Nat) : Str := mapS (if ((⟨#[c]⟩ : Str) == Str.ofString "h") = true then (13259 : Int) else 13271).toNat
noncomputable def foldS (x : Str) : Str := Txt.join (Str.ofString "") (x.cps.toList.map foldC)
noncomputable def lawT : Stmt := match lawS 4 with
  | .For _ _ body _ _ => body.getD 0 (.Pass default)
  | s => s
theorem kw56 : True := by
  (k_with "my eval ListComp" => (k_here; k_dflt (refine ListComp_TU (F₀ := by k_asm) (by with_unfolding_all rfl) (by decide) (by rfl) (by decide) (by rfl) ?_)))
  (k_with "my call builtin:chr" => (k_here; (with_reducible refine chr_of_range (by with_reducible assumption) (by with_reducible assumption) ?_)))
  (k_with "my call ref" => (k_here; k_dflt (refine c_map (by k_asm) (by k_asm) (by k_asm) (by k_asm) (by k_asm) (by first | exact rfl | assumption) (by ktr_room) (by ktr_units) ?_); intro t9 h9 tk9 F9 N9; (try dsimp only); (try k_fold)))
  trivial
theorem law_w {cs : Scope} (hcs : cs = lawSc) (hX : (kap w.params).In h₀) (hT : Top vw LL (ExcName.means s₀.heap) mg mb h₀) (hB : Below A₀ base [] h₀) (hF' : Fr h₀ L s.heap m) (hN : News h₀ L s.heap news) (hd : dp + 30 < recursionLimit) (hu : un + 8 * 30 < cLine) {x : Str} {t : Tok} (ew : m (Str.ofString "word") = some (.str x t)) (hx : x.length ≤ 8)
    (h : ∀ h' tk' t', Fr h₀ L h' (fun y => if y = Str.ofString "word" then some (.str (foldS x) t') else m y) → News h₀ L h' news → Q .next { s with heap := h', toks := tk' }) :
    wpAny (model PP w) (ktrTop dp un gd cn cs L a ccd (lawCl c1 c2 c3) []) (exec lawT (envX cn cs L a ccd (lawCl c1 c2 c3))) Q E s := by
  conv at hcs => rhs; whnf
  dsimp only at hcs
  subst hcs
  have hF := fr_at1 hF' ew
  clear hF'
  unfold PP; revert hX; k_fill; intro hX
  conv in lawT => whnf
  k_steps
  refine ⟨_, _, _, rfl, rfl, by k_asm, by k_asm, by (rw [sizeLine_eq]; exact Nat.le_trans hx (by decide)), fun g => ?_⟩
  refine comp_rest_U foldC ?turn ?fin
  case turn =>
    intro c u I oI C oC D m₂ ys h tk E' hc hC hx F N off ne
    k_steps
    subst_vars
    (rename Fr _ _ _ _ => F9); (rename News _ _ _ _ => N9)
    exact LCg.CompEnd.intro F9 N9 news (fun p hp => hp) off trivial ⟨rfl, _, rfl⟩
  case fin =>
    intro ys hys D g9 tk F N o1
    k_steps
    obtain ⟨l, rfl, hl⟩ := strsAre_values hys
    refine SC.join (l := l) (texts := x.cps.toList.map foldC) ?l hl ?ok ?_
    case l => exact News.isList N (.head _)
    case ok =>
      have e : x.cps.toList.map foldC = (x.cps.toList.map fun c => (if ((⟨#[c]⟩ : Str) == Str.ofString "h") = true then (13259 : Int) else 13271).toNat).map mapS := by rw [List.map_map]; rfl
      rw [e]
      refine joinOk_of_weight (Nat.le_trans (maps_weight _) ?_) (by decide +kernel)
      have h2 : x.cps.toList.length ≤ 8 := hx
      rw [List.length_map]
      omega
    intro t' k
    k_steps
    (rename Fr _ _ _ _ => F9); (rename News _ _ _ _ => N9)
    exact h _ _ _ (fr_back1 ew F9) (news_tail N9)
/-- the word's three turns -/
theorem fold3 : foldS (foldS (foldS (Str.ofString "h"))) = Str.ofString "hpphphhp" := by decide +kernel
theorem fold1_len : (foldS (Str.ofString "h")).length ≤ 8 := by decide +kernel
theorem fold2_len : (foldS (foldS (Str.ofString "h"))).length ≤ 8 := by decide +kernel
noncomputable def wordT : Nat → Str
  | 0 => Str.ofString "h"
  | n + 1 => foldS (wordT n)
theorem wordT_len : ∀ i, i < 3 → (wordT i).length ≤ 8 := by decide +kernel
/-- a written range, made -/
noncomputable def RangeAt (h₀ : Heap) (L : Addr) (m : Str → Option Value) (news : List (Addr × Obj)) (s : Shared) (n : Int) (xv : Value) (s₁ : Shared) : Prop :=
  ∃ r t u v h' tk, xv = .ref r ∧ s₁ = { s with heap := h', toks := tk } ∧ IsRange h' r 0 n 1 t u v ∧ Fr h₀ L h' m ∧ News h₀ L h' news
theorem law_4 {cs : Scope} (hcs : cs = lawSc) (hX : (kap w.params).In h₀) (hT : Top vw LL (ExcName.means s₀.heap) mg mb h₀) (hB : Below A₀ base [] h₀) (hF' : Fr h₀ L s.heap m) (hN : News h₀ L s.heap news) (hd : dp + 30 < recursionLimit) (hu : un + 8 * 30 < cLine) {t4 : Tok} (ew : m (Str.ofString "word") = some (.str (Str.ofString "h") t4)) (hE : PassesOwn (model PP w) (ktrTop dp un gd cn lawSc L a ccd (lawCl c1 c2 c3) []) (envX cn lawSc L a ccd (lawCl c1 c2 c3)) E)
    (h : ∀ h' tk' m' t', Fr h₀ L h' m' → News h₀ L h' news → (∀ y, y ≠ Str.ofString "word" → y ≠ Str.ofString "turn" → m' y = m y) → m' (Str.ofString "word") = some (.str (Str.ofString "hpphphhp") t') → Q .next { s with heap := h', toks := tk' }) :
    wpAny (model PP w) (ktrTop dp un gd cn cs L a ccd (lawCl c1 c2 c3) []) (exec (lawS 4) (envX cn cs L a ccd (lawCl c1 c2 c3))) Q E s := by
  conv at hcs => rhs; whnf
  dsimp only at hcs
  subst hcs
  have hF := fr_at1 hF' ew
  clear hF'
  conv at hE => (arg 2; arg 5; whnf)
  conv at hE => (arg 3; arg 2; whnf)
  dsimp only at hE
  unfold PP at hE
  unfold PP; revert hX; k_fill; intro hX
  conv in lawS 4 => whnf
  with_unfolding_all refine For_invVF (hE := hE) hF (by exact rfl) (by exact rfl) ?_
  refine wpAny_mono (Q := RangeAt h₀ L (fun y => if y = Str.ofString "word" then some (.str (Str.ofString "h") t4) else m y) news s 3) ?ev (fun xv s₁ q => ?_) fun _ _ e => e
  case ev =>
    k_steps
    exact ⟨_, _, _, _, _, _, rfl, rfl, by assumption, by assumption, by assumption⟩
  obtain ⟨r, t, u, v, h', tk, rfl, rfl, hr, F, N⟩ := q
  refine iter_rangeJ (n := 3) (fun I i m' nx => nx = news ∧ (∀ y, y ≠ Str.ofString "word" → y ≠ Str.ofString "turn" → m' y = m y) ∧ (∃ t', m' (Str.ofString "word") = some (.str (wordT i) t')) ∧ ∀ p ∈ news, p.1 < I) rfl hr (by decide) (by decide) F N (fun I hI => ⟨rfl, fun y h1 _ => if_neg h1, ⟨_, rfl⟩, hI⟩) ?turn ?done
  case turn =>
    rintro I i m' nx t h1 tk1 hi ⟨rfl, hag, ⟨t', hw⟩, hI⟩ F1 N1
    show wpAny (model PP w) _ (execs [lawT] _) _ _ _
    refine wpAny_execs_cons (law_w rfl hX hT hB F1 N1 hd hu (show (if Str.ofString "word" = Str.ofString "turn" then _ else m' (Str.ofString "word")) = _ from (if_neg (by decide +kernel)).trans hw) (wordT_len i hi) fun h2 tk2 t2 F2 N2 => ?_)
    refine wpAny_execs_nil ⟨h2, tk2, _, nx, rfl, F2, N2, fun p hp => Nat.ne_of_lt (hI p hp), rfl, fun y h1 h2 => ?_, ⟨_, if_pos rfl⟩, hI⟩
    exact (if_neg h1).trans ((if_neg h2).trans (hag y h1 h2))
  case done =>
    rintro I m' nx h1 tk1 ⟨rfl, hag, ⟨t', hw⟩, hI⟩ F1 N1
    exact h _ _ m' t' F1 N1 hag (hw.trans (congrArg (fun x => some (Value.str x t')) fold3))
theorem kw57 : True := by
  k_with_none
  trivial
end
end Mine
set_option maxHeartbeats 0
namespace Mine
open PySem PySem.W PyProof.Rows PySem.Spec PySem.Calls PyProof.V PyProof.Rows.LCg PyProof.Rows.LCt
section
variable {w : World} {s₀ : Shared} {mg mb : Str → Option Value}
variable {dp un : Nat} {gd : Option (List Code)} {cn : Str} {a : Addr} {ccd : Value} {A₀ : Around} {base h₀ : Heap} {L c1 c2 c3 : Addr} {m : Str → Option Value} {s : Shared} {Q : Flow → Shared → Prop} {E : Value → Shared → Prop} {news : List (Addr × Obj)}
noncomputable abbrev coreL (S D c1 c2 c3 : Addr) (o1 o2 o3 : Obj) (p1 p2 p3 d0 d1 d2 d3 d4 d5 d6 d7 d8 d9 : Int) (ta tb tc e0 e1 e2 e3 e4 e5 e6 e7 e8 e9 : Tok) : List (Addr × Obj) :=
  [(S, lst [.int p1 ta, .int p2 tb, .int p3 tc]), (D, lst [.int d0 e0, .int d1 e1, .int d2 e2, .int d3 e3, .int d4 e4, .int d5 e5, .int d6 e6, .int d7 e7, .int d8 e8, .int d9 e9]), (c3, o3), (c2, o2), (c1, o1)]
noncomputable abbrev wd8 : Str := Str.ofString "hpphphhp"
noncomputable abbrev xV (i : Nat) : Str := Txt.item wd8 (i : Int)
noncomputable abbrev fgV (i : Nat) (p1 p2 p3 d3 d4 d5 d6 d7 d8 : Int) : Str := figsV (poV d4 d5 d6 d7 (plV i d3 p1 p2 p3)) (nuV i d8)
noncomputable abbrev rpV (i : Nat) (p1 p2 p3 d3 d4 d5 d6 d7 d8 : Int) : Str := prepS (tyS (xV i) (fgV i p1 p2 p3 d3 d4 d5 d6 d7 d8) (nuV i d8))
noncomputable def restV (p1 p2 p3 d3 d4 d5 d6 d7 : Int) : Nat → Int
  | 0 => 0
  | i + 1 => restV p1 p2 p3 d3 d4 d5 d6 d7 i + if xV i = Str.ofString "h" then poV d4 d5 d6 d7 (plV i d3 p1 p2 p3) else - poV d4 d5 d6 d7 (plV i d3 p1 p2 p3)
theorem xV_len (i : Nat) : (xV i).length = 1 := rfl
theorem far_of {h₀ h : Heap} {L T I : Addr} {l : List (Addr × Obj)} {nn : Nat} {xs : Array Value} {a b : Int} (N : News h₀ L h l) (hT : (T, { cls := .type "tuple", data := .seq xs nn }) ∈ l) (hI : (I, itR a b) ∈ l) : T ≠ I := by
  intro e
  have h1 := (N _ hT).1
  have h2 := (N _ hI).1
  dsimp only at h1 h2
  rw [e, h2] at h1
  have := congrArg (fun o : Option Obj => o.map Obj.cls) h1
  simp [itR] at this
theorem peerName_ok : ∀ i, i < 8 → (PyData.str (Str.ofString "x" ++ Str.ofString (toString ((i : Nat) : Int)))).canLay0 = true := by decide +kernel
theorem law_6 {S D : Addr} {o1 o2 o3 : Obj} {tw tr ta tb tc : Tok} {p1 p2 p3 : Int} {d0 d1 d2 d3 d4 d5 d6 d7 d8 d9 : Int} {e0 e1 e2 e3 e4 e5 e6 e7 e8 e9 : Tok} {v3 : Option Value} {cs : Scope} (hcs : cs = lawSc) (hX : (kap w.params).In h₀) (hT : Top vw LL (ExcName.means s₀.heap) mg mb h₀) (hB : Below A₀ base [] h₀)
    (XB : (kap w.params).In base) (TB : Top vw LL (ExcName.means s₀.heap) mg mb base) (hd : dp + 30 < recursionLimit) (hu : un + 8 * 30 < cLine) (hE : PassesOwn (model PP w) (ktrTop dp un gd cn lawSc L a ccd (lawCl c1 c2 c3) []) (envX cn lawSc L a ccd (lawCl c1 c2 c3)) E)
    (h2 : o2.data = .cell (some (.ref D))) (h3 : o3.data = .cell v3) (hF : Fr h₀ L s.heap m) (es : m (Str.ofString "steps") = some (.ref S)) (ew : m (Str.ofString "word") = some (.str wd8 tw)) (er : m (Str.ofString "rest") = some (.int 0 tr))
    (hN : News h₀ L s.heap (coreL S D c1 c2 c3 o1 o2 o3 p1 p2 p3 d0 d1 d2 d3 d4 d5 d6 d7 d8 d9 ta tb tc e0 e1 e2 e3 e4 e5 e6 e7 e8 e9)) (n1 : @Ne Nat S c3) (n2 : @Ne Nat D c3) (n3 : @Ne Nat c2 c3) (n4 : @Ne Nat c1 c3)
    (ok : ∀ k, k < 8 → (-10000 ≤ plV k d3 p1 p2 p3 ∧ plV k d3 p1 p2 p3 ≤ 10000) ∧ -10000000000000 < poV d4 d5 d6 d7 (plV k d3 p1 p2 p3) ∧ poV d4 d5 d6 d7 (plV k d3 p1 p2 p3) < 10000000000000 ∧
      TurnOk (xV k) (fgV k p1 p2 p3 d3 d4 d5 d6 d7 d8) (nuV k d8) (poV d4 d5 d6 d7 (plV k d3 p1 p2 p3)))
    (h : ∀ h' tk' m' o3' T t0 v1 rest nn tq tr', Fr h₀ L h' m' → News h₀ L h' ((T, { cls := .type "tuple", data := .seq (.str (Str.ofString "x" ++ Str.ofString (toString ((7 : Nat) : Int))) t0 :: v1 :: rest).toArray nn }) :: coreL S D c1 c2 c3 o1 o2 o3' p1 p2 p3 d0 d1 d2 d3 d4 d5 d6 d7 d8 d9 ta tb tc e0 e1 e2 e3 e4 e5 e6 e7 e8 e9) →
      m' (Str.ofString "steps") = some (.ref S) → m' (Str.ofString "rest") = some (.int (restV p1 p2 p3 d3 d4 d5 d6 d7 8) tr') → m' (Str.ofString "peer") = some (.ref T) →
      m' (Str.ofString "reply") = some (.str (rpV 7 p1 p2 p3 d3 d4 d5 d6 d7 d8) tq) → Q .next { s with heap := h', toks := tk' }) :
    wpAny (model PP w) (ktrTop dp un gd cn cs L a ccd (lawCl c1 c2 c3) []) (exec (lawS 6) (envX cn cs L a ccd (lawCl c1 c2 c3))) Q E s := by
  conv at hcs => rhs; whnf
  dsimp only at hcs
  subst hcs
  conv at hE => (arg 2; arg 5; whnf)
  conv at hE => (arg 3; arg 2; whnf)
  dsimp only at hE
  unfold PP at hE
  unfold PP; revert hX; k_fill; intro hX
  conv in lawS 6 => whnf
  with_unfolding_all refine For_invVF (hE := hE) hF (by exact rfl) (by exact rfl) ?_
  refine wpAny_mono (Q := RangeAt h₀ L m (coreL S D c1 c2 c3 o1 o2 o3 p1 p2 p3 d0 d1 d2 d3 d4 d5 d6 d7 d8 d9 ta tb tc e0 e1 e2 e3 e4 e5 e6 e7 e8 e9) s 8) ?ev (fun xv s₁ q => ?_) fun _ _ e => e
  case ev =>
    k_steps
    exact ⟨_, _, _, _, _, _, rfl, rfl, by assumption, by assumption, by assumption⟩
  obtain ⟨r, t, u, v, h', tk, rfl, rfl, hr, F, N⟩ := q
  refine iter_rangeJ (n := 8) (fun I i m' nx => ∃ o3', (∃ v, o3'.data = .cell v) ∧ (∀ q ∈ coreL S D c1 c2 c3 o1 o2 o3' p1 p2 p3 d0 d1 d2 d3 d4 d5 d6 d7 d8 d9 ta tb tc e0 e1 e2 e3 e4 e5 e6 e7 e8 e9, q ∈ nx) ∧ (∀ p ∈ nx, p.1 ≠ I) ∧ m' (Str.ofString "steps") = some (.ref S) ∧ (∃ t, m' (Str.ofString "word") = some (.str wd8 t)) ∧ (∃ t, m' (Str.ofString "rest") = some (.int (restV p1 p2 p3 d3 d4 d5 d6 d7 i) t)) ∧
    (i = 0 ∨ ∃ j T t0 v1 rest nn tq, i = j + 1 ∧ (T, { cls := .type "tuple", data := .seq (.str (Str.ofString "x" ++ Str.ofString (toString ((j : Nat) : Int))) t0 :: v1 :: rest).toArray nn }) ∈ nx ∧ m' (Str.ofString "peer") = some (.ref T) ∧ m' (Str.ofString "reply") = some (.str (rpV j p1 p2 p3 d3 d4 d5 d6 d7 d8) tq)))
    rfl hr (by decide) (by decide) F N (fun I hI => ⟨o3, ⟨_, h3⟩, fun q hq => hq, fun p hp => Nat.ne_of_lt (hI p hp), es, ⟨_, ew⟩, ⟨_, er⟩, .inl rfl⟩) ?turn ?done
  case turn =>
    rintro I i m' nx t h1 tk1 hi ⟨o3', ⟨v3', hv3⟩, hsub, hoff, hs, ⟨t2, hw⟩, ⟨t3, hr3⟩, _⟩ F1 N1
    obtain ⟨q1, q2, q3, q4⟩ := ok i hi
    rw [Int.zero_add] at F1
    have n0 : @Ne Nat I c3 := fun e => hoff _ (hsub _ (.tail _ (.tail _ (.head _)))) e.symm
    show wpAny (model PP w) _ (execs [lawF 0, lawF 1, lawF 2, lawF 3, lawF 4, lawF 5, lawF 6, lawF 7, lawF 8, lawF 9, lawF 10, lawF 11, lawF 12, lawF 13, lawF 14] _) _ _ _
    have N2 : News h₀ L h1 ((I, itR (0 + ((i + 1 : Nat) : Int)) (((8 : Nat) : Int) - ((i + 1 : Nat) : Int))) :: coreL S D c1 c2 c3 o1 o2 o3' p1 p2 p3 d0 d1 d2 d3 d4 d5 d6 d7 d8 d9 ta tb tc e0 e1 e2 e3 e4 e5 e6 e7 e8 e9) := fun q hq => N1 q (by
      rcases List.mem_cons.mp hq with rfl | hq
      · exact .head _
      · exact .tail _ (hsub q hq))
    refine law_turn hi hX hT hB XB TB h2 hv3 F1 (if_pos rfl) ((if_neg (by decide +kernel)).trans hs) ((if_neg (by decide +kernel)).trans hw) ((if_neg (by decide +kernel)).trans hr3) (by decide +kernel) rfl (xV_len i) N2 hd hu n0 n1 n2 n3 n4 q1 q2 q3 q4 (peerName_ok i hi) ?_
    intro h' tk' m'' o3'' T t0 v1 rest nn tq tr' F' N' hc3 es' ew' er' ep' eq'
    have off : ∀ p ∈ (T, ({ cls := .type "tuple", data := .seq (.str (Str.ofString "x" ++ Str.ofString (toString (i : Int))) t0 :: v1 :: rest).toArray nn } : Obj)) :: coreL S D c1 c2 c3 o1 o2 o3'' p1 p2 p3 d0 d1 d2 d3 d4 d5 d6 d7 d8 d9 ta tb tc e0 e1 e2 e3 e4 e5 e6 e7 e8 e9, p.1 ≠ I :=
      List.forall_mem_cons.mpr ⟨far_of N' (.head _) (.tail _ (.head _)), List.forall_mem_cons.mpr ⟨hoff _ (hsub _ (.head _)), List.forall_mem_cons.mpr ⟨hoff _ (hsub _ (.tail _ (.head _))), List.forall_mem_cons.mpr ⟨(fun e => n0 e.symm), List.forall_mem_cons.mpr ⟨hoff _ (hsub _ (.tail _ (.tail _ (.tail _ (.head _))))), List.forall_mem_cons.mpr ⟨hoff _ (hsub _ (.tail _ (.tail _ (.tail _ (.tail _ (.head _)))))), fun _ z => nomatch z⟩⟩⟩⟩⟩⟩
    refine ⟨h', tk', m'', _, rfl, F', (fun q hq => N' q ?_), off, o3'', hc3, (fun q hq => .tail _ hq), off, es', ⟨_, ew'⟩, ⟨tr', er'⟩, .inr ⟨i, T, t0, v1, rest, nn, tq, rfl, .head _, ep', eq'⟩⟩
    rcases List.mem_cons.mp hq with rfl | hq
    · exact .tail _ (.head _)
    · rcases List.mem_cons.mp hq with rfl | hq
      · exact .head _
      · exact .tail _ (.tail _ hq)
  case done =>
    rintro I m' nx h1 tk1 ⟨o3', ⟨v3', hv3⟩, hsub, hoff, hs, ⟨t2, hw⟩, ⟨t3, hr3⟩, (h0 | ⟨j, T, t0, v1, rest, nn, tq, hj, hTm, hp, hrp⟩)⟩ F1 N1
    · cases h0
    · obtain rfl : j = 7 := by omega
      exact h h1 tk1 m' o3' T t0 v1 rest nn tq t3 F1 (fun q hq => N1 q (by
        rcases List.mem_cons.mp hq with rfl | hq
        · exact hTm
        · exact hsub q hq)) hs hr3 hp hrp
end
end Mine
set_option maxHeartbeats 0
namespace Mine
open PySem PySem.W PyProof.Rows PySem.Spec PySem.Calls PyProof.V PyProof.Rows.LCg PyProof.Rows.LCt
section
variable {w : World} {s₀ : Shared} {mg mb : Str → Option Value}
variable {dp un : Nat} {gd : Option (List Code)} {cn : Str} {a : Addr} {ccd : Value} {A₀ : Around} {base h₀ : Heap} {L c1 c2 c3 : Addr} {m : Str → Option Value} {s : Shared} {Q : Flow → Shared → Prop} {E : Value → Shared → Prop} {news : List (Addr × Obj)}
theorem kw58 : True := by
  (k_with "my exec Assign cons ListComp" => (k_here; refine wpAny_Assign_Name ?_ (by kernel_rfl)))
  (k_with "my eval ListComp" => (k_here; k_dflt (refine ListComp_En (by k_asm) (by with_unfolding_all rfl) (by decide) (by rfl) (by decide) (by rfl) (by rfl) (by decide) ?_)))
  (k_with "my call builtin:sum" => (k_here; (with_unfolding_all refine sum_pick (by assumption) rfl (by k_asm) (by k_asm) (List.Mem.head _) ?_); intro c' h' tk' t' F' N'))
  trivial
theorem law_0 {cs : Scope} (hcs : cs = lawSc) (hX : (kap w.params).In h₀) (hT : Top vw LL (ExcName.means s₀.heap) mg mb h₀) (hB : Below A₀ base [] h₀) (hF' : Fr h₀ L s.heap m) (hN : News h₀ L s.heap news) (hd : dp + 30 < recursionLimit) (hu : un + 8 * 30 < cLine) 
    (h : ∀ h' tk' T t0 t1 t2 t3 t4 t5 t6 t7 t8 t9, Fr h₀ L h' (fun y => if y = Str.ofString "owns" then some (.ref T) else m y) → News h₀ L h' ((T, { cls := .type "tuple", data := .seq #[.int 307 t0, .int 288 t1, .int 331 t2, .int 505 t3, .int 511 t4, .int 498 t5, .int 501 t6, .int 503 t7, .int 1933 t8, .int 250 t9] }) :: news) → Q .next { s with heap := h', toks := tk' }) :
    wpAny (model PP w) (ktrTop dp un gd cn cs L a ccd (lawCl c1 c2 c3) []) (exec (lawS 0) (envX cn cs L a ccd (lawCl c1 c2 c3))) Q E s := by
  conv at hcs => rhs; whnf
  dsimp only at hcs
  subst hcs
  unfold PP; revert hX; k_fill; intro hX
  conv in lawS 0 => whnf
  k_steps
  (rename Fr _ _ _ _ => F9); (rename News _ _ _ _ => N9)
  exact h _ _ _ _ _ _ _ _ _ _ _ _ _ F9 N9
theorem law_1 {cs : Scope} (hcs : cs = lawSc) {S T : Addr} {vs : List Value} {ns : List Int} {o1 o2 o3 : Obj} {t0 t1 t2 t3 t4 t5 t6 t7 t8 t9 : Tok} (hX : (kap w.params).In h₀) (hT : Top vw LL (ExcName.means s₀.heap) mg mb h₀) (hB : Below A₀ base [] h₀)
    (hL : h₀.IsList S vs.toArray) (hI : IntsAre vs ns) (hn : ns.length ≤ 63) (h1 : o1.data = .cell (some (.ref S))) (v2 : Option Value) (h2 : o2.data = .cell v2) (hd : dp + 30 < recursionLimit) (hu : un + 8 * 30 < cLine)
    (hF' : Fr h₀ L s.heap m) (eo : m (Str.ofString "owns") = some (.ref T)) (n12 : @Ne Nat c1 c2) (n23 : @Ne Nat c3 c2) (n2T : @Ne Nat T c2)
    (hN : News h₀ L s.heap [(T, { cls := .type "tuple", data := .seq #[.int 307 t0, .int 288 t1, .int 331 t2, .int 505 t3, .int 511 t4, .int 498 t5, .int 501 t6, .int 503 t7, .int 1933 t8, .int 250 t9] }), (c3, o3), (c2, o2), (c1, o1)])
    (h : ∀ D h' tk o2' m' d0 e0 d1 e1 d2 e2 d3 e3 d4 e4 d5 e5 d6 e6 d7 e7 d8 e8 d9 e9, Fr h₀ L h' m' → News h₀ L h' [(D, lst [.int d0 e0, .int d1 e1, .int d2 e2, .int d3 e3, .int d4 e4, .int d5 e5, .int d6 e6, .int d7 e7, .int d8 e8, .int d9 e9]), (c3, o3), (c2, o2'), (c1, o1)] →
      o2'.data = .cell (some (.ref D)) → (@Ne Nat D c1) → (@Ne Nat D c2) → (@Ne Nat D c3) → Q .next { s with heap := h', toks := tk }) :
    wpAny (model PP w) (ktrTop dp un gd cn cs L a ccd (lawCl c1 c2 c3) []) (exec (lawS 1) (envX cn cs L a ccd (lawCl c1 c2 c3))) Q E s := by
  conv at hcs => rhs; whnf
  dsimp only at hcs
  subst hcs
  have hF := fr_at1 hF' eo
  clear hF'
  unfold PP; revert hX; k_fill; intro hX
  conv in lawS 1 => whnf
  k_steps
  refine call_enum_src rfl (by k_asm) (by k_asm) (List.Mem.head _) (by rw [sizeLine_eq]; simp) ?_ ?_
  · intro i x t I oI C oC D ys J oJ m₂ h' tk E' hx hC ha hb F' N' off ne
    obtain ⟨c, tc, rfl⟩ : ∃ c t, x = .int c t := by
      have hm := Array.mem_of_getElem? hx
      simp only [List.mem_toArray, List.mem_cons, List.not_mem_nil, or_false] at hm
      rcases hm with rfl | rfl | rfl | rfl | rfl | rfl | rfl | rfl | rfl | rfl <;> exact ⟨_, _, rfl⟩
    have hi10 : i < 10 := by
      rcases Nat.lt_or_ge i 10 with z | z
      · exact z
      · rw [Array.getElem?_eq_none (by simpa using z)] at hx; cases hx
    clear hx
    k_steps
    (rename Fr _ _ _ _ => F9); (rename News _ _ _ _ => N9)
    exact CompEnd.intro F9 N9 _ (fun p hp => List.mem_cons_of_mem _ hp) off trivial ⟨rfl, _, _, rfl⟩
  · intro ys hlen hys D h' tk F' N' off
    obtain ⟨d0, e0, d1, e1, d2, e2, d3, e3, d4, e4, d5, e5, d6, e6, d7, e7, d8, e8, d9, e9, rfl⟩ := ten_of hlen hys
    simp only [Off1, and_true] at off
    obtain ⟨m1, m2, m3, m4⟩ := off
    refine storeX_C F' N' (by rfl) (UpdF.tail (Ne.symm m3) (UpdF.tail n2T (UpdF.tail n23 (UpdF.head (by intro p hp; simp only [List.mem_singleton] at hp; rw [hp]; exact n12))))) h2 ?_ (by kernel_rfl) (by kernel_rfl)
    intro h'' o' F'' N'' hd''
    exact h D h'' tk o' _ _ _ _ _ _ _ _ _ _ _ _ _ _ _ _ _ _ _ _ _ F'' (fun p hp => N'' p (by rcases List.mem_cons.mp hp with rfl | hp; exact List.mem_cons_self ..; exact List.mem_cons_of_mem _ (List.mem_cons_of_mem _ hp))) hd'' (Ne.symm m4) (Ne.symm m3) (Ne.symm m2)
theorem kw59 : True := by
  k_with_none
  trivial
end
end Mine
set_option maxHeartbeats 0
namespace Mine
open PySem PySem.W PyProof.Rows PySem.Spec PySem.Calls PyProof.V PyProof.Rows.LCg PyProof.Rows.LCt
section
variable {w : World} {s₀ : Shared} {mg mb : Str → Option Value}
variable {dp un : Nat} {gd : Option (List Code)} {cn : Str} {a : Addr} {ccd : Value} {A₀ : Around} {base h₀ : Heap} {L c1 c2 c3 : Addr} {m : Str → Option Value} {s : Shared} {Q : Flow → Shared → Prop} {E : Value → Shared → Prop} {news : List (Addr × Obj)}
theorem kw60 : True := by
  (k_with "my exec Assign cons ListComp" => (k_here; refine wpAny_Assign_Name ?_ (by kernel_rfl)))
  (k_with "my CompSrc" => (k_here; k_dflt (refine LCg.CompSrc.range (by rfl) (by k_asm) (by k_asm) (by assumption) (by first | decide | rfl) (by first | rfl | decide) (by first | size_fits | exact Nat.le_of_ble_eq_true rfl) ?_; intro g')))
  (k_with "my CompRest" => (with_unfolding_all first | (refine LCg.CompRest.succ ?_; intro v' I' oI' C' oC' D' m' h' tk' E' hv' hC' hx' F' N' off' ne'; obtain ⟨t9', hv9'⟩ := hv'; subst hv9') | refine LCg.CompRest.zero ?_))
  (k_with "my CompEnd" => ((rename Fr _ _ _ _ => F9); (rename News _ _ _ _ => N9); (rename LCg.Off3 _ _ _ _ => off9); (with_reducible refine LCg.CompEnd.intro F9 N9 _ (fun p hp => hp) off9 trivial ?_)))
  trivial
theorem law_2 {cs : Scope} (hcs : cs = lawSc) {D : Addr} {o1 o2 o3 : Obj} {d0 d1 d2 d3 d4 d5 d6 d7 d8 d9 : Int} {e0 e1 e2 e3 e4 e5 e6 e7 e8 e9 : Tok} (hX : (kap w.params).In h₀) (hT : Top vw LL (ExcName.means s₀.heap) mg mb h₀)
    (h2 : o2.data = .cell (some (.ref D))) (hF : Fr h₀ L s.heap m) (hd : dp + 30 < recursionLimit) (hu : un + 8 * 30 < cLine)
    (hN : News h₀ L s.heap [(D, lst [.int d0 e0, .int d1 e1, .int d2 e2, .int d3 e3, .int d4 e4, .int d5 e5, .int d6 e6, .int d7 e7, .int d8 e8, .int d9 e9]), (c3, o3), (c2, o2), (c1, o1)])
    (h : ∀ S h' tk ta tb tc, Fr h₀ L h' (fun z => if z = Str.ofString "steps" then some (.ref S) else m z) → News h₀ L h' [(S, lst [.int (d0.fmod 1000 - 300) ta, .int (d1.fmod 1000 - 300) tb, .int (d2.fmod 1000 - 300) tc]), (D, lst [.int d0 e0, .int d1 e1, .int d2 e2, .int d3 e3, .int d4 e4, .int d5 e5, .int d6 e6, .int d7 e7, .int d8 e8, .int d9 e9]), (c3, o3), (c2, o2), (c1, o1)] →
      (@Ne Nat D S) → (@Ne Nat c3 S) → (@Ne Nat c2 S) → (@Ne Nat c1 S) → Q .next { s with heap := h', toks := tk }) :
    wpAny (model PP w) (ktrTop dp un gd cn cs L a ccd (lawCl c1 c2 c3) []) (exec (lawS 2) (envX cn cs L a ccd (lawCl c1 c2 c3))) Q E s := by
  conv at hcs => rhs; whnf
  dsimp only at hcs
  subst hcs
  unfold PP; revert hX; k_fill; intro hX
  conv in lawS 2 => whnf
  k_dflt (refine LCg.Assign_ListComp_U (F₀ := by k_asm) (by rfl) (by kernel_rfl) (by with_unfolding_all rfl) (by decide) (by rfl) (by decide) (by rfl) (by kernel_rfl) (by kernel_rfl) ?_)
  k_steps
  rename (_ ∧ _) => o9
  obtain ⟨q1, q2, q3, q4⟩ := o9
  (rename Fr _ _ _ _ => F9); (rename News _ _ _ _ => N9)
  exact h _ _ _ _ _ _ F9 N9 q1 q2 q3 q4
theorem law_3 {cs : Scope} (hcs : cs = lawSc) (hX : (kap w.params).In h₀) (hT : Top vw LL (ExcName.means s₀.heap) mg mb h₀) (hB : Below A₀ base [] h₀) (hF' : Fr h₀ L s.heap m) (hN : News h₀ L s.heap news) (hd : dp + 30 < recursionLimit) (hu : un + 8 * 30 < cLine)
    (h : ∀ h' tk' t', Fr h₀ L h' (fun y => if y = Str.ofString "word" then some (.str (Str.ofString "h") t') else m y) → News h₀ L h' news → Q .next { s with heap := h', toks := tk' }) :
    wpAny (model PP w) (ktrTop dp un gd cn cs L a ccd (lawCl c1 c2 c3) []) (exec (lawS 3) (envX cn cs L a ccd (lawCl c1 c2 c3))) Q E s := by
  conv at hcs => rhs; whnf
  dsimp only at hcs
  subst hcs
  unfold PP; revert hX; k_fill; intro hX
  conv in lawS 3 => whnf
  k_steps
  (rename Fr _ _ _ _ => F9); (rename News _ _ _ _ => N9)
  exact h _ _ _ F9 N9
theorem law_5 {cs : Scope} (hcs : cs = lawSc) (hX : (kap w.params).In h₀) (hT : Top vw LL (ExcName.means s₀.heap) mg mb h₀) (hB : Below A₀ base [] h₀) (hF' : Fr h₀ L s.heap m) (hN : News h₀ L s.heap news) (hd : dp + 30 < recursionLimit) (hu : un + 8 * 30 < cLine)
    (h : ∀ h' tk' t', Fr h₀ L h' (fun y => if y = Str.ofString "rest" then some (.int 0 t') else m y) → News h₀ L h' news → Q .next { s with heap := h', toks := tk' }) :
    wpAny (model PP w) (ktrTop dp un gd cn cs L a ccd (lawCl c1 c2 c3) []) (exec (lawS 5) (envX cn cs L a ccd (lawCl c1 c2 c3))) Q E s := by
  conv at hcs => rhs; whnf
  dsimp only at hcs
  subst hcs
  unfold PP; revert hX; k_fill; intro hX
  conv in lawS 5 => whnf
  k_steps
  (rename Fr _ _ _ _ => F9); (rename News _ _ _ _ => N9)
  exact h _ _ _ F9 N9
theorem bool_true_Q {Q : Flow → Shared → Prop} {b : Bool} {s : Shared} (e : b = true) (h : Q (.ret (.bool true)) s) : Q (.ret (.bool b)) s := by rw [e]; exact h
theorem law_8 {cs : Scope} (hcs : cs = lawSc) (hX : (kap w.params).In h₀) (hT : Top vw LL (ExcName.means s₀.heap) mg mb h₀) (hB : Below A₀ base [] h₀) (hF' : Fr h₀ L s.heap m) (hN : News h₀ L s.heap news) (hd : dp + 30 < recursionLimit) (hu : un + 8 * 30 < cLine) {S D : Addr} {o2 : Obj} {rs p1 p2 p3 : Int} {tr ta tb tc : Tok} {d0 d1 d2 d3 d4 d5 d6 d7 d8 d9 : Int} {e0 e1 e2 e3 e4 e5 e6 e7 e8 e9 : Tok} (h2 : o2.data = .cell (some (.ref D))) (hm2 : (c2, o2) ∈ news) (hmD : (D, lst [.int d0 e0, .int d1 e1, .int d2 e2, .int d3 e3, .int d4 e4, .int d5 e5, .int d6 e6, .int d7 e7, .int d8 e8, .int d9 e9]) ∈ news) (hmS : (S, lst [.int p1 ta, .int p2 tb, .int p3 tc]) ∈ news)
    (er : m (Str.ofString "rest") = some (.int rs tr)) (es : m (Str.ofString "steps") = some (.ref S)) (q1 : -1000 ≤ p1 ∧ p1 ≤ 1000) (q2 : -1000 ≤ p2 ∧ p2 ≤ 1000) (q3 : -1000 ≤ p3 ∧ p3 ≤ 1000) (hrs : rs = -6 * (d7.fmod 1000 - 500) * p1 * p2 * p3)
    (h : ∀ h' tk' , Fr h₀ L h' m → News h₀ L h' news → Q (.ret (.bool true)) { s with heap := h', toks := tk' }) :
    wpAny (model PP w) (ktrTop dp un gd cn cs L a ccd (lawCl c1 c2 c3) []) (exec (lawS 8) (envX cn cs L a ccd (lawCl c1 c2 c3))) Q E s := by
  conv at hcs => rhs; whnf
  dsimp only at hcs
  subst hcs
  have hF := fr_at2 hF' er es
  have hN' := news_cons (List.mem_cons_of_mem _ (List.mem_cons_of_mem _ hmS)) (news2 hmD hm2 hN)
  clear hF' hN
  unfold PP; revert hX; k_fill; intro hX
  conv in lawS 8 => whnf
  k_steps
  (rename Fr _ _ _ _ => F9); (rename News _ _ _ _ => N9)
  refine bool_true_Q ?e (h _ _ (fr_drop2 er es F9) (fun q hq => N9 q (List.mem_cons_of_mem _ (List.mem_cons_of_mem _ (List.mem_cons_of_mem _ hq)))))
  clear h
  rw [show [d0, d1, d2, d3, d4, d5, d6, d7, d8, d9].getD (Int.toNat 7) 0 = d7 from rfl, show [p1, p2, p3].getD (Int.toNat 0) 0 = p1 from rfl, show [p1, p2, p3].getD (Int.toNat 1) 0 = p2 from rfl, show [p1, p2, p3].getD (Int.toNat 2) 0 = p3 from rfl, ← hrs]
  exact beq_self_eq_true _
theorem kw61 : True := by
  k_with_none
  trivial
end
end Mine
set_option maxHeartbeats 4000000
namespace Mine
open PySem PySem.W PyProof.Rows PySem.Spec PySem.Calls PyProof.V PyProof.Rows.LCg PyProof.Rows.LCt
section
variable {w : World} {s₀ : Shared} {mg mb : Str → Option Value} {news : List (Addr × Obj)}
local macro_rules | `(tactic| k_mem) => `(tactic| with_reducible_and_instances assumption)
theorem kw62 : True := by
  (k_with "my mine inner" => (refine' code_def ?k1 ?k2 ?k3 ?k4 ?k5 ?kA ?kF ?kK ?k6 ?k7 ?k8 ?k9 ?kB ?_ ?c2 ?c3 ?c4 ?c5; (case kA => exact rfl); (case kF => exact rfl); (case kK => first | exact rfl | assumption); (case k1 => k_asm); (case k2 => k_asm); (case k3 => k_asm); (case k4 => k_asm); (case k5 => k_asm); (case k6 => k_is); (case k7 => k_is); (case k8 => ktr_room); (case k9 => exact BindsTo.of_eq rfl); (case c5 => decide); (case kB => exact locs rfl); (case c2 => exact rfl); (case c3 => exact rfl); (case c4 => exact rfl); k_whole; intro g' L' h' FG' F' N' B' X' T'; (try dsimp only); (try k_fold)))
  (k_with "my mine innerC" => (refine' codeC_def ?k1 ?k2 ?k3 ?k4 ?k5 ?kA ?kF ?kK ?k6 ?k7 ?k8 ?k9 ?kB ?_ ?c2 ?c3 ?c4 ?c5; (case kA => exact rfl); (case kF => exact rfl); (case kK => first | exact rfl | assumption); (case k1 => k_asm); (case k2 => k_asm); (case k3 => k_asm); (case k4 => k_asm); (case k5 => k_asm); (case k6 => k_is); (case k7 => k_is); (case k8 => ktr_room); (case k9 => exact BindsTo.of_eq rfl); (case c5 => decide); (case kB => exact locs rfl); (case c2 => exact rfl); (case c3 => exact rfl); (case c4 => exact rfl); k_whole; intro g' L' h' FG' F' N' B' X' T'; (try dsimp only); (try k_fold)))
  (k_with "my subscriptTail Name Constant ref int" => (k_here; k_dflt (refine item_tupleT (l := _ :: _) (News.isTup (by k_asm) (by k_mem)) (by decide) (by decide) seq0 rfl ?_)))
  (k_with "my call builtin:str.split" => (k_here; (with_reducible show wpAny _ _ (call (Value.builtin "str.split") _) _ _ _); (rename Txt.split _ _ = _ => hs9); (refine KSpl.split1 (by k_asm) (by k_asm) (by (rw [beq_eq_false_iff_ne]; omega)) ?_ (by rw [sizeLine_eq]; omega)); (intro D' l' h' k' e' a' F' N' l1); (rw [hs9] at e'); (kspl_open e'); (simp only [strValues, List.map_cons, List.map_nil] at N' a')))
  (k_with "my subscriptTail Name BinOp str int" => (k_here; (refine KXi.item rfl (by omega) (by omega) (by omega) ?_); intro kxiE))
  (k_with "my subscriptTail Name Constant str int" => (k_here; (refine KXi.item rfl (by omega) (by omega) (by omega) ?_); intro kxiE))
  (k_with "my call ref" => (k_here; first | (k_dflt (refine c_refusedR (by with_reducible assumption) (by k_asm) (by k_asm) (by k_asm) (by k_asm) (by k_asm) (by assumption) (by assumption) (by assumption) (by first | assumption | exact KtsTurn.refl) (by first | exact rfl | assumption) (by ktr_room) (by ktr_units) ?_); intro g9 t9 h9 tk9 T9 F9 N9 B9 X9 P9 D9; (try dsimp only); (try k_fold)) | (k_dflt (refine c_229A (by with_reducible assumption) (by k_asm) (by k_asm) (by k_asm) (by k_asm) (by k_asm) (by k_mem) (by first | exact rfl | assumption) (by ktr_room) (by ktr_units) ?_); intro D9 t9 n9 h9 tk9 F9 N9 l9; (try dsimp only); (try k_fold)) | ((with_reducible show wpAny _ _ (call (Value.ref 58) _) _ _ _); (refine wpAny_call ?_); k_dflt (walk_at "mine inner"))))
  (k_with "my call type:str" => (k_here; k_dflt (refine own_str_got (by ktr_units) (Frag.In.keeps (by k_asm) (Fr.keep (by assumption))) (by assumption) (by assumption) (by k_is) (by k_is) ?_)))
  (k_with "my exec For Name Tuple cons nil" => (k_here; (with_unfolding_all refine For_S ?_)))
  (k_with "my pyIter ref" => (k_here; (with_unfolding_all refine iter_spoilt (by rfl) (by k_asm) (by k_asm) (by k_asm) (by k_asm) (by k_asm) (by assumption) (by k_mem) (by rfl) (by rfl) (by exact all8 (by with_reducible assumption) (by with_reducible assumption) (by with_reducible assumption) (by with_reducible assumption) (by with_reducible assumption) (by with_reducible assumption) (by with_reducible assumption) (by with_reducible assumption)) ?_ ?_); (intro i9 io9 g9 h9 tk9 o9 x9 t9 l9 r9 T9 B9 X9 P9 D9 F9 N9; rotate_left); (intro g9 h9 tk9 o9 T9 B9 X9 P9 D9 F9 N9; rotate_left)))
  (k_with "my StepS" => (with_unfolding_all refine stepS_mine (by k_asm) (by k_asm) (by k_asm) (by assumption) (by assumption) (by assumption) js_intro (by first | assumption | (refine' cb_drop ?cbN ?cbS; (case cbN => assumption); (case cbS => kcj_all)))))
  (k_with "my compareOp Eq ref ref" => (k_here; (with_reducible show wpAny _ _ (compareOp CmpOp.Eq (Value.ref _) (Value.ref _)) _ _ _); k_dflt (refine eq_peers (by k_asm) (by k_mem) (by k_mem) (by assumption) (by first | units_room | ktr_units | exact Nat.le_of_ble_eq_true rfl) ?_)))
  (k_with "my mine enterC" => (refine' codeC_defX0 ?k1 ?k2 ?k3 ?k4 ?k5 ?kA ?k6 ?k7 ?k8 ?k9 ?kB ?_ ?cK ?c2 ?c3 ?c4 ?c5; (case kA => exact rfl); (case k2 => k_asm); (case k1 => k_asm); (case k3 => k_asm); (case k4 => k_asm); (case k5 => k_asm); (case k6 => k_is); (case k7 => k_is); (case k8 => ktr_room); (case k9 => exact BindsTo.of_eq rfl); (case kB => exact locs rfl); (case cK => assumption); (case c2 => exact rfl); (case c3 => exact rfl); (case c4 => exact rfl); (case c5 => decide); k_whole; intro g' L' h' FG' F' N' B' X' T' D'; (try dsimp only); (try k_fold)))
  trivial
theorem c_spoilt {r : Str} {t tn : Tok} {num : Int} {T : Addr} {v0 : Value} {rest : List Value} {nn : Nat} (hT : (T, { cls := .type "tuple", data := .seq (v0 :: rest).toArray nn }) ∈ news) (hr : r.length ≤ 250) (hr0 : 8 ≤ r.length) (hin : 1 ≤ (Txt.slice r (some 5) (some (-1))).length)
  (q1 : Refd (sp1 r)) (q2 : Refd (sp2 r)) (q3 : Refd (sp3 r)) (q4 : Refd (Str.ofString "229 ()")) (q5 : Refd (sp5 r)) (q6 : Refd (sp6 r)) (q7 : Refd (sp7 r)) (q8 : Refd (sp8 r)) {port : Int} (qb : Badd (sp9 r)) (qa : Ansd (sp10 r) port) (qr : Ansd r port) (hv : ∃ hn : Str, ∃ ht, v0 = .str hn ht ∧ (PyData.str hn).canLay0 = true) :
   Cl0C w s₀ mg mb 20 169 news [.str r t, .ref T, .int num tn] (fun h₀ L m s Q => CbRet h₀ L m news s Q (fun _ => .bool true)) := by
  unfold Cl0C PP; k_fill; intros; rename_i hret
  have hstr : (Str.ofString (toString (1000 + num.fmod 1000))).length ≤ 10 := KT.len_num (by have := Int.fmod_nonneg_of_pos num (show (0 : Int) < 1000 by decide); omega) (by have := Int.fmod_lt_of_pos num (show (0 : Int) < 1000 by decide); omega)
  refine wpC_call ?_
  k_dflt (walk_at "mine enterC")
  refine wpC_execs_append (pre := [_, _, _, _, _]) (rest := [_, _]) ?_
  k_steps
  all_goals first
    | refine stepS_mine (by k_asm) (by k_asm) (by k_asm) (by assumption) (by assumption) (by assumption) js_intro (by first | assumption | (refine' cb_drop ?cbN ?cbS; (case cbN => assumption); (case cbS => kcj_all)))
    | exact (ne_self9 (by with_reducible assumption)).elim
    | skip
  all_goals
    show wpC _ _ (execs [_, _] _) _ _ _
    refine sp_end (news := news) (by rfl) (by rfl) (by rfl) hT hr qb qa qr hv (by with_reducible assumption) (by with_reducible assumption) (by with_reducible assumption) (frWrap (frWrap (by with_reducible assumption) (by rfl)) (by rfl)) (by k_asm) (by with_reducible assumption) (by with_reducible assumption) (by k_asm) (by k_asm) (by with_reducible assumption) (by with_reducible assumption) (by first | with_reducible assumption | (refine' cb_drop ?cbN ?cbS; (case cbN => with_reducible assumption); (case cbS => kcj_all))) ?_
    intro g9 h9 tk9 m9 T9 B9 X9 P9 D9 F9 N9
    k_steps
  all_goals refine cb_retB hret rfl (by k_asm) (by first | k_asm | (refine' cb_drop ?cbN ?cbS; (case cbN => assumption); (case cbS => kcj_all)))
theorem kw63 : True := by
  k_with_none
  trivial
end
end Mine
set_option maxHeartbeats 0
namespace Mine
open PySem PySem.W PyProof.Rows PySem.Spec PySem.Calls PyProof.V PyProof.Rows.LCg PyProof.Rows.LCt
section
variable {w : World} {s₀ : Shared} {mg mb : Str → Option Value}
variable {dp un : Nat} {gd : Option (List Code)} {cn : Str} {a : Addr} {ccd : Value} {A₀ : Around} {base h₀ : Heap} {L c1 c2 c3 : Addr} {m : Str → Option Value} {s : Shared} {Q : Flow → Shared → Prop} {E : Value → Shared → Prop} {news : List (Addr × Obj)}
theorem law_7 {cs : Scope} (hcs : cs = lawSc) (hX : (kap w.params).In h₀) (hT : Top vw LL (ExcName.means s₀.heap) mg mb h₀) (hB : Below A₀ base [] h₀) (hF' : Fr h₀ L s.heap m) (hN : News h₀ L s.heap news) (hd : dp + 30 < recursionLimit) (hu : un + 8 * 30 < cLine) {D T : Addr} {o2 : Obj} {rp : Str} {v0 : Value} {rest : List Value} {nn : Nat} {tr : Tok} {d0 d1 d2 d3 d4 d5 d6 d7 d8 d9 : Int} {e0 e1 e2 e3 e4 e5 e6 e7 e8 e9 : Tok} (XB : (kap w.params).In base) (TB : Top vw LL (ExcName.means s₀.heap) mg mb base) (h2 : o2.data = .cell (some (.ref D))) (hm2 : (c2, o2) ∈ news) (hmD : (D, lst [.int d0 e0, .int d1 e1, .int d2 e2, .int d3 e3, .int d4 e4, .int d5 e5, .int d6 e6, .int d7 e7, .int d8 e8, .int d9 e9]) ∈ news)
    (er : m (Str.ofString "reply") = some (.str rp tr)) (ep : m (Str.ofString "peer") = some (.ref T)) (hpT : (T, { cls := .type "tuple", data := .seq (v0 :: rest).toArray nn }) ∈ news)
    (sok : ∀ {news' : List (Addr × Obj)} (h : (T, ({ cls := .type "tuple", data := .seq (v0 :: rest).toArray nn } : Obj)) ∈ news') {t tn : Tok}, Cl0C w s₀ mg mb 20 169 news' [.str rp t, .ref T, .int d9 tn] (fun h₀ L m s Q => CbRet h₀ L m news' s Q (fun _ => .bool true)))
    (h : ∀ h' tk' , Fr h₀ L h' m → News h₀ L h' news → Q .next { s with heap := h', toks := tk' }) :
    wpC (model PP w) (ktrTop dp un gd cn cs L a ccd (lawCl c1 c2 c3) []) (exec (lawS 7) (envX cn cs L a ccd (lawCl c1 c2 c3))) Q E s := by
  conv at hcs => rhs; whnf
  dsimp only at hcs
  subst hcs
  have hF := fr_at2 hF' er ep
  have hN' := news2 hmD hm2 hN
  clear hF' hN
  unfold PP; revert hX; k_fill; intro hX
  conv in lawS 7 => whnf
  refine wpC_If_not ?_ (by rfl)
  refine wpC_Call ?_ (by rfl)
  k_steps
  refine wpC_callWith_K (K := kap w.params) (by k_is) ?_ (by rfl)
  k_steps
  refine sok (.tail _ (.tail _ hpT)) XB TB hB (by k_asm) (by k_asm) (by k_asm) (by k_asm) rfl (by omega) (by omega) ?_
  intro t9 h9 tk9 F9 N9
  dsimp only
  k_steps
  clear hN' hF
  (rename Fr _ _ _ _ => F9); (rename News _ _ _ _ => N9)
  exact wpAny_execs_nil (env := envX cn lawSc L a ccd (lawCl c1 c2 c3)) (h h9 tk9 (fr_drop2 er ep F9) (news_tail (news_tail N9)))
end
end Mine
set_option maxHeartbeats 4000000
namespace Mine
open PySem PySem.W PyProof.Rows PySem.Spec PySem.Calls PyProof.V
/-! ## the walk under the claim's caller is enough -/
noncomputable abbrev callerC : PySem.Ctx := ⟨.builtin "claim.caller" {}, none, none, [], none⟩
theorem cal_caller : Cal callerC := rfl
theorem ends_bothC {prog : Program} {w : World} {t : Sem Fin} {s : Shared} {R : Result → Shared → Prop} (hreg : s.asleep)
    (h : wpC (model prog w) callerA t (fun fin s' => ∃ f, fin = .done f ∧ (R (.ok f) s' ∧ leftWithCleanup s'.gens = false)) (fun e s' => R (.error e) s' ∧ leftWithCleanup s'.gens = false) s) :
    ∃ n r s' s'', runN (denote table) prog w n s ⟨t, .builtin "claim.caller" {}, default, []⟩ = .halted (outcomeOf r) s' ∧
      schedN (denote table) prog w n (.single s ⟨t, .builtin "claim.caller" {}, default, []⟩) = .halted (outcomeOf r) s' ∧ s'.forget = s''.forget ∧ R r s'' := by
  have hw : Sem.wp (model prog w) callerC t (Sem.finPost (model prog w) callerC (fun r s' => R r s' ∧ leftWithCleanup s'.gens = false)) (fun e _ s' => R (.error e) s' ∧ leftWithCleanup s'.gens = false) default s := by
    refine Sem.wp_mono _ _ t (fun fin p' s' h' => ?_) (fun _ _ _ h' => h') default s (h _ default caller_in cal_caller)
    obtain ⟨f, rfl, hf⟩ := h'
    exact hf
  obtain ⟨n, r, s₁, s₂, hs, hn, hfo, hR⟩ := wp_halts_full (M := model prog w) (R := R) hreg hw
  exact ⟨n, r, s₂, s₁, hn, hs, hfo, hR⟩
theorem callFromC {c : ClaimW} {tree : List Value → Sem Fin} {w : World} {s : Shared} {free : Addr → Prop} {gens : Prop} {kept : Heap → Prop} (hz : s.asleep) (hgens : s.gens = #[])
    (hspec : ∀ args, c.pre args = true → WData.layableAll args = true → ∀ ord : List DictEntry → List DictEntry, (∀ l, (ord l).Perm l) →
      ∃ vs s₁, layAllW c.records (classAt s.heap) w.params ord args s = some (vs, s₁) ∧
        wpC (model c.prog w) callerA (tree vs) (fun fin s' => ∃ f, fin = .done f ∧ (c.Ends s args vs s₁ (.ok f) s' ∧ s'.os = s.os ∧ AllBare s'.gens ∧ kept s'.heap))
          (fun e s' => c.Ends s args vs s₁ (.error e) s' ∧ s'.os = s.os ∧ AllBare s'.gens ∧ kept s'.heap) s₁) :
    c.CallFrom (fun vs => ⟨tree vs, .builtin "claim.caller" {}, default, []⟩) w free gens kept s := by
  intro args hpre hlay ord hord
  obtain ⟨vs, s₁, hlaid, hcode⟩ := hspec args hpre hlay ord hord
  have hal := layAllW_rest _ _ _ hlaid
  obtain ⟨k, r, s', s'', hrun, hsched, hfo, hcase, hos, hkp⟩ := ends_bothC (prog := c.prog) (w := w) (t := tree vs) (s := s₁)
    (R := fun r s' => c.Ends s args vs s₁ r s' ∧ s'.os = s.os ∧ kept s'.heap) (Shared.asleep_of_life hal.2.2.2 hz)
    (wpC_mono hcode (fun fin s' ⟨f, e, h1, h2, h3, h4⟩ => ⟨f, e, ⟨h1, h2, h4⟩, leftWithCleanup_false_of_bare h3⟩) fun e s' ⟨h1, h2, h3, h4⟩ => ⟨⟨h1, h2, h4⟩, leftWithCleanup_false_of_bare h3⟩)
  obtain ⟨eh, _, _, eo, _⟩ := Shared.forget_eq hfo
  have hcase := hcase.congr eh
  have hkp : kept s'.heap := by first | exact eh ▸ hkp | (rw [eh] at hkp; exact hkp) | (rw [← eh] at hkp; exact hkp)
  rw [← eo] at hos
  have hlife : s'.heap.life = s.heap.life := (runN_life _ _ _ hrun).trans hal.2.2.2
  refine ⟨vs, s₁, hlaid, k, _, s', hsched, ?_, (fun _ i x hx => by rw [hgens] at hx; simp at hx), hkp, by rw [hlife], Shared.rest_eq hos⟩
  rcases hcase with ⟨v, rfl, d1, d2, d3, d4, d5⟩ | ⟨e, ob, cls, rfl, d1, d2, d3, d4, d5⟩
  · exact .inl ⟨v, rfl, d1, d2, d3, fun b o y _ => d4 b o y, d5⟩
  · exact .inr ⟨e, ob, cls, rfl, d1, d2, d3, d4, fun b o y _ => d5 b o y⟩
/-- the walk of a law, the caller known -/
noncomputable abbrev WalkCal (q : Program) (loose : List Str) (XP : (Str → Option Value) → Heap → Prop) (YP : World → Heap → Prop) (r : RowW) (d : DefRec) (kwd : List (Str × Expr)) : Prop :=
  ∀ (w : World) (s₀ s₁ : Shared) (mg mb : Str → Option Value), Ground q loose r.records XP w s₀ mg mb s₁.heap → YP w s₁.heap → ∀ (a : Addr) (o : Obj) (pm cd doc dV kV : Value), s₁.heap.get? a = some o →
    o.data = .func { docDef d.name d.params d.body d.scope pm cd doc with defaults := dV, kwdefaults := kV } → s₁.heap.CodeRec cd d.name → Dflts mg s₁.heap d.params kwd dV kV → mg d.name = some (.ref a) → s₁.gens = #[] →
    ∀ (args : List WData) (vals : List Value) (as : List Addr), r.claim.pre args = true → WData.layableAll args = true → ReadsAllW r.records (classAt s₀.heap) s₁.heap vals args as → WellAll w.params s₁.heap vals args → (∀ a ∈ as, (a == sysModules) = false) →
      wpC (model r.prog w) callerA (PySem.call (.ref a) vals) (fun v s' => GoodWG r.claim (classAt s₀.heap) (ExcName.means s₀.heap) args s₁ (.ok (.ret v)) s')
        (fun e s' => GoodWG r.claim (classAt s₀.heap) (ExcName.means s₀.heap) args s₁ (.error e) s') s₁
theorem holds_openCal {r : OpenRow} {q : Program} {loose : List Str} {Xt : Shared → Bool} {XP : (Str → Option Value) → Heap → Prop} {α : Type} {Yf : Shared → α} {Ya : World → α} {YP : World → Heap → Prop} {d : DefRec} {kwd : List (Str × Expr)} {N : Nat}
    (left : LeftO r.prog q loose Xt Yf Ya N) (hY : ∀ w s, Yf s = Ya w → YP w s.heap) (hYk : ∀ w h h', YP w h → (∀ b o, h.get? b = some o → h'.get? b = some o) → YP w h')
    (hX : ∀ s, Xt s = true → XP (s.heap.nsMap mainGlobals) s.heap) (hXk : ∀ mg h h', XP mg h → (∀ b o, h.get? b = some o → h'.get? b = some o) → XP mg h')
    (hdef : defOf q r.name = some (d, kwd)) (hp : r.prog.theDef r.name = some (d.params, d.body, d.scope)) (hk : kwWritten? d.params.kwonlyargs d.params.kw_defaults = some kwd) (hRf : ∀ s, Xt s = true → RecFacts r.records s.heap) (hwr : (!r.writes || r.records.isEmpty) = true)
    (k1 : r.wellSaid = true) (ok : (chainsOk q && opensWell r.prog && (frees r.toRowW && r.within.isEmpty)) = true) (hb : r.prog.bare) (hw : r.toRowW.promised)
    (call : WalkCal q loose XP YP r.toRowW d kwd) : r.Holds := by
  obtain ⟨ok, k5⟩ := Bool.and_eq_true_iff.mp ok
  obtain ⟨hch, o1⟩ := Bool.and_eq_true_iff.mp ok
  obtain ⟨k5, k6⟩ := Bool.and_eq_true_iff.mp k5
  obtain ⟨hsame, hu, ha, hap, hm⟩ := frees_parts k5
  refine ⟨k1, hw, ⟨hb, o1, by show r.toRowW.makers.map _ = []; rw [hm]; rfl⟩, hw.witness, fun w => ⟨(left.behind hX hch w).1, fun s' hs' => ?_⟩⟩
  obtain ⟨s₀, hf, hg0, s, hT, hz, hgens, hg, G00, y⟩ := (left.behind (XP := fun mg h => XP mg h ∧ RecFacts r.toRowW.records h) (fun s hs => ⟨hX s hs, hRf s hs⟩) hch w).2 s' hs'
  have G0 : Ground q loose [] XP w s (s.heap.nsMap mainGlobals) (s.heap.nsMap builtinsNs) s.heap := ⟨G00.T, G00.B, G00.D, G00.TE, G00.TD, G00.W, G00.X.1, G00.cls, G00.has, G00.apart, G00.once, G00.K⟩
  have RF := G00.X.2
  have hT' := hT
  refine ⟨s₀, hf, hg0, s, hT, (fun n hn => ?_), RF.1, RF.2.1, ?_⟩
  · obtain rfl : n = r.name := by split at hn <;> simp_all
    exact pinned_of_view hg G0 hdef hp hk
  have hgens : s.gens = #[] := Array.eq_empty_of_size_eq_zero (beq_iff_eq.mp hgens)
  have G : Ground q loose r.toRowW.records XP w s _ _ s.heap := RF.ground G0
  refine callFromC (c := r.toRowW.claim) (tree := fun vs => do match ← nsGet mainNs r.name with
      | some f => do ret (← PySem.call f vs)
      | none => unsupported "claim.caller:no-such-global") hz hgens fun args hpre hlay ord hord => ?_
  obtain ⟨⟨vs, s₁⟩, hlaid⟩ := Option.isSome_iff_exists.mp (layAllW_isSome (P := w.params) (ord := ord) G.has args r.toRowW.args s (pre_splitW hpre).1)
  have keeps := layAllW_keeps _ _ _ hlaid
  have hal := layAllW_rest _ _ _ hlaid
  obtain ⟨as, hrd, hin, hold⟩ := reads_layAllW hord _ _ _ hlaid hlay s₁.heap (fun _ _ e => e)
  have L : Laid r.toRowW.records w s s₁ args vs as := ⟨⟨ord, hord, hlaid⟩, hrd, hin, hold, keeps, hal.1.trans hgens, hal.2.2.1⟩
  have G₁ := G.keeps hXk keeps
  obtain ⟨a, o, pm, cd, doc, dV, kV, h1, h2, h3, h4, h5⟩ := G₁.fn hdef
  have h := call w s s₁ _ _ G₁ (hYk _ _ _ (hY w s y) keeps) a o pm cd doc dV kV h2 h3 h4 h5 (defOf_name hdef ▸ h1) L.gens args vs as hpre hlay L.reads L.well (L.low G.low)
  have hi := ident_freeW hu ha hap
  have hwi : r.toRowW.claim.within = [] := List.isEmpty_iff.mp k6
  refine ⟨vs, s₁, hlaid, ?_⟩
  refine wpC_pre (wpAny_nsGet G₁.T.g ?_)
  rw [h1]
  refine wpC_bind (wpC_mono h (fun v s' g => wpC_of (wpAny_pure ⟨_, rfl, ?_⟩)) fun e s' g => ?_)
  all_goals
    have z := g.laid (c := r.toRowW.claim) hsame hwi hi L
    exact ⟨z.1, z.2.1, z.2.2, fun q => ⟨namesKept_of hT' hg _ keeps g.2.1.old, noTable hwr q⟩⟩
end Mine
namespace Mine
open PySem PySem.W PyProof.Rows PySem.Spec PySem.Calls PyProof.V
section
variable {prog : Program} {w : World} {A : Around} {s : Shared}
    {R : Result → Shared → Prop} {name qual : Str} {params : Arguments} {body : List Stmt} {scope : Scope} {dV kV doc pm cdv ct : Value} {an : Option Addr} {f : Addr} {fo : Obj} {args : Args} {binds : List (Str × Value)}
/-- the law's own call, under the claim's caller: a def with cells -/
theorem codeC_cells (hlim : s.heap.NoLimit) (ho : s.heap.get? f = some fo) (hd : fo.data = .func (fnX name qual params body scope [] dV kV doc pm an cdv ct)) (hcd : s.heap.CodeRec cdv qual) (hroom : A.depth < recursionLimit)
    (hbind : BindsTo s (fnX name qual params body scope [] dV kV doc pm an cdv ct) args binds)
    (hkind : ∀ n, ∀ x ∈ binds, scope.names.lookup x.1 = some .local ∨ (scope.names.lookup x.1 = some .cell ∧ ((cellsFrom n scope.names []).lookup x.1).isSome = true))
    (hnd : ((cellsFrom 0 scope.names []).map (·.1)).Nodup)
    (h : ∀ L' h₁ tk cells, Fr s.heap L' h₁ (bindL (envOfC qual scope L' f cdv).kindOf binds fun _ => none) → News s.heap L' h₁ cells →
      CellsAre (bindC (envOfC qual scope L' f cdv).kindOf binds fun _ => none) (cellsFrom (L' + 1) scope.names []) cells →
      wpC (model prog w) (A.deeper (envOfC qual scope L' f cdv)) (execs body (envOfC qual scope L' f cdv))
        (fun fl s' => R (.ok (.ret (match fl with | .ret v => v | _ => .none))) s')
        (fun e s' => wpAny (model prog w) (A.deeper (envOfC qual scope L' f cdv)) (leaving (envOfC qual scope L' f cdv) e) (fun _ s'' => R (.error e) s'') (fun e' s'' => R (.error e') s'') s')
        { s with heap := h₁, toks := tk })
    (hco : scope.isCoroutine = false := by rfl) (hgen : scope.isGenerator = false := by rfl) (hk : scope.kind = .function := by rfl) : codeC (model prog w) A (.call (.ref f) args) R s := by
  refine codeC_call_function hroom ho hd hco hgen rfl hcd (hbind _ _ _ _ ?_)
  refine wpAny_newFunctionEnv_cells hk (hkind _) fun env' he s' x => ?_
  subst he
  refine ⟨hlim.keeps x.toInCall.keep, codeC_func ?_⟩
  obtain ⟨h₁, tk, rfl, _⟩ := x.done
  have hk₁ := x.toInCall.keep
  obtain ⟨cells, NC, Y⟩ := Cl.news (h₀ := s.heap) (Nat.le_refl _) fun n c hm => ⟨x.cell n c (lookup_of_mem_nodup (cellsFrom_names scope.names 0 (s.heap.objs.size + 1) [] [] rfl ▸ hnd) hm), x.above n c hm⟩
  exact h _ h₁ tk cells ⟨x.toInCall.ns, hk₁, Nat.le_refl _⟩ NC Y
end
end Mine
set_option maxHeartbeats 2000000
namespace Mine
open PySem PySem.W PyProof.Rows PySem.Spec PySem.Calls PyProof.V PyProof.Rows.LCg PyProof.Rows.LCt
/-- what _law_spoilt asks of the last reply -/
structure SpOk (r : Str) (port : Int) : Prop where
  le : r.length ≤ 250
  ge : 8 ≤ r.length
  inn : 1 ≤ (Txt.slice r (some 5) (some (-1))).length
  q1 : Refd (sp1 r)
  q2 : Refd (sp2 r)
  q3 : Refd (sp3 r)
  q4 : Refd (Str.ofString "229 ()")
  q5 : Refd (sp5 r)
  q6 : Refd (sp6 r)
  q7 : Refd (sp7 r)
  q8 : Refd (sp8 r)
  qb : Badd (sp9 r)
  qa : Ansd (sp10 r) port
  qr : Ansd r port
/-- the plain law -/
structure PlainAll (d0 d1 d2 d3 d4 d5 d6 d7 d8 : Int) : Prop where
  turns : ∀ k, k < 8 → (-10000 ≤ plV k d3 (d0.fmod 1000 - 300) (d1.fmod 1000 - 300) (d2.fmod 1000 - 300) ∧ plV k d3 (d0.fmod 1000 - 300) (d1.fmod 1000 - 300) (d2.fmod 1000 - 300) ≤ 10000) ∧
      -10000000000000 < poV d4 d5 d6 d7 (plV k d3 (d0.fmod 1000 - 300) (d1.fmod 1000 - 300) (d2.fmod 1000 - 300)) ∧ poV d4 d5 d6 d7 (plV k d3 (d0.fmod 1000 - 300) (d1.fmod 1000 - 300) (d2.fmod 1000 - 300)) < 10000000000000 ∧
      TurnOk (xV k) (fgV k (d0.fmod 1000 - 300) (d1.fmod 1000 - 300) (d2.fmod 1000 - 300) d3 d4 d5 d6 d7 d8) (nuV k d8) (poV d4 d5 d6 d7 (plV k d3 (d0.fmod 1000 - 300) (d1.fmod 1000 - 300) (d2.fmod 1000 - 300)))
  spoilt : SpOk (rpV 7 (d0.fmod 1000 - 300) (d1.fmod 1000 - 300) (d2.fmod 1000 - 300) d3 d4 d5 d6 d7 d8) (poV d4 d5 d6 d7 (plV 7 d3 (d0.fmod 1000 - 300) (d1.fmod 1000 - 300) (d2.fmod 1000 - 300)))
  rest : restV (d0.fmod 1000 - 300) (d1.fmod 1000 - 300) (d2.fmod 1000 - 300) d3 d4 d5 d6 d7 8 = -6 * (d7.fmod 1000 - 500) * (d0.fmod 1000 - 300) * (d1.fmod 1000 - 300) * (d2.fmod 1000 - 300)
theorem ne_of_data {h₀ h : Heap} {L T c : Addr} {l : List (Addr × Obj)} {o o' : Obj} {v : Option Value} (N : News h₀ L h l) (hT : (T, o) ∈ l) (hc : (c, o') ∈ l) (hd : o'.data = .cell v) (ho : ∀ v, o.data ≠ .cell v) : @Ne Nat T c := by
  intro e
  have e' : T = c := e
  have h1 := (N _ hT).1
  have h2 := (N _ hc).1
  dsimp only at h1 h2
  rw [e', h2] at h1
  have := Option.some.inj h1
  exact ho v (this ▸ hd)
theorem fmod_bd (d : Int) : -1000 ≤ d.fmod 1000 - 300 ∧ d.fmod 1000 - 300 ≤ 1000 := by
  have h0 := Int.fmod_nonneg_of_pos d (show (0 : Int) < 1000 by decide)
  have h1 := Int.fmod_lt_of_pos d (show (0 : Int) < 1000 by decide)
  omega
section
variable {w : World} {s₀ : Shared} {mg mb : Str → Option Value}
variable {dp un : Nat} {gd : Option (List Code)} {cn : Str} {a : Addr} {ccd : Value} {A₀ : Around} {base h₀ : Heap} {L c1 c2 c3 : Addr} {m : Str → Option Value} {s : Shared} {Q : Flow → Shared → Prop} {E : Value → Shared → Prop}
theorem law_exec {S : Addr} {vs : List Value} {ns : List Int} {o1 o2 o3 : Obj} {v2 v3 : Option Value} (hX : (kap w.params).In h₀) (hT : Top vw LL (ExcName.means s₀.heap) mg mb h₀) (hB : Below A₀ base [] h₀)
    (XB : (kap w.params).In base) (TB : Top vw LL (ExcName.means s₀.heap) mg mb base) (hd : dp + 30 < recursionLimit) (hu : un + 8 * 30 < cLine) (hE : PassesOwn (model PP w) (ktrTop dp un gd cn lawSc L a ccd (lawCl c1 c2 c3) []) (envX cn lawSc L a ccd (lawCl c1 c2 c3)) E)
    (hL : h₀.IsList S vs.toArray) (hI : IntsAre vs ns) (hn : ns.length ≤ 63) (h1 : o1.data = .cell (some (.ref S))) (h2 : o2.data = .cell v2) (h3 : o3.data = .cell v3) (hF : Fr h₀ L s.heap m)
    (hN : News h₀ L s.heap [(c3, o3), (c2, o2), (c1, o1)]) (n12 : @Ne Nat c1 c2) (n32 : @Ne Nat c3 c2) (n13 : @Ne Nat c1 c3)
    (plain : ∀ d0 d1 d2 d3 d4 d5 d6 d7 d8 : Int, PlainAll d0 d1 d2 d3 d4 d5 d6 d7 d8)
    (h : ∀ h' tk' m', Fr h₀ L h' m' → Q (.ret (.bool true)) { s with heap := h', toks := tk' }) :
    wpC (model PP w) (ktrTop dp un gd cn lawSc L a ccd (lawCl c1 c2 c3) []) (execs ([lawS 0, lawS 1, lawS 2, lawS 3, lawS 4, lawS 5, lawS 6] ++ [lawS 7, lawS 8]) (envX cn lawSc L a ccd (lawCl c1 c2 c3))) Q E s := by
  refine wpC_execs_append ?_
  refine wpAny_execs_cons ?_
  with_reducible refine law_0 rfl hX hT hB hF hN hd hu fun h' tk' T t0 t1 t2 t3 t4 t5 t6 t7 t8 t9 F N => ?_
  have n2T : @Ne Nat T c2 := ne_of_data N (.head _) (.tail _ (.tail _ (.head _))) h2 (fun v e => by cases e)
  refine wpAny_execs_cons ?_
  with_reducible refine law_1 rfl hX hT hB hL hI hn h1 v2 h2 hd hu F (if_pos rfl) n12 n32 n2T N fun D h' tk o2' m' d0 e0 d1 e1 d2 e2 d3 e3 d4 e4 d5 e5 d6 e6 d7 e7 d8 e8 d9 e9 F N h2' nD1 nD2 nD3 => ?_
  refine wpAny_execs_cons ?_
  with_reducible refine law_2 rfl hX hT h2' F hd hu N fun Sx h' tk ta tb tc F N nDS n3S n2S n1S => ?_
  obtain ⟨pt, ps, pr⟩ := plain d0 d1 d2 d3 d4 d5 d6 d7 d8
  refine wpAny_execs_cons ?_
  with_reducible refine law_3 rfl hX hT hB F N hd hu fun h' tk' t3' F N => ?_
  refine wpAny_execs_cons ?_
  with_reducible refine law_4 rfl hX hT hB F N hd hu (if_pos rfl) hE fun h' tk' m'' t4' F N hag hw => ?_
  have es : m'' (Str.ofString "steps") = some (.ref Sx) := (hag _ (by decide +kernel) (by decide +kernel)).trans ((if_neg (by decide +kernel)).trans (if_pos rfl))
  refine wpAny_execs_cons ?_
  with_reducible refine law_5 rfl hX hT hB F N hd hu fun h' tk' t5' F N => ?_
  refine wpAny_execs_cons ?_
  with_reducible refine law_6 rfl hX hT hB XB TB hd hu hE h2' h3 F ((if_neg (by decide +kernel)).trans es) ((if_neg (by decide +kernel)).trans hw) (if_pos rfl) N (Ne.symm n3S) nD3 (Ne.symm n32) n13 pt fun h' tk' m9 o3' Tp u0 v1 rest nn tq tr' F N es er ep eq => ?_
  refine wpAny_execs_nil ?_
  show wpC _ _ (execs [lawS 7, lawS 8] _) _ _ _
  refine wpC_execs_cons ?_
  with_reducible refine law_7 rfl hX hT hB F N hd hu XB TB h2' (by with_unfolding_all exact (.tail _ (.tail _ (.tail _ (.tail _ (.head _)))))) (by with_unfolding_all exact (.tail _ (.tail _ (.head _)))) eq ep (by with_unfolding_all exact .head _) (fun {news'} hm {t tn} => c_spoilt hm ps.le ps.ge ps.inn ps.q1 ps.q2 ps.q3 ps.q4 ps.q5 ps.q6 ps.q7 ps.q8 ps.qb ps.qa ps.qr ⟨_, _, rfl, peerName_ok 7 (by decide)⟩) fun h' tk' F N => ?_
  show wpC _ _ (execs [lawS 8] _) _ _ _
  refine wpC_of (wpAny_execs_cons ?_)
  with_reducible refine law_8 rfl hX hT hB F N hd hu h2' (by with_unfolding_all exact (.tail _ (.tail _ (.tail _ (.tail _ (.head _)))))) (by with_unfolding_all exact (.tail _ (.tail _ (.head _)))) (by with_unfolding_all exact .tail _ (.head _)) er es (fmod_bd _) (fmod_bd _) (fmod_bd _) pr fun h' tk' F N => ?_
  exact h _ _ _ F
end
end Mine
set_option maxHeartbeats 4000000
namespace Mine
open PySem PySem.W PyProof.Rows PySem.Spec PySem.Calls PyProof.V PyProof.Rows.LCg PyProof.Rows.LCt
theorem lawB_eq : lawB = [lawS 0, lawS 1, lawS 2, lawS 3, lawS 4, lawS 5, lawS 6] ++ [lawS 7, lawS 8] := by kernel_rfl
theorem lawSc_cells (L : Addr) : cellsFrom (L + 1) lawSc.names [] = lawCl (L + 1) (L + 1 + 1) (L + 1 + 1 + 1) := by kernel_rfl
theorem caller_deeper (sc : Scope) (L a : Addr) (cd : Value) (cl : List (Str × Addr)) : callerA.deeper (envX (Str.ofString "law") sc L a cd cl) = ktrTop 302 7 (some []) (Str.ofString "law") sc L a cd cl [] := by kernel_rfl
theorem env_eq (sc : Scope) (L a : Addr) (cd : Value) : envOfC (Str.ofString "law") sc L a cd = envX (Str.ofString "law") sc L a cd (cellsFrom (L + 1) sc.names []) := rfl
theorem law_env (L a : Addr) (cd : Value) : envOfC (Str.ofString "law") lawSc L a cd = envX (Str.ofString "law") lawSc L a cd (lawCl (L + 1) (L + 1 + 1) (L + 1 + 1 + 1)) := by rw [env_eq, lawSc_cells]
theorem law_kinds (v : Value) : ([(Str.ofString "script", v)].all fun y => lawSc.names.lookup y.1 == some .local || lawSc.names.lookup y.1 == some .cell) = true := by kernel_rfl
theorem law_nodup : ((cellsFrom 0 lawSc.names []).map (·.1)).Nodup := by
  rw [show (cellsFrom 0 lawSc.names []).map (·.1) = [Str.ofString "place", Str.ofString "cells", Str.ofString "script"] by kernel_rfl]
  decide +kernel
theorem law_bindC (L a : Addr) (cd v : Value) : bindC (envOfC (Str.ofString "law") lawSc L a cd).kindOf [(Str.ofString "script", v)] (fun _ => none) (Str.ofString "script") = some v := by kernel_rfl
theorem law_binds {s : Shared} {S : Addr} {doc pm cd : Value} : BindsTo s (fnX (Str.ofString "law") (Str.ofString "law") (fdOf 22).1 lawB lawSc [] .none .none doc pm none cd .none) ⟨[.ref S], []⟩ [(Str.ofString "script", .ref S)] := BindsTo.of_eq (by kernel_rfl)
theorem law_sc1 : lawSc.isCoroutine = false := by kernel_rfl
theorem law_sc2 : lawSc.isGenerator = false := by kernel_rfl
theorem law_sc3 : lawSc.kind = .function := by kernel_rfl
end Mine
set_option maxHeartbeats 400000
namespace Mine
open PySem PySem.W PyProof.Rows PySem.Spec PySem.Calls PyProof.V PyProof.Rows.LCg PyProof.Rows.LCt
section
variable {w : World} {s₀ s : Shared} {mg mb : Str → Option Value}
/-- the law's own call, out of the claim's caller -/
theorem law_call {fa S : Addr} {o : Obj} {doc pm cd : Value} {vs : List Value} {ns : List Int} {Q E : Value → Shared → Prop}
    (T : Top vw LL (ExcName.means s₀.heap) mg mb s.heap) (X : (kap w.params).In s.heap) (ho : s.heap.get? fa = some o) (hd : o.data = .func (fnX (Str.ofString "law") (Str.ofString "law") (fdOf 22).1 lawB lawSc [] .none .none doc pm none cd .none)) (hcd : s.heap.CodeRec cd (Str.ofString "law"))
    (hL : s.heap.IsList S vs.toArray) (hI : IntsAre vs ns) (hn : ns.length ≤ 63) (plain : ∀ d0 d1 d2 d3 d4 d5 d6 d7 d8 : Int, PlainAll d0 d1 d2 d3 d4 d5 d6 d7 d8)
    (h : ∀ L' h' tk' m', Fr s.heap L' h' m' → Q (.bool true) { s with heap := h', toks := tk' }) : wpC (model PP w) callerA (PySem.call (.ref fa) [.ref S]) Q E s := by
  refine wpC_call ?_
  refine codeC_cells (binds := [(Str.ofString "script", .ref S)]) T.nolimit ho hd hcd (by decide) law_binds (kindsX (law_kinds _)) law_nodup (fun L' h₁ tk cells F N Y => ?_) law_sc1 law_sc2 law_sc3
  rw [lawSc_cells] at Y
  obtain ⟨o3, o2, o1, rfl, h3, h2, h1⟩ := CellsAre.three Y
  rw [law_bindC] at h1
  clear Y
  generalize bindL _ _ _ = m at F
  rw [law_env, caller_deeper, lawB_eq]
  with_reducible refine law_exec (s₀ := s₀) (mg := mg) (mb := mb) (base := s.heap) (h₀ := s.heap) (A₀ := callerA) (S := S) (vs := vs) (ns := ns) ?a1 ?a2 ?a3 ?a4 ?a5 ?a6 ?a7 ?a8 hL hI hn h1 h2 h3 F N ?b1 ?b2 ?b3 plain ?c
  case a1 => exact X
  case a2 => exact T
  case a3 => exact below_caller _
  case a4 => exact X
  case a5 => exact T
  case a6 => decide
  case a7 => decide
  case a8 => exact PassesOwn.leaving
  case b1 => exact Nat.ne_of_lt (Nat.lt_succ_self _)
  case b2 => exact Nat.ne_of_gt (Nat.lt_succ_self _)
  case b3 => exact Nat.ne_of_lt (Nat.lt_succ_of_lt (Nat.lt_succ_self _))
  case c => (intro h' tk' m' F'; exact h L' h' tk' m' F')
end
end Mine
namespace Mine
open PySem PySem.W PyProof.Rows PySem.Builtin PySem.Builtin.Str PySem.StrLaws
/-! ## texts as lists of code points -/
noncomputable abbrev S (l : List Nat) : PySem.Str := ⟨l.toArray⟩
theorem S_ext {x : PySem.Str} {l : List Nat} (h : x.cps.toList = l) : x = S l := by
  apply Str.ext'; apply Array.toList_inj.mp; rw [h]
theorem S_app (a b : List Nat) : S a ++ S b = S (a ++ b) := by
  apply Str.ext'; apply Array.toList_inj.mp; simp [Str.cps_append]
theorem S_len (a : List Nat) : (S a).length = a.length := by show a.toArray.size = a.length; simp
theorem S_list (a : List Nat) : (S a).cps.toList = a := by simp
theorem S_inj {a b : List Nat} : S a = S b ↔ a = b := ⟨fun h => by have := congrArg (fun x : PySem.Str => x.cps.toList) h; simpa using this, fun h => by rw [h]⟩
theorem At_one {l : List Nat} {c hi i : Nat} : At (S l) (S [c]) hi i ↔ i + 1 ≤ hi ∧ l[i]? = some c := by
  unfold At
  rw [subAt_eq]
  show (i + 1 ≤ hi ∧ ((l.toArray.toList.drop i).take 1 == [c]) = true) ↔ _
  rw [take1_drop]
theorem occ_gen (x y : PySem.Str) (lo hi limit : Nat) (hl : 1 ≤ limit) :
    (occurrences x y lo hi limit = [] ∧ ∀ i, lo ≤ i → ¬ At x y hi i) ∨
    ∃ i r, occurrences x y lo hi limit = i :: r ∧ lo ≤ i ∧ At x y hi i ∧ ∀ k, lo ≤ k → k < i → ¬ At x y hi k := by
  rw [occ_eq]
  rcases occ_first x y hi limit hl (List.range' lo (hi + 1 - lo)) lo (fun i hi => by have := List.mem_range'_1.mp hi; omega) with ⟨h0, hn⟩ | ⟨pre, a, post, e, h0, ha, hn⟩
  · refine .inl ⟨by rw [h0], fun i hlo hi => ?_⟩
    exact hn i (by have := hi.1; rw [List.mem_range'_1]; omega) hi
  · have hs := range'_split_from e
    refine .inr ⟨a, ((forIn (List.range' lo (hi + 1 - lo)) ((#[] : Array Nat), lo) (occBody x y hi limit)).run.fst.toList).tail, ?_, hs.1, ha, fun k hk0 hk => hn k (hs.2 k hk0 hk)⟩
    generalize (forIn (List.range' lo (hi + 1 - lo)) ((#[] : Array Nat), lo) (occBody x y hi limit)).run.fst = arr at h0
    have h1 : arr.toList[0]? = some a := by simpa using h0
    cases hL : arr.toList with
    | nil => rw [hL] at h1; cases h1
    | cons b t => rw [hL] at h1; simp at h1; rw [h1]; rfl
/-- the first of its signs -/
theorem occ_at {x y : PySem.Str} {lo hi limit i : Nat} (hl : 1 ≤ limit) (h0 : lo ≤ i) (ha : At x y hi i) (hn : ∀ k, lo ≤ k → k < i → ¬ At x y hi k) : ∃ r, occurrences x y lo hi limit = i :: r := by
  rcases occ_gen x y lo hi limit hl with ⟨_, h⟩ | ⟨j, r, e, h1, h2, h3⟩
  · exact absurd ha (h i h0)
  · have : j = i := by
      rcases Nat.lt_trichotomy j i with q | q | q
      · exact absurd h2 (hn j h1 q)
      · exact q
      · exact absurd ha (h3 i h0 q)
    exact ⟨r, this ▸ e⟩
theorem occ_no {x y : PySem.Str} {lo hi limit : Nat} (hl : 1 ≤ limit) (hn : ∀ k, lo ≤ k → ¬ At x y hi k) : occurrences x y lo hi limit = [] := by
  rcases occ_gen x y lo hi limit hl with ⟨h, _⟩ | ⟨j, r, e, h1, h2, h3⟩
  · exact h
  · exact absurd h2 (hn j h1)
theorem mid_get {l0 l1 l2 : List Nat} {c k : Nat} (h : c ∉ l1) (h0 : l0.length ≤ k) (h1 : k < l0.length + l1.length) : (l0 ++ (l1 ++ l2))[k]? ≠ some c := by
  rw [List.getElem?_append_right h0, List.getElem?_append_left (by omega)]
  intro e
  exact h (List.mem_of_getElem? e)
theorem at_get {l0 l1 l2 : List Nat} {c : Nat} : (l0 ++ (l1 ++ c :: l2))[l0.length + l1.length]? = some c := by
  rw [List.getElem?_append_right (by omega), List.getElem?_append_right (by omega)]
  simp
theorem from_at (n : Nat) (k : Nat) (h : k ≤ n) : fromIndex n (k : Int) = k := by
  unfold fromIndex
  rw [if_neg (by omega), Int.max_eq_right (by omega)]; omega
theorem find_at {l1 l2 : List Nat} {c : Nat} (h : c ∉ l1) : Txt.find (S (l1 ++ c :: l2)) (S [c]) = l1.length := by
  unfold Txt.find
  obtain ⟨r, e⟩ := occ_at (x := S (l1 ++ c :: l2)) (y := S [c]) (lo := 0) (hi := (S (l1 ++ c :: l2)).length) (limit := 1) (i := l1.length) (Nat.le_refl 1) (Nat.zero_le _) (At_one.mpr ⟨by rw [S_len]; simp, by simp⟩) (fun k _ hk ha => by
    have := (At_one.mp ha).2
    rw [List.getElem?_append_left hk] at this
    exact h (List.mem_of_getElem? this))
  rw [e]
theorem find_no {l : List Nat} {c : Nat} (h : c ∉ l) : Txt.find (S l) (S [c]) = -1 := by
  unfold Txt.find
  rw [occ_no (Nat.le_refl 1) (fun k _ ha => h (List.mem_of_getElem? (At_one.mp ha).2))]
theorem find3_at {l0 l1 l2 : List Nat} {c : Nat} (h : c ∉ l1) : Txt.find3 (S (l0 ++ (l1 ++ c :: l2))) (S [c]) (l0.length : Int) = ((l0.length + l1.length : Nat) : Int) := by
  unfold Txt.find3
  rw [from_at _ _ (by rw [S_len]; simp)]
  obtain ⟨r, e⟩ := occ_at (x := S (l0 ++ (l1 ++ c :: l2))) (y := S [c]) (lo := l0.length) (hi := (S (l0 ++ (l1 ++ c :: l2))).length) (limit := 1) (i := l0.length + l1.length) (Nat.le_refl 1) (by omega) (At_one.mpr ⟨by rw [S_len]; simp; omega, at_get⟩) (fun k h0 hk ha => mid_get h h0 hk (At_one.mp ha).2)
  rw [e]
theorem find3_no {l0 l1 : List Nat} {c : Nat} (h : c ∉ l1) : Txt.find3 (S (l0 ++ l1)) (S [c]) (l0.length : Int) = -1 := by
  unfold Txt.find3
  rw [from_at _ _ (by rw [S_len]; simp)]
  rw [occ_no (Nat.le_refl 1) (fun k hk ha => by
    have := (At_one.mp ha).2
    rw [List.getElem?_append_right hk] at this
    exact h (List.mem_of_getElem? this))]
/-! ### slices -/
theorem slice_of {x : PySem.Str} {lo hi : Option Int} {a b : Nat} (hab : a ≤ b) (hb : b ≤ x.length) (e : strSliceIndices lo hi 1 x.length = strSliceIndices (some (a : Int)) (some (b : Int)) 1 x.length) : Txt.slice x lo hi = S ((x.cps.toList.drop a).take (b - a)) := by
  have hp := sliced_plain x hab hb
  have hl : (strSliceIndices (some (a : Int)) (some (b : Int)) 1 x.length).length = b - a := by rw [strSliceIndices_plain hab hb]; simp
  have hn : x.cps.toList.length = x.length := Array.length_toList
  unfold Txt.slice
  rw [e]
  split
  · rename_i h
    rw [hl] at h
    have h : b - a = x.length := by simpa using h
    have h1 : a = 0 := by omega
    subst h1
    refine S_ext ?_
    rw [List.drop_zero, List.take_of_length_le (by omega)]
  · exact congrArg (fun l : List Nat => (⟨l.toArray⟩ : PySem.Str)) hp
theorem slice_mid {l0 l1 l2 : List Nat} {hi : Int} (e : hi = ((l0.length + l1.length : Nat) : Int)) : Txt.slice (S (l0 ++ (l1 ++ l2))) (some (l0.length : Int)) (some hi) = S l1 := by
  subst e
  rw [slice_of (a := l0.length) (b := l0.length + l1.length) (by omega) (by rw [S_len]; simp) rfl, S_list]
  simp
theorem neg_clip {n k : Nat} (hk : 0 < k) (h : k ≤ n) : (max (0 : Int) (min (if (-(k : Int)) < 0 then -(k : Int) + (n : Int) else -(k : Int)) (n : Int))) = ((n - k : Nat) : Int) := by
  rw [if_pos (by omega)]; omega
theorem pos_clip {n k : Nat} (h : k ≤ n) : (max (0 : Int) (min (if ((k : Int)) < 0 then (k : Int) + (n : Int) else (k : Int)) (n : Int))) = (k : Int) := by
  rw [if_neg (by omega)]; omega
theorem idx_neg_hi {n k : Nat} {lo : Option Int} (hk : 0 < k) (h : k ≤ n) : strSliceIndices lo (some (-(k : Int))) 1 n = strSliceIndices lo (some ((n - k : Nat) : Int)) 1 n := by
  unfold strSliceIndices
  have h1 := neg_clip hk h
  have h2 := pos_clip (n := n) (k := n - k) (by omega)
  simp only [show ((1 : Int) > 0) = True from by simp, if_true]
  rw [h1, h2]
theorem idx_none_lo {n : Nat} {hi : Option Int} : strSliceIndices none hi 1 n = strSliceIndices (some ((0 : Nat) : Int)) hi 1 n := by
  unfold strSliceIndices
  have h2 := pos_clip (n := n) (k := 0) (by omega)
  simp only [show ((1 : Int) > 0) = True from by simp, if_true]
  rw [h2]; rfl
theorem idx_neg_lo {n k : Nat} {hi : Option Int} (hk : 0 < k) (h : k ≤ n) : strSliceIndices (some (-(k : Int))) hi 1 n = strSliceIndices (some ((n - k : Nat) : Int)) hi 1 n := by
  unfold strSliceIndices
  have h1 := neg_clip hk h
  have h2 := pos_clip (n := n) (k := n - k) (by omega)
  simp only [show ((1 : Int) > 0) = True from by simp, if_true]
  rw [h1, h2]
theorem idx_none_hi {n : Nat} {lo : Option Int} : strSliceIndices lo none 1 n = strSliceIndices lo (some (n : Int)) 1 n := by
  unfold strSliceIndices
  have h2 := pos_clip (n := n) (k := n) (by omega)
  simp only [show ((1 : Int) > 0) = True from by simp, if_true]
  rw [h2]
theorem slice_mneg {l0 l1 l2 : List Nat} {lo hi : Int} (e0 : lo = (l0.length : Int)) (e : hi = -(l2.length : Int)) (h : 0 < l2.length) : Txt.slice (S (l0 ++ (l1 ++ l2))) (some lo) (some hi) = S l1 := by
  subst e e0
  have hn : (S (l0 ++ (l1 ++ l2))).length = l0.length + l1.length + l2.length := by rw [S_len]; simp; omega
  rw [slice_of (a := l0.length) (b := l0.length + l1.length) (by omega) (by omega) (by rw [hn, idx_neg_hi h (by omega), Nat.add_sub_cancel]), S_list]
  simp
theorem slice_to {l1 l2 : List Nat} {hi : Int} (e : hi = (l1.length : Int)) : Txt.slice (S (l1 ++ l2)) none (some hi) = S l1 := by
  subst e
  rw [slice_of (a := 0) (b := l1.length) (by omega) (by rw [S_len]; simp) (by rw [idx_none_lo]), S_list]
  simp
theorem slice_tneg {l1 l2 : List Nat} {hi : Int} (e : hi = -(l2.length : Int)) (h : 0 < l2.length) : Txt.slice (S (l1 ++ l2)) none (some hi) = S l1 := by
  subst e
  have hn : (S (l1 ++ l2)).length = l1.length + l2.length := by rw [S_len]; simp
  rw [slice_of (a := 0) (b := l1.length) (by omega) (by omega) (by rw [hn, idx_neg_hi h (by omega), Nat.add_sub_cancel, idx_none_lo]), S_list]
  simp
theorem slice_fr {l1 l2 : List Nat} {lo : Int} (e : lo = (l1.length : Int)) : Txt.slice (S (l1 ++ l2)) (some lo) none = S l2 := by
  subst e
  have hn : (S (l1 ++ l2)).length = l1.length + l2.length := by rw [S_len]; simp
  rw [slice_of (a := l1.length) (b := l1.length + l2.length) (by omega) (by omega) (by rw [hn, idx_none_hi]), S_list]
  simp
theorem slice_fneg {l1 l2 : List Nat} {lo : Int} (e : lo = -(l2.length : Int)) (h : 0 < l2.length) : Txt.slice (S (l1 ++ l2)) (some lo) none = S l2 := by
  subst e
  have hn : (S (l1 ++ l2)).length = l1.length + l2.length := by rw [S_len]; simp
  rw [slice_of (a := l1.length) (b := l1.length + l2.length) (by omega) (by omega) (by rw [hn, idx_neg_lo h (by omega), Nat.add_sub_cancel, idx_none_hi]), S_list]
  simp
/-! ### an item -/
theorem seq_pos {n k : Nat} (h : k < n) : seqIndex? (k : Int) n = some k := by
  unfold seqIndex?
  have h1 : ¬ ((k : Int) < 0) := by omega
  simp only [h1, if_false]
  rw [if_pos (by simp; omega)]; rfl
theorem seq_neg {n k : Nat} (h0 : 0 < k) (h : k ≤ n) : seqIndex? (-(k : Int)) n = some (n - k) := by
  unfold seqIndex?
  have h1 : (-(k : Int)) < 0 := by omega
  simp only [h1, if_true]
  rw [if_pos (by simp; omega)]
  congr 1; omega
theorem item_at {l1 l2 : List Nat} {c : Nat} {i : Int} (e : i = (l1.length : Int)) : Txt.item (S (l1 ++ c :: l2)) i = S [c] := by
  subst e
  unfold Txt.item Txt.charAt
  rw [seq_pos (by rw [S_len]; simp)]
  simp
theorem item_neg {l1 l2 : List Nat} {c : Nat} {i : Int} (e : i = -((l2.length + 1 : Nat) : Int)) : Txt.item (S (l1 ++ c :: l2)) i = S [c] := by
  subst e
  unfold Txt.item Txt.charAt
  rw [seq_neg (by omega) (by rw [S_len]; simp), S_len]
  have : (l1 ++ c :: l2).length - (l2.length + 1) = l1.length := by simp
  rw [this]; simp
/-! ### split -/
noncomputable def joinL (c : Nat) : List (List Nat) → List Nat
  | [] => []
  | [p] => p
  | p :: q :: r => p ++ c :: joinL c (q :: r)
theorem join_S (c : Nat) : ∀ ps : List (List Nat), Str.join (S [c]) (ps.map S) = S (joinL c ps)
  | [] => rfl
  | [p] => rfl
  | p :: q :: r => by
    show S p ++ S [c] ++ Str.join (S [c]) ((q :: r).map S) = _
    rw [join_S c (q :: r), S_app, S_app]
    simp [joinL]
theorem free_split {c : Nat} : ∀ {a b a' b' : List Nat}, c ∉ a → c ∉ b → a ++ c :: a' = b ++ c :: b' → a = b ∧ a' = b'
  | [], [], _, _, _, _, h => by simpa using h
  | [], y :: b, _, _, _, hb, h => by
    exfalso; simp only [List.nil_append, List.cons_append, List.cons.injEq] at h
    exact hb (h.1 ▸ List.mem_cons_self ..)
  | x :: a, [], _, _, ha, _, h => by
    exfalso; simp only [List.nil_append, List.cons_append, List.cons.injEq] at h
    exact ha (h.1 ▸ List.mem_cons_self ..)
  | x :: a, y :: b, a', b', ha, hb, h => by
    simp only [List.cons_append, List.cons.injEq] at h
    obtain ⟨e1, e2⟩ := free_split (fun q => ha (List.mem_cons_of_mem _ q)) (fun q => hb (List.mem_cons_of_mem _ q)) h.2
    exact ⟨by rw [h.1, e1], e2⟩
theorem joinL_inj {c : Nat} : ∀ {ps qs : List (List Nat)}, ps ≠ [] → qs ≠ [] → (∀ p ∈ ps, c ∉ p) → (∀ p ∈ qs, c ∉ p) → joinL c ps = joinL c qs → ps = qs
  | [], _, h, _, _, _, _ => absurd rfl h
  | _, [], _, h, _, _, _ => absurd rfl h
  | [p], [q], _, _, _, _, e => by rw [show p = q from e]
  | [p], q :: q' :: r, _, _, h1, _, e => by
    exfalso
    refine h1 p (List.mem_cons_self ..) ?_
    rw [show p = q ++ c :: joinL c (q' :: r) from e]
    simp
  | p :: p' :: r, [q], _, _, _, h2, e => by
    exfalso
    refine h2 q (List.mem_cons_self ..) ?_
    rw [← show p ++ c :: joinL c (p' :: r) = q from e]
    simp
  | p :: p' :: r, q :: q' :: r', _, _, h1, h2, e => by
    obtain ⟨e1, e2⟩ := free_split (h1 p (List.mem_cons_self ..)) (h2 q (List.mem_cons_self ..)) (show p ++ c :: joinL c (p' :: r) = q ++ c :: joinL c (q' :: r') from e)
    rw [e1, joinL_inj (by simp) (by simp) (fun x hx => h1 x (List.mem_cons_of_mem _ hx)) (fun x hx => h2 x (List.mem_cons_of_mem _ hx)) e2]
theorem split_one {c : Nat} {l : List Nat} {ps : List (List Nat)} (hp : ps ≠ []) (hf : ∀ p ∈ ps, c ∉ p) (e : joinL c ps = l) : Txt.split (S l) (S [c]) = ps.map S := by
  have h1 := join_split (S l) (S [c])
  have h2 := split_free (S l) c
  have h3 := split_pos (S l) (S [c])
  generalize Txt.split (S l) (S [c]) = qs at *
  have hq : qs = (qs.map fun x : PySem.Str => x.cps.toList).map S := by
    rw [List.map_map]
    refine (List.map_id qs).symm.trans (List.map_congr_left fun x _ => ?_)
    exact S_ext rfl
  rw [hq, join_S, S_inj, ← e] at h1
  rw [hq]
  congr 1
  refine joinL_inj ?_ hp ?_ hf h1
  · intro h; rw [List.map_eq_nil_iff] at h; rw [h] at h3; simp at h3
  · intro p hm
    obtain ⟨x, hx, rfl⟩ := List.mem_map.mp hm
    exact h2 x hx
/-! ### the three dots -/
theorem At_dots {l : List Nat} {hi i : Nat} (h : At (S l) (S [46, 46, 46]) hi i) : 46 ∈ l.drop i := by
  have h2 := h.2
  rw [subAt_eq, beq_iff_eq] at h2
  have h3 : (l.drop i).take 3 = [46, 46, 46] := h2
  exact List.mem_of_mem_take (i := 3) (h3 ▸ List.mem_cons_self ..)
theorem At_dots0 {l : List Nat} {hi : Nat} (h : 3 ≤ hi) : At (S ([46, 46, 46] ++ l)) (S [46, 46, 46]) hi 0 := by
  refine ⟨h, ?_⟩
  rw [subAt_eq]
  simp [Str.length]
theorem dots_in {l : List Nat} : Txt.contains (S ([46, 46, 46] ++ l)) (S [46, 46, 46]) = true := by
  unfold Txt.contains
  rw [found_iff]
  exact ⟨0, At_dots0 (l := l) (by rw [S_len]; simp)⟩
theorem split_dots {l : List Nat} (h : 46 ∉ l) : Txt.split (S ([46, 46, 46] ++ l)) (S [46, 46, 46]) = [S [], S l] := by
  have ho : occurrences (S ([46, 46, 46] ++ l)) (S [46, 46, 46]) 0 (S ([46, 46, 46] ++ l)).length ((S ([46, 46, 46] ++ l)).length + 1) = [0] := by
    obtain ⟨f, hc, hn⟩ := occ_tight (S ([46, 46, 46] ++ l)) (S [46, 46, 46]) (by decide)
    have h0 := At_dots0 (l := l) (hi := (S ([46, 46, 46] ++ l)).length) (by rw [S_len]; simp)
    cases hq : occurrences (S ([46, 46, 46] ++ l)) (S [46, 46, 46]) 0 (S ([46, 46, 46] ++ l)).length ((S ([46, 46, 46] ++ l)).length + 1) with
    | nil => rw [hq] at hc; exact absurd h0 (hn 0 (by rw [show f = 0 from hc]; exact Nat.le_refl _))
    | cons a r =>
      rw [hq] at hc
      have ha : a = 0 := by
        rcases Nat.eq_zero_or_pos a with q | q
        · exact q
        · exact absurd h0 (hc.2.2.1 0 (Nat.le_refl _) q)
      subst ha
      cases r with
      | nil => rfl
      | cons b r =>
        have hb := hc.2.2.2.2.1
        have hb3 : 3 ≤ b := hc.2.2.2.1
        have := At_dots hb
        rw [List.drop_append, List.mem_append] at this
        rcases this with q | q
        · rw [List.drop_eq_nil_of_le (by simpa using hb3)] at q; cases q
        · exact absurd (List.mem_of_mem_drop q) h
  unfold Txt.split
  rw [ho]
  have hk : (decide ((S ([46, 46, 46] ++ l)).length < (S [46, 46, 46]).length) || decide (Builtin.Str.strKind (S ([46, 46, 46] ++ l)) < Builtin.Str.strKind (S [46, 46, 46]))) = false := by
    rw [Bool.or_eq_false_iff, decide_eq_false_iff_not, decide_eq_false_iff_not, S_len, S_len]
    refine ⟨by simp, ?_⟩
    have h1 : Builtin.Str.strKind (S [46, 46, 46]) = 1 := by decide +kernel
    rw [h1]
    unfold Builtin.Str.strKind
    split
    · omega
    · split <;> omega
  rw [hk, if_neg (by decide), if_neg (by simp), partsBetween_eq]
  show [strSub _ 0 0, strSub _ (0 + 3) _] = _
  refine congr (congrArg List.cons (S_ext ?_)) (congrArg (fun x => [x]) (S_ext ?_))
  · rw [strSub_toList]; simp
  · rw [strSub_toList, S_len]; simp
/-! ### ahead and behind -/
theorem starts_eq {y a : List Nat} : Txt.startswith (S y) (S a) = a.isPrefixOf y := by
  unfold Txt.startswith
  rw [subAt_eq, S_len, S_len, S_list, S_list, List.drop_zero, Bool.eq_iff_iff]
  simp only [Nat.zero_add, Bool.and_eq_true, decide_eq_true_eq, beq_iff_eq, List.isPrefixOf_iff_prefix]
  constructor
  · intro h
    refine ⟨y.drop a.length, ?_⟩
    conv => lhs; arg 1; rw [← h.2]
    exact List.take_append_drop ..
  · rintro ⟨z, rfl⟩; simp
theorem ends_eq {y a : List Nat} : Txt.endswith (S y) (S a) = a.isSuffixOf y := by
  unfold Txt.endswith
  rw [subAt_eq, S_len, S_len, S_list, S_list, Bool.eq_iff_iff]
  simp only [Nat.zero_add, Bool.and_eq_true, decide_eq_true_eq, beq_iff_eq, List.isSuffixOf_iff_suffix]
  constructor
  · intro h
    refine ⟨y.take (y.length - a.length), ?_⟩
    have := h.2
    rw [List.take_of_length_le (by simp; omega)] at this
    conv => lhs; arg 2; rw [← this]
    exact List.take_append_drop ..
  · rintro ⟨z, rfl⟩; simp
end Mine
namespace Mine
open PySem PySem.W PyProof.Rows PySem.Builtin PySem.Builtin.Str PySem.StrLaws PySem.NumText
/-! ## the replies' texts, as lists of code points -/
theorem t_lpar : Str.ofString "(" = S [40] := by decide +kernel
theorem t_rpar : Str.ofString ")" = S [41] := by decide +kernel
theorem t_229 : Str.ofString "229" = S [50, 50, 57] := by decide +kernel
theorem t_229s : Str.ofString "229 " = S [50, 50, 57, 32] := by decide +kernel
theorem t_229p : Str.ofString "229 (" = S [50, 50, 57, 32, 40] := by decide +kernel
theorem t_229q : Str.ofString "229 )(" = S [50, 50, 57, 32, 41, 40] := by decide +kernel
theorem t_229r : Str.ofString "229 )" = S [50, 50, 57, 32, 41] := by decide +kernel
theorem t_229e : Str.ofString "229 ()" = S [50, 50, 57, 32, 40, 41] := by decide +kernel
theorem t_1 : Str.ofString " (1)" = S [32, 40, 49, 41] := by decide +kernel
theorem t_x : Str.ofString "x" = S [120] := by decide +kernel
theorem t_xp : Str.ofString "x)" = S [120, 41] := by decide +kernel
theorem t_21 : Str.ofString "21" = S [50, 49] := by decide +kernel
theorem t_e : Str.ofString "" = S [] := by decide +kernel
theorem t_0 : Str.ofString "0" = S [48] := by decide +kernel
theorem t_m : Str.ofString "-" = S [45] := by decide +kernel
theorem t_7 : Str.ofString "7" = S [55] := by decide +kernel
theorem t_h : Str.ofString "h" = S [104] := by decide +kernel
theorem t_p : Str.ofString "p" = S [112] := by decide +kernel
theorem t_hp : Str.ofString "hp" = S [104, 112] := by decide +kernel
theorem t_ph : Str.ofString "ph" = S [112, 104] := by decide +kernel
theorem t_dots : Str.ofString "..." = S [46, 46, 46] := by decide +kernel
/-- the head of a text in brackets -/
structure Par (r : PySem.Str) (P I : List Nat) (c0 c1 : Nat) : Prop where
  lf : Txt.find r (Str.ofString "(") = (P.length : Int)
  rt : Txt.find3 r (Str.ofString ")") (Txt.find r (Str.ofString "(") + 1) = ((P.length + 1 + I.length : Nat) : Int)
  m1 : Txt.item r (Txt.find r (Str.ofString "(") + 1) = S [c0]
  m2 : Txt.item r (Txt.find3 r (Str.ofString ")") (Txt.find r (Str.ofString "(") + 1) - 1) = S [c1]
  sl : Txt.slice r (some (Txt.find r (Str.ofString "(") + 1)) (some (Txt.find3 r (Str.ofString ")") (Txt.find r (Str.ofString "(") + 1))) = S I
theorem par_of {P I I1 I2 R : List Nat} {c0 c1 : Nat} (hP : 40 ∉ P) (hI : 41 ∉ I) (e0 : I = c0 :: I1) (e1 : I = I2 ++ [c1]) : Par (S (P ++ 40 :: (I ++ 41 :: R))) P I c0 c1 := by
  have hlf : Txt.find (S (P ++ 40 :: (I ++ 41 :: R))) (Str.ofString "(") = (P.length : Int) := by rw [t_lpar]; exact find_at hP
  have hrt : Txt.find3 (S (P ++ 40 :: (I ++ 41 :: R))) (Str.ofString ")") (Txt.find (S (P ++ 40 :: (I ++ 41 :: R))) (Str.ofString "(") + 1) = ((P.length + 1 + I.length : Nat) : Int) := by
    rw [hlf, t_rpar]
    have := find3_at (l0 := P ++ [40]) (l1 := I) (l2 := R) hI
    simpa using this
  have hm1 : Txt.item (S (P ++ 40 :: (I ++ 41 :: R))) (Txt.find (S (P ++ 40 :: (I ++ 41 :: R))) (Str.ofString "(") + 1) = S [c0] := by
    rw [hlf, e0]
    have := item_at (l1 := P ++ [40]) (c := c0) (l2 := I1 ++ 41 :: R) (i := (P.length : Int) + 1) (by simp)
    simpa using this
  refine ⟨hlf, hrt, hm1, ?_, ?_⟩
  · rw [hrt, e1]
    have := item_at (l1 := P ++ 40 :: I2) (c := c1) (l2 := 41 :: R) (i := ((P.length + 1 + (I2 ++ [c1]).length : Nat) : Int) - 1) (by simp; omega)
    simpa using this
  · rw [hrt, hlf]
    have := slice_mid (l0 := P ++ [40]) (l1 := I) (l2 := 41 :: R) (hi := ((P.length + 1 + I.length : Nat) : Int)) (by simp)
    simpa using this
theorem no_lf {l : List Nat} (h : 40 ∉ l) : Txt.find (S l) (Str.ofString "(") < 0 := by rw [t_lpar, find_no h]; decide
theorem no_rt {P I : List Nat} (hP : 40 ∉ P) (hI : 41 ∉ I) : Txt.find3 (S (P ++ 40 :: I)) (Str.ofString ")") (Txt.find (S (P ++ 40 :: I)) (Str.ofString "(") + 1) < 0 := by
  rw [t_lpar, find_at hP, t_rpar]
  have := find3_no (l0 := P ++ [40]) (l1 := I) (c := 41) hI
  have e : (((P ++ [40]).length : Nat) : Int) = (P.length : Int) + 1 := by simp
  rw [e] at this
  rw [show P ++ 40 :: I = (P ++ [40]) ++ I by simp, this]; decide
theorem head3 {l : List Nat} : (Txt.slice (S (50 :: 50 :: 57 :: l)) none (some 3) != Str.ofString "229") = false := by
  rw [t_229, show Txt.slice (S (50 :: 50 :: 57 :: l)) none (some 3) = S [50, 50, 57] from slice_to (l1 := [50, 50, 57]) (l2 := l) (hi := 3) (by decide)]
  exact bne_self_eq_false _
theorem one_ne {a b : Nat} (h : a ≠ b) : (S [a] != S [b]) = true := by
  rw [bne_iff_ne]; intro e; exact h (by simpa using S_inj.mp e)
/-! ### the int of the figures -/
theorem digit_no : digit? 120 = none ∨ ∃ d, digit? 120 = some d ∧ ¬ d < 10 := by
  cases h : digit? 120 with
  | none => exact .inl rfl
  | some d =>
    refine .inr ⟨d, rfl, ?_⟩
    have : digit? 120 = some 33 := by decide +kernel
    rw [this] at h; cases h; decide
theorem step_x {p : Array Nat × Bool} : NumText.step 10 p 120 = none := by
  unfold NumText.step
  rw [if_neg (by decide)]
  rcases digit_no with h | ⟨d, h, hd⟩
  · rw [h]
  · rw [h]; exact if_neg hd
theorem foldl_x : ∀ (cs : List Nat) (p : Array Nat × Bool), (∀ c ∈ cs, c = 45 ∨ (48 ≤ c ∧ c ≤ 57)) → (cs ++ [120]).foldlM (NumText.step 10) p = none
  | [], p, _ => by
    show (NumText.step 10 p 120).bind some = none
    rw [step_x]; rfl
  | c :: cs, (ds, b), hs => by
    rw [List.cons_append, List.foldlM_cons]
    rcases hs c (List.mem_cons_self ..) with e | hc
    · subst e; rw [step_minus]; rfl
    · rw [step_digit hc]
      exact foldl_x cs _ (fun d hd => hs d (List.mem_cons_of_mem _ hd))
theorem dropWhile_x {cs : List Nat} (h : ∀ c ∈ cs, c = 45 ∨ (48 ≤ c ∧ c ≤ 57)) : (cs ++ [120]).dropWhile blank = cs ++ [120] := by
  cases cs with
  | nil => exact dropWhile_of (by decide)
  | cons c cs => exact dropWhile_of (by have := h c (List.mem_cons_self ..); omega)
theorem rev_x {cs : List Nat} : ((cs ++ [120]).reverse.dropWhile blank).reverse = cs ++ [120] := by
  rw [List.reverse_append, List.reverse_singleton, List.singleton_append, dropWhile_of (by decide), List.reverse_cons, List.reverse_reverse]
theorem bad_figs {f : List Nat} (h : ∀ c ∈ f, c = 45 ∨ (48 ≤ c ∧ c ≤ 57)) : PySem.intText? (S (f ++ [120])) = none := by
  have hsm : ∀ c ∈ f ++ [120], c < 128 ∧ c ≠ 0 := by
    intro c hc
    rcases List.mem_append.mp hc with hc | hc
    · have := h c hc; omega
    · rw [List.mem_singleton] at hc; omega
  have e1 : numTextOf (S (f ++ [120])) = f ++ [120] := by
    refine (if_pos ?_).trans (S_list _)
    rw [← Array.all_toList, List.all_eq_true]
    intro c hc
    rw [S_list] at hc
    exact decide_eq_true (hsm c hc).1
  have e2 : numSeenOf (S (f ++ [120])) = f ++ [120] := by
    show (numTextOf _).takeWhile _ = _
    rw [e1]
    exact takeWhile_all fun c hc => bne_iff_ne.mpr (hsm c hc).2
  have e3 : digits? 10 (core (f ++ [120])) = none := by
    cases f with
    | nil => decide +kernel
    | cons c cs =>
      rcases h c (List.mem_cons_self ..) with e | hc
      · subst e
        have es : sign ((45 :: cs ++ [120]).dropWhile blank) = (true, cs ++ [120]) := by rw [dropWhile_x h]; rfl
        have ec : core (45 :: cs ++ [120]) = cs ++ [120] := by
          unfold core; rw [es]; exact rev_x
        rw [ec]; unfold digits?
        rw [foldl_x cs _ (fun d hd => h d (List.mem_cons_of_mem _ hd))]; rfl
      · have es : sign ((c :: cs ++ [120]).dropWhile blank) = (false, c :: cs ++ [120]) := by rw [dropWhile_x h]; exact sign_of (by omega) (by omega)
        have ec : core (c :: cs ++ [120]) = c :: cs ++ [120] := by
          unfold core; rw [es]; exact rev_x
        rw [ec]; unfold digits?
        rw [foldl_x _ _ h]; rfl
  unfold PySem.intText?
  rw [e1, e2, if_pos (beq_self_eq_true _), e3]
/-- noughts ahead -/
theorem val_noughts : ∀ (z : Nat) (cs : List Nat), digitsVal (List.replicate z 48 ++ cs) = digitsVal cs
  | 0, cs => rfl
  | z + 1, cs => by
    rw [List.replicate_succ]
    show (List.replicate z 48 ++ cs).foldl _ (0 * 10 + (48 - 48)) = _
    exact val_noughts z cs
theorem num_digits (m : Nat) : AllDigits ((Nat.toDigits 10 m).map Char.toNat) := by
  intro c hc
  obtain ⟨ch, hch, e⟩ := List.mem_map.mp hc
  have r := digit_range (Nat.isDigit_of_mem_toDigits (by decide) (by decide) hch)
  rw [← e]; exact r
end Mine
namespace Mine
open PySem PySem.W PyProof.Rows PySem.Builtin PySem.Builtin.Str PySem.StrLaws PySem.NumText
/-! ## what the law's prepared makes of a typed text -/
theorem sjoin_cps : ∀ ts : List PySem.Str, Str.join (S []) ts = S (ts.flatMap fun t => t.cps.toList)
  | [] => rfl
  | [x] => by
    rw [List.flatMap_cons, List.flatMap_nil, List.append_nil]; exact S_ext rfl
  | x :: y :: r => by
    show x ++ S [] ++ Str.join (S []) (y :: r) = _
    rw [sjoin_cps (y :: r), List.flatMap_cons]
    refine S_ext ?_
    simp [Str.cps_append]
noncomputable def prepC (c : Nat) : List Nat := if b1 (c : Int) = true then [] else (mapS c).cps.toList
noncomputable def prepL (l : List Nat) : List Nat := l.flatMap prepC
theorem prepL_nil : prepL [] = [] := rfl
theorem prepL_cons {c : Nat} {l : List Nat} : prepL (c :: l) = prepC c ++ prepL l := List.flatMap_cons
theorem prepL_app {a b : List Nat} : prepL (a ++ b) = prepL a ++ prepL b := List.flatMap_append
theorem prep_S (l : List Nat) : prepS (S l) = S (prepL l) := by
  unfold prepS
  have e : ∀ ts : List PySem.Str, Txt.join (Str.ofString "") ts = Str.join (Str.ofString "") ts := fun ts => by
    have := join_closes (sep := Str.ofString "") (sep' := Str.ofString "") (ys := ts) rfl
    simpa using this
  rw [e, t_e, sjoin_cps, S_list]
  rw [S_inj]
  unfold prepL
  induction l with
  | nil => rfl
  | cons c l ih =>
    rw [List.flatMap_cons, ← ih]
    unfold prepC
    by_cases h : b1 (c : Int) = true
    · rw [if_pos h, List.filter_cons_of_neg (by rw [h]; decide)]; rfl
    · rw [if_neg h, List.filter_cons_of_pos (by rw [Bool.not_eq_true] at h; rw [h]; rfl), List.map_cons, List.flatMap_cons]
/-- the signs that stay -/
noncomputable def stayL : List Nat := [32, 40, 41, 45, 48, 49, 50, 51, 52, 53, 54, 55, 56, 57]
theorem stays : ∀ c ∈ stayL, prepC c = [c] := by decide +kernel
theorem prep_stay {l : List Nat} (h : ∀ c ∈ l, c ∈ stayL) : prepL l = l := by
  induction l with
  | nil => rfl
  | cons c l ih =>
    rw [prepL_cons, stays c (h c (List.mem_cons_self ..)), ih fun d hd => h d (List.mem_cons_of_mem _ hd)]; rfl
theorem signs_h1 : prepL [72] = [104] := by decide +kernel
theorem signs_p1 : prepL [80] = [112] := by decide +kernel
theorem signs_h2 : ∀ n, n < 10 → prepL [(119808 + 52 * selL.getD n 0 + 104 - 97).toNat] = [104] := by decide +kernel
theorem signs_p2 : ∀ n, n < 10 → prepL [(119808 + 52 * selL.getD n 0 + 112 - 97).toNat] = [112] := by decide +kernel
theorem signs_h3 : ∀ n, n < 3 → prepL [8459 + n] = [104] := by decide +kernel
theorem signs_p3 : prepL [8473] = [112] := by decide +kernel
theorem signs_h0 : prepL [104] = [104] := by decide +kernel
theorem signs_p0 : prepL [112] = [112] := by decide +kernel
theorem hids : ∀ n, n < 27 → prepL [(hidL.getD n 0).toNat] = [] ∧ (hidL.getD n 0).toNat ≥ 100 := by decide +kernel
theorem hp_h : prepL [13259] = [104, 112] := by decide +kernel
theorem hp_p : prepL [13271] = [112, 104] := by decide +kernel
end Mine
namespace Mine
open PySem PySem.W PyProof.Rows PySem.Builtin PySem.Builtin.Str PySem.StrLaws PySem.NumText
theorem fm_lt {a c : Int} {n : Nat} (hc : c = (n : Int)) (hn : 0 < n) : (a.fmod c).toNat < n := by
  have h0 := Int.fmod_nonneg_of_pos a (show (0 : Int) < c by omega)
  have h1 := Int.fmod_lt_of_pos a (show (0 : Int) < c by omega)
  omega
theorem one_ok {l : List Nat} {c : Nat} (e : l = [c]) (h : 58 ≤ c) : (∀ c ∈ l, 58 ≤ c) ∧ 1 ≤ l.length ∧ l.length ≤ 2 := by
  subst e
  exact ⟨fun d hd => by rw [List.mem_singleton.mp hd]; exact h, by simp, by simp⟩
/-- a typed letter -/
theorem sign_ok {X : Nat} (hX : X = 104 ∨ X = 112) (way : Int) : ∃ l, signS (S [X]) way = S l ∧ prepL l = [X] ∧ (∀ c ∈ l, 58 ≤ c) ∧ 1 ≤ l.length ∧ l.length ≤ 2 := by
  have h10 := fm_lt (a := way.fdiv 6) (c := 10) (n := 10) rfl (by decide)
  have h27 := fm_lt (a := way.fdiv 6) (c := 27) (n := 27) rfl (by decide)
  have h3 := fm_lt (a := way.fdiv 6) (c := 3) (n := 3) rfl (by decide)
  have h3' := Int.fmod_nonneg_of_pos (way.fdiv 6) (show (0 : Int) < 3 by decide)
  have hs := getD_bd (M := 12) (l := selL) (by decide) (by decide) ((way.fdiv 6).fmod 10).toNat
  have hh := hids _ h27
  unfold signS
  rcases hX with rfl | rfl
  · split
    · exact ⟨[72], rfl, signs_h1, one_ok rfl (by decide)⟩
    · split
      · exact ⟨[(119808 + 52 * selL.getD ((way.fdiv 6).fmod 10).toNat 0 + 104 - 97).toNat], rfl, signs_h2 _ h10, one_ok rfl (by omega)⟩
      · split
        · rw [if_pos t_h.symm]
          refine ⟨[8459 + ((way.fdiv 6).fmod 3).toNat], ?_, signs_h3 _ h3, one_ok rfl (by omega)⟩
          refine S_ext ?_
          show [_] = [_]
          congr 1; omega
        · split
          · refine ⟨[(hidL.getD ((way.fdiv 6).fmod 27).toNat 0).toNat] ++ [104], S_app _ _, ?_, ?_, by simp, by simp⟩
            · rw [prepL_app, hh.1, signs_h0]; rfl
            · intro d hd
              rcases List.mem_append.mp hd with hd | hd
              · rw [List.mem_singleton.mp hd]; omega
              · rw [List.mem_singleton.mp hd]; decide
          · exact ⟨[104], rfl, signs_h0, one_ok rfl (by decide)⟩
  · split
    · exact ⟨[80], rfl, signs_p1, one_ok rfl (by decide)⟩
    · split
      · exact ⟨[(119808 + 52 * selL.getD ((way.fdiv 6).fmod 10).toNat 0 + 112 - 97).toNat], rfl, signs_p2 _ h10, one_ok rfl (by omega)⟩
      · split
        · rw [if_neg (by rw [← t_p]; exact not_hp)]
          exact ⟨[8473], rfl, signs_p3, one_ok rfl (by decide)⟩
        · split
          · refine ⟨[(hidL.getD ((way.fdiv 6).fmod 27).toNat 0).toNat] ++ [112], S_app _ _, ?_, ?_, by simp, by simp⟩
            · rw [prepL_app, hh.1, signs_p0]; rfl
            · intro d hd
              rcases List.mem_append.mp hd with hd | hd
              · rw [List.mem_singleton.mp hd]; omega
              · rw [List.mem_singleton.mp hd]; decide
          · exact ⟨[112], rfl, signs_p0, one_ok rfl (by decide)⟩
/-- a mark that may be typed with its field as one sign -/
theorem mark_ok {X : Nat} (hX : X = 104 ∨ X = 112) (way : Int) : ∃ l g, mkT (S [X]) way = S l ∧ mkM (S [X]) way = S (X :: g) ∧ prepL l = X :: g ∧ (∀ c ∈ l, 58 ≤ c) ∧ 1 ≤ l.length ∧ l.length ≤ 2 ∧ (∀ c ∈ g, c ≠ X ∧ 58 ≤ c) ∧ g.length ≤ 1 := by
  by_cases h : way.fmod 6 = 0
  · rcases hX with rfl | rfl
    · refine ⟨[13259], [112], ?_, ?_, hp_h, ?_⟩
      · unfold mkT hpT; rw [if_pos h, if_pos (by rw [t_h]; exact beq_self_eq_true _)]; rfl
      · unfold mkM hpM; rw [if_pos h, if_pos (by rw [t_h]; exact beq_self_eq_true _)]; exact t_hp
      · obtain ⟨a, b, c⟩ := one_ok (l := [13259]) rfl (by decide)
        exact ⟨a, b, c, by simp, by simp⟩
    · have hn : ¬ (S [112] == Str.ofString "h") = true := by rw [← t_p, beq_iff_eq]; exact not_hp
      refine ⟨[13271], [104], ?_, ?_, hp_p, ?_⟩
      · unfold mkT hpT; rw [if_pos h, if_neg hn]; rfl
      · unfold mkM hpM; rw [if_pos h, if_neg hn]; exact t_ph
      · obtain ⟨a, b, c⟩ := one_ok (l := [13271]) rfl (by decide)
        exact ⟨a, b, c, by simp, by simp⟩
  · obtain ⟨l, e, hp, a, b, c⟩ := sign_ok hX way
    refine ⟨l, [], ?_, ?_, hp, a, b, c, by simp, by simp⟩
    · unfold mkT; rw [if_neg h]; exact e
    · unfold mkM; rw [if_neg h]
theorem fld_ok (way : Int) : ∃ l, fld way = S l ∧ (∀ c ∈ l, c = 55) ∧ l.length ≤ 1 := by
  unfold fld
  split
  · exact ⟨[55], t_7, by simp, by simp⟩
  · exact ⟨[], t_e, by simp, by simp⟩
/-- the reply's inner part -/
noncomputable abbrev inn (X : Nat) (g1 g2 f : List Nat) : List Nat := X :: (g1 ++ X :: (g2 ++ X :: (f ++ [X])))
structure Pieces (X : Nat) (g1 g2 f : List Nat) : Prop where
  hX : X = 104 ∨ X = 112
  o1 : ∀ c ∈ g1, c ≠ X ∧ 48 ≤ c
  o2 : ∀ c ∈ g2, c ≠ X ∧ 48 ≤ c
  l1 : g1.length ≤ 2
  l2 : g2.length ≤ 2
/-- the figures -/
structure Figs (f : List Nat) (port : Int) : Prop where
  ch : ∀ c ∈ f, c = 45 ∨ (48 ≤ c ∧ c ≤ 57)
  le : f.length ≤ 20
  rd : PySem.intText? (S f) = some port
  lst : ∃ f' d, f = f' ++ [d] ∧ 48 ≤ d ∧ d ≤ 57
theorem stay_all : ∀ c, c < 58 → (c = 45 ∨ (48 ≤ c ∧ c ≤ 57)) → c ∈ stayL := by decide +kernel
theorem Figs.stay {f : List Nat} {port : Int} (F : Figs f port) : ∀ c ∈ f, c ∈ stayL := fun c hc => by
  have h := F.ch c hc
  exact stay_all c (by omega) h
/-- the typed text and the reply -/
theorem inside_ok {X : Nat} (hX : X = 104 ∨ X = 112) {f : List Nat} {port : Int} (F : Figs f port) (nu : Int) :
    ∃ t g1 g2, insideT (S [X]) (S f) nu = S t ∧ insideM (S [X]) (S f) nu = S (inn X g1 g2 f) ∧ prepL t = inn X g1 g2 f ∧ Pieces X g1 g2 f ∧ (∀ c ∈ t, c ≠ 40 ∧ c ≠ 41) ∧ 1 ≤ t.length ∧ t.length ≤ 60 := by
  obtain ⟨l1, h1, e1, m1, p1, a1, b1, c1, d1, i1⟩ := mark_ok hX (w1 nu)
  obtain ⟨l2, h2, e2, m2, p2, a2, b2, c2, d2, i2⟩ := mark_ok hX (w2 nu)
  obtain ⟨k1, q1, r1, s1⟩ := fld_ok (w1 nu)
  obtain ⟨k2, q2, r2, s2⟩ := fld_ok (w2 nu)
  obtain ⟨l3, e3, p3, a3, b3, c3⟩ := sign_ok hX (w3 nu)
  obtain ⟨l4, e4, p4, a4, b4, c4⟩ := sign_ok hX (w4 nu)
  have st : ∀ {k : List Nat}, (∀ c ∈ k, c = 55) → prepL k = k := fun h => prep_stay fun c hc => by rw [h c hc]; decide
  refine ⟨l1 ++ k1 ++ l2 ++ k2 ++ l3 ++ f ++ l4, h1 ++ k1, h2 ++ k2, ?_, ?_, ?_, ⟨hX, ?_, ?_, ?_, ?_⟩, ?_, ?_, ?_⟩
  · unfold insideT
    rw [e1, q1, e2, q2, e3, e4, if_neg (by decide), t_e]
    simp only [S_app, List.nil_append, List.append_nil]
  · unfold insideM
    rw [m1, q1, m2, q2, if_neg (by decide), t_e]
    simp only [S_app, List.nil_append, List.append_nil]
    rw [S_inj]; simp
  · simp only [prepL_app, p1, p2, p3, p4, st r1, st r2, prep_stay F.stay]
    simp
  · intro c hc
    rcases List.mem_append.mp hc with hc | hc
    · exact ⟨(d1 c hc).1, by have := (d1 c hc).2; omega⟩
    · rw [r1 c hc]; rcases hX with rfl | rfl <;> decide
  · intro c hc
    rcases List.mem_append.mp hc with hc | hc
    · exact ⟨(d2 c hc).1, by have := (d2 c hc).2; omega⟩
    · rw [r2 c hc]; rcases hX with rfl | rfl <;> decide
  · rw [List.length_append]; omega
  · rw [List.length_append]; omega
  · intro c hc
    simp only [List.mem_append] at hc
    rcases hc with (((((hc | hc) | hc) | hc) | hc) | hc) | hc
    · have := a1 c hc; omega
    · have := r1 c hc; omega
    · have := a2 c hc; omega
    · have := r2 c hc; omega
    · have := a3 c hc; omega
    · have := F.ch c hc; omega
    · have := a4 c hc; omega
  · simp only [List.length_append]; omega
  · have := F.le; simp only [List.length_append]; omega
end Mine
namespace Mine
open PySem PySem.W PyProof.Rows PySem.Builtin PySem.Builtin.Str PySem.StrLaws PySem.NumText
theorem mul_noughts {z : Int} (h0 : 0 ≤ z) (h1 : z < 3) : Txt.mul (Str.ofString "0") z = S (List.replicate z.toNat 48) := by
  have : z = 0 ∨ z = 1 ∨ z = 2 := by omega
  rcases this with rfl | rfl | rfl <;> decide +kernel
/-- the law's figures -/
theorem figs_ok {po nu : Int} (h0 : -10000000000000 < po) (h1 : po < 10000000000000) : ∃ f, ((if decide (po < 0) = true then Str.ofString "-" else Str.ofString "") ++ Txt.mul (Str.ofString "0") ((nu.fdiv 7).fmod 3) ++ Str.ofString (toString (if po < 0 then -po else po))) = S f ∧ Figs f po := by
  have z0 := Int.fmod_nonneg_of_pos (nu.fdiv 7) (show (0 : Int) < 3 by decide)
  have z1 := Int.fmod_lt_of_pos (nu.fdiv 7) (show (0 : Int) < 3 by decide)
  rw [mul_noughts z0 z1]
  generalize hz : ((nu.fdiv 7).fmod 3).toNat = z
  have hz3 : z < 3 := by omega
  obtain ⟨m, hm⟩ := Int.eq_ofNat_of_zero_le (show 0 ≤ (if po < 0 then -po else po) by split <;> omega)
  have hm13 : (m : Int) < 10 ^ 13 := by rw [← hm]; split <;> omega
  rw [hm]
  have e1 : Str.ofString (toString ((m : Nat) : Int)) = S ((Nat.toDigits 10 m).map Char.toNat) := S_ext (KIN.signs_num m)
  have hl : (Str.ofString (toString ((m : Nat) : Int))).length ≤ 13 := toString_length_le (by omega) (by decide) hm13
  rw [e1, S_len] at hl
  have hd := num_digits m
  have hv := KIN.val_back m
  have hne : (Nat.toDigits 10 m).map Char.toNat ≠ [] := by
    intro e
    have h := toDigits_len_ge 10 m
    rw [List.map_eq_nil_iff.mp e] at h
    exact absurd h (by decide)
  rw [e1]
  generalize (Nat.toDigits 10 m).map Char.toNat = ds at *
  have had : AllDigits (List.replicate z 48 ++ ds) := by
    intro c hc
    rcases List.mem_append.mp hc with hc | hc
    · rw [(List.mem_replicate.mp hc).2]; decide
    · exact hd c hc
  have hne2 : List.replicate z 48 ++ ds ≠ [] := by
    intro e; exact hne (List.append_eq_nil_iff.mp e).2
  have hval : digitsVal (List.replicate z 48 ++ ds) = m := (val_noughts z ds).trans hv
  have hlen : (List.replicate z 48 ++ ds).length ≤ 15 := by rw [List.length_append, List.length_replicate]; omega
  have hlast : ∀ p : List Nat, ∃ f' d, p ++ (List.replicate z 48 ++ ds) = f' ++ [d] ∧ 48 ≤ d ∧ d ≤ 57 := by
    intro p
    refine ⟨p ++ (List.replicate z 48 ++ ds.dropLast), ds.getLast hne, ?_, hd _ (List.getLast_mem hne)⟩
    rw [List.append_assoc, List.append_assoc, List.dropLast_concat_getLast]
  by_cases hp : po < 0
  · rw [if_pos (decide_eq_true hp), t_m]
    refine ⟨45 :: (List.replicate z 48 ++ ds), ?_, ?_, ?_, ?_, hlast [45]⟩
    · rw [S_app, S_app]; rfl
    · intro c hc
      rcases List.mem_cons.mp hc with e | hc
      · exact .inl e
      · exact .inr (had c hc)
    · rw [List.length_cons]; omega
    · rw [intText_neg (S_list _) had hne2 (by rw [S_len, List.length_cons]; omega), hval]
      rw [if_pos hp] at hm
      congr 1; omega
  · rw [if_neg (by simpa using hp), t_e]
    refine ⟨List.replicate z 48 ++ ds, ?_, ?_, ?_, ?_, hlast []⟩
    · rw [S_app, S_app]; rfl
    · intro c hc
      exact .inr (had c hc)
    · omega
    · rw [intText_digits (by rw [S_list]; exact had) (by rw [S_list]; exact hne2) (by rw [S_len]; omega), S_list, hval]
      rw [if_neg hp] at hm
      congr 1; omega
end Mine
namespace Mine
open PySem PySem.W PyProof.Rows PySem.Builtin PySem.Builtin.Str PySem.StrLaws PySem.NumText
theorem Pieces.sx {X : Nat} {g1 g2 f : List Nat} (P : Pieces X g1 g2 f) : 58 ≤ X ∧ X ≠ 120 := by
  rcases P.hX with e | e <;> omega
theorem Figs.nx {f : List Nat} {port : Int} (F : Figs f port) {X : Nat} (hX : 58 ≤ X) : X ∉ f := fun h => by
  have := F.ch X h; omega
theorem inn_no {X : Nat} {g1 g2 f : List Nat} {port : Int} (P : Pieces X g1 g2 f) (F : Figs f port) : ∀ c ∈ inn X g1 g2 f, c ≠ 40 ∧ c ≠ 41 ∧ c ≠ 46 := by
  intro c hc
  have := P.sx
  simp only [List.mem_cons, List.mem_append, List.not_mem_nil, or_false] at hc
  rcases hc with rfl | hc | rfl | hc | rfl | hc | rfl
  all_goals first
    | (have := P.o1 c hc; omega)
    | (have := P.o2 c hc; omega)
    | (have := F.ch c hc; omega)
    | omega
theorem inn_len {X : Nat} {g1 g2 f : List Nat} {port : Int} (P : Pieces X g1 g2 f) (F : Figs f port) : (inn X g1 g2 f).length ≤ 30 := by
  have := P.l1; have := P.l2; have := F.le
  simp only [inn, List.length_cons, List.length_append, List.length_nil]; omega
/-- a list's four marks -/
noncomputable abbrev inn4 (X : Nat) (g1 g2 f : List Nat) : List Nat := X :: (g1 ++ X :: (g2 ++ X :: f))
theorem inn_snoc {X : Nat} {g1 g2 f : List Nat} : inn X g1 g2 f = inn4 X g1 g2 f ++ [X] := by simp [inn, inn4]
theorem split_inn {X : Nat} {g1 g2 f : List Nat} (P : Pieces X g1 g2 f) (hf : X ∉ f) : Txt.split (S (inn X g1 g2 f)) (S [X]) = [S [], S g1, S g2, S f, S []] := by
  refine split_one (c := X) (ps := [[], g1, g2, f, []]) (by simp) ?_ (by simp [joinL, inn])
  intro p hp
  simp only [List.mem_cons, List.not_mem_nil, or_false] at hp
  rcases hp with rfl | rfl | rfl | rfl | rfl
  · simp
  · exact fun h => (P.o1 X h).1 rfl
  · exact fun h => (P.o2 X h).1 rfl
  · exact hf
  · simp
theorem nle_lt {a : Int} {n : Nat} (h : a = (n : Int)) : ¬ a < 0 := by omega
/-- parse229 answers a reply -/
theorem ans_of {X : Nat} {g1 g2 f A R : List Nat} {port : Int} (P : Pieces X g1 g2 f) (F : Figs f port) (hA : 40 ∉ A) (hl : A.length + R.length ≤ 100) : Ansd (S (50 :: 50 :: 57 :: A ++ 40 :: (inn X g1 g2 f ++ 41 :: R))) port := by
  have hlen := inn_len P F
  have p := par_of (P := 50 :: 50 :: 57 :: A) (I := inn X g1 g2 f) (I1 := g1 ++ X :: (g2 ++ X :: (f ++ [X]))) (I2 := inn4 X g1 g2 f) (R := R) (c0 := X) (c1 := X) (by simpa using hA) (fun h => (inn_no P F 41 h).2.1 rfl) rfl inn_snoc
  refine ⟨?_, head3, nle_lt p.lf, nle_lt p.rt, ?_, S [], S g1, S g2, S f, S [], ?_, F.rd, ?_⟩
  · rw [S_len]; simp only [List.length_cons, List.length_append] at hlen ⊢; omega
  · show (Txt.item _ _ != Txt.item _ _) = false
    rw [p.m1, p.m2]; exact bne_self_eq_false _
  · show Txt.split (Txt.slice _ _ _) (Txt.item _ _) = _
    rw [p.sl, p.m1]; exact split_inn P (F.nx P.sx.1)
  · have := F.le; rw [S_len]; omega
theorem mem_inn4 {X : Nat} {g1 g2 f : List Nat} {c : Nat} (h : c ∈ inn4 X g1 g2 f) : c ∈ inn X g1 g2 f := by
  rw [inn_snoc]; exact List.mem_append_left _ h
noncomputable abbrev rep (X : Nat) (g1 g2 f : List Nat) : List Nat := [50, 50, 57, 32] ++ 40 :: (inn X g1 g2 f ++ 41 :: [])
theorem rep_snoc {X : Nat} {g1 g2 f : List Nat} : rep X g1 g2 f = ([50, 50, 57, 32] ++ 40 :: inn4 X g1 g2 f) ++ [X, 41] := by simp [rep, inn, inn4]
theorem len_le {l : List Nat} {n : Nat} (h : l.length ≤ n) : (S l).length ≤ n := by rw [S_len]; exact h
section
variable {X : Nat} {g1 g2 f : List Nat} {port : Int} (P : Pieces X g1 g2 f) (F : Figs f port)
theorem slice_in : Txt.slice (S (rep X g1 g2 f)) (some 5) (some (-1)) = S (inn X g1 g2 f) := by
  have := slice_mneg (l0 := [50, 50, 57, 32, 40]) (l1 := inn X g1 g2 f) (l2 := [41]) (lo := 5) (hi := -1) rfl rfl (by decide)
  simpa using this
theorem item_mk : Txt.item (S (inn X g1 g2 f)) 0 = S [X] := item_at (l1 := []) (c := X) (i := 0) rfl
theorem slice_1 : Txt.slice (S (rep X g1 g2 f)) none (some (-1)) = S ([50, 50, 57, 32] ++ 40 :: inn X g1 g2 f) := by
  have := slice_tneg (l1 := [50, 50, 57, 32] ++ 40 :: inn X g1 g2 f) (l2 := [41]) (hi := -1) rfl (by decide)
  simpa using this
theorem slice_2 : Txt.slice (S (rep X g1 g2 f)) none (some (-2)) = S ([50, 50, 57, 32] ++ 40 :: inn4 X g1 g2 f) := by
  have := slice_tneg (l1 := [50, 50, 57, 32] ++ 40 :: inn4 X g1 g2 f) (l2 := [X, 41]) (hi := -2) rfl (by simp)
  rw [rep_snoc]; exact this
theorem slice_l2 : Txt.slice (S (rep X g1 g2 f)) (some (-2)) none = S [X, 41] := by
  have := slice_fneg (l1 := [50, 50, 57, 32] ++ 40 :: inn4 X g1 g2 f) (l2 := [X, 41]) (lo := -2) rfl (by simp)
  rw [rep_snoc]; exact this
theorem slice_4 : Txt.slice (S (rep X g1 g2 f)) (some 4) none = S (40 :: (inn X g1 g2 f ++ [41])) :=
  slice_fr (l1 := [50, 50, 57, 32]) (l2 := 40 :: (inn X g1 g2 f ++ [41])) (lo := 4) rfl
include P F
theorem no40 : 40 ∉ inn X g1 g2 f := fun h => (inn_no P F 40 h).1 rfl
theorem no41 : 41 ∉ inn X g1 g2 f := fun h => (inn_no P F 41 h).2.1 rfl
theorem q_1 : Refd (sp1 (S (rep X g1 g2 f))) := by
  have hl := inn_len P F
  have e : sp1 (S (rep X g1 g2 f)) = S (50 :: 50 :: 57 :: (32 :: (inn X g1 g2 f ++ [41]))) := by
    show Str.ofString "229 " ++ Txt.slice _ _ _ ++ Str.ofString ")" = _
    rw [slice_in, t_229s, t_rpar, S_app, S_app]; rfl
  rw [e]
  refine ⟨len_le (by simp only [List.length_cons, List.length_append, List.length_nil] at hl ⊢; omega), head3, .inl (no_lf ?_)⟩
  have := no40 P F
  simp only [List.mem_cons, List.mem_append, List.not_mem_nil, or_false, not_or] at this ⊢
  exact ⟨by decide, by decide, by decide, by decide, this, by decide⟩
theorem q_2 : Refd (sp2 (S (rep X g1 g2 f))) := by
  have hl := inn_len P F
  have e : sp2 (S (rep X g1 g2 f)) = S ((50 :: 50 :: 57 :: [32]) ++ 40 :: inn X g1 g2 f) := slice_1
  rw [e]
  exact ⟨len_le (by simp only [List.length_cons, List.length_append, List.length_nil] at hl ⊢; omega), head3, .inr (.inl (no_rt (by decide) (no41 P F)))⟩
theorem q_3 : Refd (sp3 (S (rep X g1 g2 f))) := by
  have hl := inn_len P F
  have e : sp3 (S (rep X g1 g2 f)) = S ((50 :: 50 :: 57 :: [32, 41]) ++ 40 :: inn X g1 g2 f) := by
    show Str.ofString "229 )(" ++ Txt.slice _ _ _ = _
    rw [slice_in, t_229q, S_app]; rfl
  rw [e]
  exact ⟨len_le (by simp only [List.length_cons, List.length_append, List.length_nil] at hl ⊢; omega), head3, .inr (.inl (no_rt (by decide) (no41 P F)))⟩
omit P F in
theorem q_4 : Refd (Str.ofString "229 ()") := by
  rw [t_229e]
  refine ⟨by decide, head3, .inr (.inr (.inl ?_))⟩
  decide +kernel
theorem q_5 : Refd (sp5 (S (rep X g1 g2 f))) := by
  have hl := inn_len P F
  have e : sp5 (S (rep X g1 g2 f)) = S ((50 :: 50 :: 57 :: [32]) ++ 40 :: (inn4 X g1 g2 f ++ 41 :: [])) := by
    show Txt.slice _ _ _ ++ Str.ofString ")" = _
    rw [slice_2, t_rpar, S_app]; simp
  rw [e]
  obtain ⟨f', d, ef, h1, h2⟩ := F.lst
  have p := par_of (P := 50 :: 50 :: 57 :: [32]) (I := inn4 X g1 g2 f) (I1 := g1 ++ X :: (g2 ++ X :: f)) (I2 := X :: (g1 ++ X :: (g2 ++ X :: f'))) (R := []) (c0 := X) (c1 := d) (by decide) (fun h => no41 P F (mem_inn4 h)) rfl (by rw [ef]; simp [inn4])
  refine ⟨len_le ?_, head3, .inr (.inr (.inl ?_))⟩
  · rw [inn_snoc] at hl
    simp only [List.length_cons, List.length_append, List.length_nil] at hl ⊢; omega
  · show (Txt.item _ _ != Txt.item _ _) = true
    rw [p.m1, p.m2]; exact one_ne (by have := P.sx; omega)
theorem q_6 : Refd (sp6 (S (rep X g1 g2 f))) := by
  have hl := inn_len P F
  have e : sp6 (S (rep X g1 g2 f)) = S ((50 :: 50 :: 57 :: [32]) ++ 40 :: ((inn X g1 g2 f ++ [120]) ++ 41 :: [])) := by
    show Txt.slice _ _ _ ++ Str.ofString "x)" = _
    rw [slice_1, t_xp, S_app]; simp
  rw [e]
  have p := par_of (P := 50 :: 50 :: 57 :: [32]) (I := inn X g1 g2 f ++ [120]) (I1 := (g1 ++ X :: (g2 ++ X :: (f ++ [X]))) ++ [120]) (I2 := inn X g1 g2 f) (R := []) (c0 := X) (c1 := 120) (by decide) (by
    intro h
    rcases List.mem_append.mp h with h | h
    · exact no41 P F h
    · simp at h) rfl rfl
  refine ⟨len_le ?_, head3, .inr (.inr (.inl ?_))⟩
  · simp only [List.length_cons, List.length_append, List.length_nil] at hl ⊢; omega
  · show (Txt.item _ _ != Txt.item _ _) = true
    rw [p.m1, p.m2]; exact one_ne P.sx.2
theorem q_7 : Refd (sp7 (S (rep X g1 g2 f))) := by
  have hl := inn_len P F
  have e : sp7 (S (rep X g1 g2 f)) = S ((50 :: 50 :: 57 :: [32]) ++ 40 :: ((X :: inn X g1 g2 f) ++ 41 :: [])) := by
    show Str.ofString "229 (" ++ Txt.item (Txt.slice _ _ _) 0 ++ Txt.slice _ _ _ ++ Str.ofString ")" = _
    rw [slice_in, item_mk, t_229p, t_rpar, S_app, S_app, S_app]; simp
  rw [e]
  have h41 : 41 ∉ X :: inn X g1 g2 f := by
    intro h
    rcases List.mem_cons.mp h with h | h
    · have := P.sx; omega
    · exact no41 P F h
  have p := par_of (P := 50 :: 50 :: 57 :: [32]) (I := X :: inn X g1 g2 f) (I1 := inn X g1 g2 f) (I2 := X :: inn4 X g1 g2 f) (R := []) (c0 := X) (c1 := X) (by decide) h41 rfl (by rw [inn_snoc]; rfl)
  refine ⟨len_le ?_, head3, .inr (.inr (.inr ?_))⟩
  · simp only [List.length_cons, List.length_append, List.length_nil] at hl ⊢; omega
  · show (Txt.split (Txt.slice _ _ _) (Txt.item _ _)).length ≠ 5
    rw [p.sl, p.m1, split_one (c := X) (ps := [[], [], g1, g2, f, []]) (by simp) ?_ (by simp [joinL, inn])]
    · simp
    · intro q hq
      simp only [List.mem_cons, List.not_mem_nil, or_false] at hq
      rcases hq with rfl | rfl | rfl | rfl | rfl | rfl
      · simp
      · simp
      · exact fun h => (P.o1 X h).1 rfl
      · exact fun h => (P.o2 X h).1 rfl
      · exact F.nx P.sx.1
      · simp
omit F in
theorem q_8 : Refd (sp8 (S (rep X g1 g2 f))) := by
  have e : sp8 (S (rep X g1 g2 f)) = S ((50 :: 50 :: 57 :: [32]) ++ 40 :: ([X, X, 50, 49, X] ++ 41 :: [])) := by
    show Str.ofString "229 (" ++ Txt.item (Txt.slice _ _ _) 0 ++ Txt.item (Txt.slice _ _ _) 0 ++ Str.ofString "21" ++ Txt.item (Txt.slice _ _ _) 0 ++ Str.ofString ")" = _
    rw [slice_in, item_mk, t_229p, t_rpar, t_21, S_app, S_app, S_app, S_app, S_app]; simp
  rw [e]
  have hx := P.sx
  have h41 : 41 ∉ [X, X, 50, 49, X] := by
    simp; omega
  have p := par_of (P := 50 :: 50 :: 57 :: [32]) (I := [X, X, 50, 49, X]) (I1 := [X, 50, 49, X]) (I2 := [X, X, 50, 49]) (R := []) (c0 := X) (c1 := X) (by decide) h41 rfl rfl
  refine ⟨len_le ?_, head3, .inr (.inr (.inr ?_))⟩
  · simp
  · show (Txt.split (Txt.slice _ _ _) (Txt.item _ _)).length ≠ 5
    rw [p.sl, p.m1, split_one (c := X) (ps := [[], [], [50, 49], []]) (by simp) ?_ (by simp [joinL])]
    · simp
    · intro q hq
      simp only [List.mem_cons, List.not_mem_nil, or_false] at hq
      rcases hq with rfl | rfl | rfl | rfl
      · simp
      · simp
      · simp; omega
      · simp
theorem q_b : Badd (sp9 (S (rep X g1 g2 f))) := by
  have hl := inn_len P F
  have hx := P.sx
  have e : sp9 (S (rep X g1 g2 f)) = S ((50 :: 50 :: 57 :: [32]) ++ 40 :: (inn X g1 g2 (f ++ [120]) ++ 41 :: [])) := by
    show Txt.slice _ _ _ ++ Str.ofString "x" ++ Txt.slice _ _ _ = _
    rw [slice_2, slice_l2, t_x, S_app, S_app]; simp [inn, inn4]
  rw [e]
  have h41 : 41 ∉ inn X g1 g2 (f ++ [120]) := by
    intro h
    have := no41 P F
    simp only [inn, List.mem_cons, List.mem_append, List.not_mem_nil, or_false, not_or] at h this
    rcases h with h | h | h | h | h | (h | h) | h
    all_goals first
      | exact this.1 h
      | exact this.2.1 h
      | exact this.2.2.2.1 h
      | exact this.2.2.2.2.2.1 h
      | omega
  have p := par_of (P := 50 :: 50 :: 57 :: [32]) (I := inn X g1 g2 (f ++ [120])) (I1 := g1 ++ X :: (g2 ++ X :: ((f ++ [120]) ++ [X]))) (I2 := inn4 X g1 g2 (f ++ [120])) (R := []) (c0 := X) (c1 := X) (by decide) h41 rfl inn_snoc
  have P' : Pieces X g1 g2 (f ++ [120]) := ⟨P.hX, P.o1, P.o2, P.l1, P.l2⟩
  refine ⟨len_le ?_, head3, nle_lt p.lf, nle_lt p.rt, ?_, S [], S g1, S g2, S (f ++ [120]), S [], ?_, bad_figs F.ch, ?_, ?_⟩
  · simp only [inn, List.length_cons, List.length_append, List.length_nil] at hl ⊢; omega
  · show (Txt.item _ _ != Txt.item _ _) = false
    rw [p.m1, p.m2]; exact bne_self_eq_false _
  · show Txt.split (Txt.slice _ _ _) (Txt.item _ _) = _
    rw [p.sl, p.m1]
    refine split_inn P' ?_
    intro h
    rcases List.mem_append.mp h with h | h
    · exact F.nx hx.1 h
    · exact hx.2 (List.mem_singleton.mp h)
  · have := F.le; refine len_le ?_; rw [List.length_append, List.length_singleton]; omega
  · intro c hc
    rw [S_list] at hc
    rcases List.mem_append.mp hc with hc | hc
    · have := F.ch c hc; omega
    · rw [List.mem_singleton.mp hc]; decide
theorem q_a : Ansd (sp10 (S (rep X g1 g2 f))) port := by
  have e : sp10 (S (rep X g1 g2 f)) = S (50 :: 50 :: 57 :: [32, 41] ++ 40 :: (inn X g1 g2 f ++ 41 :: [32, 40, 49, 41])) := by
    show Str.ofString "229 )" ++ Txt.slice _ _ _ ++ Str.ofString " (1)" = _
    rw [slice_4, t_229r, t_1, S_app, S_app]; simp
  rw [e]
  exact ans_of P F (by decide) (by decide)
theorem q_r : Ansd (S (rep X g1 g2 f)) port := ans_of (A := [32]) (R := []) P F (by decide) (by decide)
end
end Mine
namespace Mine
open PySem PySem.W PyProof.Rows PySem.Builtin PySem.Builtin.Str PySem.StrLaws PySem.NumText
theorem find4_at {l0 l1 l2 : List Nat} {c : Nat} {st en : Int} (h : c ∉ l1) (hs : st = (l0.length : Int)) (he : ∃ n : Nat, en = (n : Int) ∧ l0.length + l1.length + 1 ≤ n ∧ n ≤ (l0 ++ (l1 ++ c :: l2)).length) : find4 (S (l0 ++ (l1 ++ c :: l2))) (S [c]) st en = ((l0.length + l1.length : Nat) : Int) := by
  obtain ⟨n, rfl, h1, h2⟩ := he
  subst hs
  unfold find4
  rw [from_at _ _ (by rw [S_len]; simp), from_at _ _ (by rw [S_len]; exact h2), Nat.min_eq_left (by rw [S_len]; exact h2)]
  obtain ⟨r, e⟩ := occ_at (x := S (l0 ++ (l1 ++ c :: l2))) (y := S [c]) (lo := l0.length) (hi := n) (limit := 1) (i := l0.length + l1.length) (Nat.le_refl 1) (by omega) (At_one.mpr ⟨h1, at_get⟩) (fun k h0 hk ha => mid_get h h0 hk (At_one.mp ha).2)
  rw [e]
theorem find4_no {l0 l1 l2 : List Nat} {c : Nat} {st en : Int} (h : c ∉ l1) (hs : st = (l0.length : Int)) (he : en = ((l0.length + l1.length : Nat) : Int)) : find4 (S (l0 ++ (l1 ++ l2))) (S [c]) st en = -1 := by
  subst hs he
  unfold find4
  rw [from_at _ _ (by rw [S_len]; simp), from_at _ _ (by rw [S_len]; simp), Nat.min_eq_left (by rw [S_len]; simp)]
  rw [occ_no (Nat.le_refl 1) (fun k hk ha => by
    obtain ⟨q, w⟩ := At_one.mp ha
    rw [List.getElem?_append_right hk, List.getElem?_append_left (by omega)] at w
    exact h (List.mem_of_getElem? w))]
theorem find4_empty {l : List Nat} {en : Int} (h : ∃ n : Nat, en = (n : Int) ∧ n ≤ l.length) : ¬ find4 (S l) (Str.ofString "") 0 en < 0 := by
  obtain ⟨n, rfl, h1⟩ := h
  rw [t_e]
  unfold find4
  have e0 := from_at (S l).length 0 (Nat.zero_le _)
  rw [show ((0 : Nat) : Int) = 0 from rfl] at e0
  rw [e0, from_at _ _ (by rw [S_len]; exact h1), Nat.min_eq_left (by rw [S_len]; exact h1)]
  obtain ⟨r, e⟩ := occ_at (x := S l) (y := S []) (lo := 0) (hi := n) (limit := 1) (i := 0) (Nat.le_refl 1) (Nat.le_refl 0) ⟨Nat.zero_le _, by rw [subAt_eq]; rfl⟩ (fun k _ hk => absurd hk (Nat.not_lt_zero _))
  rw [e]
  simp
noncomputable abbrev pa (X : Nat) : List Nat := [50, 50, 57, 32, 40, X]
theorem rep_pa {X : Nat} {g1 g2 f : List Nat} : rep X g1 g2 f = pa X ++ (g1 ++ X :: (g2 ++ X :: (f ++ [X, 41]))) := by simp [rep, inn, pa]
theorem starts_pa {X : Nat} {l : List Nat} : Txt.startswith (S (pa X ++ l)) (S (pa X)) = true := by
  rw [starts_eq, List.isPrefixOf_iff_prefix]; exact List.prefix_append _ _
theorem ends_of {a l : List Nat} : Txt.endswith (S (l ++ a)) (S a) = true := by
  rw [ends_eq, List.isSuffixOf_iff_suffix]; exact List.suffix_append _ _
theorem rep_end {X : Nat} {g1 g2 f : List Nat} : rep X g1 g2 f = (pa X ++ (g1 ++ X :: g2)) ++ (X :: (f ++ [X, 41])) := by simp [rep, inn, pa]
theorem rep_len {X : Nat} {g1 g2 f : List Nat} : (rep X g1 g2 f).length = 6 + g1.length + 1 + g2.length + 1 + f.length + 2 := by
  simp only [rep, inn, List.length_cons, List.length_append, List.length_nil]; omega
section
variable {X : Nat} {g1 g2 f : List Nat} {port : Int} (P : Pieces X g1 g2 f) (F : Figs f port)
include P F
omit P F in
theorem ell_open (mid : List PySem.Str) : ellB (S (pa X)) mid (S [X, 41]) (S (rep X g1 g2 f)) = ellMid (S (rep X g1 g2 f)) mid 6 ((6 + g1.length + 1 + g2.length + 1 + f.length : Nat) : Int) := by
  unfold ellB
  have h1 : Txt.startswith (S (rep X g1 g2 f)) (S (pa X)) = true := by rw [rep_pa]; exact starts_pa
  have h2 : Txt.endswith (S (rep X g1 g2 f)) (S [X, 41]) = true := by rw [rep_snoc]; exact ends_of
  rw [h1, h2]
  simp only [S_len, rep_len]
  rw [if_neg (by simp only [List.length_cons, List.length_nil]; omega)]
  congr 1
  simp only [List.length_cons, List.length_nil]; omega
omit F in
theorem mid_1 : find4 (S (rep X g1 g2 f)) (S [X]) 6 ((6 + g1.length + 1 + g2.length + 1 + f.length : Nat) : Int) = ((6 + g1.length : Nat) : Int) := by
  rw [rep_pa]
  exact find4_at (l0 := pa X) (l1 := g1) (fun h => (P.o1 X h).1 rfl) rfl ⟨_, rfl, by simp only [List.length_cons, List.length_nil]; omega, by simp only [List.length_cons, List.length_append, List.length_nil]; omega⟩
omit F in
theorem mid_2 : find4 (S (rep X g1 g2 f)) (S [X]) ((6 + g1.length + 1 : Nat) : Int) ((6 + g1.length + 1 + g2.length + 1 + f.length : Nat) : Int) = ((6 + g1.length + 1 + g2.length : Nat) : Int) := by
  rw [show rep X g1 g2 f = (pa X ++ (g1 ++ [X])) ++ (g2 ++ X :: (f ++ [X, 41])) by simp [rep, inn, pa]]
  have := find4_at (l0 := pa X ++ (g1 ++ [X])) (l1 := g2) (c := X) (l2 := f ++ [X, 41]) (st := ((6 + g1.length + 1 : Nat) : Int)) (en := ((6 + g1.length + 1 + g2.length + 1 + f.length : Nat) : Int)) (fun h => (P.o2 X h).1 rfl) (by simp only [List.length_cons, List.length_append, List.length_nil]; omega) ⟨_, rfl, by simp only [List.length_cons, List.length_append, List.length_nil]; omega, by simp only [List.length_cons, List.length_append, List.length_nil]; omega⟩
  rw [this]; congr 1; simp only [List.length_cons, List.length_append, List.length_nil]; omega
theorem mid_3 : find4 (S (rep X g1 g2 f)) (S [X]) ((6 + g1.length + 1 + g2.length + 1 : Nat) : Int) ((6 + g1.length + 1 + g2.length + 1 + f.length : Nat) : Int) = -1 := by
  rw [show rep X g1 g2 f = (pa X ++ (g1 ++ X :: (g2 ++ [X]))) ++ (f ++ [X, 41]) by simp [rep, inn, pa]]
  exact find4_no (F.nx P.sx.1) (by simp only [List.length_cons, List.length_append, List.length_nil]; omega) (by simp only [List.length_cons, List.length_append, List.length_nil]; omega)
omit P F in
theorem one_len : (S [X]).length = 1 := rfl
omit F in
theorem told1 : ellB (S (pa X)) [S [X], S [X]] (S [X, 41]) (S (rep X g1 g2 f)) = true := by
  rw [ell_open]
  unfold ellMid
  rw [mid_1 P, if_neg (by omega), one_len]
  unfold ellMid
  rw [show ((6 + g1.length : Nat) : Int) + ((1 : Nat) : Int) = ((6 + g1.length + 1 : Nat) : Int) by omega, mid_2 P, if_neg (by omega)]
  rfl
theorem told2 : ellB (S (pa X)) [S [X], S [X], S [X]] (S [X, 41]) (S (rep X g1 g2 f)) = false := by
  rw [ell_open]
  unfold ellMid
  rw [mid_1 P, if_neg (by omega), one_len]
  unfold ellMid
  rw [show ((6 + g1.length : Nat) : Int) + ((1 : Nat) : Int) = ((6 + g1.length + 1 : Nat) : Int) by omega, mid_2 P, if_neg (by omega), one_len]
  unfold ellMid
  rw [show ((6 + g1.length + 1 + g2.length : Nat) : Int) + ((1 : Nat) : Int) = ((6 + g1.length + 1 + g2.length + 1 : Nat) : Int) by omega, mid_3 P F, if_pos (by decide)]
omit P F in
theorem told3 : ellE (S (X :: (f ++ [X, 41]))) (S (rep X g1 g2 f)) = true := by
  unfold ellE
  have h : Txt.endswith (S (rep X g1 g2 f)) (S (X :: (f ++ [X, 41]))) = true := by rw [rep_end]; exact ends_of
  rw [h]
  dsimp only
  have e : ((S (rep X g1 g2 f)).length : Int) - ((S (X :: (f ++ [X, 41]))).length : Int) = ((6 + g1.length + 1 + g2.length : Nat) : Int) := by
    rw [S_len, S_len, rep_len]; simp only [List.length_cons, List.length_append, List.length_nil]; omega
  rw [e, if_neg (by omega), if_neg (find4_empty ⟨_, rfl, by rw [rep_len]; omega⟩)]
omit F in
theorem told4 : ellE (S (X :: 48 :: (f ++ [X, 41]))) (S (rep X g1 g2 f)) = false := by
  unfold ellE
  have h : Txt.endswith (S (rep X g1 g2 f)) (S (X :: 48 :: (f ++ [X, 41]))) = false := by
    rw [ends_eq, ← Bool.not_eq_true, List.isSuffixOf_iff_suffix]
    rintro ⟨B, hB⟩
    rw [rep_end] at hB
    have hB : (B ++ [X, 48]) ++ (f ++ [X, 41]) = ((pa X ++ (g1 ++ X :: g2)) ++ [X]) ++ (f ++ [X, 41]) := by simpa using hB
    have hB := List.append_cancel_right hB
    have h1 := congrArg List.getLast? hB
    rw [List.getLast?_append, List.getLast?_append] at h1
    have := P.sx
    simp at h1
    omega
  rw [h]
omit P F in
theorem tb_eq {front : List Nat} : tb (S [X]) (S front) (S f) = S (X :: (front ++ (f ++ [X, 41]))) := by
  unfold tb; rw [t_rpar, S_app, S_app, S_app, S_app]; simp
omit P F in
theorem tx_eq {front : List Nat} : tx (S [X]) (S front) (S f) = S ([46, 46, 46] ++ (X :: (front ++ (f ++ [X, 41])))) := by
  unfold tx; rw [t_rpar, t_dots, S_app, S_app, S_app, S_app, S_app]; simp
theorem told : ToldOk (S (pa X)) (S [X, 41]) (S [X]) (S f) (S (rep X g1 g2 f)) := by
  have hx := P.sx
  have nd : ∀ {front : List Nat}, 46 ∉ front → 46 ∉ X :: (front ++ (f ++ [X, 41])) := by
    intro front hf h
    simp only [List.mem_cons, List.mem_append, List.not_mem_nil, or_false] at h
    rcases h with h | h | h | h | h
    · omega
    · exact hf h
    · have := F.ch 46 h; omega
    · omega
    · omega
  refine ⟨told1 P, told2 P F, ?_, ?_, ?_, ?_, ?_, ?_⟩
  · rw [t_e, tb_eq]; exact told3
  · rw [t_0, tb_eq]; exact told4 P
  · rw [t_e, tx_eq, t_dots]; exact dots_in
  · rw [t_0, tx_eq, t_dots]; exact dots_in
  · rw [t_e, tx_eq, tb_eq, t_dots]; exact split_dots (nd (by simp))
  · rw [t_0, tx_eq, tb_eq, t_dots, t_e]; exact split_dots (nd (by simp))
end
theorem pa_h : Str.ofString "229 (h" = S (pa 104) := by decide +kernel
theorem pa_p : Str.ofString "229 (p" = S (pa 112) := by decide +kernel
theorem pb_h : Str.ofString "h)" = S [104, 41] := by decide +kernel
theorem pb_p : Str.ofString "p)" = S [112, 41] := by decide +kernel
/-- a turn's texts, whatever the figures -/
theorem turn_ok {X : Nat} (hX : X = 104 ∨ X = 112) {f : List Nat} {port : Int} (F : Figs f port) (nu : Int) :
    TurnOk (S [X]) (S f) nu port ∧ ∃ g1 g2, Pieces X g1 g2 f ∧ prepS (tyS (S [X]) (S f) nu) = S (rep X g1 g2 f) := by
  obtain ⟨t, g1, g2, et, em, hp, P, hn, h1, h60⟩ := inside_ok hX F nu
  have ety : tyS (S [X]) (S f) nu = S ([50, 50, 57, 32] ++ 40 :: (t ++ 41 :: [])) := by
    unfold tyS; rw [et, t_229p, t_rpar, S_app, S_app]; simp
  have hr : prepS (tyS (S [X]) (S f) nu) = S (rep X g1 g2 f) := by
    rw [ety, prep_S, show [50, 50, 57, 32] ++ 40 :: (t ++ 41 :: []) = [50, 50, 57, 32, 40] ++ (t ++ [41]) by simp, prepL_app, prepL_app, hp, prep_stay (l := [50, 50, 57, 32, 40]) (by decide), prep_stay (l := [41]) (by decide)]
    rfl
  refine ⟨⟨?_, ?_, ?_, ?_, ?_, ?_, ?_⟩, g1, g2, P, hr⟩
  · rw [hr, em, t_229p, t_rpar, S_app, S_app]; simp
  · rw [et, S_len]; exact h60
  · rw [et, S_len]; exact h1
  · rw [em, S_len]; have := inn_len P F; omega
  · rw [hr]; exact q_r P F
  · intro hne
    rw [et] at hne
    rw [ety]
    have hnil : t ≠ [] := by intro e; rw [e] at h1; exact absurd h1 (by decide)
    obtain ⟨c0, t1, e0⟩ := List.exists_cons_of_ne_nil hnil
    have e1 : t = t.dropLast ++ [t.getLast hnil] := (List.dropLast_concat_getLast hnil).symm
    have i0 : Txt.item (S t) 0 = S [c0] := by rw [e0]; exact item_at (l1 := []) (i := 0) rfl
    have i1 : Txt.item (S t) (-1) = S [t.getLast hnil] := by
      conv => lhs; rw [e1]
      exact item_neg (l2 := []) (i := -1) rfl
    rw [i0, i1] at hne
    have p := par_of (P := 50 :: 50 :: 57 :: [32]) (I := t) (R := []) (by decide) (fun h => (hn 41 h).2 rfl) e0 e1
    refine ⟨len_le (by simp only [List.length_cons, List.length_append, List.length_nil]; omega), head3, .inr (.inr (.inl ?_))⟩
    show (Txt.item _ _ != Txt.item _ _) = true
    rw [p.m1, p.m2]; exact hne
  · rw [hr]
    rcases hX with rfl | rfl
    · refine .inl ⟨t_h.symm, ?_, ?_⟩
      · rw [pa_h, pb_h, ell_open]; rfl
      · rw [pa_h, pb_h, t_h]; exact told P F
    · refine .inr ⟨t_p.symm, ?_, ?_⟩
      · rw [pa_h, pb_h]
        unfold ellB
        have : Txt.startswith (S (rep 112 g1 g2 f)) (S (pa 104)) = false := by
          rw [starts_eq]; rfl
        rw [this]
      · rw [pa_p, pb_p, t_p]; exact told P F
end Mine
namespace Mine
open PySem PySem.W PyProof.Rows PySem.Builtin PySem.Builtin.Str PySem.StrLaws PySem.NumText
theorem abs_mul {x y : Int} {A B : Nat} (hx : x.natAbs ≤ A) (hy : y.natAbs ≤ B) : (x * y).natAbs ≤ A * B := by
  rw [Int.natAbs_mul]; exact Nat.mul_le_mul hx hy
theorem abs_add {x y : Int} {A B : Nat} (hx : x.natAbs ≤ A) (hy : y.natAbs ≤ B) : (x + y).natAbs ≤ A + B := by omega
theorem cell_bd (d : Int) : (d.fmod 1000 - 500).natAbs ≤ 500 := by
  have h0 := Int.fmod_nonneg_of_pos d (show (0 : Int) < 1000 by decide)
  have h1 := Int.fmod_lt_of_pos d (show (0 : Int) < 1000 by decide)
  omega
theorem step_bd (d : Int) : (d.fmod 1000 - 300).natAbs ≤ 700 := by
  have h0 := Int.fmod_nonneg_of_pos d (show (0 : Int) < 1000 by decide)
  have h1 := Int.fmod_lt_of_pos d (show (0 : Int) < 1000 by decide)
  omega
theorem place_bd {k : Nat} (hk : k < 8) {pl a b c : Int} (h : pl.natAbs ≤ 500) (ha : a.natAbs ≤ 700) (hb : b.natAbs ≤ 700) (hc : c.natAbs ≤ 700) : (placeV k pl a b c).natAbs ≤ 2600 := by
  match k, hk with
  | 0, _ => exact Nat.le_trans h (by decide)
  | 1, _ => exact Nat.le_trans (abs_add h ha) (by decide)
  | 2, _ => exact Nat.le_trans (abs_add h hb) (by decide)
  | 3, _ => exact Nat.le_trans (abs_add (abs_add h ha) hb) (by decide)
  | 4, _ => exact Nat.le_trans (abs_add h hc) (by decide)
  | 5, _ => exact Nat.le_trans (abs_add (abs_add h ha) hc) (by decide)
  | 6, _ => exact Nat.le_trans (abs_add (abs_add h hb) hc) (by decide)
  | 7, _ => exact abs_add (abs_add (abs_add h ha) hb) hc
theorem port_bd {a b c d x : Int} (ha : a.natAbs ≤ 500) (hb : b.natAbs ≤ 500) (hc : c.natAbs ≤ 500) (hd : d.natAbs ≤ 500) (hx : x.natAbs ≤ 2600) : -10000000000000 < a + b * x + c * x ^ 2 + d * x ^ 3 ∧ a + b * x + c * x ^ 2 + d * x ^ 3 < 10000000000000 := by
  have e2 : x ^ 2 = x * x := by rw [Int.pow_succ, Int.pow_succ, Int.pow_zero, Int.one_mul]
  have e3 : x ^ 3 = x * x * x := by rw [Int.pow_succ, e2]
  have h2 : (x ^ 2).natAbs ≤ 2600 * 2600 := by rw [e2]; exact abs_mul hx hx
  have h3 : (x ^ 3).natAbs ≤ 2600 * 2600 * 2600 := by rw [e3]; exact abs_mul (abs_mul hx hx) hx
  have := abs_add (abs_add (abs_add ha (abs_mul hb hx)) (abs_mul hc h2)) (abs_mul hd h3)
  omega
/-- Prouhet: the third difference of a cubic -/
theorem prouhet (p a b c q0 q1 q2 q3 : Int) (f : Int → Int) (hf : ∀ x, f x = q0 + q1 * x + q2 * x ^ 2 + q3 * x ^ 3) :
    0 + f p + -f (p + a) + -f (p + b) + f (p + a + b) + -f (p + c) + f (p + a + c) + f (p + b + c) + -f (p + a + b + c) = -6 * q3 * a * b * c := by
  simp only [hf]
  grind
theorem xV_two : ∀ k, k < 8 → xV k = S [104] ∨ xV k = S [112] := by decide +kernel
theorem xV_h : ∀ k, k < 8 → (xV k = Str.ofString "h" ↔ (k = 0 ∨ k = 3 ∨ k = 5 ∨ k = 6)) := by decide +kernel
theorem rest_eq (p1 p2 p3 d3 d4 d5 d6 d7 : Int) : restV p1 p2 p3 d3 d4 d5 d6 d7 8 = -6 * (d7.fmod 1000 - 500) * p1 * p2 * p3 := by
  rw [← prouhet (d3.fmod 1000 - 500) p1 p2 p3 (d4.fmod 1000 - 500) (d5.fmod 1000 - 500) (d6.fmod 1000 - 500) (d7.fmod 1000 - 500) (fun x => poV d4 d5 d6 d7 x) (fun x => rfl)]
  have y : ∀ k, k < 8 → (k = 0 ∨ k = 3 ∨ k = 5 ∨ k = 6) → ∀ u v : Int, (if xV k = Str.ofString "h" then u else v) = u := fun k hk h u v => if_pos ((xV_h k hk).mpr h)
  have n : ∀ k, k < 8 → ¬ (k = 0 ∨ k = 3 ∨ k = 5 ∨ k = 6) → ∀ u v : Int, (if xV k = Str.ofString "h" then u else v) = v := fun k hk h u v => if_neg (fun q => h ((xV_h k hk).mp q))
  simp only [restV]
  rw [y 0 (by decide) (by decide), n 1 (by decide) (by decide), n 2 (by decide) (by decide), y 3 (by decide) (by decide), n 4 (by decide) (by decide), y 5 (by decide) (by decide), y 6 (by decide) (by decide), n 7 (by decide) (by decide)]
  rfl
theorem turn_all {k : Nat} (hk : k < 8) {po nu : Int} (h0 : -10000000000000 < po) (h1 : po < 10000000000000) :
    TurnOk (xV k) (figsV po nu) nu po ∧ ∃ X g1 g2 f, Figs f po ∧ Pieces X g1 g2 f ∧ prepS (tyS (xV k) (figsV po nu) nu) = S (rep X g1 g2 f) := by
  obtain ⟨f, ef, F⟩ := figs_ok (nu := nu) h0 h1
  have ef : figsV po nu = S f := ef
  rw [ef]
  rcases xV_two k hk with e | e
  · rw [e]
    obtain ⟨a, g1, g2, P, r⟩ := turn_ok (.inl rfl) F nu
    exact ⟨a, _, g1, g2, f, F, P, r⟩
  · rw [e]
    obtain ⟨a, g1, g2, P, r⟩ := turn_ok (.inr rfl) F nu
    exact ⟨a, _, g1, g2, f, F, P, r⟩
theorem plain_all (d0 d1 d2 d3 d4 d5 d6 d7 d8 : Int) : PlainAll d0 d1 d2 d3 d4 d5 d6 d7 d8 := by
  have bd : ∀ k, k < 8 → (plV k d3 (d0.fmod 1000 - 300) (d1.fmod 1000 - 300) (d2.fmod 1000 - 300)).natAbs ≤ 2600 := fun k hk => place_bd hk (cell_bd d3) (step_bd d0) (step_bd d1) (step_bd d2)
  have pb : ∀ k, k < 8 → _ := fun k hk => port_bd (cell_bd d4) (cell_bd d5) (cell_bd d6) (cell_bd d7) (bd k hk)
  refine ⟨fun k hk => ⟨?_, (pb k hk).1, (pb k hk).2, (turn_all hk (pb k hk).1 (pb k hk).2).1⟩, ?_, rest_eq _ _ _ _ _ _ _ _⟩
  · have := bd k hk
    generalize plV k d3 (d0.fmod 1000 - 300) (d1.fmod 1000 - 300) (d2.fmod 1000 - 300) = z at *
    omega
  · obtain ⟨-, X, g1, g2, f, F, P, e⟩ := turn_all (k := 7) (nu := nuV 7 d8) (by decide) (pb 7 (by decide)).1 (pb 7 (by decide)).2
    have e : rpV 7 (d0.fmod 1000 - 300) (d1.fmod 1000 - 300) (d2.fmod 1000 - 300) d3 d4 d5 d6 d7 d8 = S (rep X g1 g2 f) := e
    rw [e]
    have hl := P.l1
    have hl2 := P.l2
    have hl3 := F.le
    refine ⟨?_, ?_, ?_, q_1 P F, q_2 P F, q_3 P F, q_4, q_5 P F, q_6 P F, q_7 P F, q_8 P, q_b P F, q_a P F, q_r P F⟩
    · rw [S_len, rep_len]; omega
    · rw [S_len, rep_len]; omega
    · rw [slice_in, S_len]; exact Nat.succ_le_succ (Nat.zero_le _)
end Mine
set_option maxHeartbeats 4000000
namespace Mine
open PySem PySem.W PyProof.Rows PySem.Spec PySem.Calls PyProof.V PyProof.Rows.LCg PyProof.Rows.LCt
theorem roads_split {lk : Look} : ∀ (n : Nat) (l : List Stmt), noRoadLSs lk (l.take n) = true → noRoadLSs lk (l.drop n) = true → noRoadLSs lk l = true
  | 0, _, _, h => h
  | _ + 1, [], _, _ => by rw [noRoadLSs]
  | n + 1, s :: r, h1, h2 => by
    have h1 : noRoadLSs lk (s :: r.take n) = true := h1
    rw [noRoadLSs, Bool.and_eq_true] at h1
    rw [noRoadLSs]
    exact look_both h1.1 (roads_split n r h1.2 h2)
noncomputable abbrev prW : Program := PySem.Challenge.rw_ux0028_01.row.prog
noncomputable abbrev lkW : Look := { strict := !(importedModules prW.main.body).all cThrough.contains, foot := none, bare := (["vars", "dir", "locals"] : List Str).filter (readsOut prW prW.main.body) }
noncomputable abbrev lkC : Look := { strict := false, foot := none, bare := [] }
theorem lkE : lkW = lkC := by kernel_rfl
theorem road1 : noRoadLSs lkC (prW.main.body.take 12) = true := by kernel_rfl
theorem road2 : noRoadLSs lkC ((prW.main.body.drop 12).take 9) = true := by kernel_rfl
theorem road3 : noRoadLSs lkC ((prW.main.body.drop 12).drop 9) = true := by kernel_rfl
theorem saidN : namesResolve prW = true := by kernel_rfl
theorem saidM : namesMeet prW prW.main.body (fun _ n => attrL n) = true := by kernel_rfl
theorem saidR : noRoadLSs lkW prW.main.body = true := lkE ▸ roads_split 12 _ road1 (roads_split 9 _ road2 road3)
theorem saidL : looksOpen prW = true := look_both (look_both (look_both (look_both (look_both (by kernel_rfl) (by kernel_rfl)) saidN) (by kernel_rfl)) saidR) saidM
theorem said_part : PySem.Challenge.rw_ux0028_01.row.wellSaid = true := by
  unfold OpenRow.wellSaid OpenRow.partSaid
  repeat' (with_reducible refine look_both ?_ ?_)
  all_goals first | with_reducible exact saidL | kernel_rfl
theorem said_all : PySem.Challenge.rw_ux0028_01.wellSaid = true := by
  unfold OpenLaw.wellSaid
  repeat' (with_reducible refine look_both ?_ ?_)
  all_goals first | with_reducible exact said_part | kernel_rfl
end Mine
open PySem PySem.W PyProof.Rows PySem.Spec PySem.Calls PyProof.V PyProof.Rows.LCg PyProof.Rows.LCt Mine
theorem PySem.Challenge.cw_ux0028_01_holds : PySem.Challenge.rw_ux0028_01.Holds := by
  w_on
  refine holds_law said_all fun said => ?_
  refine holds_openCal (q := vw) (loose := loo) (Xt := xt0) (XP := XL vw []) (Yf := kb.obs) (Ya := kb.val) (YP := kb.says) (N := MM) leftO kb.of kb.keeps (fun s e => xl_of s (Bool.and_eq_true_iff.mp e).1) XL.keeps (by rfl) (by rfl) (by rfl) (fun s e => recFacts_of (Bool.and_eq_true_iff.mp e).2) (by rfl) (by first | assumption | decide +kernel) (by decide +kernel) ⟨rfl, rfl, rfl, rfl, rfl, by decide +kernel⟩ ?hw ?hc
  case hw => w_witness2
  case hc =>
    w_strict (
      intro w s₀ s₁ mg mb G Y fa o pm cd doc dV kV ho hd hcd hD hmg hg args vals as hpre hlay hrd hwl hlo
      have KX := kIn_of Y
      refine Ground.open G ?_
      intro T B D TE TW
      clear hmg G Y B D TE TW
      wrow_args hpre hlay hrd hwl hlo)
    have he := Dflts.none hD rfl
    have hk : kV = .none := hD.kw.elim (·.2) fun y => absurd rfl y.1
    subst he hk
    refine law_call (s₀ := s₀) (mg := mg) (mb := mb) T KX ho hd hcd (by assumption) (by assumption) (by omega) plain_all ?_
    intro L' h' tk' m' F'
    refine GoodW.toG (goodW_bool F' hg (raisesW_false ?_) ?_)
    · wrow_none_raised
    · wrow_post
