import PyProof.Rows.All
import Wide.All
import OpenK.AllK
import Wide.FinOn
import PySem.Challenge.RW_wo0057_02
set_option Elab.async false
set_option maxRecDepth 100000
set_option linter.all false
namespace Mine
open PySem PySem.W PyProof.Rows PySem.Calls
section
variable {α β : Type} {p : Program} {w : World} {n₀ : Nat} {ann : Option Value} {fr : Frame}

theorem segGo_add {tb : String → Option Builtin} {b : Nat} : ∀ {n m : Nat} {s s' : Shared} {t t' : Thread} {r : Option (Shared × Thread)}, segGo tb p w n₀ ann b n s t = some (s', t') →
    segGo tb p w n₀ ann b m s' t' = r → segGo tb p w n₀ ann b (n + m) s t = r
  | 0, m, s, s', t, t', r, h, k => by
    obtain ⟨rfl, rfl⟩ : s = s' ∧ t = t' := by simpa [segGo] using h
    rw [Nat.zero_add]; exact k
  | n + 1, m, s, s', t, t', r, h, k => by
    rw [show n + 1 + m = n + m + 1 by omega]
    unfold segGo at h ⊢
    cases he : endAt b t with
    | some f => rw [he] at h; cases h
    | none =>
      rw [he] at h
      cases hk : stepOk n₀ ann t with
      | false => rw [hk] at h; cases h
      | true =>
        rw [hk] at h
        cases hs : step (denote tb) p w s t with
        | halt o s₂ => rw [hs] at h; cases h
        | go s₂ t₂ => rw [hs] at h; exact segGo_add h k

/-- n steps of the machine take the tree x from s, pos to its value a at s', pos', whatever stands behind and around it -/
def Steps (p : Program) (w : World) (n₀ : Nat) (ann : Option Value) (fr : Frame) (n : Nat) (x : Sem α) (s : Shared) (pos : Pos) (a : α) (s' : Shared) (pos' : Pos) : Prop :=
  ∀ (K : α → Sem Fin) (H : Value → Sem Fin) (gd : Bool → Bool) (lv : List Value → List Value) (code : Code),
    segGo treeTable p w n₀ ann 1 n s ⟨x.wrap K H gd lv, code, pos, [fr]⟩ = some (s', ⟨K a, code, pos', [fr]⟩)

theorem Steps.pure {a : α} {s : Shared} {pos : Pos} : Steps p w n₀ ann fr 0 (Pure.pure a) s pos a s pos := fun _ _ _ _ _ => rfl
theorem Steps.bind {n m : Nat} {x : Sem α} {f : α → Sem β} {s s₁ s₂ : Shared} {pos pos₁ pos₂ : Pos} {a : α} {b : β} (h : Steps p w n₀ ann fr n x s pos a s₁ pos₁) (k : Steps p w n₀ ann fr m (f a) s₁ pos₁ b s₂ pos₂) :
    Steps p w n₀ ann fr (n + m) (x >>= f) s pos b s₂ pos₂ := fun K H gd lv code => by
  rw [Sem.bind_eq_wrap', Sem.wrap_wrap]
  exact segGo_add (h _ _ _ _ code) (k K H gd lv code)
theorem Steps.keep {n : Nat} {x : Sem α} {vs : List Value} {s s₁ : Shared} {pos pos₁ : Pos} {a : α} (h : Steps p w n₀ ann fr n x s pos a s₁ pos₁) : Steps p w n₀ ann fr n (x.keep vs) s pos a s₁ pos₁ := fun K H gd lv code => by
  rw [Sem.keep_eq_wrap, Sem.wrap_wrap]
  exact h _ _ _ _ code
theorem Steps.holding {n : Nat} {x : Sem α} {vs : List Value} {s s₁ : Shared} {pos pos₁ : Pos} {a : α} (h : Steps p w n₀ ann fr n x s pos a s₁ pos₁) : Steps p w n₀ ann fr n (PySem.holding vs x) s pos a s₁ pos₁ := by
  unfold PySem.holding
  split
  · exact h
  · exact h.keep
theorem Steps.onRaise {n : Nat} {x : Sem α} {f : Value → Sem Unit} {s s₁ : Shared} {pos pos₁ : Pos} {a : α} (h : Steps p w n₀ ann fr n x s pos a s₁ pos₁) : Steps p w n₀ ann fr n (x.onRaise f) s pos a s₁ pos₁ := fun K H gd lv code => by
  rw [Sem.onRaise_eq_wrap, Sem.wrap_wrap]
  exact h _ _ _ _ code
theorem Steps.tryCatch {n : Nat} {x : Sem α} {f : Value → Sem α} {s s₁ : Shared} {pos pos₁ : Pos} {a : α} (h : Steps p w n₀ ann fr n x s pos a s₁ pos₁) : Steps p w n₀ ann fr n (x.tryCatch f) s pos a s₁ pos₁ := fun K H gd lv code => by
  rw [Sem.tryCatch_eq_wrap, Sem.wrap_wrap]
  exact h _ _ _ _ code
theorem Steps.fresh {s : Shared} {pos : Pos} : Steps p w n₀ ann fr 1 PySem.fresh s pos s.toks { s with toks := s.toks + 1 } pos := fun _ _ _ _ _ => rfl
theorem Steps.rule {tag : String} {s : Shared} {pos : Pos} : Steps p w n₀ ann fr 1 (PySem.rule tag) s pos () s pos := fun _ _ _ _ _ => rfl
theorem Steps.standAt {s : Shared} {pos pos' : Pos} : Steps p w n₀ ann fr 1 (PySem.standAt pos') s pos () s pos' := fun _ _ _ _ _ => rfl
theorem Steps.ask {s : Shared} {pos : Pos} : Steps p w n₀ ann fr 1 PySem.ask s pos ⟨p, w.params⟩ s pos := fun _ _ _ _ _ => rfl
theorem Steps.alloc {o : Obj} {s : Shared} {pos : Pos} : Steps p w n₀ ann fr 1 (PySem.alloc o) s pos s.heap.objs.size { s with heap := s.heap.push o } pos := fun _ _ _ _ _ => rfl
theorem Steps.loadPart {a : Addr} {q : Option Value} {o : Obj} {s : Shared} {pos : Pos} (ho : s.heap.get? a = some o) : Steps p w n₀ ann fr 1 (PySem.loadPart a q) s pos o s pos := fun K H gd lv code => by
  obtain ⟨heap, gens, drawn, toks, os⟩ := s
  show segGo treeTable p w n₀ ann 1 1 _ ⟨.load a q _, code, pos, [fr]⟩ = _
  have hs : step (denote treeTable) p w ⟨heap, gens, drawn, toks, os⟩ ⟨.load a q fun x => (Sem.pure x).wrap K H gd lv, code, pos, [fr]⟩ = .go ⟨heap, gens, drawn, toks, os⟩ ⟨(Sem.pure o).wrap K H gd lv, code, pos, [fr]⟩ := by
    simp only [step]
    rw [show heap.get? a = some o from ho]
  simp only [segGo, endAt, stepOk, Thread.calm, Thread.atCollectorCode, Thread.yieldsInsideHandler]
  rw [hs]
  rfl
theorem Steps.updatePart {a : Addr} {q : Option Value} {f : Obj → Obj} {o : Obj} {s : Shared} {pos : Pos} (ho : s.heap.get? a = some o) (hn : Nat.ble n₀ a = true) :
    Steps p w n₀ ann fr 1 (PySem.updatePart a q f) s pos () { s with heap := s.heap.update a f } pos := fun K H gd lv code => by
  obtain ⟨heap, gens, drawn, toks, os⟩ := s
  show segGo treeTable p w n₀ ann 1 1 _ ⟨.update a q f _, code, pos, [fr]⟩ = _
  have hs : step (denote treeTable) p w ⟨heap, gens, drawn, toks, os⟩ ⟨.update a q f fun x => (Sem.pure x).wrap K H gd lv, code, pos, [fr]⟩ = .go ⟨heap.update a f, gens, drawn, toks, os⟩ ⟨(Sem.pure ()).wrap K H gd lv, code, pos, [fr]⟩ := by
    simp only [step]
    rw [show heap.get? a = some o from ho]
    rfl
  simp only [segGo, endAt, stepOk, Thread.calm, Thread.atCollectorCode, Thread.yieldsInsideHandler, hn, Bool.true_or]
  rw [hs]
  rfl
theorem Steps.mkInt {i : Int} {s : Shared} {pos : Pos} : Steps p w n₀ ann fr 1 (PySem.mkInt i) s pos (.int i s.toks) { s with toks := s.toks + 1 } pos := fun _ _ _ _ _ => rfl
theorem Steps.mkText {x : Str} {s : Shared} {pos : Pos} : Steps p w n₀ ann fr 1 (PySem.mkText x) s pos (.str x s.toks) { s with toks := s.toks + 1 } pos := fun _ _ _ _ _ => rfl

theorem hash_call {k : Int} {t : Tok} {s : Shared} {pos : Pos} : Steps p w n₀ ann fr 4 (PySem.call (.builtin "int.__hash__") [.int k t]) s pos (.int (rawHash k) s.toks) { s with toks := s.toks + 1 } pos := fun K H gd lv code => by
  kernel_rfl
end
end Mine
namespace Mine
open PySem PySem.W PyProof.Rows PySem.Calls
section
variable {α β : Type} {p : Program} {w : World} {n₀ : Nat} {ann : Option Value} {fr : Frame}

theorem Steps.cast {n m : Nat} {x : Sem α} {s s' : Shared} {pos pos' : Pos} {a : α} (h : Steps p w n₀ ann fr n x s pos a s' pos') (e : n = m) : Steps p w n₀ ann fr m x s pos a s' pos' := e ▸ h
theorem Steps.bind0 {m : Nat} {x : Sem α} {f : α → Sem β} {s s₂ : Shared} {pos pos₂ : Pos} {a : α} {b : β} (h : x = Pure.pure a) (k : Steps p w n₀ ann fr m (f a) s pos b s₂ pos₂) :
    Steps p w n₀ ann fr m (x >>= f) s pos b s₂ pos₂ := by
  subst h; exact k

theorem typeOf_int (k : Int) (t : Tok) : typeOf (.int k t) = pure (.type "int") := rfl
theorem special_hash (k : Int) (t : Tok) : specialOf (.int k t) "__hash__" = pure (some (.builtin "int.__hash__")) := by
  show (typeLookup (.type "int") "__hash__") = _
  exact slot_int_hash.lookup

theorem bound_hash {k : Int} {t : Tok} {refuse : Sem Value} {s : Shared} {pos : Pos} :
    Steps p w n₀ ann fr 5 (callSpecialIfBoundUnlessNone? (.int k t) "__hash__" refuse) s pos (some (.int (rawHash k) s.toks)) { s with toks := s.toks + 1 } pos := by
  unfold callSpecialIfBoundUnlessNone? bindSpecialIfBound?
  refine Steps.holding ?_
  refine Steps.cast (Steps.bind (n := 1) (m := 4) (a := some (.builtin "int.__hash__", [.int k t])) (s₁ := s) (pos₁ := pos) ?_ ?_) rfl
  · refine Steps.bind0 (special_hash k t) ?_
    refine Steps.cast (Steps.bind Steps.ask (m := 0) ?_) rfl
    have hb : (do let r ← bindSpecial (.builtin "int.__hash__") (.int k t); Pure.pure (some r) : Sem (Option (Value × List Value))) = Pure.pure (some (.builtin "int.__hash__", [.int k t])) := by
      rw [slot_int_hash.bind]; rfl
    split
    · rw [hb]; exact Steps.pure
    · rw [hb]; exact Steps.tryCatch Steps.pure
  · show Steps p w n₀ ann fr 4 (if (Value.builtin "int.__hash__" == Value.none) = true then _ else _) s pos _ _ pos
    rw [if_neg (by rw [builtin_beq_none]; exact Bool.false_ne_true)]
    exact Steps.cast (Steps.bind hash_call (m := 0) Steps.pure) rfl

theorem pyHash_steps {k : Int} {t : Tok} {s : Shared} {pos : Pos} : Steps p w n₀ ann fr 5 (pyHash (.int k t)) s pos (hashInt k) { s with toks := s.toks + 1 } pos := by
  have hr := rawHash_range k
  unfold pyHash pyHashByItsType
  have hv : [Value.int k t].any Value.onHeap = false := rfl
  refine Steps.bind0 (a := ()) (by rw [cRoomFor, if_neg (by rw [hv]; exact Bool.false_ne_true)]) ?_
  refine Steps.bind0 (special_hash k t) ?_
  show Steps p w n₀ ann fr 5 (if (some (Value.builtin "int.__hash__") == some Value.none) = true then _ else _) s pos _ _ pos
  rw [if_neg (by rw [beq_builtin_none]; exact Bool.false_ne_true)]
  refine Steps.bind0 (special_hash k t) ?_
  refine Steps.cast (Steps.bind bound_hash (m := 0) ?_) rfl
  show Steps p w n₀ ann fr 0 (if (decide (-(2 : Int) ^ 63 ≤ rawHash k) && decide (rawHash k < 2 ^ 63)) = true then _ else _) _ pos _ _ pos
  rw [if_pos (by rw [decide_eq_true hr.1, decide_eq_true hr.2]; rfl)]
  exact Steps.pure

def NoHash (h : Int) (es : Array DictEntry) : Prop := ∀ e ∈ es, e.hash ≠ h
def ObjIs (s : Shared) (d : Addr) (es : List DictEntry) (n : Nat) : Prop := s.heap.get? d = some (dictOf es n)

theorem places_none {h : Int} {es : Array DictEntry} (hn : NoHash h es) : placesWithHash es.size (fun i => es[i]?.map (·.hash)) h = [] := by
  unfold placesWithHash
  refine List.filter_eq_nil_iff.mpr fun i hi => ?_
  have hlt : i < es.size := List.mem_range.mp hi
  dsimp only
  rw [Array.getElem?_eq_getElem hlt]
  simpa using hn _ (Array.getElem_mem hlt)

theorem entries_steps {d : Addr} {q : Option Value} {es : List DictEntry} {n : Nat} {s : Shared} {pos : Pos} (ho : ObjIs s d es n) : Steps p w n₀ ann fr 1 (dictEntries d q) s pos es.toArray s pos := by
  unfold dictEntries
  exact Steps.cast (Steps.bind (Steps.loadPart ho) (m := 0) Steps.pure) rfl
theorem epoch_steps {d : Addr} {q : Option Value} {es : List DictEntry} {n : Nat} {s : Shared} {pos : Pos} (ho : ObjIs s d es n) : Steps p w n₀ ann fr 1 (dictEpoch d q) s pos n s pos := by
  unfold dictEpoch
  exact Steps.cast (Steps.bind (Steps.loadPart ho) (m := 0) Steps.pure) rfl

theorem find_steps {d : Addr} {k : Int} {t : Tok} {h : Int} {es : List DictEntry} {n : Nat} {s : Shared} {pos : Pos} (ho : ObjIs s d es n) (hn : NoHash h es.toArray) :
    Steps p w n₀ ann fr 1 (dictFind d (.int k t) h) s pos none s pos := by
  unfold dictFind
  refine Steps.holding (Steps.cast (Steps.bind (entries_steps ho) (m := 0) ?_) rfl)
  dsimp only
  rw [places_none hn]
  exact Steps.pure

theorem push_steps {d : Addr} {q : Option Value} {e : DictEntry} {es : List DictEntry} {n : Nat} {s : Shared} {pos : Pos} (ho : ObjIs s d es n) (hd : Nat.ble n₀ d = true) (hz : es.length < 1000) :
    Steps p w n₀ ann fr 3 (updateDictKeys d (·.push e) q) s pos () { s with heap := s.heap.update d (Obj.mapDictKeys (·.push e)) } pos := by
  unfold updateDictKeys lookBehind
  refine Steps.cast (Steps.bind (Steps.loadPart ho) (m := 2) ?_) rfl
  refine Steps.cast (Steps.bind (Steps.updatePart ho hd) (m := 1) ?_) rfl
  have ho' : (s.heap.update d (Obj.mapDictKeys (·.push e))).get? d = some (Obj.mapDictKeys (·.push e) (dictOf es n)) := Heap.get?_update_self _ ho rfl
  refine Steps.cast (Steps.bind (Steps.loadPart ho') (m := 0) ?_) rfl
  have : (Obj.mapDictKeys (·.push e) (dictOf es n)).data.pastItsLine = none := by
    show (if (es.toArray.push e).size > sizeLine + 1 then _ else _) = _
    rw [if_neg]
    rw [Array.size_push, List.size_toArray, PySem.sizeLine_eq]
    omega
  rw [this]
  exact Steps.pure

theorem mapKeys_push (es : List DictEntry) (n : Nat) (e : DictEntry) : Obj.mapDictKeys (·.push e) (dictOf es n) = dictOf (es ++ [e]) (n + 1) := by
  show ({ cls := .type "dict", data := .dict (es.toArray.push e) (n + 1) } : Obj) = _
  rw [List.push_toArray]

/-- the state behind one more entry of the dict at d -/
def put (s : Shared) (d : Addr) (e : DictEntry) : Shared := { s with heap := s.heap.update d (Obj.mapDictKeys (·.push e)) }

theorem set_steps {d : Addr} {k : Int} {t : Tok} {v : Value} {es : List DictEntry} {n : Nat} {s : Shared} {pos : Pos} (ho : ObjIs s d es n) (hd : Nat.ble n₀ d = true) (hz : es.length < 1000) (hn : NoHash (hashInt k) es.toArray) :
    Steps p w n₀ ann fr 10 (dictSet d (.int k t) v) s pos () (put { s with toks := s.toks + 1 } d ⟨hashInt k, .int k t, v⟩) pos := by
  unfold dictSet dictSetHashed
  refine Steps.holding (Steps.cast (Steps.bind pyHash_steps (m := 5) ?_) rfl)
  have ho' : ObjIs { s with toks := s.toks + 1 } d es n := ho
  refine Steps.holding (Steps.cast (Steps.bind (find_steps ho' hn) (m := 4) ?_) rfl)
  exact Steps.cast (Steps.bind Steps.rule (m := 3) (push_steps ho' hd hz)) rfl

theorem put_steps {d : Addr} {k : Int} {t : Tok} {v : Value} {es : List DictEntry} {n : Nat} {s : Shared} {pos : Pos} (ho : ObjIs s d es n) (hd : Nat.ble n₀ d = true) (hz : es.length < 1000) (hn : NoHash (hashInt k) es.toArray) :
    Steps p w n₀ ann fr 4 (dictPut d (hashInt k) (.int k t) v) s pos () (put s d ⟨hashInt k, .int k t, v⟩) pos := by
  unfold dictPut
  exact Steps.cast (Steps.bind (find_steps ho hn) (m := 3) (push_steps ho hd hz)) rfl
end
end Mine
namespace Mine
open PySem PySem.W PyProof.Rows PySem.Calls
abbrev KV := Int × Str
/-- a pair's two trees, as a display makes them -/
def mkP (pos : Pos) (x : KV) : Sem Value × Sem Value := (mkInt x.1, (do let v ← mkText x.2; standAt pos; pure v))
def ents : Nat → List KV → List DictEntry
  | _, [] => []
  | t, x :: r => ⟨hashInt x.1, .int x.1 t, .str x.2 (t + 1)⟩ :: ents (t + 3) r
/-- a short display's: the keys and values first, then the stores -/
def ents2 : Nat → List KV → List DictEntry
  | _, [] => []
  | t, x :: r => ⟨hashInt x.1, .int x.1 t, .str x.2 (t + 1)⟩ :: ents2 (t + 2) r
def asc : Int → List KV → Bool
  | _, [] => true
  | b, x :: r => decide (b < hashInt x.1) && asc (hashInt x.1) r
def Under (b : Int) (es : List DictEntry) : Prop := ∀ e ∈ es, e.hash ≤ b
theorem Under.noHash {b h : Int} {es : List DictEntry} (u : Under b es) (hb : b < h) : NoHash h es.toArray := fun e he q => by
  have := u e (by simpa using he)
  omega
theorem Under.snoc {b : Int} {es : List DictEntry} {e : DictEntry} (u : Under b es) (hb : b < e.hash) : Under e.hash (es ++ [e]) := fun x hx => by
  rcases List.mem_append.mp hx with h | h
  · have := u x h; omega
  · rw [List.mem_singleton.mp h]; exact Int.le_refl _
theorem ents_length : ∀ (t : Nat) (l : List KV), (ents t l).length = l.length
  | _, [] => rfl
  | t, x :: r => by simp [ents, ents_length (t + 3) r]
theorem ents2_length : ∀ (t : Nat) (l : List KV), (ents2 t l).length = l.length
  | _, [] => rfl
  | t, x :: r => by simp [ents2, ents2_length (t + 2) r]

theorem update_last (h : Heap) (o : Obj) (f : Obj → Obj) : (h.push o).update h.objs.size f = h.push (f o) := by
  obtain ⟨objs, life⟩ := h
  show (⟨(objs.push o).modify objs.size f, life⟩ : Heap) = ⟨objs.push (f o), life⟩
  congr 1
  apply Array.ext
  · simp
  · intro i h1 h2
    rw [Array.getElem_modify]
    by_cases hi : objs.size = i
    · subst hi; simp
    · rw [if_neg hi]
      have : i < objs.size := by simp at h2; omega
      rw [Array.getElem_push_lt this, Array.getElem_push_lt this]

section
variable {α β : Type} {p : Program} {w : World} {n₀ : Nat} {ann : Option Value} {fr : Frame}

abbrev to (s : Shared) (h : Heap) (tk : Nat) : Shared := { s with heap := h, toks := tk }

theorem objIs_last (s : Shared) (h : Heap) (tk : Nat) (es : List DictEntry) (n : Nat) : ObjIs (to s (h.push (dictOf es n)) tk) h.objs.size es n := Heap.get?_push_size _ rfl

theorem val_steps {x : KV} {s : Shared} {pos pos' : Pos} : Steps p w n₀ ann fr 2 (mkP pos x).2 s pos' (.str x.2 s.toks) { s with toks := s.toks + 1 } pos :=
  Steps.cast (Steps.bind Steps.mkText (m := 1) (Steps.cast (Steps.bind Steps.standAt (m := 0) Steps.pure) rfl)) rfl

theorem long_loop {s : Shared} {h : Heap} {pos : Pos} : ∀ (l : List KV) (es : List DictEntry) (tk n : Nat) (b : Int), Nat.ble n₀ h.objs.size = true → es.length + l.length < 1000 → Under b es → asc b l = true →
    Steps p w n₀ ann fr (13 * l.length) (forIn (l.map (mkP pos)) PUnit.unit fun x __s =>
            match x with
            | (k, v) => do
              let kv ← k
              let vv ← holding [kv] v
              holding [kv, vv] (dictSet h.objs.size kv vv)
              Pure.pure (ForInStep.yield PUnit.unit)) (to s (h.push (dictOf es n)) tk) pos PUnit.unit (to s (h.push (dictOf (es ++ ents tk l) (n + l.length))) (tk + 3 * l.length)) pos
  | [], es, tk, n, b, _, _, _, _ => by
    simp only [List.map_nil, List.forIn_nil, ents, List.append_nil, List.length_nil, Nat.mul_zero, Nat.add_zero]
    exact Steps.pure
  | x :: r, es, tk, n, b, hd, hz, hu, ha => by
    obtain ⟨h1, h2⟩ := Bool.and_eq_true_iff.mp ha
    have hb := of_decide_eq_true h1
    simp only [List.map_cons, List.forIn_cons]
    refine Steps.cast (Steps.bind (n := 13) (m := 13 * r.length) (s₁ := to s (h.push (dictOf (es ++ [⟨hashInt x.1, .int x.1 tk, .str x.2 (tk + 1)⟩]) (n + 1))) (tk + 3)) (a := ForInStep.yield PUnit.unit) (pos₁ := pos) ?_ ?_) (by simp only [List.length_cons]; omega)
    · refine Steps.cast (Steps.bind (Steps.mkInt (i := x.1)) (m := 12) ?_) rfl
      refine Steps.cast (Steps.bind (Steps.holding (val_steps (x := x) (pos := pos))) (m := 10) ?_) rfl
      have hset := set_steps (p := p) (w := w) (n₀ := n₀) (ann := ann) (fr := fr) (k := x.1) (t := tk) (v := .str x.2 (tk + 1)) (pos := pos) (objIs_last s h (tk + 2) es n) hd (by simp only [List.length_cons] at hz; omega) (hu.noHash hb)
      refine Steps.cast (Steps.bind (Steps.holding hset) (m := 0) ?_) rfl
      have e : put { to s (h.push (dictOf es n)) (tk + 2) with toks := tk + 2 + 1 } h.objs.size ⟨hashInt x.1, .int x.1 tk, .str x.2 (tk + 1)⟩ = to s (h.push (dictOf (es ++ [⟨hashInt x.1, .int x.1 tk, .str x.2 (tk + 1)⟩]) (n + 1))) (tk + 3) := by
        unfold put
        rw [← mapKeys_push, ← update_last]
      rw [show (to s (h.push (dictOf es n)) (tk + 2)).toks + 1 = tk + 2 + 1 from rfl, e]
      exact Steps.pure
    · have ih := long_loop (s := s) (h := h) (pos := pos) r (es ++ [⟨hashInt x.1, .int x.1 tk, .str x.2 (tk + 1)⟩]) (tk + 3) (n + 1) (hashInt x.1) hd (by simp only [List.length_append, List.length_cons, List.length_nil] at hz ⊢; omega) (hu.snoc hb) h2
      have e1 : es ++ [⟨hashInt x.1, .int x.1 tk, .str x.2 (tk + 1)⟩] ++ ents (tk + 3) r = es ++ ents tk (x :: r) := by simp [ents]
      have e2 : n + 1 + r.length = n + (x :: r).length := by simp only [List.length_cons]; omega
      have e3 : tk + 3 + 3 * r.length = tk + 3 * (x :: r).length := by simp only [List.length_cons]; omega
      rw [e1, e2, e3] at ih
      exact ih

theorem sub_long {s : Shared} {pos : Pos} {l : List KV} {b : Int} (hd : Nat.ble n₀ s.heap.objs.size = true) (hl : 15 < l.length) (hz : l.length < 1000) (ha : asc b l = true) :
    Steps p w n₀ ann fr (2 + 13 * l.length) (subDict (l.map (mkP pos))) s pos s.heap.objs.size (to s (s.heap.push (dictOf (ents s.toks l) l.length)) (s.toks + 3 * l.length)) pos := by
  unfold subDict
  refine Steps.cast (Steps.bind Steps.alloc (m := 1 + 13 * l.length) ?_) (by omega)
  refine Steps.cast (Steps.bind (n := 1 + 13 * l.length) (m := 0) (Steps.holding (a := ()) ?_) Steps.pure) rfl
  rw [if_neg (by rw [List.length_map]; omega)]
  refine Steps.bind Steps.rule (Steps.cast (Steps.bind (m := 0) (a := PUnit.unit) ?_ Steps.pure) rfl)
  have := long_loop (p := p) (w := w) (n₀ := n₀) (ann := ann) (fr := fr) (s := s) (h := s.heap) (pos := pos) l [] s.toks 0 b hd (by simpa using hz) (fun _ h => nomatch h) ha
  simpa using this

theorem short_pairs {pos : Pos} : ∀ (l : List KV) (s : Shared), 
    Steps p w n₀ ann fr (3 * l.length) (evalPairs (l.map (mkP pos))) s pos ((ents2 s.toks l).map fun e => (e.key, e.val)) (to s s.heap (s.toks + 2 * l.length)) pos
  | [], s => by
    show Steps p w n₀ ann fr 0 (Pure.pure []) _ _ _ _ _
    exact Steps.pure
  | x :: r, s => by
    show Steps p w n₀ ann fr _ (do let kv ← mkInt x.1; let vv ← holding [kv] (mkP pos x).2; return (kv, vv) :: (← holding [kv, vv] (evalPairs (r.map (mkP pos))))) _ _ _ _ _
    refine Steps.cast (Steps.bind Steps.mkInt (m := 2 + 3 * r.length) ?_) (by simp only [List.length_cons]; omega)
    refine Steps.bind (Steps.holding (val_steps (x := x) (pos := pos))) (m := 3 * r.length) ?_
    refine Steps.cast (Steps.bind (Steps.holding (short_pairs r { s with toks := s.toks + 1 + 1 })) (m := 0) ?_) rfl
    have e3 : s.toks + 1 + 1 + 2 * r.length = s.toks + 2 * (x :: r).length := by simp only [List.length_cons]; omega
    show Steps p w n₀ ann fr 0 (Pure.pure _) (to s s.heap (s.toks + 1 + 1 + 2 * r.length)) pos _ _ pos
    rw [e3]
    exact Steps.pure

theorem short_loop {s : Shared} {h : Heap} {pos : Pos} : ∀ (l : List KV) (t : Nat) (es : List DictEntry) (tk n : Nat) (b : Int), Nat.ble n₀ h.objs.size = true → es.length + l.length < 1000 → Under b es → asc b l = true →
    Steps p w n₀ ann fr (10 * l.length) (forIn ((ents2 t l).map fun e => (e.key, e.val)) PUnit.unit fun x __s =>
            match x with
            | (k, v) => do
              dictSet h.objs.size k v
              Pure.pure (ForInStep.yield PUnit.unit)) (to s (h.push (dictOf es n)) tk) pos PUnit.unit (to s (h.push (dictOf (es ++ ents2 t l) (n + l.length))) (tk + l.length)) pos
  | [], t, es, tk, n, b, _, _, _, _ => by
    simp only [ents2, List.map_nil, List.forIn_nil, List.append_nil, List.length_nil, Nat.mul_zero, Nat.add_zero]
    exact Steps.pure
  | x :: r, t, es, tk, n, b, hd, hz, hu, ha => by
    obtain ⟨h1, h2⟩ := Bool.and_eq_true_iff.mp ha
    have hb := of_decide_eq_true h1
    simp only [ents2, List.map_cons, List.forIn_cons]
    refine Steps.cast (Steps.bind (n := 10) (m := 10 * r.length) (s₁ := to s (h.push (dictOf (es ++ [⟨hashInt x.1, .int x.1 t, .str x.2 (t + 1)⟩]) (n + 1))) (tk + 1)) (a := ForInStep.yield PUnit.unit) (pos₁ := pos) ?_ ?_) (by simp only [List.length_cons]; omega)
    · have hset := set_steps (p := p) (w := w) (n₀ := n₀) (ann := ann) (fr := fr) (k := x.1) (t := t) (v := .str x.2 (t + 1)) (pos := pos) (objIs_last s h tk es n) hd (by simp only [List.length_cons] at hz; omega) (hu.noHash hb)
      refine Steps.cast (Steps.bind hset (m := 0) ?_) rfl
      have e : put { to s (h.push (dictOf es n)) tk with toks := tk + 1 } h.objs.size ⟨hashInt x.1, .int x.1 t, .str x.2 (t + 1)⟩ = to s (h.push (dictOf (es ++ [⟨hashInt x.1, .int x.1 t, .str x.2 (t + 1)⟩]) (n + 1))) (tk + 1) := by
        unfold put
        rw [← mapKeys_push, ← update_last]
      rw [show (to s (h.push (dictOf es n)) tk).toks + 1 = tk + 1 from rfl, e]
      exact Steps.pure
    · have ih := short_loop (s := s) (h := h) (pos := pos) r (t + 2) (es ++ [⟨hashInt x.1, .int x.1 t, .str x.2 (t + 1)⟩]) (tk + 1) (n + 1) (hashInt x.1) hd (by simp only [List.length_append, List.length_cons, List.length_nil] at hz ⊢; omega) (hu.snoc hb) h2
      have e1 : es ++ [⟨hashInt x.1, .int x.1 t, .str x.2 (t + 1)⟩] ++ ents2 (t + 2) r = es ++ (⟨hashInt x.1, .int x.1 t, .str x.2 (t + 1)⟩ :: ents2 (t + 2) r) := by simp
      have e2 : n + 1 + r.length = n + (x :: r).length := by simp only [List.length_cons]; omega
      have e3 : tk + 1 + r.length = tk + (x :: r).length := by simp only [List.length_cons]; omega
      rw [e1, e2, e3] at ih
      exact ih

theorem sub_short {s : Shared} {pos : Pos} {l : List KV} {b : Int} (hd : Nat.ble n₀ s.heap.objs.size = true) (hl : l.length ≤ 15) (ha : asc b l = true) :
    Steps p w n₀ ann fr (1 + 13 * l.length) (subDict (l.map (mkP pos))) s pos s.heap.objs.size (to s (s.heap.push (dictOf (ents2 s.toks l) l.length)) (s.toks + 3 * l.length)) pos := by
  unfold subDict
  refine Steps.cast (Steps.bind Steps.alloc (m := 13 * l.length) ?_) (by omega)
  refine Steps.cast (Steps.bind (n := 13 * l.length) (m := 0) (Steps.holding (a := ()) ?_) Steps.pure) rfl
  rw [if_pos (by rw [List.length_map]; omega)]
  refine Steps.cast (Steps.bind (short_pairs l _) (m := 10 * l.length) (Steps.holding ?_)) (by omega)
  refine Steps.cast (Steps.bind (m := 0) (a := PUnit.unit) ?_ Steps.pure) rfl
  have := short_loop (p := p) (w := w) (n₀ := n₀) (ann := ann) (fr := fr) (s := s) (h := s.heap) (pos := pos) l s.toks [] (s.toks + 2 * l.length) 0 b hd (by simp only [List.length_nil]; omega) (fun _ h => nomatch h) ha
  simp only [List.nil_append, Nat.zero_add] at this
  rw [show s.toks + 2 * l.length + l.length = s.toks + 3 * l.length by omega] at this
  exact this
end
end Mine
namespace Mine
open PySem PySem.W PyProof.Rows PySem.Calls
def heapOf (h : Heap) (o : Obj) (subs : List Obj) : Heap := ⟨h.objs ++ (o :: subs).toArray, h.life⟩
theorem heapOf_nil (h : Heap) (o : Obj) : heapOf h o [] = h.push o := by
  obtain ⟨objs, life⟩ := h
  show (⟨objs ++ #[o], life⟩ : Heap) = ⟨objs.push o, life⟩
  rw [Array.push_eq_append]
theorem heapOf_push (h : Heap) (o x : Obj) (subs : List Obj) : (heapOf h o subs).push x = heapOf h o (subs ++ [x]) := by
  obtain ⟨objs, life⟩ := h
  show (⟨(objs ++ (o :: subs).toArray).push x, life⟩ : Heap) = ⟨objs ++ (o :: (subs ++ [x])).toArray, life⟩
  rw [Array.push_eq_append, Array.append_assoc]
  congr 2
  simp
theorem heapOf_size (h : Heap) (o : Obj) (subs : List Obj) : (heapOf h o subs).objs.size = h.objs.size + 1 + subs.length := by
  show (h.objs ++ (o :: subs).toArray).size = _
  simp
  omega
theorem heapOf_main (h : Heap) (o : Obj) (subs : List Obj) : (heapOf h o subs).objs[h.objs.size]? = some o := by
  show (h.objs ++ (o :: subs).toArray)[h.objs.size]? = _
  rw [Array.getElem?_append_right (Nat.le_refl _)]
  simp
theorem heapOf_sub (h : Heap) (o x : Obj) (subs : List Obj) : (heapOf h o (subs ++ [x])).objs[h.objs.size + 1 + subs.length]? = some x := by
  show (h.objs ++ (o :: (subs ++ [x])).toArray)[h.objs.size + 1 + subs.length]? = _
  rw [Array.getElem?_append_right (by omega)]
  have : h.objs.size + 1 + subs.length - h.objs.size = subs.length + 1 := by omega
  rw [this]
  simp
theorem heapOf_update (h : Heap) (o : Obj) (subs : List Obj) (f : Obj → Obj) : (heapOf h o subs).update h.objs.size f = heapOf h (f o) subs := by
  obtain ⟨objs, life⟩ := h
  show (⟨(objs ++ (o :: subs).toArray).modify objs.size f, life⟩ : Heap) = ⟨objs ++ (f o :: subs).toArray, life⟩
  congr 1
  apply Array.ext
  · simp
  · intro i h1 h2
    rw [Array.getElem_modify]
    by_cases hi : objs.size = i
    · subst hi; simp
    · rw [if_neg hi]
      rcases Nat.lt_or_ge i objs.size with h3 | h3
      · rw [Array.getElem_append_left h3, Array.getElem_append_left h3]
      · rw [Array.getElem_append_right h3, Array.getElem_append_right h3]
        have h4 : ∃ k, i - objs.size = k + 1 := ⟨i - objs.size - 1, by omega⟩
        obtain ⟨k, hk⟩ := h4
        simp only [hk]
        simp

section
variable {p : Program} {w : World} {n₀ : Nat} {ann : Option Value} {fr : Frame}

theorem main_is (s : Shared) (h : Heap) (es : List DictEntry) (n : Nat) (subs : List Obj) (tk : Nat) : ObjIs (to s (heapOf h (dictOf es n) subs) tk) h.objs.size es n := by
  show (match (heapOf h (dictOf es n) subs).objs[h.objs.size]? with | some ⟨_, _, .freed, _⟩ => none | o => o) = _
  rw [heapOf_main]
theorem sub_is (s : Shared) (h : Heap) (o : Obj) (se : List DictEntry) (n : Nat) (subs : List Obj) (tk : Nat) : ObjIs (to s (heapOf h o (subs ++ [dictOf se n])) tk) (h.objs.size + 1 + subs.length) se n := by
  show (match (heapOf h o (subs ++ [dictOf se n])).objs[h.objs.size + 1 + subs.length]? with | some ⟨_, _, .freed, _⟩ => none | o => o) = _
  rw [heapOf_sub]

def KeysOk (b : Int) : List DictEntry → Prop
  | [] => True
  | e :: r => b < e.hash ∧ (∃ k t, e.key = .int k t ∧ e.hash = hashInt k) ∧ KeysOk e.hash r
theorem keysOk_ents : ∀ (l : List KV) (t : Nat) (b : Int), asc b l = true → KeysOk b (ents t l)
  | [], _, _, _ => trivial
  | x :: r, t, b, h => by
    obtain ⟨h1, h2⟩ := Bool.and_eq_true_iff.mp h
    exact ⟨of_decide_eq_true h1, ⟨x.1, t, rfl, rfl⟩, keysOk_ents r (t + 3) _ h2⟩
theorem keysOk_ents2 : ∀ (l : List KV) (t : Nat) (b : Int), asc b l = true → KeysOk b (ents2 t l)
  | [], _, _, _ => trivial
  | x :: r, t, b, h => by
    obtain ⟨h1, h2⟩ := Bool.and_eq_true_iff.mp h
    exact ⟨of_decide_eq_true h1, ⟨x.1, t, rfl, rfl⟩, keysOk_ents2 r (t + 2) _ h2⟩

theorem merge_loop {s : Shared} {h : Heap} {pos : Pos} {subs : List Obj} {se : List DictEntry} {sn tk : Nat} : ∀ (rest pre : List DictEntry) (es : List DictEntry) (n : Nat) (b : Int), se = pre ++ rest → Nat.ble n₀ h.objs.size = true → es.length + rest.length < 1000 → Under b es → KeysOk b rest →
    Steps p w n₀ ann fr (6 * rest.length) (forIn (List.range' pre.length rest.length) PUnit.unit fun i __s => do
              let __do_lift ← dictEntries (h.objs.size + 1 + subs.length)
              match __do_lift[i]? with
                | some e => do
                  holding [e.key, e.val] (dictPut h.objs.size e.hash e.key e.val)
                  let __do_lift ← dictEpoch (h.objs.size + 1 + subs.length)
                  if (__do_lift != sn) = true then do
                      unsupported "dict.changed-during-merge"
                      Pure.pure (ForInStep.yield PUnit.unit)
                    else Pure.pure (ForInStep.yield PUnit.unit)
                | _ => do
                  unsupported "dict.changed-during-merge"
                  Pure.pure (ForInStep.yield PUnit.unit)) (to s (heapOf h (dictOf es n) (subs ++ [dictOf se sn])) tk) pos PUnit.unit (to s (heapOf h (dictOf (es ++ rest) (n + rest.length)) (subs ++ [dictOf se sn])) tk) pos
  | [], pre, es, n, b, _, _, _, _, _ => by
    simp only [List.length_nil, List.range'_zero, List.forIn_nil, List.append_nil, Nat.mul_zero, Nat.add_zero]
    exact Steps.pure
  | e :: r, pre, es, n, b, he, hd, hz, hu, hk => by
    obtain ⟨hb, ⟨k, t, h1, h2⟩, hr⟩ := hk
    simp only [List.length_cons, List.range'_succ, List.forIn_cons]
    have hget : se.toArray[pre.length]? = some e := by rw [he]; simp
    refine Steps.cast (Steps.bind (n := 6) (m := 6 * r.length) (s₁ := to s (heapOf h (dictOf (es ++ [e]) (n + 1)) (subs ++ [dictOf se sn])) tk) (a := ForInStep.yield PUnit.unit) (pos₁ := pos) ?_ ?_) (by omega)
    · refine Steps.cast (Steps.bind (entries_steps (sub_is s h _ se sn subs tk)) (m := 5) ?_) rfl
      rw [hget]
      dsimp only
      have hput := put_steps (p := p) (w := w) (n₀ := n₀) (ann := ann) (fr := fr) (k := k) (t := t) (v := e.val) (pos := pos) (main_is s h es n (subs ++ [dictOf se sn]) tk) hd (by simp only [List.length_cons] at hz; omega) (hu.noHash (by rw [← h2]; exact hb))
      rw [← h1, ← h2] at hput
      refine Steps.cast (Steps.bind (Steps.holding hput) (m := 1) ?_) rfl
      have e' : put (to s (heapOf h (dictOf es n) (subs ++ [dictOf se sn])) tk) h.objs.size ⟨e.hash, e.key, e.val⟩ = to s (heapOf h (dictOf (es ++ [e]) (n + 1)) (subs ++ [dictOf se sn])) tk := by
        unfold put
        rw [← mapKeys_push]
        show to s ((heapOf h (dictOf es n) (subs ++ [dictOf se sn])).update h.objs.size _) tk = _
        rw [heapOf_update]
      rw [e']
      refine Steps.cast (Steps.bind (epoch_steps (sub_is s h _ se sn subs tk)) (m := 0) ?_) rfl
      rw [if_neg (by simp)]
      exact Steps.pure
    · have ih := merge_loop (s := s) (h := h) (pos := pos) (subs := subs) (se := se) (sn := sn) (tk := tk) r (pre ++ [e]) (es ++ [e]) (n + 1) e.hash (by rw [he]; simp) hd (by simp only [List.length_append, List.length_cons, List.length_nil] at hz ⊢; omega) (hu.snoc hb) hr
      have e1 : es ++ [e] ++ r = es ++ e :: r := by simp
      have e2 : n + 1 + r.length = n + (r.length + 1) := by omega
      have e3 : (pre ++ [e]).length = pre.length + 1 := by simp
      rw [e1, e2, e3] at ih
      exact ih

theorem isInst_dict {s : Shared} {a : Addr} {es : List DictEntry} {n : Nat} {pos : Pos} (ho : ObjIs s a es n) : Steps p w n₀ ann fr 1 (isInstance (.ref a) (.type "dict")) s pos true s pos := by
  unfold isInstance
  refine Steps.cast (Steps.bind (n := 1) (m := 0) (a := .type "dict") (s₁ := s) (pos₁ := pos) ?_ ?_) rfl
  · exact Steps.cast (Steps.bind (Steps.loadPart ho) (m := 0) Steps.pure) rfl
  · have : isSubtype (.type "dict") (.type "dict") = Pure.pure true := by kernel_rfl
    rw [this]
    exact Steps.pure
theorem special_iter {s : Shared} {a : Addr} {es : List DictEntry} {n : Nat} {pos : Pos} (ho : ObjIs s a es n) : Steps p w n₀ ann fr 1 (specialOf (.ref a) "__iter__") s pos (some (.builtin "dict.__iter__")) s pos := by
  unfold specialOf
  refine Steps.cast (Steps.bind (n := 1) (m := 0) (a := .type "dict") (s₁ := s) (pos₁ := pos) ?_ ?_) rfl
  · exact Steps.cast (Steps.bind (Steps.loadPart ho) (m := 0) Steps.pure) rfl
  · have : typeLookup (.type "dict") "__iter__" = Pure.pure (some (.builtin "dict.__iter__")) := by
      rw [typeLookup_type, builtinLookup_eq_fast]; kernel_rfl
    rw [this]
    exact Steps.pure

theorem merge_steps {s : Shared} {h : Heap} {pos : Pos} {subs : List Obj} {se : List DictEntry} {sn tk : Nat} {es : List DictEntry} {n : Nat} {b : Int} (hne : es ≠ []) (hd : Nat.ble n₀ h.objs.size = true) (hz : es.length + se.length < 1000) (hu : Under b es) (hk : KeysOk b se)
    (hs : (h.objs.size + 1 + subs.length == sysModules) = false) :
    Steps p w n₀ ann fr (5 + 6 * se.length) (mergeMapping h.objs.size (.ref (h.objs.size + 1 + subs.length)) false) (to s (heapOf h (dictOf es n) (subs ++ [dictOf se sn])) tk) pos ()
      (to s (heapOf h (dictOf (es ++ se) (n + se.length)) (subs ++ [dictOf se sn])) tk) pos := by
  have hsub := sub_is s h (dictOf es n) se sn subs tk
  unfold mergeMapping
  refine Steps.cast (Steps.bind (isInst_dict hsub) (m := 4 + 6 * se.length) ?_) (by omega)
  rw [if_pos rfl]
  refine Steps.cast (Steps.bind (special_iter hsub) (m := 3 + 6 * se.length) ?_) (by omega)
  refine Steps.bind0 (a := true) (by rw [beq_self_eq_true]) ?_
  dsimp only
  rw [if_neg (by rw [hs]; exact Bool.false_ne_true)]
  refine Steps.cast (Steps.bind (entries_steps (main_is s h es n (subs ++ [dictOf se sn]) tk)) (m := 2 + 6 * se.length) ?_) (by omega)
  rw [if_neg (by cases es with | nil => exact absurd rfl hne | cons a r => simp)]
  refine Steps.cast (Steps.bind (entries_steps hsub) (m := 1 + 6 * se.length) ?_) (by omega)
  refine Steps.cast (Steps.bind (epoch_steps hsub) (m := 6 * se.length) ?_) (by omega)
  refine Steps.cast (Steps.bind (m := 0) (a := PUnit.unit) ?_ Steps.pure) rfl
  have := merge_loop (p := p) (w := w) (n₀ := n₀) (ann := ann) (fr := fr) (s := s) (h := h) (pos := pos) (subs := subs) (se := se) (sn := sn) (tk := tk) se [] es n b rfl hd hz hu hk
  rw [List.range_eq_range', List.size_toArray]
  exact this
end
end Mine
namespace Mine
open PySem PySem.W PyProof.Rows PySem.Calls
abbrev Item := Option (Sem Value) × Sem Value
def mkI (pos : Pos) (x : KV) : Item := (some (mkP pos x).1, (mkP pos x).2)
abbrev DSt := Option Addr × List (Sem Value × Sem Value)
abbrev FlT := DSt → Sem (Option Addr)
/-- what a flush of a run that is not empty does: the first makes the dict, the others make one beside it and merge it -/
structure Flush (fl : FlT) (H : Addr → Value → Sem Unit) : Prop where
  first : ∀ a r, fl (none, a :: r) = (do let x ← subDict (a :: r); pure (some x))
  next : ∀ d a r, fl (some d, a :: r) = (do let sub ← holding [Value.ref d] (subDict (a :: r)); (holding [Value.ref d, Value.ref sub] (mergeMapping d (Value.ref sub) false)).onRaise (H d); pure (some d))
/-- the dict so far, the dicts beside it, the tokens, the steps -/
structure DS where
  es : List DictEntry
  subs : List Obj
  tk : Nat
  steps : Nat
def stepL (x : DS) (c : List KV) : DS := ⟨x.es ++ ents x.tk c, x.subs ++ [dictOf (ents x.tk c) c.length], x.tk + 3 * c.length, x.steps + ((2 + 13 * c.length) + (5 + 6 * c.length))⟩
def stepS (x : DS) (c : List KV) : DS := ⟨x.es ++ ents2 x.tk c, x.subs ++ [dictOf (ents2 x.tk c) c.length], x.tk + 3 * c.length, x.steps + ((1 + 13 * c.length) + (5 + 6 * c.length))⟩
def start1 (tk : Nat) (c : List KV) : DS := ⟨ents tk c, [], tk + 3 * c.length, 2 + 13 * c.length⟩
def allL (x : DS) (cs : List (List KV)) : DS := cs.foldl stepL x
def hi : Int → List KV → Int
  | b, [] => b
  | _, x :: r => hi (hashInt x.1) r
theorem under_ents : ∀ (l : List KV) (t : Nat) (b : Int) (es : List DictEntry), Under b es → asc b l = true → Under (hi b l) (es ++ ents t l)
  | [], t, b, es, u, _ => by simpa [ents, hi] using u
  | x :: r, t, b, es, u, h => by
    obtain ⟨h1, h2⟩ := Bool.and_eq_true_iff.mp h
    have := under_ents r (t + 3) (hashInt x.1) (es ++ [⟨hashInt x.1, .int x.1 t, .str x.2 (t + 1)⟩]) (u.snoc (of_decide_eq_true h1)) h2
    simpa [ents, hi] using this
def ascs : Int → List (List KV) → Bool
  | _, [] => true
  | b, c :: r => asc b c && (c.length == 17) && ascs (hi b c) r
def his : Int → List (List KV) → Int
  | b, [] => b
  | b, c :: r => his (hi b c) r

section
variable {p : Program} {w : World} {n₀ : Nat} {ann : Option Value} {fr : Frame} {fl : FlT} {H : Addr → Value → Sem Unit}

theorem fill {pos : Pos} {main : Option Addr} {body : Item → DSt → Sem (ForInStep DSt)} (hb : ∀ k v m run, body (some k, v) (m, run) = if (((run ++ [(k, v)]).length == 17) = true) then (do let m' ← fl (m, run ++ [(k, v)]); pure (ForInStep.yield (m', []))) else pure (ForInStep.yield (m, run ++ [(k, v)])))
    {rest : List Item} {nf m : Nat} {s s' s'' : Shared} {d : Addr} {R : DSt} : ∀ (c pend : List KV), c ≠ [] → pend.length + c.length = 17 →
    Steps p w n₀ ann fr nf (fl (main, (pend ++ c).map (mkP pos))) s pos (some d) s' pos → Steps p w n₀ ann fr m (forIn rest (some d, []) body) s' pos R s'' pos →
    Steps p w n₀ ann fr (nf + m) (forIn (c.map (mkI pos) ++ rest) (main, pend.map (mkP pos)) body) s pos R s'' pos
  | [], _, h, _, _, _ => absurd rfl h
  | [x], pend, _, hl, hf, hr => by
    simp only [List.map_cons, List.map_nil, List.cons_append, List.nil_append, List.forIn_cons, mkI]
    rw [hb]
    have : (((pend.map (mkP pos) ++ [((mkP pos x).1, (mkP pos x).2)]).length == 17) = true) := by simp at hl ⊢; omega
    rw [if_pos this]
    rw [List.map_append, List.map_cons, List.map_nil] at hf
    refine Steps.bind (a := ForInStep.yield (some d, [])) (n := nf) (m := m) (s₁ := s') (pos₁ := pos) ?_ hr
    exact Steps.cast (Steps.bind hf (m := 0) Steps.pure) rfl
  | x :: y :: r, pend, _, hl, hf, hr => by
    simp only [List.map_cons, List.cons_append, List.forIn_cons]
    rw [show mkI pos x = (some (mkP pos x).1, (mkP pos x).2) from rfl, hb]
    have : ¬(((pend.map (mkP pos) ++ [((mkP pos x).1, (mkP pos x).2)]).length == 17) = true) := by simp at hl ⊢; omega
    rw [if_neg this]
    refine Steps.cast (Steps.bind (a := ForInStep.yield (main, pend.map (mkP pos) ++ [((mkP pos x).1, (mkP pos x).2)])) (n := 0) (m := nf + m) (s₁ := s) (pos₁ := pos) Steps.pure ?_) (by omega)
    have ih := fill (pos := pos) (main := main) (body := body) hb (rest := rest) (nf := nf) (m := m) (s := s) (s' := s') (s'' := s'') (d := d) (R := R) (y :: r) (pend ++ [x]) (by simp) (by simp at hl ⊢; omega) (by simpa using hf) hr
    simp only [List.map_cons, List.cons_append, List.map_append, List.map_nil, List.forIn_cons] at ih ⊢
    exact ih
/-- the last, short chunk: no flush yet -/
theorem fill_last {pos : Pos} {main : Option Addr} {body : Item → DSt → Sem (ForInStep DSt)} (hb : ∀ k v m run, body (some k, v) (m, run) = if (((run ++ [(k, v)]).length == 17) = true) then (do let m' ← fl (m, run ++ [(k, v)]); pure (ForInStep.yield (m', []))) else pure (ForInStep.yield (m, run ++ [(k, v)])))
    {s : Shared} : ∀ (c pend : List KV), pend.length + c.length < 17 →
    Steps p w n₀ ann fr 0 (forIn (c.map (mkI pos)) (main, pend.map (mkP pos)) body) s pos (main, (pend ++ c).map (mkP pos)) s pos
  | [], pend, _ => by
    simp only [List.map_nil, List.forIn_nil, List.append_nil]
    exact Steps.pure
  | x :: r, pend, hl => by
    simp only [List.map_cons, List.forIn_cons]
    rw [show mkI pos x = (some (mkP pos x).1, (mkP pos x).2) from rfl, hb]
    have : ¬(((pend.map (mkP pos) ++ [((mkP pos x).1, (mkP pos x).2)]).length == 17) = true) := by simp at hl ⊢; omega
    rw [if_neg this]
    refine Steps.cast (Steps.bind (a := ForInStep.yield (main, pend.map (mkP pos) ++ [((mkP pos x).1, (mkP pos x).2)])) (n := 0) (m := 0) (s₁ := s) (pos₁ := pos) Steps.pure ?_) rfl
    have ih := fill_last (pos := pos) (main := main) (body := body) hb (s := s) r (pend ++ [x]) (by simp at hl ⊢; omega)
    simpa using ih

def stOf (s : Shared) (h : Heap) (x : DS) : Shared := to s (heapOf h (dictOf x.es x.es.length) x.subs) x.tk

theorem flush_first (hF : Flush fl H) {s : Shared} {pos : Pos} {c : List KV} {b : Int} (hd : Nat.ble n₀ s.heap.objs.size = true) (hl : c.length = 17) (ha : asc b c = true) :
    Steps p w n₀ ann fr (start1 s.toks c).steps (fl (none, c.map (mkP pos))) s pos (some s.heap.objs.size) (stOf s s.heap (start1 s.toks c)) pos := by
  have hfl : fl (none, c.map (mkP pos)) = (do let x ← subDict (c.map (mkP pos)); pure (some x)) := by
    cases c with
    | nil => simp at hl
    | cons a r => exact hF.first _ _
  rw [hfl]
  have := sub_long (p := p) (w := w) (n₀ := n₀) (ann := ann) (fr := fr) (s := s) (pos := pos) (l := c) hd (by omega) (by omega) ha
  refine Steps.cast (Steps.bind this (m := 0) ?_) rfl
  have e : to s (s.heap.push (dictOf (ents s.toks c) c.length)) (s.toks + 3 * c.length) = stOf s s.heap (start1 s.toks c) := by
    unfold stOf start1
    dsimp only
    rw [heapOf_nil, ents_length]
  rw [e]
  exact Steps.pure

theorem flush_long (hF : Flush fl H) {s : Shared} {h : Heap} {x : DS} {pos : Pos} {c : List KV} {b : Int} (hd : Nat.ble n₀ h.objs.size = true) (hl : c.length = 17) (ha : asc b c = true) (hne : x.es ≠ []) (hz : x.es.length + c.length < 1000) (hu : Under b x.es)
    (hs : (h.objs.size + 1 + x.subs.length == sysModules) = false) :
    Steps p w n₀ ann fr ((2 + 13 * c.length) + (5 + 6 * c.length)) (fl (some h.objs.size, c.map (mkP pos))) (stOf s h x) pos (some h.objs.size) (stOf s h (stepL x c)) pos := by
  have hfl : fl (some h.objs.size, c.map (mkP pos)) = (do let sub ← holding [Value.ref h.objs.size] (subDict (c.map (mkP pos))); (holding [Value.ref h.objs.size, Value.ref sub] (mergeMapping h.objs.size (Value.ref sub) false)).onRaise (H h.objs.size); pure (some h.objs.size)) := by
    cases c with
    | nil => simp at hl
    | cons a r => exact hF.next _ _ _
  rw [hfl]
  have hsz : (stOf s h x).heap.objs.size = h.objs.size + 1 + x.subs.length := heapOf_size _ _ _
  have h1 := sub_long (p := p) (w := w) (n₀ := n₀) (ann := ann) (fr := fr) (s := stOf s h x) (pos := pos) (l := c) (b := b) (by rw [hsz]; exact Nat.ble_eq.mpr (by have := Nat.ble_eq.mp hd; omega)) (by omega) (by omega) ha
  rw [hsz] at h1
  refine Steps.bind (Steps.holding h1) (m := 5 + 6 * c.length) ?_
  have e : to (stOf s h x) ((stOf s h x).heap.push (dictOf (ents (stOf s h x).toks c) c.length)) ((stOf s h x).toks + 3 * c.length) = to s (heapOf h (dictOf x.es x.es.length) (x.subs ++ [dictOf (ents x.tk c) c.length])) (x.tk + 3 * c.length) := by
    unfold stOf
    dsimp only
    rw [heapOf_push]
  rw [e]
  have h2 := merge_steps (p := p) (w := w) (n₀ := n₀) (ann := ann) (fr := fr) (s := s) (h := h) (pos := pos) (subs := x.subs) (se := ents x.tk c) (sn := c.length) (tk := x.tk + 3 * c.length) (es := x.es) (n := x.es.length) (b := b) hne hd (by rw [ents_length]; exact hz) hu (keysOk_ents c _ _ ha) hs
  rw [ents_length] at h2
  refine Steps.cast (Steps.bind (Steps.onRaise (Steps.holding h2)) (m := 0) ?_) rfl
  have e2 : to s (heapOf h (dictOf (x.es ++ ents x.tk c) (x.es.length + c.length)) (x.subs ++ [dictOf (ents x.tk c) c.length])) (x.tk + 3 * c.length) = stOf s h (stepL x c) := by
    unfold stOf stepL
    dsimp only
    rw [List.length_append, ents_length]
  rw [e2]
  exact Steps.pure

theorem flush_short (hF : Flush fl H) {s : Shared} {h : Heap} {x : DS} {pos : Pos} {c : List KV} {b : Int} (hd : Nat.ble n₀ h.objs.size = true) (hl : c.length ≤ 15) (hc : c ≠ []) (ha : asc b c = true) (hne : x.es ≠ []) (hz : x.es.length + c.length < 1000) (hu : Under b x.es)
    (hs : (h.objs.size + 1 + x.subs.length == sysModules) = false) :
    Steps p w n₀ ann fr ((1 + 13 * c.length) + (5 + 6 * c.length)) (fl (some h.objs.size, c.map (mkP pos))) (stOf s h x) pos (some h.objs.size) (stOf s h (stepS x c)) pos := by
  have hfl : fl (some h.objs.size, c.map (mkP pos)) = (do let sub ← holding [Value.ref h.objs.size] (subDict (c.map (mkP pos))); (holding [Value.ref h.objs.size, Value.ref sub] (mergeMapping h.objs.size (Value.ref sub) false)).onRaise (H h.objs.size); pure (some h.objs.size)) := by
    cases c with
    | nil => exact absurd rfl hc
    | cons a r => exact hF.next _ _ _
  rw [hfl]
  have hsz : (stOf s h x).heap.objs.size = h.objs.size + 1 + x.subs.length := heapOf_size _ _ _
  have h1 := sub_short (p := p) (w := w) (n₀ := n₀) (ann := ann) (fr := fr) (s := stOf s h x) (pos := pos) (l := c) (b := b) (by rw [hsz]; exact Nat.ble_eq.mpr (by have := Nat.ble_eq.mp hd; omega)) hl ha
  rw [hsz] at h1
  refine Steps.bind (Steps.holding h1) (m := 5 + 6 * c.length) ?_
  have e : to (stOf s h x) ((stOf s h x).heap.push (dictOf (ents2 (stOf s h x).toks c) c.length)) ((stOf s h x).toks + 3 * c.length) = to s (heapOf h (dictOf x.es x.es.length) (x.subs ++ [dictOf (ents2 x.tk c) c.length])) (x.tk + 3 * c.length) := by
    unfold stOf
    dsimp only
    rw [heapOf_push]
  rw [e]
  have h2 := merge_steps (p := p) (w := w) (n₀ := n₀) (ann := ann) (fr := fr) (s := s) (h := h) (pos := pos) (subs := x.subs) (se := ents2 x.tk c) (sn := c.length) (tk := x.tk + 3 * c.length) (es := x.es) (n := x.es.length) (b := b) hne hd (by rw [ents2_length]; exact hz) hu (keysOk_ents2 c _ _ ha) hs
  rw [ents2_length] at h2
  refine Steps.cast (Steps.bind (Steps.onRaise (Steps.holding h2)) (m := 0) ?_) rfl
  have e2 : to s (heapOf h (dictOf (x.es ++ ents2 x.tk c) (x.es.length + c.length)) (x.subs ++ [dictOf (ents2 x.tk c) c.length])) (x.tk + 3 * c.length) = stOf s h (stepS x c) := by
    unfold stOf stepS
    dsimp only
    rw [List.length_append, ents2_length]
  rw [e2]
  exact Steps.pure
end
end Mine
namespace Mine
open PySem PySem.W PyProof.Rows PySem.Calls
def kvOf : List (Option Expr) → List Expr → Option (List KV)
  | [], [] => some []
  | k :: ks, v :: vs => match k, v with
    | some (.Constant (.int k) _ _), .Constant (.str v) _ _ => (kvOf ks vs).map ((k, v) :: ·)
    | _, _ => none
  | _, _ => none
theorem items_of {env : Env} {pos : Pos} : ∀ {ks : List (Option Expr)} {vs : List Expr} {l : List KV}, kvOf ks vs = some l →
    (evalEachOpt ks env).zip ((evalEach vs env).map fun v => do let x ← v; standAt pos; pure x) = l.map (mkI pos)
  | [], [], l, h => by
    obtain rfl : [] = l := Option.some.inj h
    rfl
  | [], _ :: _, _, h => by cases h
  | _ :: _, [], _, h => by cases h
  | k :: ks, v :: vs, l, h => by
    simp only [kvOf] at h
    split at h
    · obtain ⟨l', h1, rfl⟩ := Option.map_eq_some_iff.mp h
      have ih := items_of (env := env) (pos := pos) h1
      rename_i k _ _ v _ _
      show (some (mkInt k), _) :: ((evalEachOpt ks env).zip ((evalEach vs env).map fun v => do let x ← v; standAt pos; pure x)) = _
      rw [ih]
      rfl
    · cases h
/-- a dict display is a loop with some body, and a flush behind it -/
theorem dDisplay_ex : ∃ (body : Item → DSt → Sem (ForInStep DSt)) (fl : FlT) (H : Addr → Value → Sem Unit),
    (∀ items : List Item, dictDisplay items = (do let st ← forIn items ((none, []) : DSt) body; let r ← fl st; match r with | some d => pure (.ref d) | none => newDict)) ∧
    (∀ k v m run, body (some k, v) (m, run) = if (((run ++ [(k, v)]).length == 17) = true) then (do let m' ← fl (m, run ++ [(k, v)]); pure (ForInStep.yield (m', []))) else pure (ForInStep.yield (m, run ++ [(k, v)]))) ∧
    Flush fl H := ⟨_, _, _, fun _ => rfl, fun _ _ _ _ => rfl, ⟨fun _ _ => rfl, fun _ _ _ => rfl⟩⟩
section
variable {p : Program} {w : World} {n₀ : Nat} {ann : Option Value} {fr : Frame} {fl : FlT} {H : Addr → Value → Sem Unit}

theorem allL_es_ne {cs : List (List KV)} : ∀ {x : DS}, x.es ≠ [] → (allL x cs).es ≠ [] := by
  induction cs with
  | nil => intro x h; exact h
  | cons c r ih =>
    intro x h
    refine ih (x := stepL x c) ?_
    unfold stepL
    simp [h]
theorem allL_es_length {cs : List (List KV)} : ∀ {x : DS} {b : Int}, ascs b cs = true → (allL x cs).es.length = x.es.length + 17 * cs.length := by
  induction cs with
  | nil => intro x b _; rfl
  | cons c r ih =>
    intro x b h
    unfold ascs at h
    simp only [Bool.and_eq_true, beq_iff_eq] at h
    show (allL (stepL x c) r).es.length = _
    rw [ih (x := stepL x c) h.2]
    simp only [stepL, List.length_append, ents_length, List.length_cons, h.1.2]
    omega
theorem allL_under {cs : List (List KV)} : ∀ {x : DS} {b : Int}, ascs b cs = true → Under b x.es → Under (his b cs) (allL x cs).es := by
  induction cs with
  | nil => intro x b _ h; exact h
  | cons c r ih =>
    intro x b h u
    unfold ascs at h
    simp only [Bool.and_eq_true, beq_iff_eq] at h
    exact ih (x := stepL x c) h.2 (under_ents c x.tk b x.es u h.1.1)

theorem chunks (hF : Flush fl H) {s : Shared} {h : Heap} {pos : Pos} {body : Item → DSt → Sem (ForInStep DSt)} (hb : ∀ k v m run, body (some k, v) (m, run) = if (((run ++ [(k, v)]).length == 17) = true) then (do let m' ← fl (m, run ++ [(k, v)]); pure (ForInStep.yield (m', []))) else pure (ForInStep.yield (m, run ++ [(k, v)])))
    (hd : Nat.ble n₀ h.objs.size = true) (hsys : sysModules < h.objs.size) {last : List KV} (hl : last.length < 17) : ∀ (cs : List (List KV)) (x : DS) (b : Int), ascs b cs = true → Under b x.es → x.es ≠ [] → x.es.length + 17 * cs.length < 1000 →
    ∃ n, x.steps + n = (allL x cs).steps ∧ Steps p w n₀ ann fr n (forIn (cs.flatten.map (mkI pos) ++ last.map (mkI pos)) (some h.objs.size, []) body) (stOf s h x) pos (some h.objs.size, last.map (mkP pos)) (stOf s h (allL x cs)) pos
  | [], x, b, _, _, _, _ => by
    refine ⟨0, rfl, ?_⟩
    have := fill_last (p := p) (w := w) (n₀ := n₀) (ann := ann) (fr := fr) (pos := pos) (main := some h.objs.size) (body := body) hb (s := stOf s h x) last [] (by simpa using hl)
    simpa [allL] using this
  | c :: r, x, b, ha, hu, hne, hz => by
    unfold ascs at ha
    simp only [Bool.and_eq_true, beq_iff_eq] at ha
    simp only [List.length_cons] at hz
    have hx : (stepL x c).es = x.es ++ ents x.tk c := rfl
    have hlen : (stepL x c).es.length = x.es.length + 17 := by rw [hx, List.length_append, ents_length, ha.1.2]
    obtain ⟨n, hn, hs⟩ := chunks hF hb hd hsys hl r (stepL x c) (hi b c) ha.2 (by rw [hx]; exact under_ents c x.tk b x.es hu ha.1.1) (by rw [hx]; simp [hne]) (by rw [hlen]; omega)
    have hf := flush_long hF (p := p) (w := w) (n₀ := n₀) (ann := ann) (fr := fr) (s := s) (h := h) (x := x) (pos := pos) (c := c) (b := b) hd ha.1.2 ha.1.1 hne (by rw [ha.1.2]; omega) hu (beq_eq_false_iff_ne.mpr (Nat.ne_of_gt (Nat.lt_of_lt_of_le hsys (by omega))))
    have := fill (p := p) (w := w) (n₀ := n₀) (ann := ann) (fr := fr) (pos := pos) (main := some h.objs.size) (body := body) hb (rest := r.flatten.map (mkI pos) ++ last.map (mkI pos)) c [] (by intro e; rw [e] at ha; simp at ha) (by simpa using ha.1.2) (by simpa using hf) hs
    refine ⟨_, ?_, by rw [List.flatten_cons, List.map_append, List.append_assoc]; exact this⟩
    show x.steps + _ = (allL (stepL x c) r).steps
    rw [← hn]
    show _ = x.steps + ((2 + 13 * c.length) + (5 + 6 * c.length)) + n
    omega

/-- the whole display: a first chunk of seventeen, more such, and a last short one -/
theorem display {s : Shared} {pos : Pos} {c₁ last : List KV} {cs : List (List KV)} {b : Int} (hd : Nat.ble n₀ s.heap.objs.size = true) (hsys : sysModules < s.heap.objs.size) (h1 : c₁.length = 17) (ha1 : asc b c₁ = true) (ha : ascs (hi b c₁) cs = true) (hl : last.length ≤ 15) (hl0 : last ≠ [])
    (hal : asc (his (hi b c₁) cs) last = true) (hz : 17 * cs.length < 900) :
    Steps p w n₀ ann fr (stepS (allL (start1 s.toks c₁) cs) last).steps (dictDisplay ((c₁ ++ cs.flatten ++ last).map (mkI pos))) s pos (.ref s.heap.objs.size) (stOf s s.heap (stepS (allL (start1 s.toks c₁) cs) last)) pos := by
  obtain ⟨body, fl, H, hdisp, hb, hF⟩ := dDisplay_ex
  have hf1 := flush_first hF (p := p) (w := w) (n₀ := n₀) (ann := ann) (fr := fr) (s := s) (pos := pos) hd h1 ha1
  have hu1 : Under (hi b c₁) (start1 s.toks c₁).es := by
    have := under_ents c₁ s.toks b [] (fun _ h => nomatch h) ha1
    exact (by simpa using this : Under (hi b c₁) (ents s.toks c₁))
  have hne1 : (start1 s.toks c₁).es ≠ [] := by
    intro e
    have := congrArg List.length e
    simp [start1, ents_length, h1] at this
  have hlen1 : (start1 s.toks c₁).es.length = 17 := by simp [start1, ents_length, h1]
  rw [hdisp]
  obtain ⟨n, hn, hs⟩ := chunks hF (p := p) (w := w) (n₀ := n₀) (ann := ann) (fr := fr) (s := s) (h := s.heap) (pos := pos) hb hd hsys (last := last) (by omega) cs (start1 s.toks c₁) (hi b c₁) ha hu1 hne1 (by rw [hlen1]; omega)
  have hloop := fill (p := p) (w := w) (n₀ := n₀) (ann := ann) (fr := fr) (pos := pos) (main := none) (body := body) hb (rest := cs.flatten.map (mkI pos) ++ last.map (mkI pos)) c₁ [] (by intro e; rw [e] at h1; simp at h1) (by simpa using h1) (by simpa using hf1) hs
  have hitems : (c₁ ++ cs.flatten ++ last).map (mkI pos) = c₁.map (mkI pos) ++ (cs.flatten.map (mkI pos) ++ last.map (mkI pos)) := by simp
  rw [hitems]
  have hfl := flush_short hF (p := p) (w := w) (n₀ := n₀) (ann := ann) (fr := fr) (s := s) (h := s.heap) (x := allL (start1 s.toks c₁) cs) (pos := pos) (c := last) (b := his (hi b c₁) cs) hd hl hl0 hal (allL_es_ne hne1) (by rw [allL_es_length ha, hlen1]; omega) (allL_under ha hu1)
    (beq_eq_false_iff_ne.mpr (Nat.ne_of_gt (Nat.lt_of_lt_of_le hsys (by omega))))
  refine Steps.cast (Steps.bind hloop (m := ((1 + 13 * last.length) + (5 + 6 * last.length))) (Steps.cast (Steps.bind hfl (m := 0) Steps.pure) rfl)) ?_
  show _ = (allL (start1 s.toks c₁) cs).steps + ((1 + 13 * last.length) + (5 + 6 * last.length))
  rw [← hn]

theorem dict_steps {s : Shared} {env : Env} {pos pos₀ : Pos} {ks : List (Option Expr)} {vs : List Expr} {c₁ last : List KV} {cs : List (List KV)} {b : Int} (hkv : kvOf ks vs = some (c₁ ++ cs.flatten ++ last)) (hd : Nat.ble n₀ s.heap.objs.size = true) (hsys : sysModules < s.heap.objs.size) (h1 : c₁.length = 17) (ha1 : asc b c₁ = true) (ha : ascs (hi b c₁) cs = true) (hl : last.length ≤ 15) (hl0 : last ≠ [])
    (hal : asc (his (hi b c₁) cs) last = true) (hz : 17 * cs.length < 900) :
    Steps p w n₀ ann fr (1 + (stepS (allL (start1 s.toks c₁) cs) last).steps) (eval (.Dict ks vs pos) env) s pos₀ (.ref s.heap.objs.size) (stOf s s.heap (stepS (allL (start1 s.toks c₁) cs) last)) pos := by
  have e : eval (.Dict ks vs pos) env = (do standAt pos; dictDisplay ((evalEachOpt ks env).zip ((evalEach vs env).map fun v => do let x ← v; standAt pos; pure x))) := by
    rfl
  rw [e, items_of hkv]
  exact Steps.bind Steps.standAt (display hd hsys h1 ha1 ha hl hl0 hal hz)
end
end Mine
namespace Mine
open PySem PySem.W PyProof.Rows PySem.Calls
abbrev PW : Program := PySem.Challenge.pw_wo0057_02
def bE : List Stmt := behindTheImports PW
def envE : Env := { scope := PW.main.scope, locals := mainNs, globals := mainNs, cells := [], code := .ref 13, frame := some 14 }
def cE : Code := .body bE envE
def q0 : Pos := ⟨0, 0, 0, 0⟩
noncomputable def S0 (w : World) (os : OsState) : Shared := ⟨boot_heap w.params, #[], boot_drawn, boot_toks, os⟩
def annE : Option Value := some (.ref 6)
noncomputable def Sa (w : World) (os : OsState) : Shared := match topGo treeTable PW w 11 annE 12 (S0 w os) (topStub PW) with
  | some (s, _) => s
  | none => S0 w os
set_option maxHeartbeats 0
theorem pre_run (w : World) (os : OsState) : topGo treeTable PW w 11 annE 12 (S0 w os) (topStub PW) = some (Sa w os, ⟨denote treeTable cE, cE, q0, [topFrame q0]⟩) := by kernel_rfl
theorem block_run (w : World) (os : OsState) : segRun treeTable PW w 11 annE 1 1 (Sa w os) (blockOf bE envE cE q0 [topFrame q0]) = some (.next, Sa w os, cE, q0) := by kernel_rfl
noncomputable def S14 (w : World) (os : OsState) : Shared := match segRun treeTable PW w 11 annE 1 322 (Sa w os) (piecesOf (bE.take 14) envE cE q0 [topFrame q0]) with
  | some (_, s, _) => s
  | none => S0 w os
theorem a_run (w : World) (os : OsState) : segRun treeTable PW w 11 annE 1 322 (Sa w os) (piecesOf (bE.take 14) envE cE q0 [topFrame q0]) = some (.next, S14 w os, cE, ⟨55, 0, 55, 8⟩) := by kernel_rfl
end Mine
namespace Mine
open PySem PySem.W PyProof.Rows PySem.Calls
def dSt : Stmt := bE.getD 14 (.Pass q0)
def dV : Expr := match dSt with
  | .Assign _ v _ => v
  | _ => .Constant .none 0 q0
def dTs : List Expr := match dSt with
  | .Assign ts _ _ => ts
  | _ => []
def dPos : Pos := match dSt with
  | .Assign _ _ p => p
  | _ => q0
def dKs : List (Option Expr) := match dV with
  | .Dict ks _ _ => ks
  | _ => []
def dVs : List Expr := match dV with
  | .Dict _ vs _ => vs
  | _ => []
def dP : Pos := match dV with
  | .Dict _ _ p => p
  | _ => q0
theorem dSt_eq : dSt = .Assign dTs (.Dict dKs dVs dP) dPos := by kernel_rfl
def kvs : List KV := (kvOf dKs dVs).getD []
def c1 : List KV := kvs.take 17
def cN : List (List KV) := (List.range 37).map fun i => (kvs.drop (17 * (i + 1))).take 17
def cL : List KV := kvs.drop 646
theorem kv_eq : kvOf dKs dVs = some (c1 ++ cN.flatten ++ cL) := by kernel_rfl
theorem c1_len : c1.length = 17 := by kernel_rfl
theorem c1_asc : asc 0 c1 = true := by kernel_rfl
theorem cN_asc : ascs (hi 0 c1) cN = true := by kernel_rfl
theorem cL_len : cL.length = 4 := by kernel_rfl
theorem cL_asc : asc (his (hi 0 c1) cN) cL = true := by kernel_rfl
end Mine
namespace Mine
open PySem PySem.W PyProof.Rows PySem.Calls
def restF (v : Value) : Sem Flow := (do assignStores envE v (← swappedStores dTs (.Dict dKs dVs dP) envE) ((assignEach dTs envE).map (·.2)) : Sem Flow) >>= fun fl => match fl with
  | .next => execs [] envE
  | f => pure f
theorem no_swap : swapsWithSole dTs (.Dict dKs dVs dP) dPos.line envE = pure false := by kernel_rfl
theorem bassoc {α β γ : Type} (m : Sem α) (f : α → Sem β) (g : β → Sem γ) : (m >>= f) >>= g = m >>= fun a => f a >>= g := by
  rw [Sem.bind_eq_wrap', Sem.bind_eq_wrap', Sem.wrap_wrap, Sem.bind_eq_wrap']
  congr 1
  funext a
  exact (Sem.bind_eq_wrap' _ _).symm
theorem shape : execs [dSt] envE = (standAt dPos >>= fun _ => eval (.Dict dKs dVs dP) envE >>= restF) := by
  rw [dSt_eq]
  have h : exec (.Assign dTs (.Dict dKs dVs dP) dPos) envE = (do
    standAt dPos
    if ← swapsWithSole dTs (.Dict dKs dVs dP) dPos.line envE then do
      evalThenUse (.Dict dKs dVs dP) envE fun v => assignAll v ((assignEach dTs envE).map (·.2))
      pure .next
    else do
      let v ← eval (.Dict dKs dVs dP) envE
      assignStores envE v (← swappedStores dTs (.Dict dKs dVs dP) envE) ((assignEach dTs envE).map (·.2))) := rfl
  show (exec (.Assign dTs (.Dict dKs dVs dP) dPos) envE >>= fun fl => match fl with
    | .next => execs [] envE
    | f => pure f) = _
  rw [h, no_swap, bassoc]
  refine congrArg (fun k => standAt dPos >>= k) (funext fun _ => ?_)
  show ((eval (.Dict dKs dVs dP) envE >>= fun v => (do assignStores envE v (← swappedStores dTs (.Dict dKs dVs dP) envE) ((assignEach dTs envE).map (·.2)) : Sem Flow)) >>= fun fl => match fl with
    | .next => execs [] envE
    | f => pure f) = _
  rw [bassoc]
  rfl

/-- the dict display's own state -/
def fin (tk : Nat) : DS := stepS (allL (start1 tk c1) cN) cL
theorem S14_size (w : World) (os : OsState) : (S14 w os).heap.objs.size = 78 := by kernel_rfl
theorem S14_toks (w : World) (os : OsState) : (S14 w os).toks = 275 := by kernel_rfl
theorem fin_steps : (fin 275).steps = 12515 := by kernel_rfl
noncomputable def SD (w : World) (os : OsState) : Shared := stOf (S14 w os) (S14 w os).heap (fin 275)
theorem dict_run (w : World) (os : OsState) : Steps PW w 11 annE (topFrame q0) 12516 (eval (.Dict dKs dVs dP) envE) (S14 w os) dPos (.ref 78) (SD w os) dP := by
  have h := dict_steps (p := PW) (w := w) (n₀ := 11) (ann := annE) (fr := topFrame q0) (s := S14 w os) (env := envE) (pos := dP) (pos₀ := dPos) kv_eq (b := 0) (by rw [S14_size]; rfl) (by rw [S14_size]; decide) c1_len c1_asc cN_asc (by rw [cL_len]; decide) (by intro e; have := cL_len; rw [e] at this; cases this) cL_asc (by decide)
  rw [S14_toks, S14_size] at h
  exact h.cast (by show 1 + (fin 275).steps = _; rw [fin_steps])
def p15 : Pos := ⟨56, 0, 56, 13⟩
noncomputable def S15 (w : World) (os : OsState) : Shared := match segRun treeTable PW w 11 annE 1 8 (SD w os) ⟨(restF (.ref 78)).wrap doneF deadEnd id id, cE, dP, [topFrame q0]⟩ with
  | some (_, s, _) => s
  | none => S0 w os
theorem rest_run (w : World) (os : OsState) : segRun treeTable PW w 11 annE 1 8 (SD w os) ⟨(restF (.ref 78)).wrap doneF deadEnd id id, cE, dP, [topFrame q0]⟩ = some (.next, S15 w os, cE, p15) := by kernel_rfl
theorem b_run (w : World) (os : OsState) : segRun treeTable PW w 11 annE 1 (12517 + 8) (S14 w os) (piecesOf [dSt] envE cE ⟨55, 0, 55, 8⟩ [topFrame q0]) = some (.next, S15 w os, cE, p15) := by
  refine seg_go ?_ (rest_run w os)
  show segGo treeTable PW w 11 annE 1 12517 (S14 w os) ⟨(execs [dSt] envE).wrap doneF deadEnd id id, cE, ⟨55, 0, 55, 8⟩, [topFrame q0]⟩ = _
  rw [shape]
  have h1 : Steps PW w 11 annE (topFrame q0) 1 (standAt dPos) (S14 w os) ⟨55, 0, 55, 8⟩ () (S14 w os) dPos := Steps.standAt
  rw [Sem.bind_eq_wrap', Sem.wrap_wrap]
  refine segGo_add (n := 1) (m := 12516) (h1 _ _ _ _ cE) ?_
  show segGo treeTable PW w 11 annE 1 12516 (S14 w os) ⟨(eval (.Dict dKs dVs dP) envE >>= restF).wrap doneF _ id id, cE, dPos, [topFrame q0]⟩ = _
  rw [Sem.bind_eq_wrap', Sem.wrap_wrap]
  exact dict_run w os _ _ _ _ cE
end Mine
namespace Mine
open PySem PySem.W PyProof.Rows PySem.Calls
def pZ : Pos := ⟨102, 0, 125, 63⟩
noncomputable def Sf (w : World) (os : OsState) : Shared := match segRun treeTable PW w 11 annE 1 230 (S15 w os) (piecesOf (bE.drop 15) envE cE p15 [topFrame q0]) with
  | some (_, s, _) => s
  | none => S0 w os
theorem c_run (w : World) (os : OsState) : segRun treeTable PW w 11 annE 1 230 (S15 w os) (piecesOf (bE.drop 15) envE cE p15 [topFrame q0]) = some (.next, Sf w os, cE, pZ) := by kernel_rfl
theorem fin_run (w : World) (os : OsState) : topRun treeTable PW w 11 annE 2 (Sf w os) ⟨doneF .next, cE, pZ, [topFrame q0]⟩ = some (Sf w os) := by kernel_rfl
theorem all_run (w : World) (os : OsState) : topRun treeTable PW w 11 annE (12 + (1 + (322 + ((12517 + 8) + (230 + 2))))) (S0 w os) (topStub PW) = some (Sf w os) := by
  refine go_top (pre_run w os) (piece_block (block_run w os) ?_)
  have hb : bE = bE.take 14 ++ ([dSt] ++ (bE.drop 15 ++ [])) := by kernel_rfl
  have k3 : topRun treeTable PW w 11 annE (230 + 2) (S15 w os) (restOf (bE.drop 15 ++ []) envE cE p15 [topFrame q0]) = some (Sf w os) := piece_app (c_run w os) (piece_nil (fin_run w os))
  have k2 := piece_app (b_run w os) k3
  have k1 := piece_app (a_run w os) k2
  rw [← hb] at k1
  exact k1
end Mine
namespace Mine
open PySem PySem.W PyProof.Rows PySem.Calls
/-- the head out of an exact run of the top: the state behind it may be any function of the world -/
theorem left_of {p q : Program} {loose : List Str} {Xt : Shared → Bool} {α : Type} {Yf : Shared → α} {Ya : World → α} {N : Nat} {g0 : Bool} {H₀ : Params → Heap} {gs₀ : Array GenState} {d₀ : Drawn} {k₀ : Nat} {m₀ : Nat} {ann : Option Value} {M : Nat}
    {Sf : World → OsState → Shared}
    (open_ : ∀ w : World, (fencedOpening treeTable p w N).map (fun s => (s.heap, s.gens, s.drawn, s.toks)) = some (H₀ w.params, gs₀, d₀, k₀))
    (size : ∀ w : World, ((H₀ w.params).isNs mainGlobals && gs₀.size == 0, (H₀ w.params).objs.size, (H₀ w.params).nsMap mainGlobals "__annotations__") = (true, m₀, ann))
    (run : ∀ (w : World) (os : OsState), topRun treeTable p w m₀ ann M ⟨H₀ w.params, gs₀, d₀, k₀, os⟩ (topStub p) = some (Sf w os)) (le : Nat.ble M N = true)
    (looks₁ : ∀ (w : World) (os : OsState), (staticsOk (importedModules p.main.body) (H₀ w.params) (Sf w os).heap && namesBound p (Sf w os).heap && gensDone (Sf w os) && laidKept (H₀ w.params) (Sf w os).heap) = true)
    (looks₂ : ∀ (w : World) (os : OsState), openSeen q loose (importedModules p.main.body) Xt g0 (Sf w os) = openGood q loose)
    (looks₃ : ∀ (w : World) (os : OsState), Yf (Sf w os) = Ya w) : LeftO p q loose Xt Yf Ya N g0 := fun w => by
  obtain ⟨⟨h, gs, d, k, os⟩, e, e'⟩ := Option.map_eq_some_iff.mp (open_ w)
  obtain ⟨rfl, rfl, rfl, rfl⟩ : h = H₀ w.params ∧ gs = gs₀ ∧ d = d₀ ∧ k = k₀ := by simpa using e'
  obtain ⟨z1, z2, z3⟩ : _ ∧ _ ∧ _ := by simpa only [Prod.mk.injEq] using size w
  have r := topRun_mono (N - M) _ _ _ _ (run w os)
  rw [show M + (N - M) = N by have := Nat.le_of_ble_eq_true le; omega] at r
  have t : topFrom treeTable p w N ⟨H₀ w.params, gs, d, k, os⟩ = some (Sf w os) := by
    unfold topFrom
    dsimp only
    rw [z1, z2, z3, r]
    show (match staticsOk (importedModules p.main.body) (H₀ w.params) (Sf w os).heap && namesBound p (Sf w os).heap && gensDone (Sf w os) && laidKept (H₀ w.params) (Sf w os).heap with | true => _ | false => _) = _
    rw [looks₁ w os]
  unfold openEnds
  rw [e]
  show (topFrom treeTable p w N _).map _ = _
  rw [t]
  exact congrArg some (Prod.ext (looks₂ w os) (looks₃ w os))
end Mine
namespace Mine
open PySem PySem.W PyProof.Rows PySem.Calls
def b3es : List DictEntry := (fin 275).es
/-- the parts of the text's defs -/
def fD (i : Nat) : Stmt := bE.getD i (.Pass q0)
def fAo (i : Nat) : Arguments := match fD i with
  | .FunctionDef _ a _ _ _ _ _ _ _ _ => a
  | _ => Arguments.mk [] [] none [] [] none []
def fBo (i : Nat) : List Stmt := match fD i with
  | .FunctionDef _ _ b _ _ _ _ _ _ _ => b
  | _ => []
def fSo (i : Nat) : Scope := match fD i with
  | .FunctionDef _ _ _ _ _ _ s _ _ _ => s
  | _ => Scope.mk .function [] false false []
noncomputable abbrev fA21 : Arguments := Subtype.val (p := fun l => fAo 2 = l) (by
  refine ⟨?l, ?h⟩
  case h =>
    show fAo 2 = _
    conv => lhs; whnf)
noncomputable abbrev fB21 : List Stmt := Subtype.val (p := fun l => fBo 2 = l) (by
  refine ⟨?l, ?h⟩
  case h =>
    show fBo 2 = _
    conv => lhs; whnf)
noncomputable abbrev fS21 : Scope := Subtype.val (p := fun l => fSo 2 = l) (by
  refine ⟨?l, ?h⟩
  case h =>
    show fSo 2 = _
    conv => lhs; whnf)
noncomputable abbrev fA28 : Arguments := Subtype.val (p := fun l => fAo 4 = l) (by
  refine ⟨?l, ?h⟩
  case h =>
    show fAo 4 = _
    conv => lhs; whnf)
noncomputable abbrev fB28 : List Stmt := Subtype.val (p := fun l => fBo 4 = l) (by
  refine ⟨?l, ?h⟩
  case h =>
    show fBo 4 = _
    conv => lhs; whnf)
noncomputable abbrev fS28 : Scope := Subtype.val (p := fun l => fSo 4 = l) (by
  refine ⟨?l, ?h⟩
  case h =>
    show fSo 4 = _
    conv => lhs; whnf)
noncomputable abbrev fA35 : Arguments := Subtype.val (p := fun l => fAo 6 = l) (by
  refine ⟨?l, ?h⟩
  case h =>
    show fAo 6 = _
    conv => lhs; whnf)
noncomputable abbrev fB35 : List Stmt := Subtype.val (p := fun l => fBo 6 = l) (by
  refine ⟨?l, ?h⟩
  case h =>
    show fBo 6 = _
    conv => lhs; whnf)
noncomputable abbrev fS35 : Scope := Subtype.val (p := fun l => fSo 6 = l) (by
  refine ⟨?l, ?h⟩
  case h =>
    show fSo 6 = _
    conv => lhs; whnf)
noncomputable abbrev fA42 : Arguments := Subtype.val (p := fun l => fAo 7 = l) (by
  refine ⟨?l, ?h⟩
  case h =>
    show fAo 7 = _
    conv => lhs; whnf)
noncomputable abbrev fB42 : List Stmt := Subtype.val (p := fun l => fBo 7 = l) (by
  refine ⟨?l, ?h⟩
  case h =>
    show fBo 7 = _
    conv => lhs; whnf)
noncomputable abbrev fS42 : Scope := Subtype.val (p := fun l => fSo 7 = l) (by
  refine ⟨?l, ?h⟩
  case h =>
    show fSo 7 = _
    conv => lhs; whnf)
noncomputable abbrev fA49 : Arguments := Subtype.val (p := fun l => fAo 8 = l) (by
  refine ⟨?l, ?h⟩
  case h =>
    show fAo 8 = _
    conv => lhs; whnf)
noncomputable abbrev fB49 : List Stmt := Subtype.val (p := fun l => fBo 8 = l) (by
  refine ⟨?l, ?h⟩
  case h =>
    show fBo 8 = _
    conv => lhs; whnf)
noncomputable abbrev fS49 : Scope := Subtype.val (p := fun l => fSo 8 = l) (by
  refine ⟨?l, ?h⟩
  case h =>
    show fSo 8 = _
    conv => lhs; whnf)
noncomputable abbrev fA56 : Arguments := Subtype.val (p := fun l => fAo 9 = l) (by
  refine ⟨?l, ?h⟩
  case h =>
    show fAo 9 = _
    conv => lhs; whnf)
noncomputable abbrev fB56 : List Stmt := Subtype.val (p := fun l => fBo 9 = l) (by
  refine ⟨?l, ?h⟩
  case h =>
    show fBo 9 = _
    conv => lhs; whnf)
noncomputable abbrev fS56 : Scope := Subtype.val (p := fun l => fSo 9 = l) (by
  refine ⟨?l, ?h⟩
  case h =>
    show fSo 9 = _
    conv => lhs; whnf)
noncomputable abbrev fA63 : Arguments := Subtype.val (p := fun l => fAo 10 = l) (by
  refine ⟨?l, ?h⟩
  case h =>
    show fAo 10 = _
    conv => lhs; whnf)
noncomputable abbrev fB63 : List Stmt := Subtype.val (p := fun l => fBo 10 = l) (by
  refine ⟨?l, ?h⟩
  case h =>
    show fBo 10 = _
    conv => lhs; whnf)
noncomputable abbrev fS63 : Scope := Subtype.val (p := fun l => fSo 10 = l) (by
  refine ⟨?l, ?h⟩
  case h =>
    show fSo 10 = _
    conv => lhs; whnf)
noncomputable abbrev fA70 : Arguments := Subtype.val (p := fun l => fAo 11 = l) (by
  refine ⟨?l, ?h⟩
  case h =>
    show fAo 11 = _
    conv => lhs; whnf)
noncomputable abbrev fB70 : List Stmt := Subtype.val (p := fun l => fBo 11 = l) (by
  refine ⟨?l, ?h⟩
  case h =>
    show fBo 11 = _
    conv => lhs; whnf)
noncomputable abbrev fS70 : Scope := Subtype.val (p := fun l => fSo 11 = l) (by
  refine ⟨?l, ?h⟩
  case h =>
    show fSo 11 = _
    conv => lhs; whnf)
noncomputable abbrev fA77 : Arguments := Subtype.val (p := fun l => fAo 12 = l) (by
  refine ⟨?l, ?h⟩
  case h =>
    show fAo 12 = _
    conv => lhs; whnf)
noncomputable abbrev fB77 : List Stmt := Subtype.val (p := fun l => fBo 12 = l) (by
  refine ⟨?l, ?h⟩
  case h =>
    show fBo 12 = _
    conv => lhs; whnf)
noncomputable abbrev fS77 : Scope := Subtype.val (p := fun l => fSo 12 = l) (by
  refine ⟨?l, ?h⟩
  case h =>
    show fSo 12 = _
    conv => lhs; whnf)
noncomputable abbrev fA123 : Arguments := Subtype.val (p := fun l => fAo 15 = l) (by
  refine ⟨?l, ?h⟩
  case h =>
    show fAo 15 = _
    conv => lhs; whnf)
noncomputable abbrev fB123 : List Stmt := Subtype.val (p := fun l => fBo 15 = l) (by
  refine ⟨?l, ?h⟩
  case h =>
    show fBo 15 = _
    conv => lhs; whnf)
noncomputable abbrev fS123 : Scope := Subtype.val (p := fun l => fSo 15 = l) (by
  refine ⟨?l, ?h⟩
  case h =>
    show fSo 15 = _
    conv => lhs; whnf)
noncomputable abbrev fA128 : Arguments := Subtype.val (p := fun l => fAo 17 = l) (by
  refine ⟨?l, ?h⟩
  case h =>
    show fAo 17 = _
    conv => lhs; whnf)
noncomputable abbrev fB128 : List Stmt := Subtype.val (p := fun l => fBo 17 = l) (by
  refine ⟨?l, ?h⟩
  case h =>
    show fBo 17 = _
    conv => lhs; whnf)
noncomputable abbrev fS128 : Scope := Subtype.val (p := fun l => fSo 17 = l) (by
  refine ⟨?l, ?h⟩
  case h =>
    show fSo 17 = _
    conv => lhs; whnf)
noncomputable abbrev fA135 : Arguments := Subtype.val (p := fun l => fAo 18 = l) (by
  refine ⟨?l, ?h⟩
  case h =>
    show fAo 18 = _
    conv => lhs; whnf)
noncomputable abbrev fB135 : List Stmt := Subtype.val (p := fun l => fBo 18 = l) (by
  refine ⟨?l, ?h⟩
  case h =>
    show fBo 18 = _
    conv => lhs; whnf)
noncomputable abbrev fS135 : Scope := Subtype.val (p := fun l => fSo 18 = l) (by
  refine ⟨?l, ?h⟩
  case h =>
    show fSo 18 = _
    conv => lhs; whnf)
noncomputable abbrev fA142 : Arguments := Subtype.val (p := fun l => fAo 19 = l) (by
  refine ⟨?l, ?h⟩
  case h =>
    show fAo 19 = _
    conv => lhs; whnf)
noncomputable abbrev fB142 : List Stmt := Subtype.val (p := fun l => fBo 19 = l) (by
  refine ⟨?l, ?h⟩
  case h =>
    show fBo 19 = _
    conv => lhs; whnf)
noncomputable abbrev fS142 : Scope := Subtype.val (p := fun l => fSo 19 = l) (by
  refine ⟨?l, ?h⟩
  case h =>
    show fSo 19 = _
    conv => lhs; whnf)
noncomputable abbrev fA149 : Arguments := Subtype.val (p := fun l => fAo 20 = l) (by
  refine ⟨?l, ?h⟩
  case h =>
    show fAo 20 = _
    conv => lhs; whnf)
noncomputable abbrev fB149 : List Stmt := Subtype.val (p := fun l => fBo 20 = l) (by
  refine ⟨?l, ?h⟩
  case h =>
    show fBo 20 = _
    conv => lhs; whnf)
noncomputable abbrev fS149 : Scope := Subtype.val (p := fun l => fSo 20 = l) (by
  refine ⟨?l, ?h⟩
  case h =>
    show fSo 20 = _
    conv => lhs; whnf)
noncomputable abbrev fA156 : Arguments := Subtype.val (p := fun l => fAo 21 = l) (by
  refine ⟨?l, ?h⟩
  case h =>
    show fAo 21 = _
    conv => lhs; whnf)
noncomputable abbrev fB156 : List Stmt := Subtype.val (p := fun l => fBo 21 = l) (by
  refine ⟨?l, ?h⟩
  case h =>
    show fBo 21 = _
    conv => lhs; whnf)
noncomputable abbrev fS156 : Scope := Subtype.val (p := fun l => fSo 21 = l) (by
  refine ⟨?l, ?h⟩
  case h =>
    show fSo 21 = _
    conv => lhs; whnf)
noncomputable abbrev fA161 : Arguments := Subtype.val (p := fun l => fAo 22 = l) (by
  refine ⟨?l, ?h⟩
  case h =>
    show fAo 22 = _
    conv => lhs; whnf)
noncomputable abbrev fB161 : List Stmt := Subtype.val (p := fun l => fBo 22 = l) (by
  refine ⟨?l, ?h⟩
  case h =>
    show fBo 22 = _
    conv => lhs; whnf)
noncomputable abbrev fS161 : Scope := Subtype.val (p := fun l => fSo 22 = l) (by
  refine ⟨?l, ?h⟩
  case h =>
    show fSo 22 = _
    conv => lhs; whnf)
noncomputable def KF (P : Params) : Frag := (
  ((nat_lit 2), (Obj.mk Value.none none (Data.dict (List.toArray []) 0) (List.toArray []))) ::
  ((nat_lit 3), (Obj.mk (Value.type "dict") none (Data.dict (List.toArray [(DictEntry.mk (PyData.keyHash P (Str.ofString "__name__")) (Value.str (Str.ofString "__name__") 165) (Value.str (Str.ofString "law_wo0057_02") 2234)), (DictEntry.mk (PyData.keyHash P (Str.ofString "__doc__")) (Value.str (Str.ofString "__doc__") 166) Value.none), (DictEntry.mk (PyData.keyHash P (Str.ofString "__package__")) (Value.str (Str.ofString "__package__") 167) Value.none), (DictEntry.mk (PyData.keyHash P (Str.ofString "__loader__")) (Value.str (Str.ofString "__loader__") 168) (Value.builtin "__main__.__loader__#opaque")), (DictEntry.mk (PyData.keyHash P (Str.ofString "__spec__")) (Value.str (Str.ofString "__spec__") 169) Value.none), (DictEntry.mk (PyData.keyHash P (Str.ofString "__annotations__")) (Value.str (Str.ofString "__annotations__") 170) (Value.ref 6)), (DictEntry.mk (PyData.keyHash P (Str.ofString "__builtins__")) (Value.str (Str.ofString "__builtins__") 171) (Value.ref 4)), (DictEntry.mk (PyData.keyHash P (Str.ofString "__file__")) (Value.str (Str.ofString "__file__") 173) (Value.str (Str.ofString "/claim/cut.py") 172)), (DictEntry.mk (PyData.keyHash P (Str.ofString "__cached__")) (Value.str (Str.ofString "__cached__") 174) Value.none), (DictEntry.mk (PyData.keyHash P (Str.ofString "ELLIPSIS_MARKER")) (Value.str (Str.ofString "ELLIPSIS_MARKER") 190) (Value.str (Str.ofString "...") 189)), (DictEntry.mk (PyData.keyHash P (Str.ofString "_ellipsis_match")) (Value.str (Str.ofString "_ellipsis_match") 202) (Value.ref 21)), (DictEntry.mk (PyData.keyHash P (Str.ofString "Int2AP")) (Value.str (Str.ofString "Int2AP") 214) (Value.ref 28)), (DictEntry.mk (PyData.keyHash P (Str.ofString "eq")) (Value.str (Str.ofString "eq") 224) (Value.ref 35)), (DictEntry.mk (PyData.keyHash P (Str.ofString "add")) (Value.str (Str.ofString "add") 232) (Value.ref 42)), (DictEntry.mk (PyData.keyHash P (Str.ofString "lshift")) (Value.str (Str.ofString "lshift") 240) (Value.ref 49)), (DictEntry.mk (PyData.keyHash P (Str.ofString "mod")) (Value.str (Str.ofString "mod") 248) (Value.ref 56)), (DictEntry.mk (PyData.keyHash P (Str.ofString "mul")) (Value.str (Str.ofString "mul") 256) (Value.ref 63)), (DictEntry.mk (PyData.keyHash P (Str.ofString "rshift")) (Value.str (Str.ofString "rshift") 264) (Value.ref 70)), (DictEntry.mk (PyData.keyHash P (Str.ofString "sub")) (Value.str (Str.ofString "sub") 272) (Value.ref 77)), (DictEntry.mk (PyData.keyHash P (Str.ofString "b3_exceptions")) (Value.str (Str.ofString "b3_exceptions") 2225) (Value.ref 78)), (DictEntry.mk (PyData.keyHash P (Str.ofString "map_table_b3")) (Value.str (Str.ofString "map_table_b3") 2233) (Value.ref 123)), (DictEntry.mk (PyData.keyHash P (Str.ofString "_law_signs")) (Value.str (Str.ofString "_law_signs") 2241) (Value.ref 128)), (DictEntry.mk (PyData.keyHash P (Str.ofString "_law_mirror")) (Value.str (Str.ofString "_law_mirror") 2253) (Value.ref 135)), (DictEntry.mk (PyData.keyHash P (Str.ofString "_law_kept")) (Value.str (Str.ofString "_law_kept") 2267) (Value.ref 142)), (DictEntry.mk (PyData.keyHash P (Str.ofString "_law_found")) (Value.str (Str.ofString "_law_found") 2278) (Value.ref 149)), (DictEntry.mk (PyData.keyHash P (Str.ofString "_law_steady")) (Value.str (Str.ofString "_law_steady") 2291) (Value.ref 156)), (DictEntry.mk (PyData.keyHash P (Str.ofString "law")) (Value.str (Str.ofString "law") 2297) (Value.ref 161))]) 27) (List.toArray []))) ::
  ((nat_lit 6), (Obj.mk (Value.type "dict") none (Data.dict (List.toArray []) 0) (List.toArray []))) ::
  ((nat_lit 15), (Obj.mk (Value.type "tuple") none (Data.seq (List.toArray []) 0) (List.toArray []))) ::
  ((nat_lit 17), (Obj.mk (Value.type "tuple") none (Data.seq (List.toArray [(Value.str (Str.ofString "want") 194), (Value.str (Str.ofString "got") 195), (Value.str (Str.ofString "ws") 196), (Value.str (Str.ofString "startpos") 197), (Value.str (Str.ofString "endpos") 198), (Value.str (Str.ofString "w") 199)]) 0) (List.toArray []))) ::
  ((nat_lit 18), (Obj.mk (Value.type "tuple") none (Data.seq (List.toArray []) 0) (List.toArray []))) ::
  ((nat_lit 20), (Obj.mk (Value.type "code") none (Data.fields (List.toArray [(Value.str (Str.ofString "_ellipsis_match") 191), (Value.str (Str.ofString "_ellipsis_match") 192), (Value.str (Str.ofString "/claim/cut.py") 193), (Value.int (3 : Int) 0), (Value.int (2 : Int) 0), (Value.int (0 : Int) 0), (Value.int (0 : Int) 0), (Value.int (3 : Int) 0), (Value.ref 15), (Value.bool Bool.true), (Value.int (181 : Int) 0), (Value.ref 16), Value.none, (Value.ref 17), (Value.ref 18), (Value.ref 19), (Value.int (200 : Int) 0), (Value.int (3 : Int) 0), (Value.str (Str.ofString "/claim/cut.py") 201)])) (List.toArray []))) ::
  ((nat_lit 21), (Obj.mk (Value.type "function") none (Data.func (FuncData.mk (Str.ofString "_ellipsis_match") (Str.ofString "_ellipsis_match") fA21 (FuncBody.stmts fB21) fS21 3 [] Value.none Value.none Value.none (Value.str (Str.ofString "cpy313.doctest") 187) none (Value.ref 20) Value.none 0)) (List.toArray []))) ::
  ((nat_lit 22), (Obj.mk (Value.type "tuple") none (Data.seq (List.toArray []) 0) (List.toArray []))) ::
  ((nat_lit 24), (Obj.mk (Value.type "tuple") none (Data.seq (List.toArray [(Value.str (Str.ofString "num") 208), (Value.str (Str.ofString "val") 209), (Value.str (Str.ofString "AP") 210), (Value.str (Str.ofString "mod") 211)]) 0) (List.toArray []))) ::
  ((nat_lit 25), (Obj.mk (Value.type "tuple") none (Data.seq (List.toArray []) 0) (List.toArray []))) ::
  ((nat_lit 27), (Obj.mk (Value.type "code") none (Data.fields (List.toArray [(Value.str (Str.ofString "Int2AP") 205), (Value.str (Str.ofString "Int2AP") 206), (Value.str (Str.ofString "/claim/cut.py") 207), (Value.int (32 : Int) 0), (Value.int (1 : Int) 0), (Value.int (0 : Int) 0), (Value.int (0 : Int) 0), (Value.int (3 : Int) 0), (Value.ref 22), (Value.bool Bool.true), (Value.int (181 : Int) 0), (Value.ref 23), Value.none, (Value.ref 24), (Value.ref 25), (Value.ref 26), (Value.int (212 : Int) 0), (Value.int (32 : Int) 0), (Value.str (Str.ofString "/claim/cut.py") 213)])) (List.toArray []))) ::
  ((nat_lit 28), (Obj.mk (Value.type "function") none (Data.func (FuncData.mk (Str.ofString "Int2AP") (Str.ofString "Int2AP") fA28 (FuncBody.stmts fB28) fS28 3 [] Value.none Value.none Value.none (Value.str (Str.ofString "cpy313.imaplib") 203) none (Value.ref 27) Value.none 0)) (List.toArray []))) ::
  ((nat_lit 29), (Obj.mk (Value.type "tuple") none (Data.seq (List.toArray []) 0) (List.toArray []))) ::
  ((nat_lit 31), (Obj.mk (Value.type "tuple") none (Data.seq (List.toArray [(Value.str (Str.ofString "a") 220), (Value.str (Str.ofString "b") 221)]) 0) (List.toArray []))) ::
  ((nat_lit 32), (Obj.mk (Value.type "tuple") none (Data.seq (List.toArray []) 0) (List.toArray []))) ::
  ((nat_lit 34), (Obj.mk (Value.type "code") none (Data.fields (List.toArray [(Value.str (Str.ofString "eq") 217), (Value.str (Str.ofString "eq") 218), (Value.str (Str.ofString "/claim/cut.py") 219), (Value.int (41 : Int) 0), (Value.int (2 : Int) 0), (Value.int (0 : Int) 0), (Value.int (0 : Int) 0), (Value.int (3 : Int) 0), (Value.ref 29), (Value.bool Bool.true), (Value.int (181 : Int) 0), (Value.ref 30), Value.none, (Value.ref 31), (Value.ref 32), (Value.ref 33), (Value.int (222 : Int) 0), (Value.int (41 : Int) 0), (Value.str (Str.ofString "/claim/cut.py") 223)])) (List.toArray []))) ::
  ((nat_lit 35), (Obj.mk (Value.type "function") none (Data.func (FuncData.mk (Str.ofString "eq") (Str.ofString "eq") fA35 (FuncBody.stmts fB35) fS35 3 [] Value.none Value.none Value.none (Value.str (Str.ofString "cpy313.operator") 215) none (Value.ref 34) Value.none 0)) (List.toArray []))) ::
  ((nat_lit 36), (Obj.mk (Value.type "tuple") none (Data.seq (List.toArray []) 0) (List.toArray []))) ::
  ((nat_lit 38), (Obj.mk (Value.type "tuple") none (Data.seq (List.toArray [(Value.str (Str.ofString "a") 228), (Value.str (Str.ofString "b") 229)]) 0) (List.toArray []))) ::
  ((nat_lit 39), (Obj.mk (Value.type "tuple") none (Data.seq (List.toArray []) 0) (List.toArray []))) ::
  ((nat_lit 41), (Obj.mk (Value.type "code") none (Data.fields (List.toArray [(Value.str (Str.ofString "add") 225), (Value.str (Str.ofString "add") 226), (Value.str (Str.ofString "/claim/cut.py") 227), (Value.int (43 : Int) 0), (Value.int (2 : Int) 0), (Value.int (0 : Int) 0), (Value.int (0 : Int) 0), (Value.int (3 : Int) 0), (Value.ref 36), (Value.bool Bool.true), (Value.int (181 : Int) 0), (Value.ref 37), Value.none, (Value.ref 38), (Value.ref 39), (Value.ref 40), (Value.int (230 : Int) 0), (Value.int (43 : Int) 0), (Value.str (Str.ofString "/claim/cut.py") 231)])) (List.toArray []))) ::
  ((nat_lit 42), (Obj.mk (Value.type "function") none (Data.func (FuncData.mk (Str.ofString "add") (Str.ofString "add") fA42 (FuncBody.stmts fB42) fS42 3 [] Value.none Value.none Value.none (Value.str (Str.ofString "cpy313.operator") 215) none (Value.ref 41) Value.none 0)) (List.toArray []))) ::
  ((nat_lit 43), (Obj.mk (Value.type "tuple") none (Data.seq (List.toArray []) 0) (List.toArray []))) ::
  ((nat_lit 45), (Obj.mk (Value.type "tuple") none (Data.seq (List.toArray [(Value.str (Str.ofString "a") 236), (Value.str (Str.ofString "b") 237)]) 0) (List.toArray []))) ::
  ((nat_lit 46), (Obj.mk (Value.type "tuple") none (Data.seq (List.toArray []) 0) (List.toArray []))) ::
  ((nat_lit 48), (Obj.mk (Value.type "code") none (Data.fields (List.toArray [(Value.str (Str.ofString "lshift") 233), (Value.str (Str.ofString "lshift") 234), (Value.str (Str.ofString "/claim/cut.py") 235), (Value.int (45 : Int) 0), (Value.int (2 : Int) 0), (Value.int (0 : Int) 0), (Value.int (0 : Int) 0), (Value.int (3 : Int) 0), (Value.ref 43), (Value.bool Bool.true), (Value.int (181 : Int) 0), (Value.ref 44), Value.none, (Value.ref 45), (Value.ref 46), (Value.ref 47), (Value.int (238 : Int) 0), (Value.int (45 : Int) 0), (Value.str (Str.ofString "/claim/cut.py") 239)])) (List.toArray []))) ::
  ((nat_lit 49), (Obj.mk (Value.type "function") none (Data.func (FuncData.mk (Str.ofString "lshift") (Str.ofString "lshift") fA49 (FuncBody.stmts fB49) fS49 3 [] Value.none Value.none Value.none (Value.str (Str.ofString "cpy313.operator") 215) none (Value.ref 48) Value.none 0)) (List.toArray []))) ::
  ((nat_lit 50), (Obj.mk (Value.type "tuple") none (Data.seq (List.toArray []) 0) (List.toArray []))) ::
  ((nat_lit 52), (Obj.mk (Value.type "tuple") none (Data.seq (List.toArray [(Value.str (Str.ofString "a") 244), (Value.str (Str.ofString "b") 245)]) 0) (List.toArray []))) ::
  ((nat_lit 53), (Obj.mk (Value.type "tuple") none (Data.seq (List.toArray []) 0) (List.toArray []))) ::
  ((nat_lit 55), (Obj.mk (Value.type "code") none (Data.fields (List.toArray [(Value.str (Str.ofString "mod") 241), (Value.str (Str.ofString "mod") 242), (Value.str (Str.ofString "/claim/cut.py") 243), (Value.int (47 : Int) 0), (Value.int (2 : Int) 0), (Value.int (0 : Int) 0), (Value.int (0 : Int) 0), (Value.int (3 : Int) 0), (Value.ref 50), (Value.bool Bool.true), (Value.int (181 : Int) 0), (Value.ref 51), Value.none, (Value.ref 52), (Value.ref 53), (Value.ref 54), (Value.int (246 : Int) 0), (Value.int (47 : Int) 0), (Value.str (Str.ofString "/claim/cut.py") 247)])) (List.toArray []))) ::
  ((nat_lit 56), (Obj.mk (Value.type "function") none (Data.func (FuncData.mk (Str.ofString "mod") (Str.ofString "mod") fA56 (FuncBody.stmts fB56) fS56 3 [] Value.none Value.none Value.none (Value.str (Str.ofString "cpy313.operator") 215) none (Value.ref 55) Value.none 0)) (List.toArray []))) ::
  ((nat_lit 57), (Obj.mk (Value.type "tuple") none (Data.seq (List.toArray []) 0) (List.toArray []))) ::
  ((nat_lit 59), (Obj.mk (Value.type "tuple") none (Data.seq (List.toArray [(Value.str (Str.ofString "a") 252), (Value.str (Str.ofString "b") 253)]) 0) (List.toArray []))) ::
  ((nat_lit 60), (Obj.mk (Value.type "tuple") none (Data.seq (List.toArray []) 0) (List.toArray []))) ::
  ((nat_lit 62), (Obj.mk (Value.type "code") none (Data.fields (List.toArray [(Value.str (Str.ofString "mul") 249), (Value.str (Str.ofString "mul") 250), (Value.str (Str.ofString "/claim/cut.py") 251), (Value.int (49 : Int) 0), (Value.int (2 : Int) 0), (Value.int (0 : Int) 0), (Value.int (0 : Int) 0), (Value.int (3 : Int) 0), (Value.ref 57), (Value.bool Bool.true), (Value.int (181 : Int) 0), (Value.ref 58), Value.none, (Value.ref 59), (Value.ref 60), (Value.ref 61), (Value.int (254 : Int) 0), (Value.int (49 : Int) 0), (Value.str (Str.ofString "/claim/cut.py") 255)])) (List.toArray []))) ::
  ((nat_lit 63), (Obj.mk (Value.type "function") none (Data.func (FuncData.mk (Str.ofString "mul") (Str.ofString "mul") fA63 (FuncBody.stmts fB63) fS63 3 [] Value.none Value.none Value.none (Value.str (Str.ofString "cpy313.operator") 215) none (Value.ref 62) Value.none 0)) (List.toArray []))) ::
  ((nat_lit 64), (Obj.mk (Value.type "tuple") none (Data.seq (List.toArray []) 0) (List.toArray []))) ::
  ((nat_lit 66), (Obj.mk (Value.type "tuple") none (Data.seq (List.toArray [(Value.str (Str.ofString "a") 260), (Value.str (Str.ofString "b") 261)]) 0) (List.toArray []))) ::
  ((nat_lit 67), (Obj.mk (Value.type "tuple") none (Data.seq (List.toArray []) 0) (List.toArray []))) ::
  ((nat_lit 69), (Obj.mk (Value.type "code") none (Data.fields (List.toArray [(Value.str (Str.ofString "rshift") 257), (Value.str (Str.ofString "rshift") 258), (Value.str (Str.ofString "/claim/cut.py") 259), (Value.int (51 : Int) 0), (Value.int (2 : Int) 0), (Value.int (0 : Int) 0), (Value.int (0 : Int) 0), (Value.int (3 : Int) 0), (Value.ref 64), (Value.bool Bool.true), (Value.int (181 : Int) 0), (Value.ref 65), Value.none, (Value.ref 66), (Value.ref 67), (Value.ref 68), (Value.int (262 : Int) 0), (Value.int (51 : Int) 0), (Value.str (Str.ofString "/claim/cut.py") 263)])) (List.toArray []))) ::
  ((nat_lit 70), (Obj.mk (Value.type "function") none (Data.func (FuncData.mk (Str.ofString "rshift") (Str.ofString "rshift") fA70 (FuncBody.stmts fB70) fS70 3 [] Value.none Value.none Value.none (Value.str (Str.ofString "cpy313.operator") 215) none (Value.ref 69) Value.none 0)) (List.toArray []))) ::
  ((nat_lit 71), (Obj.mk (Value.type "tuple") none (Data.seq (List.toArray []) 0) (List.toArray []))) ::
  ((nat_lit 73), (Obj.mk (Value.type "tuple") none (Data.seq (List.toArray [(Value.str (Str.ofString "a") 268), (Value.str (Str.ofString "b") 269)]) 0) (List.toArray []))) ::
  ((nat_lit 74), (Obj.mk (Value.type "tuple") none (Data.seq (List.toArray []) 0) (List.toArray []))) ::
  ((nat_lit 76), (Obj.mk (Value.type "code") none (Data.fields (List.toArray [(Value.str (Str.ofString "sub") 265), (Value.str (Str.ofString "sub") 266), (Value.str (Str.ofString "/claim/cut.py") 267), (Value.int (53 : Int) 0), (Value.int (2 : Int) 0), (Value.int (0 : Int) 0), (Value.int (0 : Int) 0), (Value.int (3 : Int) 0), (Value.ref 71), (Value.bool Bool.true), (Value.int (181 : Int) 0), (Value.ref 72), Value.none, (Value.ref 73), (Value.ref 74), (Value.ref 75), (Value.int (270 : Int) 0), (Value.int (53 : Int) 0), (Value.str (Str.ofString "/claim/cut.py") 271)])) (List.toArray []))) ::
  ((nat_lit 77), (Obj.mk (Value.type "function") none (Data.func (FuncData.mk (Str.ofString "sub") (Str.ofString "sub") fA77 (FuncBody.stmts fB77) fS77 3 [] Value.none Value.none Value.none (Value.str (Str.ofString "cpy313.operator") 215) none (Value.ref 76) Value.none 0)) (List.toArray []))) ::
  ((nat_lit 78), (Obj.mk (Value.type "dict") none (Data.dict (List.toArray b3es) 650) (List.toArray []))) ::
  ((nat_lit 117), (Obj.mk (Value.type "tuple") none (Data.seq (List.toArray []) 0) (List.toArray []))) ::
  ((nat_lit 119), (Obj.mk (Value.type "tuple") none (Data.seq (List.toArray [(Value.str (Str.ofString "code") 2229), (Value.str (Str.ofString "r") 2230)]) 0) (List.toArray []))) ::
  ((nat_lit 120), (Obj.mk (Value.type "tuple") none (Data.seq (List.toArray []) 0) (List.toArray []))) ::
  ((nat_lit 122), (Obj.mk (Value.type "code") none (Data.fields (List.toArray [(Value.str (Str.ofString "map_table_b3") 2226), (Value.str (Str.ofString "map_table_b3") 2227), (Value.str (Str.ofString "/claim/cut.py") 2228), (Value.int (57 : Int) 0), (Value.int (1 : Int) 0), (Value.int (0 : Int) 0), (Value.int (0 : Int) 0), (Value.int (3 : Int) 0), (Value.ref 117), (Value.bool Bool.true), (Value.int (181 : Int) 0), (Value.ref 118), Value.none, (Value.ref 119), (Value.ref 120), (Value.ref 121), (Value.int (2231 : Int) 0), (Value.int (57 : Int) 0), (Value.str (Str.ofString "/claim/cut.py") 2232)])) (List.toArray []))) ::
  ((nat_lit 123), (Obj.mk (Value.type "function") none (Data.func (FuncData.mk (Str.ofString "map_table_b3") (Str.ofString "map_table_b3") fA123 (FuncBody.stmts fB123) fS123 3 [] Value.none Value.none Value.none (Value.str (Str.ofString "cpy313.stringprep") 273) none (Value.ref 122) Value.none 0)) (List.toArray []))) ::
  ((nat_lit 124), (Obj.mk (Value.type "tuple") none (Data.seq (List.toArray []) 0) (List.toArray []))) ::
  ((nat_lit 127), (Obj.mk (Value.type "code") none (Data.fields (List.toArray [(Value.str (Str.ofString "_law_signs") 2236), (Value.str (Str.ofString "_law_signs") 2237), (Value.str (Str.ofString "/claim/cut.py") 2238), (Value.int (63 : Int) 0), (Value.int (1 : Int) 0), (Value.int (0 : Int) 0), (Value.int (0 : Int) 0), (Value.int (3 : Int) 0), (Value.ref 124), (Value.bool Bool.true), (Value.int (181 : Int) 0), (Value.ref 125), Value.none, Value.none, Value.none, (Value.ref 126), (Value.int (2239 : Int) 0), (Value.int (63 : Int) 0), (Value.str (Str.ofString "/claim/cut.py") 2240)])) (List.toArray []))) ::
  ((nat_lit 128), (Obj.mk (Value.type "function") none (Data.func (FuncData.mk (Str.ofString "_law_signs") (Str.ofString "_law_signs") fA128 (FuncBody.stmts fB128) fS128 3 [] Value.none Value.none Value.none (Value.str (Str.ofString "law_wo0057_02") 2234) none (Value.ref 127) Value.none 0)) (List.toArray []))) ::
  ((nat_lit 129), (Obj.mk (Value.type "tuple") none (Data.seq (List.toArray []) 0) (List.toArray []))) ::
  ((nat_lit 131), (Obj.mk (Value.type "tuple") none (Data.seq (List.toArray [(Value.str (Str.ofString "number") 2245), (Value.str (Str.ofString "turned") 2246), (Value.str (Str.ofString "behind") 2247), (Value.str (Str.ofString "ahead") 2248), (Value.str (Str.ofString "size") 2249), (Value.str (Str.ofString "power") 2250)]) 0) (List.toArray []))) ::
  ((nat_lit 132), (Obj.mk (Value.type "tuple") none (Data.seq (List.toArray []) 0) (List.toArray []))) ::
  ((nat_lit 134), (Obj.mk (Value.type "code") none (Data.fields (List.toArray [(Value.str (Str.ofString "_law_mirror") 2242), (Value.str (Str.ofString "_law_mirror") 2243), (Value.str (Str.ofString "/claim/cut.py") 2244), (Value.int (66 : Int) 0), (Value.int (5 : Int) 0), (Value.int (0 : Int) 0), (Value.int (0 : Int) 0), (Value.int (3 : Int) 0), (Value.ref 129), (Value.bool Bool.true), (Value.int (181 : Int) 0), (Value.ref 130), Value.none, (Value.ref 131), (Value.ref 132), (Value.ref 133), (Value.int (2251 : Int) 0), (Value.int (66 : Int) 0), (Value.str (Str.ofString "/claim/cut.py") 2252)])) (List.toArray []))) ::
  ((nat_lit 135), (Obj.mk (Value.type "function") none (Data.func (FuncData.mk (Str.ofString "_law_mirror") (Str.ofString "_law_mirror") fA135 (FuncBody.stmts fB135) fS135 3 [] Value.none Value.none Value.none (Value.str (Str.ofString "law_wo0057_02") 2234) none (Value.ref 134) Value.none 0)) (List.toArray []))) ::
  ((nat_lit 136), (Obj.mk (Value.type "tuple") none (Data.seq (List.toArray []) 0) (List.toArray []))) ::
  ((nat_lit 138), (Obj.mk (Value.type "tuple") none (Data.seq (List.toArray [(Value.str (Str.ofString "shown") 2257), (Value.str (Str.ofString "number") 2258), (Value.str (Str.ofString "turned") 2259), (Value.str (Str.ofString "kept") 2260), (Value.str (Str.ofString "end") 2261), (Value.str (Str.ofString "begin") 2262), (Value.str (Str.ofString "piece") 2263), (Value.str (Str.ofString "told") 2264)]) 0) (List.toArray []))) ::
  ((nat_lit 139), (Obj.mk (Value.type "tuple") none (Data.seq (List.toArray []) 0) (List.toArray []))) ::
  ((nat_lit 141), (Obj.mk (Value.type "code") none (Data.fields (List.toArray [(Value.str (Str.ofString "_law_kept") 2254), (Value.str (Str.ofString "_law_kept") 2255), (Value.str (Str.ofString "/claim/cut.py") 2256), (Value.int (69 : Int) 0), (Value.int (3 : Int) 0), (Value.int (0 : Int) 0), (Value.int (0 : Int) 0), (Value.int (3 : Int) 0), (Value.ref 136), (Value.bool Bool.true), (Value.int (181 : Int) 0), (Value.ref 137), Value.none, (Value.ref 138), (Value.ref 139), (Value.ref 140), (Value.int (2265 : Int) 0), (Value.int (69 : Int) 0), (Value.str (Str.ofString "/claim/cut.py") 2266)])) (List.toArray []))) ::
  ((nat_lit 142), (Obj.mk (Value.type "function") none (Data.func (FuncData.mk (Str.ofString "_law_kept") (Str.ofString "_law_kept") fA142 (FuncBody.stmts fB142) fS142 3 [] Value.none Value.none Value.none (Value.str (Str.ofString "law_wo0057_02") 2234) none (Value.ref 141) Value.none 0)) (List.toArray []))) ::
  ((nat_lit 143), (Obj.mk (Value.type "tuple") none (Data.seq (List.toArray []) 0) (List.toArray []))) ::
  ((nat_lit 145), (Obj.mk (Value.type "tuple") none (Data.seq (List.toArray [(Value.str (Str.ofString "letters") 2271), (Value.str (Str.ofString "found") 2272), (Value.str (Str.ofString "end") 2273), (Value.str (Str.ofString "begin") 2274), (Value.str (Str.ofString "piece") 2275)]) 0) (List.toArray []))) ::
  ((nat_lit 146), (Obj.mk (Value.type "tuple") none (Data.seq (List.toArray []) 0) (List.toArray []))) ::
  ((nat_lit 148), (Obj.mk (Value.type "code") none (Data.fields (List.toArray [(Value.str (Str.ofString "_law_found") 2268), (Value.str (Str.ofString "_law_found") 2269), (Value.str (Str.ofString "/claim/cut.py") 2270), (Value.int (82 : Int) 0), (Value.int (1 : Int) 0), (Value.int (0 : Int) 0), (Value.int (0 : Int) 0), (Value.int (3 : Int) 0), (Value.ref 143), (Value.bool Bool.true), (Value.int (181 : Int) 0), (Value.ref 144), Value.none, (Value.ref 145), (Value.ref 146), (Value.ref 147), (Value.int (2276 : Int) 0), (Value.int (82 : Int) 0), (Value.str (Str.ofString "/claim/cut.py") 2277)])) (List.toArray []))) ::
  ((nat_lit 149), (Obj.mk (Value.type "function") none (Data.func (FuncData.mk (Str.ofString "_law_found") (Str.ofString "_law_found") fA149 (FuncBody.stmts fB149) fS149 3 [] Value.none Value.none Value.none (Value.str (Str.ofString "law_wo0057_02") 2234) none (Value.ref 148) Value.none 0)) (List.toArray []))) ::
  ((nat_lit 150), (Obj.mk (Value.type "tuple") none (Data.seq (List.toArray []) 0) (List.toArray []))) ::
  ((nat_lit 152), (Obj.mk (Value.type "tuple") none (Data.seq (List.toArray [(Value.str (Str.ofString "shown") 2282), (Value.str (Str.ofString "kept") 2283), (Value.str (Str.ofString "piece") 2284), (Value.str (Str.ofString "size") 2285), (Value.str (Str.ofString "begin") 2286), (Value.str (Str.ofString "end") 2287), (Value.str (Str.ofString "part") 2288)]) 0) (List.toArray []))) ::
  ((nat_lit 153), (Obj.mk (Value.type "tuple") none (Data.seq (List.toArray []) 0) (List.toArray []))) ::
  ((nat_lit 155), (Obj.mk (Value.type "code") none (Data.fields (List.toArray [(Value.str (Str.ofString "_law_steady") 2279), (Value.str (Str.ofString "_law_steady") 2280), (Value.str (Str.ofString "/claim/cut.py") 2281), (Value.int (90 : Int) 0), (Value.int (2 : Int) 0), (Value.int (0 : Int) 0), (Value.int (0 : Int) 0), (Value.int (3 : Int) 0), (Value.ref 150), (Value.bool Bool.true), (Value.int (181 : Int) 0), (Value.ref 151), Value.none, (Value.ref 152), (Value.ref 153), (Value.ref 154), (Value.int (2289 : Int) 0), (Value.int (90 : Int) 0), (Value.str (Str.ofString "/claim/cut.py") 2290)])) (List.toArray []))) ::
  ((nat_lit 156), (Obj.mk (Value.type "function") none (Data.func (FuncData.mk (Str.ofString "_law_steady") (Str.ofString "_law_steady") fA156 (FuncBody.stmts fB156) fS156 3 [] Value.none Value.none Value.none (Value.str (Str.ofString "law_wo0057_02") 2234) none (Value.ref 155) Value.none 0)) (List.toArray []))) ::
  ((nat_lit 157), (Obj.mk (Value.type "tuple") none (Data.seq (List.toArray []) 0) (List.toArray []))) ::
  ((nat_lit 160), (Obj.mk (Value.type "code") none (Data.fields (List.toArray [(Value.str (Str.ofString "law") 2292), (Value.str (Str.ofString "law") 2293), (Value.str (Str.ofString "/claim/cut.py") 2294), (Value.int (102 : Int) 0), (Value.int (1 : Int) 0), (Value.int (0 : Int) 0), (Value.int (0 : Int) 0), (Value.int (3 : Int) 0), (Value.ref 157), (Value.bool Bool.true), (Value.int (181 : Int) 0), (Value.ref 158), Value.none, Value.none, Value.none, (Value.ref 159), (Value.int (2295 : Int) 0), (Value.int (102 : Int) 0), (Value.str (Str.ofString "/claim/cut.py") 2296)])) (List.toArray []))) ::
  ((nat_lit 161), (Obj.mk (Value.type "function") none (Data.func (FuncData.mk (Str.ofString "law") (Str.ofString "law") fA161 (FuncBody.stmts fB161) fS161 3 [] Value.none Value.none Value.none (Value.str (Str.ofString "law_wo0057_02") 2234) none (Value.ref 160) Value.none 0)) (List.toArray []))) :: [])
noncomputable def as_ : List Addr := ((nat_lit 2) :: (nat_lit 3) :: (nat_lit 6) :: (nat_lit 15) :: (nat_lit 17) :: (nat_lit 18) :: (nat_lit 20) :: (nat_lit 21) :: (nat_lit 22) :: (nat_lit 24) :: (nat_lit 25) :: (nat_lit 27) :: (nat_lit 28) :: (nat_lit 29) :: (nat_lit 31) :: (nat_lit 32) :: (nat_lit 34) :: (nat_lit 35) :: (nat_lit 36) :: (nat_lit 38) :: (nat_lit 39) :: (nat_lit 41) :: (nat_lit 42) :: (nat_lit 43) :: (nat_lit 45) :: (nat_lit 46) :: (nat_lit 48) :: (nat_lit 49) :: (nat_lit 50) :: (nat_lit 52) :: (nat_lit 53) :: (nat_lit 55) :: (nat_lit 56) :: (nat_lit 57) :: (nat_lit 59) :: (nat_lit 60) :: (nat_lit 62) :: (nat_lit 63) :: (nat_lit 64) :: (nat_lit 66) :: (nat_lit 67) :: (nat_lit 69) :: (nat_lit 70) :: (nat_lit 71) :: (nat_lit 73) :: (nat_lit 74) :: (nat_lit 76) :: (nat_lit 77) :: (nat_lit 78) :: (nat_lit 117) :: (nat_lit 119) :: (nat_lit 120) :: (nat_lit 122) :: (nat_lit 123) :: (nat_lit 124) :: (nat_lit 127) :: (nat_lit 128) :: (nat_lit 129) :: (nat_lit 131) :: (nat_lit 132) :: (nat_lit 134) :: (nat_lit 135) :: (nat_lit 136) :: (nat_lit 138) :: (nat_lit 139) :: (nat_lit 141) :: (nat_lit 142) :: (nat_lit 143) :: (nat_lit 145) :: (nat_lit 146) :: (nat_lit 148) :: (nat_lit 149) :: (nat_lit 150) :: (nat_lit 152) :: (nat_lit 153) :: (nat_lit 155) :: (nat_lit 156) :: (nat_lit 157) :: (nat_lit 160) :: (nat_lit 161) :: [])
end Mine
namespace Mine
open PySem PySem.W PyProof.Rows PySem.Calls
abbrev LW : OpenLaw := PySem.Challenge.rw_wo0057_02
abbrev rowW : RowW := LW.row.toRowW
set_option maxHeartbeats 0
theorem open_ok (w : World) : (fencedOpening treeTable PW w 30000).map (fun s => (s.heap, s.gens, s.drawn, s.toks)) = some (boot_heap w.params, #[], boot_drawn, boot_toks) :=
  boot_open (by kernel_rfl) (by decide) (fun _ => by kernel_rfl) w
theorem size_ok (w : World) : ((boot_heap w.params).isNs mainGlobals && (#[] : Array GenState).size == 0, (boot_heap w.params).objs.size, (boot_heap w.params).nsMap mainGlobals "__annotations__") = (true, 11, annE) := by kernel_rfl
theorem looks1 (w : World) (os : OsState) : (staticsOk (importedModules PW.main.body) (boot_heap w.params) (Sf w os).heap && namesBound PW (Sf w os).heap && gensDone (Sf w os) && laidKept (boot_heap w.params) (Sf w os).heap) = true := by kernel_rfl
theorem looks3 (w : World) (os : OsState) : as_.map (Sf w os).heap.get? = (KF w.params).map fun p => some p.2 := by kernel_rfl
end Mine
namespace Mine
open PySem PySem.W PyProof.Rows PySem.Calls
def qM : Program := view PW [22]
def looseM : List Str := ["ELLIPSIS_MARKER","_ellipsis_match","Int2AP","eq","add","lshift","mod","mul","rshift","sub","b3_exceptions","map_table_b3","_law_signs","_law_mirror","_law_kept","_law_found","_law_steady"]
def XtM : Shared → Bool := fun s => xlAt qM [] s && recOk rowW.records s
set_option maxHeartbeats 0
theorem looks2 (w : World) (os : OsState) : openSeen qM looseM (importedModules PW.main.body) XtM true (Sf w os) = openGood qM looseM := by kernel_rfl
end Mine
namespace Mine
open PySem PySem.W PyProof.Rows PySem.Calls
theorem as_eq (P : Params) : as_ = (KF P).map (·.1) := by kernel_rfl
noncomputable def HK : Hook := kHook KF as_ as_eq
theorem left : LeftO PW qM looseM XtM HK.obs HK.val 30000 :=
  left_of (H₀ := boot_heap) (m₀ := 11) (ann := annE) (M := 12 + (1 + (322 + ((12517 + 8) + (230 + 2))))) (Sf := Sf) open_ok size_ok all_run (by decide) looks1 looks2 looks3
end Mine
namespace Mine
open PySem PySem.W PyProof.Rows PySem.Calls
abbrev PR : Program := OpenLaw.prog PySem.Challenge.rw_wo0057_02
/-- a call of the def at f with the values vs, k frames deep at most, gives a value of the family R and leaves the frame and the ledger as they were -/
abbrev Does (w : World) (f : Addr) (k : Nat) (news : List (Addr × Obj)) (vs : List Value) (R : Tok → Value) : Prop :=
  ∀ (p : Program) (loose : List Str) (mean : ExcName → Option Value) (mg mb : Str → Option Value) (dp un : Nat) (gd : Option (List Code)) (cn : Str) (cs : Scope) (a : Addr) (ccd : Value) (cl : List (Str × Addr)) (outer : List Env) (A₀ : Around) (base h₀ : Heap) (L : Addr) (m : Str → Option Value) (s : Shared) (Q E : Value → Shared → Prop),
    Below A₀ base outer h₀ → Fr h₀ L s.heap m → (KF w.params).In h₀ → News h₀ L s.heap news → Top p loose mean mg mb h₀ → cs.kind = .function → dp + k < recursionLimit → un + 8 * k < cLine →
    (∀ (t : Tok) (h' : Heap) (tk' : Nat), Fr h₀ L h' m → News h₀ L h' news → Q (R t) { s with heap := h', toks := tk' }) →
    wpAny (model (OpenLaw.prog PySem.Challenge.rw_wo0057_02) w) (ktrTop dp un gd cn cs L a ccd cl outer) (call (.ref f) vs) Q E s
end Mine
namespace Mine
open PySem PySem.W PyProof.Rows PySem.Calls
local macro_rules | `(tactic| walk_at "call ref") => `(tactic| (k_here; k_dflt (refine wpAny_call ?_; (refine' code_def ?k1 ?k2 ?k3 ?k4 ?k5 ?kA ?kF ?kK ?k6 ?k7 ?k8 ?k9 ?kB ?_ ?c2 ?c3 ?c4 ?c5; (case kA => exact rfl); (case kF => exact rfl); (case kK => first | exact rfl | assumption); (case k1 => k_asm); (case k2 => k_asm); (case k3 => k_asm); (case k4 => k_asm); (case k5 => k_asm); (case k6 => k_is); (case k7 => k_is); (case k8 => ktr_room); (case k9 => exact BindsTo.of_eq rfl); (case c5 => decide); (case kB => exact locs rfl); (case c2 => exact rfl); (case c3 => exact rfl); (case c4 => exact rfl); k_whole; intro g' L' h' FG' F' N' B' X' T'; (try dsimp only); (try k_fold)))))
set_option maxHeartbeats 4000000
theorem mirror_does (w : World) (news : List (Addr × Obj)) (n u b a z : Int) (t1 t2 t3 t4 t5 : Tok) (hpre : 0 ≤ n ∧ n < 2 ^ 100 ∧ 0 ≤ u ∧ u < 2 ^ 100 ∧ 0 ≤ b ∧ b ≤ 30 ∧ 0 ≤ a ∧ a ≤ 30 ∧ 0 ≤ z ∧ z ≤ 30) :
    Does w 135 3 news [.int n t1, .int u t2, .int b t3, .int a t4, .int z t5] (fun _ => .bool ((n.fdiv (2 ^ (4 * b).toNat)).fmod (1 * 2 ^ (4 * z).toNat) == (u.fdiv (2 ^ (4 * a).toNat)).fmod (1 * 2 ^ (4 * z).toNat))) := by
  dsimp only [Does]
  k_fill
  intros
  rename_i hd hu hret
  obtain ⟨n0, n1, u0, u1, b0, b1, a0, a1, z0, z1⟩ := hpre
  refine wpAny_call ?_
  k_dflt cell_enter
  k_steps
  all_goals cb_end hret
end Mine
namespace Mine
open PySem PySem.W PyProof.Rows PySem.Calls
/-- as Does, but the call is given lists and hands back what lies in new objects -/
abbrev DoesO (w : World) (f : Addr) (k : Nat) (news : List (Addr × Obj)) (arg : Heap → Prop) (vs : List Value) (R : Value → List (Addr × Obj) → Prop) : Prop :=
  ∀ (p : Program) (loose : List Str) (mean : ExcName → Option Value) (mg mb : Str → Option Value) (dp un : Nat) (gd : Option (List Code)) (cn : Str) (cs : Scope) (a : Addr) (ccd : Value) (cl : List (Str × Addr)) (outer : List Env) (A₀ : Around) (base h₀ : Heap) (L : Addr) (m : Str → Option Value) (s : Shared) (Q E : Value → Shared → Prop),
    Below A₀ base outer h₀ → Fr h₀ L s.heap m → (KF w.params).In h₀ → News h₀ L s.heap news → Top p loose mean mg mb h₀ → cs.kind = .function → arg base → dp + k < recursionLimit → un + 8 * k < cLine →
    (∀ (v : Value) (more : List (Addr × Obj)) (h' : Heap) (tk' : Nat), R v more → Fr h₀ L h' m → News h₀ L h' (more ++ news) → Q v { s with heap := h', toks := tk' }) →
    wpAny (model (OpenLaw.prog PySem.Challenge.rw_wo0057_02) w) (ktrTop dp un gd cn cs L a ccd cl outer) (call (.ref f) vs) Q E s
/-- the five numbers: those given, each by its remainder, and the last ones of the five spare ones -/
def fiveL (ns : List Int) : List Int := List.map (fun a : Int => a.fmod 1000000) (List.filter (fun _ => true) (List.take 5 ns)) ++ List.drop ((List.take 5 ns).length : Int).toNat [1, 7, 1, 5, 6]
theorem five_len (ns : List Int) : (fiveL ns).length = 5 := by
  have : (List.filter (fun _ : Int => true) (List.take 5 ns)) = List.take 5 ns := List.filter_eq_self.mpr (fun _ _ => rfl)
  unfold fiveL
  rw [this, List.length_append, List.length_map, List.length_drop, List.length_take]
  simp only [List.length_cons, List.length_nil]
  omega
theorem cat_room (ns : List Int) : (List.map (fun a : Int => a.fmod 1000000) (List.filter (fun _ => true) (List.take 5 ns))).length + (List.drop ((List.take 5 ns).length : Int).toNat [(1 : Int), 7, 1, 5, 6]).length ≤ sizeLine := by
  have := five_len ns
  unfold fiveL at this
  rw [List.length_append] at this
  rw [this]
  exact Nat.le_of_ble_eq_true rfl
theorem five_room (ns : List Int) : (List.map (fun a : Int => a.fmod 1000000) (List.filter (fun _ => true) (List.take 5 ns)) ++ List.drop ((List.take 5 ns).length : Int).toNat [(1 : Int), 7, 1, 5, 6]).length ≤ sizeLine := by
  have := five_len ns
  unfold fiveL at this
  rw [this]
  exact Nat.le_of_ble_eq_true rfl
local macro_rules | `(tactic| walk_at "subscriptTail Name Slice ref ref") => `(tactic| (k_here; (with_reducible show wpAny _ _ (subscriptTail _ (PySem.Expr.Slice none (some _) none _) (Value.ref _) (Value.ref _)) _ _ _); k_dflt (refine' kmk_slice_ints ?F ?N ?l ?p ?q ?i ?m ?c ?_ ?s ?t ?z; (case F => k_asm); (case N => k_asm); (case l => exact Fr.lst (by k_asm) (by k_asm)); (case p => exact IsPart.none); (case q => exact IsPart.int _ _); (case i => assumption); (case m => exact kmk_upto (by assumption) (by decide)); (case c => exact List.length_take ..); (case s => with_unfolding_all rfl); (case t => kmk_pure); (case z => exact kmk_sz (by assumption) (by rw [PySem.sizeLine_eq]; omega))); intro D' ws' h' F' N' l1 hI' hC' hL'; (try simp only [Int.reduceNeg, Int.neg_neg, Int.reduceToNat] at hI' hC' hL'); (try k_lt l1)))
local macro_rules | `(tactic| walk_at "subscriptTail Name Slice ref ref") => `(tactic| (k_here; (with_reducible show wpAny _ _ (subscriptTail _ (PySem.Expr.Slice (some _) none none _) (Value.ref _) (Value.ref _)) _ _ _); k_dflt (refine' kmk_slice_ints (ns := [1, 7, 1, 5, 6]) ?F ?N ?l ?p ?q ?i ?m ?c ?_ ?s ?t ?z; (case F => k_asm); (case N => k_asm); (case l => exact News.isList (by k_asm) (by k_mem)); (case p => exact IsPart.int _ _); (case q => exact IsPart.none); (case i => repeat constructor); (case m => exact kmk_from (by repeat constructor) (by omega)); (case c => exact List.length_drop ..); (case s => with_unfolding_all rfl); (case t => kmk_pure); (case z => exact Nat.le_of_ble_eq_true rfl)); intro D' ws' h' F' N' l1 hI' hC' hL'; (try k_lt l1)))
local macro_rules | `(tactic| walk_at "binaryOp Add ref ref") => `(tactic| (k_here; (with_reducible show wpAny _ _ (binaryOp _ (Value.ref _) (Value.ref _)) _ _ _); k_dflt (refine' kmk_add_ints ?F ?N ?a ?b ?i ?j ?_ ?z; (case F => k_asm); (case N => k_asm); (case a => kmk_list); (case b => kmk_list); (case i => l_ints); (case j => l_ints); (case z => exact cat_room _)); intro D' ws' h' F' N' l1 hI'; (try k_lt l1); (try k_sweep)))
local macro_rules | `(tactic| walk_at "pyIter ref") => `(tactic| ((rename Fr _ _ _ _ => F'); (rename News _ _ _ _ => N'); (rename IntsAre _ (List.map _ _ ++ _) => hA'); (with_reducible apply srcC_listDW); (case hh => with_unfolding_all rfl); (case hl => with_unfolding_all exact News.isList (by assumption) (.head _)); (case hi => with_unfolding_all exact IntsAre.areOf hA'); (case hsz => exact five_room _); (case F => with_unfolding_all exact F'); (case N => with_unfolding_all exact N'); (case' g3 => intros); (case' g2 => (intros; (rename ItemKind.is _ _ _ => i'); (obtain ⟨_, e'⟩ := ItemKind.int_is i'; subst e'); (try (((with_reducible refine wpAny_leafK ?_); (try (first | ((with_reducible refine markB ?_); intro _) | ((with_reducible refine markD ?_); intro _)))))))); (case' g1 => (intros; (rename ItemKind.is _ _ _ => i'); (obtain ⟨_, e'⟩ := ItemKind.int_is i'; subst e'); (try (((with_reducible refine wpAny_leafK ?_); (try (first | ((with_reducible refine markB ?_); intro _) | ((with_reducible refine markD ?_); intro _))))))))))
/-- the call hands back a new list of the numbers ns -/
def RI (ns : List Int) (v : Value) (more : List (Addr × Obj)) : Prop := ∃ (D : Addr) (ys : List Value) (n : Nat), v = .ref D ∧ more = [(D, { cls := .type "list", data := .seq ys.toArray n })] ∧ IntsAre ys ns
theorem ret_ints {h₀ h' : Heap} {L : Addr} {m : Str → Option Value} {news rest : List (Addr × Obj)} {s : Shared} {Q : Value → Shared → Prop} {ns : List Int} {D : Addr} {ys : List Value} {n tk : Nat}
    (hret : ∀ (v : Value) (more : List (Addr × Obj)) (h' : Heap) (tk' : Nat), RI ns v more → Fr h₀ L h' m → News h₀ L h' (more ++ news) → Q v { s with heap := h', toks := tk' })
    (F : Fr h₀ L h' m) (N : News h₀ L h' ((D, { cls := .type "list", data := .seq ys.toArray n }) :: rest)) (hs : ∀ p ∈ news, p ∈ rest) (hi : IntsAre ys ns) : Q (.ref D) { s with heap := h', toks := tk } :=
  hret _ _ _ _ ⟨D, ys, n, rfl, rfl, hi⟩ F fun p hp => N p (by
    rcases List.mem_append.mp hp with h | h
    · exact List.mem_cons.mpr (.inl (List.mem_singleton.mp h))
    · exact List.mem_cons_of_mem _ (hs p h))
def signsL (ns : List Int) : List Int := (fiveL ns).map fun a => a.fmod 11
theorem signs_eq (ns : List Int) : List.map (fun a : Int => a.fmod 11) (List.map (fun a : Int => a.fmod 1000000) (List.take 5 ns) ++ List.drop ((List.take 5 ns).length : Int).toNat [(1 : Int), 7, 1, 5, 6]) = signsL ns := by
  unfold signsL fiveL
  rw [List.filter_eq_self.mpr (fun _ _ => rfl)]
set_option maxHeartbeats 4000000
theorem signs_does (w : World) (news : List (Addr × Obj)) (l : Addr) (ws : List Value) (ns : List Int) :
    DoesO w 128 3 news (fun h => h.IsList l ws.toArray ∧ IntsAre ws ns ∧ ns.length ≤ 63) [.ref l] (RI (signsL ns)) := by
  dsimp only [DoesO]
  k_fill
  intros
  rename_i hL hd hu hret
  obtain ⟨hL, hI, h63⟩ := hL
  refine wpAny_call ?_
  k_dflt cell_enter
  k_steps
  rename News _ _ _ _ => kN
  rename IntsAre _ (List.map _ (_ ++ _)) => kI
  exact ret_ints hret (by k_asm) kN (by intro p hp; repeat (first | exact hp | apply List.mem_cons_of_mem)) (by rw [← signs_eq]; exact kI)
end Mine
namespace Mine
open PySem PySem.W PyProof.Rows PySem.Calls
/-- every entry of the ledger lies below the loop's iterator -/
structure OffOf (news : List (Addr × Obj)) (I : Addr) : Prop where
  h : ∀ p ∈ news, p.1 < I
theorem unr_end {news all : List (Addr × Obj)} {h₀ : Heap} {L I : Addr} {it : Obj} {rest : (Str → Option Value) → List (Addr × Obj) → Prop} {s₁ : Shared} {h' : Heap} {tk : Nat} {m' : Str → Option Value} (O : OffOf news I) (F : Fr h₀ L h' m') (N : News h₀ L h' all)
    (sub : ∀ p ∈ (I, it) :: news, p ∈ all) (r : rest m' news) : UnrEnd h₀ L s₁ I it rest { s₁ with heap := h', toks := tk } :=
  UnrEnd.intro F N news sub (fun p hp => Nat.ne_of_lt (O.h p hp)) r
section
variable {prog : Program} {w : World} {A : Around} {E : Value → Shared → Prop} {s : Shared} {env : Env} {h₀ : Heap} {x : Str} {body : List Stmt} {Q : Flow → Shared → Prop}
theorem iter_unr {ax : Addr} {lo : Obj} {vs : List Value} {n : Nat} {m₀ : Str → Option Value} {news : List (Addr × Obj)}
    (hh : A.handled = none) (F : Fr h₀ env.locals s.heap m₀) (N : News h₀ env.locals s.heap news) (hm : (ax, lo) ∈ news) (hc : lo.cls = .type "list") (hd : lo.data = .seq vs.toArray n)
    (rest₀ : ∀ I : Addr, OffOf news I → ListRest prog w A E h₀ env x body Q s I (ax, lo) vs m₀ news) :
    wpAny (model prog w) A (pyIter (.ref ax)) (fun it s₂ => LoopAtV prog w A h₀ env x body Q E it s₂) E s :=
  iter_listUnr hh F N hm hc hd fun I h => rest₀ I ⟨h⟩
end
theorem len_empty {prog : Program} {w : World} {A : Around} {E : Value → Shared → Prop} {s : Shared} {t : Tok} {Q : Value → Shared → Prop} (h : Q (.int 0 (s.toks + 1)) { s with toks := s.toks + 1 + 1 }) : wpAny (model prog w) A (call (.builtin "len") [.str Str.empty t]) Q E s :=
  PyProof.Rows.len_str (by decide) h
end Mine
namespace Mine
open PySem PySem.W PyProof.Rows PySem.Calls
open Builtin Builtin.Str StrLaws
abbrev dots : Str := Str.ofString "..."
theorem dots_cps : dots.cps.toList = [46, 46, 46] := by decide +kernel
theorem dots_len : dots.length = 3 := by decide +kernel
theorem occ_skip_app {x y : Str} {hi limit : Nat} {r : List Nat} : ∀ (l : List Nat) (st : Array Nat × Nat), (∀ i ∈ l, ¬ (st.snd ≤ i ∧ i + y.length ≤ hi ∧ subAt x y i = true)) → forIn (l ++ r) st (occBody x y hi limit) = (forIn r st (occBody x y hi limit) : Id _)
  | [], st, _ => rfl
  | a :: l, st, h => by
    rw [List.cons_append, List.forIn_cons]
    have hb : occBody x y hi limit a st = pure (ForInStep.yield st) := by
      unfold occBody
      rw [if_neg (fun c => h a (.head _) ⟨c.1.1.2, c.1.2, c.2⟩)]
    rw [hb]
    exact occ_skip_app l st fun i hi' => h i (.tail _ hi')
theorem occ_skip {x y : Str} {hi limit : Nat} (l : List Nat) (st : Array Nat × Nat) (h : ∀ i ∈ l, ¬ (st.snd ≤ i ∧ i + y.length ≤ hi ∧ subAt x y i = true)) : forIn l st (occBody x y hi limit) = (pure st : Id _) := by
  have := occ_skip_app (r := []) (limit := limit) l st h
  rw [List.append_nil] at this
  rw [this]
  rfl
theorem occ_take {x y : Str} {hi limit a : Nat} {l : List Nat} {st : Array Nat × Nat} (h1 : st.fst.size < limit) (h2 : st.snd ≤ a) (h3 : a + y.length ≤ hi) (h4 : subAt x y a = true) :
    forIn (a :: l) st (occBody x y hi limit) = (forIn l (st.fst.push a, a + y.length) (occBody x y hi limit) : Id _) := by
  rw [List.forIn_cons]
  have hb : occBody x y hi limit a st = pure (ForInStep.yield (st.fst.push a, a + y.length)) := by
    unfold occBody
    rw [if_pos ⟨⟨⟨h1, h2⟩, h3⟩, h4⟩]
  rw [hb]
  rfl
theorem subAt_dots {x : Str} {i : Nat} : subAt x dots i = true ↔ (x.cps.toList.drop i).take 3 = [46, 46, 46] := by
  rw [subAt_eq, dots_len, dots_cps]
  simp
theorem len_toList (x : Str) : x.length = x.cps.toList.length := by simp [Str.length]
theorem kind_dots (x : Str) : decide (Builtin.Str.strKind x < Builtin.Str.strKind dots) = false := by
  have h1 : Builtin.Str.strKind dots = 1 := by decide +kernel
  have h2 : 1 ≤ Builtin.Str.strKind x := by unfold Builtin.Str.strKind; split; exact Nat.le_refl _; split <;> decide
  rw [h1]
  exact decide_eq_false (by omega)
theorem range3 (a b : Nat) : List.range' 0 (1 + (a + (1 + b))) = 0 :: (List.range' 1 a ++ ((1 + a) :: List.range' (2 + a) b)) := by
  rw [← List.range'_append_1, ← List.range'_append_1, ← List.range'_append_1]
  simp only [List.range'_one, List.cons_append, List.nil_append, Nat.zero_add]
  rw [show 1 + a + 1 = 2 + a by omega]

/-- three dots, a text without a dot, three dots: the places of the dots -/
theorem occ_both {p : Str} (hp : 46 ∉ p.cps.toList) (limit : Nat) (hl : 2 ≤ limit) : occurrences (dots ++ p ++ dots) dots 0 (dots ++ p ++ dots).length limit = [0, 3 + p.length] := by
  have hx : (dots ++ p ++ dots).cps.toList = [46, 46, 46] ++ p.cps.toList ++ [46, 46, 46] := by
    rw [Str.cps_append, Str.cps_append, Array.toList_append, Array.toList_append, dots_cps]
  have hlen : (dots ++ p ++ dots).length = 6 + p.length := by
    rw [Str.length_append, Str.length_append, dots_len]; omega
  have hpl := len_toList p
  obtain ⟨P, hP⟩ : ∃ P, p.cps.toList = P := ⟨_, rfl⟩
  rw [hP] at hp hx hpl
  rw [occ_eq, hlen]
  have hr : List.range' 0 (6 + p.length + 1 - 0) = 0 :: (List.range' 1 (2 + p.length) ++ ((3 + p.length) :: List.range' (4 + p.length) 3)) := by
    have := range3 (2 + p.length) 3
    rw [show 6 + p.length + 1 - 0 = 1 + ((2 + p.length) + (1 + 3)) by omega, this]
    rw [show 1 + (2 + p.length) = 3 + p.length by omega, show 2 + (2 + p.length) = 4 + p.length by omega]
  rw [hr, occ_take (by simp; omega) (Nat.zero_le _) (by rw [dots_len]; omega) (by rw [subAt_dots, hx]; rfl)]
  rw [occ_skip_app]
  · show (forIn ((3 + p.length) :: List.range' (4 + p.length) 3) ((#[] : Array Nat).push 0, 0 + dots.length) (occBody _ _ _ _) : Id _).fst.toList = _
    rw [occ_take (by simp; omega) (by simp [dots_len]) (by rw [dots_len]; omega) ?_]
    · rw [occ_skip]
      · rfl
      · rintro i hi ⟨h1, h2, h3⟩
        rw [dots_len] at h1 h2
        simp only at h1
        omega
    · rw [subAt_dots, hx]
      rw [List.drop_append, List.drop_of_length_le (by simp; omega)]
      have : 3 + p.length - ([46, 46, 46] ++ P).length = 0 := by simp; omega
      rw [this]
      rfl
  · rintro i hi ⟨h1, h2, h3⟩
    rw [dots_len] at h1 h2
    simp only at h1
    have hi' := List.mem_range'_1.mp hi
    rw [subAt_dots, hx] at h3
    -- the first of the three is a letter of the text
    have h4 : (List.take 3 (List.drop i ([46, 46, 46] ++ P ++ [46, 46, 46])))[0]? = some 46 := by rw [h3]; rfl
    rw [List.getElem?_take_of_lt (by omega), List.getElem?_drop, Nat.add_zero, List.append_assoc, List.getElem?_append_right (by simp; omega), List.getElem?_append_left (by simp; omega)] at h4
    exact hp (List.mem_of_getElem? h4)

/-- three dots and a text without a dot -/
theorem occ_left {p : Str} (hp : 46 ∉ p.cps.toList) (limit : Nat) (hl : 1 ≤ limit) : occurrences (dots ++ p) dots 0 (dots ++ p).length limit = [0] := by
  have hx : (dots ++ p).cps.toList = [46, 46, 46] ++ p.cps.toList := by
    rw [Str.cps_append, Array.toList_append, dots_cps]
  have hlen : (dots ++ p).length = 3 + p.length := by
    rw [Str.length_append, dots_len]
  have hpl := len_toList p
  obtain ⟨P, hP⟩ : ∃ P, p.cps.toList = P := ⟨_, rfl⟩
  rw [hP] at hp hx hpl
  rw [occ_eq, hlen]
  have hr : List.range' 0 (3 + p.length + 1 - 0) = 0 :: List.range' 1 (3 + p.length) := by
    rw [show 3 + p.length + 1 - 0 = (3 + p.length) + 1 by omega, List.range'_succ]
  rw [hr, occ_take (by simp; omega) (Nat.zero_le _) (by rw [dots_len]; omega) (by rw [subAt_dots, hx]; rfl)]
  rw [occ_skip]
  · rfl
  · rintro i hi ⟨h1, h2, h3⟩
    rw [dots_len] at h1 h2
    simp only at h1
    rw [subAt_dots, hx] at h3
    have h4 : (List.take 3 (List.drop i ([46, 46, 46] ++ P)))[0]? = some 46 := by rw [h3]; rfl
    rw [List.getElem?_take_of_lt (by omega), List.getElem?_drop, Nat.add_zero, List.getElem?_append_right (by simp; omega)] at h4
    exact hp (List.mem_of_getElem? h4)

theorem strSub_eq {x : Str} {i j : Nat} {l : List Nat} (h : (x.cps.toList.drop i).take (j - i) = l) : strSub x i j = ⟨l.toArray⟩ :=
  Str.ext' (by
    have := StrLaws.strSub_toList x i j
    rw [h] at this
    show (strSub x i j).cps = l.toArray
    rw [← this])
theorem split_both {p : Str} (hp : 46 ∉ p.cps.toList) : Txt.split (dots ++ p ++ dots) dots = [Str.empty, p, Str.empty] := by
  have hx : (dots ++ p ++ dots).cps.toList = [46, 46, 46] ++ p.cps.toList ++ [46, 46, 46] := by
    rw [Str.cps_append, Str.cps_append, Array.toList_append, Array.toList_append, dots_cps]
  have hlen : (dots ++ p ++ dots).length = 6 + p.length := by
    rw [Str.length_append, Str.length_append, dots_len]; omega
  have hpl := len_toList p
  unfold Txt.split
  rw [if_neg (by rw [kind_dots, Bool.or_false, decide_eq_true_eq, hlen, dots_len]; omega), occ_both hp _ (by rw [hlen]; omega), if_neg (by simp), partsBetween_eq, dots_len]
  simp only [partsFrom]
  rw [hlen]
  have h0 : strSub (dots ++ p ++ dots) 0 0 = Str.empty := (strSub_eq (l := []) (by simp)).trans rfl
  rw [h0]
  congr 1
  congr 1
  · refine (strSub_eq (l := p.cps.toList) ?_).trans (by simp)
    rw [hx, List.append_assoc]
    simp [hpl]
  · congr 1
    refine (strSub_eq (l := []) ?_).trans rfl
    simp
    omega
theorem split_left {p : Str} (hp : 46 ∉ p.cps.toList) : Txt.split (dots ++ p) dots = [Str.empty, p] := by
  have hx : (dots ++ p).cps.toList = [46, 46, 46] ++ p.cps.toList := by
    rw [Str.cps_append, Array.toList_append, dots_cps]
  have hlen : (dots ++ p).length = 3 + p.length := by
    rw [Str.length_append, dots_len]
  have hpl := len_toList p
  unfold Txt.split
  rw [if_neg (by rw [kind_dots, Bool.or_false, decide_eq_true_eq, hlen, dots_len]; omega), occ_left hp _ (by rw [hlen]; omega), if_neg (by simp), partsBetween_eq, dots_len]
  simp only [partsFrom]
  rw [hlen]
  have h0 : strSub (dots ++ p) 0 0 = Str.empty := (strSub_eq (l := []) (by simp)).trans rfl
  have h1 : strSub (dots ++ p) (0 + 3) (3 + p.length) = p := by
    refine (strSub_eq (l := p.cps.toList) ?_).trans (by simp)
    rw [hx, show 3 + p.length - (0 + 3) = p.length by omega, hpl]
    exact List.take_length
  rw [h0, h1]
end Mine
namespace Mine
open PySem PySem.W PyProof.Rows PySem.Calls
open Builtin Builtin.Str StrLaws
def find4 (x y : Str) (i j : Int) : Int := match occurrences x y (fromIndex x.length i) (min (fromIndex x.length j) x.length) 1 with
  | k :: _ => (k : Int)
  | [] => -1
theorem gives_find4 (x y : Str) (i j : Int) (t u v v' : Tok) : Gives («str.find» ⟨[.str x t, .str y u, .int i v, .int j v'], []⟩) (.int (find4 x y i j)) := by
  show Gives (match occurrences x y (fromIndex x.length i) (min (fromIndex x.length j) x.length) 1 with | k :: _ => retInt k | [] => (do rule "str.find.not-found"; retInt (-1))) _
  unfold find4
  cases occurrences x y (fromIndex x.length i) (min (fromIndex x.length j) x.length) 1 with
  | nil => exact .rule (.of_eq rfl)
  | cons k _ => exact .of_eq rfl
section
variable {prog : Program} {w : World} {A : Around} {E : Value → Shared → Prop} {s : Shared} {x y : Str} {t u v v' : Tok} {i j : Int} {Q : Value → Shared → Prop}
theorem call_find4 (hq : Q (.int (find4 x y i j) s.toks) { s with toks := s.toks + 1 }) : wpAny (model prog w) A (call (.builtin "str.find") [.str x t, .str y u, .int i v, .int j v']) Q E s :=
  call_gives F.slot_str_find (typeIs_str _ _ _) F.entry_str_find (F.args_str_find_4 _ _ _ _) (gives_find4 x y i j t u v v') hq
theorem fromIndex_nonneg {n : Nat} {i : Int} (h : 0 ≤ i) : fromIndex n i = i.toNat := by
  unfold fromIndex
  rw [if_neg (by omega)]
  omega
theorem find4_empty (h0 : 0 ≤ i) (h1 : i ≤ j) (h2 : j ≤ x.length) : find4 x Str.empty i j = i := by
  unfold find4
  rw [fromIndex_nonneg h0, fromIndex_nonneg (by omega), occ_eq]
  have hr : List.range' i.toNat (min j.toNat x.length + 1 - i.toNat) = i.toNat :: List.range' (i.toNat + 1) (min j.toNat x.length - i.toNat) := by
    rw [show min j.toNat x.length + 1 - i.toNat = (min j.toNat x.length - i.toNat) + 1 by omega, List.range'_succ]
  have he : (Str.empty).length = 0 := rfl
  have hsub : ∀ k, subAt x Str.empty k = true := fun k => by rw [subAt_eq, he]; simp [Str.empty]
  rw [hr, occ_take (st := ((#[] : Array Nat), i.toNat)) (a := i.toNat) (by simp) (Nat.le_refl _) (by rw [he]; omega) (hsub _)]
  have : ∀ (l : List Nat) (f : Nat), (forIn l ((#[i.toNat] : Array Nat), f) (occBody x Str.empty (min j.toNat x.length) 1) : Id _).fst = #[i.toNat] := by
    intro l
    induction l with
    | nil => intro f; rfl
    | cons a l ih =>
      intro f
      rw [List.forIn_cons]
      have hb : occBody x Str.empty (min j.toNat x.length) 1 a (#[i.toNat], f) = pure (ForInStep.yield (#[i.toNat], f)) := by
        unfold occBody
        rw [if_neg (fun c => by simp at c)]
      rw [hb]
      exact ih f
  show (match (forIn _ ((#[] : Array Nat).push i.toNat, _) _ : Id _).fst.toList with | k :: _ => (k : Int) | [] => -1) = i
  have h3 := this (List.range' (i.toNat + 1) (min j.toNat x.length - i.toNat)) (i.toNat + Str.empty.length)
  rw [show (#[] : Array Nat).push i.toNat = #[i.toNat] from rfl, h3]
  show ((i.toNat : Nat) : Int) = i
  omega
theorem find4_whole (h0 : i = 0) (h1 : j = x.length) : find4 x y i j = Txt.find x y := by
  subst h0 h1
  unfold find4 Txt.find
  rw [fromIndex_nonneg (Int.le_refl _), fromIndex_nonneg (by omega)]
  simp
  rfl
theorem call_find_empty (h0 : 0 ≤ i) (h1 : i ≤ j) (h2 : j ≤ x.length) (hq : Q (.int i s.toks) { s with toks := s.toks + 1 }) : wpAny (model prog w) A (call (.builtin "str.find") [.str x t, .str Str.empty u, .int i v, .int j v']) Q E s :=
  call_find4 (by rw [find4_empty h0 h1 h2]; exact hq)
theorem call_find_whole (h0 : i = 0) (h1 : j = x.length) (hq : Q (.int (Txt.find x y) s.toks) { s with toks := s.toks + 1 }) : wpAny (model prog w) A (call (.builtin "str.find") [.str x t, .str y u, .int i v, .int j v']) Q E s :=
  call_find4 (by rw [find4_whole h0 h1]; exact hq)
end
theorem find_room {x y : Str} (h : ¬ Txt.find x y < 0) : Txt.find x y + y.length ≤ x.length := by
  unfold Txt.find at h ⊢
  rcases occ_head_from x y 0 1 (Nat.le_refl _) with ⟨e, _⟩ | ⟨i, r, e, _, ha, _⟩
  · rw [e] at h; simp at h
  · rw [e]
    have := ha.1
    simp only
    omega
/-- found: the text stands in it as a stretch -/
theorem find_iff {x y : Str} : (¬ Txt.find x y < 0) ↔ y.cps.toList <:+: x.cps.toList := by
  unfold Txt.find
  rcases occ_head_from x y 0 1 (Nat.le_refl _) with ⟨e, hn⟩ | ⟨i, r, e, _, ha, _⟩
  · rw [e]
    refine ⟨fun h => by simp at h, ?_⟩
    rintro ⟨a, b, hab⟩
    exfalso
    refine hn a.length (Nat.zero_le _) ⟨?_, ?_⟩
    · rw [len_toList, len_toList x, ← hab]; simp
    · rw [subAt_eq, len_toList, ← hab]; simp [Str.length]
  · rw [e]
    refine ⟨fun _ => ?_, fun _ => by simp⟩
    have h1 := ha.2
    rw [subAt_eq, beq_iff_eq] at h1
    exact ⟨x.cps.toList.take i, (x.cps.toList.drop i).drop y.length, by rw [← h1, List.append_assoc, List.take_append_drop, List.take_append_drop]⟩
end Mine
namespace Mine
open PySem PySem.W PyProof.Rows PySem.Calls
local macro_rules | `(tactic| walk_at "call builtin:str.split") => `(tactic| k_extra "call builtin:str.split")
local macro_rules | `(tactic| walk_at "call builtin:str.find") => `(tactic| k_extra "call builtin:str.find")
local macro_rules | `(tactic| walk_at "exec For Name Name cons nil") => `(tactic| k_extra "exec For Name Name cons nil")
local macro_rules | `(tactic| walk_at "pyIter ref") => `(tactic| k_extra "pyIter ref")
local macro_rules | `(tactic| walk_at "UnrEnd") => `(tactic| k_extra "UnrEnd")
local macro_rules | `(tactic| walk_at "call builtin:len") => `(tactic| k_extra "call builtin:len")
set_option maxHeartbeats 4000000
theorem ell_does (w : World) (news : List (Addr × Obj)) (x g p : Str) (t1 t2 : Tok) (hocc : (Builtin.Str.occurrences x (Str.ofString "...") 0 x.length 1).isEmpty = false) (hs : Txt.split x (Str.ofString "...") = [Str.empty, p, Str.empty]) (hx : x.length ≤ 100) (hg : g.length ≤ 100) (hpl : p.length ≤ 100) (hp : p.length ≠ 0) :
    Does w 21 3 news [.str x t1, .str g t2] (fun _ => .bool (decide (0 ≤ Txt.find g p))) := by
  dsimp only [Does]
  k_fill
  intros
  rename_i hd hu hret
  refine wpAny_call ?_
  k_dflt cell_enter
  k_with_none
  k_with "call builtin:str.split" => (k_here; (with_reducible show wpAny _ _ (call (Value.builtin "str.split") _) _ _ _); (rename (Txt.split _ _ = _) => hS9); (refine KSpl.split1 (by k_asm) (by k_asm) (by decide) ?_ (by simp only [PySem.sizeLine_eq]; omega)); (intro D' l' h' k' e' a' F' N' l1); (try k_lt l1); rw [hS9] at e'; kspl_open e'; (simp only [strValues, List.map_cons, List.map_nil] at N' a'))
  k_with "call builtin:str.find" => (k_here; (with_reducible show wpAny _ _ (call (Value.builtin "str.find") [_, _, _, _]) _ _ _); first | (refine call_find_empty (by omega) (by omega) (by omega) ?_) | (refine call_find_empty (by omega) (by have hr9 := find_room (by assumption); omega) (by omega) ?_) | (refine call_find_whole (by omega) (by omega) ?_))
  k_with "exec For Name Name cons nil" => (k_here; (rename Fr _ _ _ _ => lF'); (with_unfolding_all refine' For_invVF lF' ?zzk1 ?zzk2 ?_; (case zzk1 => exact rfl); (case zzk2 => exact rfl); k_whole))
  k_with "pyIter ref" => ((with_reducible show wpAny _ _ (pyIter (Value.ref _)) (fun it s₂ => LoopAtV _ _ _ _ _ _ _ _ _ it s₂) _ _); (rename Fr _ _ _ _ => lF'); (rename News _ _ _ _ => lN'); (with_unfolding_all refine iter_unr (by rfl) lF' lN' (by k_mem) (by rfl) (by rfl) ?_); clear lF' lN'; intro i' l1)
  k_with "UnrEnd" => ((rename OffOf _ _ => lO'); (rename News _ _ _ _ => lN'); refine unr_end lO' (by assumption) lN' (by kst_inAny) ⟨by k_mem, ?_⟩)
  k_with "call builtin:len" => (k_here; (with_reducible show wpAny _ _ (call (Value.builtin "len") [Value.str Str.empty _]) _ _ _); refine len_empty ?_)
  k_steps
  all_goals cb_end hret
end Mine
namespace Mine
open PySem PySem.W PyProof.Rows PySem.Calls PySem.Spec PyProof.V
def tabOk : Int → List DictEntry → Bool
  | _, [] => true
  | b, e :: r => match e.key, e.val with
    | .int k _, .str _ _ => decide (b < k) && decide (e.hash = hashInt k) && tabOk k r
    | _, _ => false
def tabK : List DictEntry → List (Int × Value)
  | [] => []
  | e :: r => match e.key with
    | .int k _ => (k, e.val) :: tabK r
    | _ => []
def tabD : List DictEntry → List (PyData × PyData)
  | [] => []
  | e :: r => match e.key, e.val with
    | .int k _, .str v _ => (.int k, .str v) :: tabD r
    | _, _ => []
theorem tab_facts {prog : Program} {w : World} : ∀ (b : Int) (es : List DictEntry), tabOk b es = true →
    (∀ e ∈ es, ∃ k, (intKind prog w).is k e.key = true ∧ e.hash = (intKind prog w).hash k) ∧ Pairs (intKind prog w) es (tabK es) ∧ (∀ p ∈ tabK es, b < p.1) ∧ ((tabK es).map (·.1)).Nodup ∧ PyProof.V.FlatPairs PyData.int (tabK es) (tabD es)
  | _, [], _ => ⟨fun _ h => (nomatch h), .nil, fun _ h => (nomatch h), .nil, .nil⟩
  | b, e :: r, h => by
    unfold tabOk at h
    split at h
    · rename_i k t v u hk hv
      simp only [Bool.and_eq_true, decide_eq_true_eq] at h
      obtain ⟨⟨h1, h2⟩, h3⟩ := h
      obtain ⟨a1, a2, a3, a4, a5⟩ := tab_facts (prog := prog) (w := w) k r h3
      have ek : tabK (e :: r) = (k, e.val) :: tabK r := by rw [tabK, hk]
      have ed : tabD (e :: r) = (.int k, .str v) :: tabD r := by rw [tabD, hk, hv]
      rw [ek, ed]
      refine ⟨fun x hx => ?_, .cons (by rw [hk]; exact intKind_is _ _ _ _) rfl a2, fun p hp => ?_, ?_, .cons (by rw [hv]; exact Flat.str _ _) a5⟩
      · rcases List.mem_cons.mp hx with rfl | hx
        · exact ⟨k, by rw [hk]; exact intKind_is _ _ _ _, h2⟩
        · exact a1 x hx
      · rcases List.mem_cons.mp hp with rfl | hp
        · exact h1
        · have := a3 p hp; omega
      · rw [List.map_cons, List.nodup_cons]
        refine ⟨fun hm => ?_, a4⟩
        obtain ⟨p, hp, e⟩ := List.mem_map.mp hm
        have := a3 p hp
        omega
    · cases h
theorem intTab_of {prog : Program} {w : World} {h : Heap} {d : Addr} {es : List DictEntry} {n : Nat} {b : Int} (ho : h.get? d = some (dictOf es n)) (hok : tabOk b es = true) (hs : (d == sysModules) = false) : IntTab prog w h d (tabD es) := by
  obtain ⟨a1, a2, _, a4, a5⟩ := tab_facts (prog := prog) (w := w) b es hok
  exact TabAt.ofObj hs ho ⟨es.toArray, n, ⟨rfl, rfl, rfl⟩, rfl, fun e he => a1 e (by simpa using he), a2, a4⟩ a5
def b3D : List (PyData × PyData) := tabD b3es
theorem b3_ok : tabOk 0 b3es = true := by kernel_rfl
theorem b3_at (P : Params) : (KF P).lookup 78 = some (dictOf b3es 650) := by kernel_rfl
theorem b3_tab {prog : Program} {w : World} {h₀ h : Heap} {L : Addr} {m : Str → Option Value} (F : Fr h₀ L h m) (X : (KF w.params).In h₀) : IntTab prog w h 78 b3D :=
  intTab_of (F.keep _ _ (X _ _ (b3_at w.params))) b3_ok rfl
end Mine
namespace Mine
open PySem PySem.W PyProof.Rows PySem.Calls PySem.Spec PyProof.V
local macro_rules | `(tactic| walk_at "getMethod ref") => `(tactic| k_extra "getMethod ref")
local macro_rules | `(tactic| walk_at "call builtin:dict.get") => `(tactic| k_extra "call builtin:dict.get")
local macro_rules | `(tactic| walk_at "call builtin:str.lower") => `(tactic| k_extra "call builtin:str.lower")
set_option maxHeartbeats 4000000
theorem b3_does (w : World) (news : List (Addr × Obj)) (c : Nat) (t1 : Tok) (y : Str) (hl : Spec.lookup (.int (c : Int)) b3D = some (.str y)) :
    Does w 123 3 news [.str ⟨#[c]⟩ t1] (fun t => .str y t) := by
  dsimp only [Does]
  k_fill
  intros
  rename_i hd hu hret
  refine wpAny_call ?_
  k_dflt cell_enter
  k_with_none
  k_with "getMethod ref" => (k_here; (with_reducible show wpAny _ _ (getMethod (Value.ref 78) _ _) _ _ _); k_dflt (refine getMethod_intTab_get (b3_tab (by k_asm) (by k_asm)) ?_))
  k_with "call builtin:dict.get" => (k_here; (rename (Spec.lookup _ _ = _) => hl9); k_dflt (refine call_get1_intTab (b3_tab (by k_asm) (by k_asm)) ?_); intro v' hv'; rw [hl9] at hv'; first | (obtain ⟨_, hv''⟩ := Flat.str_inv hv'; subst hv'') | (have hv'' := Flat.none_inv hv'; subst hv''))
  k_with "call builtin:str.lower" => (k_here; dsimp only; refine SC.lower (by assumption) ?_)
  k_steps
  all_goals cb_end hret
theorem b3_does2 (w : World) (news : List (Addr × Obj)) (c : Nat) (t1 : Tok) (hl : Spec.lookup (.int (c : Int)) b3D = none) (hf : Builtin.Str.tooLong (Txt.lower ⟨#[c]⟩).length = false) :
    Does w 123 3 news [.str ⟨#[c]⟩ t1] (fun t => .str (Txt.lower ⟨#[c]⟩) t) := by
  dsimp only [Does]
  k_fill
  intros
  rename_i hd hu hret
  refine wpAny_call ?_
  k_dflt cell_enter
  k_with_none
  k_with "getMethod ref" => (k_here; (with_reducible show wpAny _ _ (getMethod (Value.ref 78) _ _) _ _ _); k_dflt (refine getMethod_intTab_get (b3_tab (by k_asm) (by k_asm)) ?_))
  k_with "call builtin:dict.get" => (k_here; (rename (Spec.lookup _ _ = _) => hl9); k_dflt (refine call_get1_intTab (b3_tab (by k_asm) (by k_asm)) ?_); intro v' hv'; rw [hl9] at hv'; first | (obtain ⟨_, hv''⟩ := Flat.str_inv hv'; subst hv'') | (have hv'' := Flat.none_inv hv'; subst hv''))
  k_with "call builtin:str.lower" => (k_here; dsimp only; refine SC.lower (by assumption) ?_)
  k_steps
  all_goals cb_end hret
end Mine
namespace Mine
open PySem PySem.W PyProof.Rows PySem.Calls
def apL : Nat → Nat → List UInt8
  | 0, _ => []
  | f + 1, n => if n = 0 then [] else apL f (n / 16) ++ [UInt8.ofNat (65 + n % 16)]
def apB (n : Nat) : List UInt8 := apL (n + 1) n
theorem apL_fuel : ∀ (f g n : Nat), n < f → n < g → apL f n = apL g n
  | 0, _, _, h, _ => absurd h (Nat.not_lt_zero _)
  | _, 0, _, _, h => absurd h (Nat.not_lt_zero _)
  | f + 1, g + 1, n, h1, h2 => by
    unfold apL
    by_cases h : n = 0
    · rw [if_pos h, if_pos h]
    · rw [if_neg h, if_neg h, apL_fuel f g (n / 16) (by omega) (by omega)]
theorem apB_zero : apB 0 = [] := rfl
theorem apB_step {n : Nat} (h : n ≠ 0) : apB n = apB (n / 16) ++ [UInt8.ofNat (65 + n % 16)] := by
  unfold apB
  rw [apL, if_neg h, apL_fuel n (n / 16 + 1) (n / 16) (by omega) (by omega)]
theorem apL_len : ∀ (f k n : Nat), n < 16 ^ k → (apL f n).length ≤ k
  | 0, _, _, _ => Nat.zero_le _
  | f + 1, k, n, h => by
    unfold apL
    by_cases hn : n = 0
    · rw [if_pos hn]; exact Nat.zero_le _
    · rw [if_neg hn]
      cases k with
      | zero => simp at h; omega
      | succ k =>
        have := apL_len f k (n / 16) (by rw [Nat.pow_succ] at h; omega)
        simp
        omega
theorem apB_len {n : Nat} (h : n < 2 ^ 100) : (apB n).length ≤ 25 := apL_len _ 25 n (by rw [show (16 : Nat) ^ 25 = 2 ^ 100 by decide]; exact h)
abbrev APs : Array UInt8 := #[65, 66, 67, 68, 69, 70, 71, 72, 73, 74, 75, 76, 77, 78, 79, 80]
theorem ap_pick (k : Fin 16) : KBy.picked APs (some ((k.val : Nat) : Int)) (some ((k.val : Nat) + 1 : Int)) = #[UInt8.ofNat (65 + k.val)] := by
  revert k; decide +kernel
theorem ap_cut {prog : Program} {w : World} {A : Around} {E : Value → Shared → Prop} {s : Shared} {value slice : PySem.Expr} {t t1 t2 : Tok} {h₀ : Heap} {L : Addr} {m : PySem.Str → Option Value} {news : List (Addr × Obj)} {i j : Int} {Q : Value → Shared → Prop}
    (hF : Fr h₀ L s.heap m) (hN : News h₀ L s.heap news) (h0 : 0 ≤ i) (h1 : i < 16) (h2 : j = i + 1)
    (h : ∀ h' t' k, Fr h₀ L h' m → News h₀ L h' news → Q (.bytes #[UInt8.ofNat (65 + i.toNat)] t') { s with heap := h', toks := k })
    (hs : subscripted slice false (.bytes APs t) (.ref s.heap.objs.size) = operate [.ref s.heap.objs.size, .bytes APs t] (getItem (.bytes APs t) (.ref s.heap.objs.size)) := by with_unfolding_all rfl)
    (ht : ∀ r, letTemporaryGo value (.bytes APs t) r = pure () := by intro _; with_unfolding_all rfl) :
    wpAny (model prog w) A (subscriptTail value slice (.bytes APs t) (.ref s.heap.objs.size)) Q E { s with heap := s.heap.push { cls := .type "slice", data := .fields #[.int i t1, .int j t2, .none] } } := by
  subst h2
  refine KBc.slice_K hF hN rfl (.int i t1) (.int (i + 1) t2) (by decide) (fun h' t' k F' N' _ => ?_) hs ht
  have e := ap_pick ⟨i.toNat, by omega⟩
  have ei : ((i.toNat : Nat) : Int) = i := by omega
  simp only at e
  rw [ei] at e
  rw [e]
  exact h h' t' k F' N'

/-- Int2AP's loop: what has been written, ahead of it what is still to come -/
def ApInv (n num : Int) (val : Array UInt8) : Prop := 0 ≤ num ∧ num < 2 ^ 100 ∧ val.size ≤ 25 ∧ apB num.toNat ++ val.toList = apB n.toNat
theorem ap_start {n k : Int} (h0 : 0 ≤ n) (h1 : n < 2 ^ 100) (e : k = n) : ApInv n k #[] := by
  subst e
  exact ⟨h0, h1, by simp, by simp⟩
theorem ap_turn {n num num' d : Int} {val val' : Array UInt8} (h1 : n < 2 ^ 100) (h : ApInv n num val) (hne : num ≠ 0) (e : num' = num.fdiv 16) (e2 : d = num.fmod 16) (e3 : val' = #[UInt8.ofNat (65 + d.toNat)] ++ val) : ApInv n num' val' := by
  obtain ⟨a, b, c, q⟩ := h
  subst e3
  have f1 : num.fdiv 16 = num / 16 := Int.fdiv_eq_ediv_of_nonneg _ (by omega)
  have f2 : num.fmod 16 = num % 16 := Int.fmod_eq_emod_of_nonneg _ (by omega)
  rw [f1] at e
  rw [f2] at e2
  have hq : apB num'.toNat ++ (#[UInt8.ofNat (65 + d.toNat)] ++ val).toList = apB n.toNat := by
    rw [← q, apB_step (n := num.toNat) (by omega), Array.toList_append]
    rw [show num.toNat / 16 = num'.toNat by omega, show num.toNat % 16 = d.toNat by omega]
    simp
  refine ⟨by omega, by omega, ?_, hq⟩
  have hl := congrArg List.length hq
  have hb := apB_len (n := n.toNat) (by omega)
  rw [List.length_append] at hl
  simp only [Array.length_toList] at hl
  omega
theorem ap_end {n num : Int} {val : Array UInt8} (h : ApInv n num val) (e : num = 0) : val = (apB n.toNat).toArray := by
  obtain ⟨a, b, c, q⟩ := h
  subst e
  rw [show ((0 : Int).toNat) = 0 from rfl, apB_zero, List.nil_append] at q
  rw [← q]
theorem ApInv.all {n num : Int} {val : Array UInt8} (h : ApInv n num val) : ApInv n num val ∧ 0 ≤ num ∧ num < 2 ^ 100 ∧ val.size ≤ 25 := ⟨h, h.1, h.2.1, h.2.2.1⟩
end Mine
namespace Mine
open PySem PySem.W PyProof.Rows PySem.Calls
theorem fm16 (x : Int) : 0 ≤ x.fmod 16 ∧ x.fmod 16 < 16 := by rw [Int.fmod_eq_emod_of_nonneg _ (by omega)]; omega
theorem ap_less {x : Int} (h0 : 0 ≤ x) (h : x ≠ 0) : (x.fdiv 16).toNat < x.toNat := by
  rw [Int.fdiv_eq_ediv_of_nonneg _ (by omega)]; omega
local macro_rules | `(tactic| walk_at "exec While Name cons nil") => `(tactic| k_extra "exec While Name cons nil")
local macro_rules | `(tactic| walk_at "subscriptTail") => `(tactic| k_extra "subscriptTail")
set_option maxHeartbeats 4000000
theorem ap_does (w : World) (news : List (Addr × Obj)) (n : Int) (t1 : Tok) (h0 : 0 ≤ n) (h1 : n < 2 ^ 100) :
    Does w 28 3 news [.int n t1] (fun t => .bytes (apB n.toNat).toArray t) := by
  dsimp only [Does]
  k_fill
  intros
  rename_i hd hu hret
  refine wpAny_call ?_
  k_dflt cell_enter
  k_with_none
  k_with "subscriptTail" => (k_here; (with_reducible show wpAny _ _ (subscriptTail _ (Expr.Slice _ _ none _) (Value.bytes _ _) (Value.ref _)) _ _ _); (with_reducible rename Fr _ _ _ _ => F'); (with_reducible rename News _ _ _ _ => N'); (refine ap_cut (s := ⟨_, _, _, _, _⟩) F' N' (fm16 _).1 (fm16 _).2 (by omega) ?_); intro _ _ _ F' N')
  k_with "exec While Name cons nil" => k_while (fun _ num val => ApInv n num val ∧ 0 ≤ num ∧ num < 2 ^ 100 ∧ val.size ≤ 25) (fun _ num _ => num.toNat) "num" "val"
  k_with "state" => first | exact (ap_start (by assumption) (by assumption) (by split <;> omega)).all | exact (ap_turn (by assumption) (by assumption) (by assumption) rfl rfl rfl).all
  k_with "measure" => exact ap_less (by assumption) (by assumption)
  k_steps
  all_goals (rename ApInv _ _ _ => hI; rename _ = (0 : Int) => hz; rw [ap_end hI hz]; exact hret _ _ _ (by k_asm) (by k_asm))
end Mine
namespace Mine
open PySem PySem.W PyProof.Rows PySem.Calls PySem.StrLaws
/-- a text of its codes -/
def ofL (l : List Nat) : Str := ⟨l.toArray⟩
theorem ofL_cps (l : List Nat) : (ofL l).cps.toList = l := by simp [ofL]
theorem ofL_len (l : List Nat) : (ofL l).length = l.length := by simp [ofL, Str.length]
theorem ofL_inj {a b : List Nat} (h : ofL a = ofL b) : a = b := by rw [← ofL_cps a, ← ofL_cps b, h]
theorem ofL_self (x : Str) : ofL x.cps.toList = x := by apply Str.ext'; simp [ofL]
/-- the stretch from b to e -/
def sub (l : List Nat) (b e : Nat) : List Nat := (l.drop b).take (e - b)
def pal (p : List Nat) : Bool := p == p.reverse
theorem slice_mid {l : List Nat} {i j : Int} (h0 : 0 ≤ i) (h1 : i ≤ j) (h2 : j ≤ l.length) : Txt.slice (ofL l) (some i) (some j) = ofL (sub l i.toNat j.toNat) := by
  have h := sliceText_plain (x := ofL l) (i := i) (j := j) ⟨h0, h1, by rw [ofL_cps]; exact h2⟩
  rw [ofL_cps] at h
  have e : (j - i).toNat = j.toNat - i.toNat := by omega
  rw [e] at h
  exact h
theorem slice_to {l : List Nat} {j : Int} (h0 : 0 ≤ j) (h2 : j ≤ l.length) : Txt.slice (ofL l) none (some j) = ofL (l.take j.toNat) := by
  have h := sliceText_to (x := ofL l) (j := j) ⟨h0, by rw [ofL_cps]; exact h2⟩
  rw [ofL_cps, List.drop_zero, Int.sub_zero] at h
  exact h
theorem sub_len {l : List Nat} {b e : Nat} (h : e ≤ l.length) : (sub l b e).length = e - b := by
  unfold sub
  rw [List.length_take, List.length_drop]
  omega
theorem sub_mem {l : List Nat} {b e : Nat} {c : Nat} (h : c ∈ sub l b e) : c ∈ l := List.mem_of_mem_drop (List.mem_of_mem_take h)
/-- the least from s on, of k looked at -/
def least (f : Nat → Bool) : Nat → Nat → Nat
  | 0, s => s
  | k + 1, s => if f s = true then s else least f k (s + 1)
theorem least_eq (f : Nat → Bool) : ∀ (k s b : Nat), s ≤ b → b < s + k → f b = true → (∀ j, s ≤ j → j < b → f j = false) → least f k s = b
  | 0, s, b, h1, h2, _, _ => by omega
  | k + 1, s, b, h1, h2, h3, h4 => by
    unfold least
    by_cases h : s = b
    · subst h; rw [if_pos h3]
    · rw [if_neg (by rw [h4 s (Nat.le_refl _) (by omega)]; decide)]
      exact least_eq f k (s + 1) b (by omega) (by omega) h3 fun j h5 h6 => h4 j (by omega) h6
/-- where the longest end of the e first that reads the same both ways begins -/
def bgn (l : List Nat) (e : Nat) : Nat := least (fun j => pal (sub l j e)) e 0
def piece (l : List Nat) (e : Nat) : List Nat := sub l (bgn l e) e
/-- what is kept of the e first fronts -/
def keptC (l : List Nat) : Nat → List (List Nat)
  | 0 => []
  | e + 1 => keptC l e ++ (if Txt.find (ofL (l.take e)) (ofL (piece l (e + 1))) < 0 then [piece l (e + 1)] else [])
theorem keptC_len (l : List Nat) : ∀ e, (keptC l e).length ≤ e
  | 0 => Nat.le_refl _
  | e + 1 => by
    have := keptC_len l e
    unfold keptC
    rw [List.length_append]
    split <;> simp <;> omega
end Mine
namespace Mine
open PySem PySem.W PyProof.Rows PySem.Calls
/-- do the two numbers tell that these figures read the same both ways? -/
def mirB (n u b a z : Int) : Bool := (n.fdiv (2 ^ (4 * b).toNat)).fmod (1 * 2 ^ (4 * z).toNat) == (u.fdiv (2 ^ (4 * a).toNat)).fmod (1 * 2 ^ (4 * z).toNat)
theorem mirror_does' (w : World) (news : List (Addr × Obj)) (n u b a z : Int) (t1 t2 t3 t4 t5 : Tok) (hpre : 0 ≤ n ∧ n < 2 ^ 100 ∧ 0 ≤ u ∧ u < 2 ^ 100 ∧ 0 ≤ b ∧ b ≤ 30 ∧ 0 ≤ a ∧ a ≤ 30 ∧ 0 ≤ z ∧ z ≤ 30) :
    Does w 135 3 news [.int n t1, .int u t2, .int b t3, .int a t4, .int z t5] (fun _ => .bool (mirB n u b a z)) := mirror_does w news n u b a z t1 t2 t3 t4 t5 hpre
local macro_rules | `(tactic| walk_at "call ref") => `(tactic| k_extra "call ref")
local macro_rules | `(tactic| walk_at "call type:range") => `(tactic| k_extra "call type:range")
local macro_rules | `(tactic| kst_facts1) => `(tactic| first | exact PyProof.Rows.StrsAre.nil | exact PyProof.Rows.StrsAre.append' (by with_reducible assumption) (.cons _ _ .nil) | (with_reducible assumption))
/-- no front place ahead of b tells a mirrored end of the e first figures -/
def LeastIn (n u len e b : Int) : Prop := 0 ≤ b ∧ b ≤ e - 1 ∧ ∀ j, 0 ≤ j → j < b → mirB n u (len - e) j (e - j) = false
/-- the two numbers tell of every stretch of the text whether it reads the same both ways -/
def Tells (n u : Int) (sh : Str) : Prop := ∀ e b : Int, 1 ≤ e → e ≤ sh.length → 0 ≤ b → b < e → mirB n u (sh.length - e) b (e - b) = pal (sub sh.cps.toList b.toNat e.toNat)
theorem LeastIn.all {n u len e b : Int} (h : LeastIn n u len e b) : LeastIn n u len e b ∧ 0 ≤ b ∧ b ≤ e - 1 := ⟨h, h.1, h.2.1⟩
theorem least_start {n u len e : Int} (h : 1 ≤ e) : LeastIn n u len e 0 := ⟨by omega, by omega, fun j h1 h2 => by omega⟩
theorem pal_one {l : List Nat} {e : Nat} (h : 1 ≤ e) : pal (sub l (e - 1) e) = true := by
  unfold pal sub
  rw [show e - (e - 1) = 1 by omega]
  cases l.drop (e - 1) <;> simp
theorem least_turn {n u e b : Int} {sh : Str} (T : Tells n u sh) (h0 : 1 ≤ e) (h9 : e ≤ sh.length) (h : LeastIn n u sh.length e b) (h2 : mirB n u (sh.length - e) b (e - b) = false) : LeastIn n u sh.length e (b + 1) := by
  obtain ⟨a, c, d⟩ := h
  have hb : b ≠ e - 1 := by
    rintro rfl
    rw [T e (e - 1) h0 h9 (by omega) (by omega)] at h2
    have := pal_one (l := sh.cps.toList) (e := e.toNat) (by omega)
    rw [show (e - 1).toNat = e.toNat - 1 by omega, this] at h2
    cases h2
  refine ⟨by omega, by omega, fun j j0 j1 => ?_⟩
  by_cases hj : j = b
  · subst hj; exact h2
  · exact d j j0 (by omega)
def keptS (sh : Str) (k : Nat) : List Str := (keptC sh.cps.toList k).map ofL
theorem least_is {n u e b : Int} {sh : Str} (T : Tells n u sh) (h0 : 1 ≤ e) (h9 : e ≤ sh.length) (h : LeastIn n u sh.length e b) (h2 : mirB n u (sh.length - e) b (e - b) = true) : Txt.slice sh (some b) (some e) = ofL (piece sh.cps.toList e.toNat) := by
  obtain ⟨a, c, d⟩ := h
  have hl : sh.length = sh.cps.toList.length := by simp [Str.length]
  have h1 := slice_mid (l := sh.cps.toList) (i := b) (j := e) a (by omega) (by omega)
  rw [ofL_self] at h1
  rw [h1]
  unfold piece bgn
  rw [least_eq _ e.toNat 0 b.toNat (Nat.zero_le _) (by omega) ?_ ?_]
  · rw [← T e b h0 h9 a (by omega)]; exact h2
  · intro j _ hj
    have := T e j h0 h9 (by omega) (by omega)
    rw [show ((j : Nat) : Int).toNat = j by omega] at this
    rw [← this]
    exact d j (by omega) (by omega)
theorem kept_turn {n u e b : Int} {sh : Str} {pre : List Int} {kept : List Str} (T : Tells n u sh) (h0 : e = 1 + (pre.length : Int)) (h9 : e ≤ sh.length) (hk : kept = keptS sh pre.length) (h : LeastIn n u sh.length e b) (h2 : mirB n u (sh.length - e) b (e - b) = true) :
    (decide (0 ≤ Txt.find (Txt.slice sh none (some (e - 1))) (Txt.slice sh (some b) (some e))) = false → kept ++ [Txt.slice sh (some b) (some e)] = keptS sh (pre ++ [e]).length) ∧
    (decide (0 ≤ Txt.find (Txt.slice sh none (some (e - 1))) (Txt.slice sh (some b) (some e))) = true → kept = keptS sh (pre ++ [e]).length) := by
  have hl : sh.length = sh.cps.toList.length := by simp [Str.length]
  have e1 := least_is T (by omega) h9 h h2
  have e2 := slice_to (l := sh.cps.toList) (j := e - 1) (by omega) (by omega)
  rw [ofL_self] at e2
  rw [e1, e2, hk, List.length_append, List.length_singleton]
  unfold keptS
  rw [keptC, List.map_append, show (e - 1).toNat = pre.length by omega, show e.toNat = pre.length + 1 by omega]
  constructor
  · intro hd
    rw [decide_eq_false_iff_not] at hd
    rw [if_pos (by omega)]
    rfl
  · intro hd
    rw [decide_eq_true_eq] at hd
    rw [if_neg (by omega)]
    simp
theorem occ_some (r : Str) : (Builtin.Str.occurrences (dots ++ r) dots 0 (dots ++ r).length 1).isEmpty = false := by
  have hx : (dots ++ r).cps.toList = [46, 46, 46] ++ r.cps.toList := by
    rw [Str.cps_append, Array.toList_append, dots_cps]
  have hlen : (dots ++ r).length = 3 + r.length := by
    rw [Str.length_append, dots_len]
  rw [StrLaws.occ_eq, hlen]
  have hr : List.range' 0 (3 + r.length + 1 - 0) = 0 :: List.range' 1 (3 + r.length) := by
    rw [show 3 + r.length + 1 - 0 = (3 + r.length) + 1 by omega, List.range'_succ]
  rw [hr, occ_take (by simp) (Nat.zero_le _) (by rw [dots_len]; omega) (by rw [subAt_dots, hx]; rfl)]
  have h := StrLaws.occ_grows (dots ++ r) dots (3 + r.length) 1 (List.range' 1 (3 + r.length)) (#[].push 0, 0 + dots.length) (by simp)
  rw [List.isEmpty_eq_false_iff]
  intro he
  exact h (Array.toList_eq_nil_iff.mp he)
theorem ell_both (w : World) (news : List (Addr × Obj)) (g p : Str) (t1 t2 : Tok) (h46 : 46 ∉ p.cps.toList) (hp : p.length ≠ 0) (hpl : p.length ≤ 50) (hg : g.length ≤ 100) :
    Does w 21 3 news [.str (Str.ofString "..." ++ p ++ Str.ofString "...") t1, .str g t2] (fun _ => .bool (decide (0 ≤ Txt.find g p))) := by
  have hlen : (dots ++ p ++ dots).length = 6 + p.length := by
    rw [len_toList, len_toList p]
    show (dots.cps ++ p.cps ++ dots.cps).toList.length = _
    rw [Array.toList_append, Array.toList_append, dots_cps]
    simp only [List.length_append, List.length_cons, List.length_nil]
    omega
  have hx : dots ++ p ++ dots = dots ++ (p ++ dots) := by apply Str.ext'; simp [Str.cps_append, Array.append_assoc]
  refine ell_does w news _ g p t1 t2 ?_ (split_both h46) (Nat.le_trans (Nat.le_of_eq hlen) (by omega)) hg (by omega) hp
  show (Builtin.Str.occurrences (dots ++ p ++ dots) dots 0 (dots ++ p ++ dots).length 1).isEmpty = false
  rw [hx]
  exact occ_some _
theorem slice46 {sh : Str} {b e : Int} (h46 : 46 ∉ sh.cps.toList) (h0 : 0 ≤ b) (h1 : b ≤ e) (h2 : e ≤ sh.length) : 46 ∉ (Txt.slice sh (some b) (some e)).cps.toList := by
  have hl : sh.length = sh.cps.toList.length := by simp [Str.length]
  have h1 := slice_mid (l := sh.cps.toList) (i := b) (j := e) h0 h1 (by omega)
  rw [ofL_self] at h1
  rw [h1, ofL_cps]
  exact fun h => h46 (sub_mem h)
theorem slice_len {sh : Str} {b e : Int} (h0 : 0 ≤ b) (h1 : b ≤ e) (h2 : e ≤ sh.length) : ((Txt.slice sh (some b) (some e)).length : Int) = e - b := by
  have hl : sh.length = sh.cps.toList.length := by simp [Str.length]
  have h1 := slice_mid (l := sh.cps.toList) (i := b) (j := e) h0 h1 (by omega)
  rw [ofL_self] at h1
  rw [h1, ofL_len, sub_len (by omega)]
  omega
local macro_rules | `(tactic| walk_at "exec While UnaryOp cons nil") => `(tactic| k_extra "exec While UnaryOp cons nil")
theorem slice_ne {sh : Str} {b e : Int} (h0 : 0 ≤ b) (h1 : b ≤ e - 1) (h2 : e ≤ sh.length) : (Txt.slice sh (some b) (some e)).length ≠ 0 := by
  have := slice_len (sh := sh) (b := b) (e := e) h0 (by omega) h2
  omega
theorem slice_small {sh : Str} {l u : Option Int} {k : Nat} (h : sh.length ≤ k) : (Txt.slice sh l u).length ≤ k := Nat.le_trans (Txt.slice_le sh l u) h
theorem kept_app {n u e b : Int} {sh : Str} {pre : List Int} {kept : List Str} (T : Tells n u sh) (h0 : e = 1 + (pre.length : Int)) (h9 : e ≤ sh.length) (hk : kept = keptS sh pre.length) (h : LeastIn n u sh.length e b) (h2 : mirB n u (sh.length - e) b (e - b) = true)
    (hd : (decide (0 ≤ Txt.find (Txt.slice sh none (some (e - 1))) (Txt.slice sh (some b) (some e))) == false) = true) : kept ++ [Txt.slice sh (some b) (some e)] = keptS sh (pre ++ [e]).length ∧ (kept ++ [Txt.slice sh (some b) (some e)]).length ≤ (pre ++ [e]).length := by
  have h3 := (kept_turn T h0 h9 hk h h2).1 (by simpa using hd)
  refine ⟨h3, ?_⟩
  rw [h3]
  unfold keptS
  rw [List.length_map]
  exact keptC_len _ _
theorem kept_same {n u e b : Int} {sh : Str} {pre : List Int} {kept : List Str} (T : Tells n u sh) (h0 : e = 1 + (pre.length : Int)) (h9 : e ≤ sh.length) (hk : kept = keptS sh pre.length) (h : LeastIn n u sh.length e b) (h2 : mirB n u (sh.length - e) b (e - b) = true)
    (hd : (decide (0 ≤ Txt.find (Txt.slice sh none (some (e - 1))) (Txt.slice sh (some b) (some e))) == false) = false) : kept = keptS sh (pre ++ [e]).length ∧ kept.length ≤ (pre ++ [e]).length := by
  have h3 := (kept_turn T h0 h9 hk h h2).2 (by simpa using hd)
  refine ⟨h3, ?_⟩
  rw [h3]
  unfold keptS
  rw [List.length_map]
  exact keptC_len _ _
theorem told_no {d : Bool} (h1 : (d == false) = false) (h2 : (d != true) = true) : False := by cases d <;> simp_all
/-- the call hands back a new list of the texts xs -/
def RT (xs : List Str) (v : Value) (more : List (Addr × Obj)) : Prop := ∃ (D : Addr) (ys : List Value) (n : Nat), v = .ref D ∧ more = [(D, listOf ys.toArray n)] ∧ StrsAre ys xs
theorem ret_texts {h₀ h' : Heap} {L : Addr} {m : Str → Option Value} {news rest : List (Addr × Obj)} {s : Shared} {Q : Value → Shared → Prop} {xs xs' : List Str} {D : Addr} {ys : List Value} {n tk : Nat}
    (hret : ∀ (v : Value) (more : List (Addr × Obj)) (h' : Heap) (tk' : Nat), RT xs v more → Fr h₀ L h' m → News h₀ L h' (more ++ news) → Q v { s with heap := h', toks := tk' })
    (F : Fr h₀ L h' m) (N : News h₀ L h' ((D, listOf ys.toArray n) :: rest)) (hs : ∀ p ∈ news, p ∈ rest) (hi : StrsAre ys xs') (e : xs' = xs) : Q (.ref D) { s with heap := h', toks := tk } := by
  subst e
  exact hret _ _ _ _ ⟨D, ys, n, rfl, rfl, hi⟩ F fun p hp => N p (by
    rcases List.mem_append.mp hp with h | h
    · exact List.mem_cons.mpr (.inl (List.mem_singleton.mp h))
    · exact List.mem_cons_of_mem _ (hs p h))
theorem range_len (sh : Str) : (rangeKs 1 ((sh.length : Int) + 1 - 1).toNat).length = sh.length := by
  rw [rangeKs_length]
  omega
set_option maxHeartbeats 4000000
theorem kept_does (w : World) (news : List (Addr × Obj)) (sh : Str) (n u : Int) (t1 t2 t3 : Tok) (hn : 0 ≤ n ∧ n < 2 ^ 100 ∧ 0 ≤ u ∧ u < 2 ^ 100) (hl : sh.length ≤ 8) (h46 : 46 ∉ sh.cps.toList) (hT : Tells n u sh) :
    DoesO w 142 9 news (fun _ => True) [.str sh t1, .int n t2, .int u t3] (RT (keptS sh sh.length)) := by
  dsimp only [DoesO]
  k_fill
  intros
  rename_i _ hd hu hret
  obtain ⟨n0, n1, u0, u1⟩ := hn
  refine wpAny_call ?_
  k_dflt cell_enter
  k_with_none
  k_with "call ref" => (k_here; (with_reducible show wpAny _ _ (call (Value.ref 135) _) _ _ _); k_dflt (refine' mirror_does' _ _ _ _ _ _ _ _ _ _ _ _ ?zzkp _ _ _ _ _ _ _ _ _ _ _ _ _ _ _ _ _ _ _ _ _ _ ?zzk1 ?zzk2 ?zzk3 ?zzk4 ?zzk5 ?zzkK ?zzkd ?zzku ?_; (case zzk1 => k_asm); (case zzk2 => k_asm); (case zzk3 => k_asm); (case zzk4 => k_asm); (case zzk5 => k_asm); (case zzkK => first | exact rfl | assumption); (case zzkp => (refine ⟨?_, ?_, ?_, ?_, ?_, ?_, ?_, ?_, ?_, ?_⟩ <;> omega)); (case zzkd => ktr_room); (case zzku => ktr_units); intro t9 h9 tk9 F9 N9; (try dsimp only); (try k_fold)))
  k_with "call type:range" => (k_here; (with_reducible show wpAny _ _ (call (Value.type "range") [_, _]) _ _ _); (rename Fr _ _ _ _ => F'); (rename News _ _ _ _ => N'); (refine range2_rows F' N' ?_); intro _ _ _ _ _ _ _ _ _)
  k_with "call ref" => (k_here; (with_reducible show wpAny _ _ (call (Value.ref 21) _) _ _ _); k_dflt (refine' ell_both _ _ _ _ _ _ ?zzka ?zzkb ?zzkc ?zzkg _ _ _ _ _ _ _ _ _ _ _ _ _ _ _ _ _ _ _ _ _ _ ?zzk1 ?zzk2 ?zzk3 ?zzk4 ?zzk5 ?zzkK ?zzkd ?zzku ?_; (case zzk1 => k_asm); (case zzk2 => k_asm); (case zzk3 => k_asm); (case zzk4 => k_asm); (case zzk5 => k_asm); (case zzkK => first | exact rfl | assumption); (case zzka => exact slice46 (by assumption) (by omega) (by omega) (by omega)); (case zzkb => exact slice_ne (by omega) (by omega) (by omega)); (case zzkc => exact slice_small (by omega)); (case zzkg => exact slice_small (by omega)); (case zzkd => ktr_room); (case zzku => ktr_units); intro t9 h9 tk9 F9 N9; (try dsimp only); (try k_fold)))
  k_with "pyIter ref" => k_state (fun pre kept => kept = keptS sh pre.length ∧ kept.length ≤ pre.length) "kept$"
  k_with "exec While UnaryOp cons nil" => k_while_given ["end"] (fun e _ b => LeastIn n u (sh.length : Int) e b ∧ 0 ≤ b ∧ b ≤ e - 1) (fun e _ b => (e - b).toNat) "begin"
  k_with "state" => first | exact (least_start (by omega)).all | exact (least_turn hT (by omega) (by omega) (by assumption) (by assumption)).all | exact ⟨rfl, Nat.zero_le _⟩ | exact kept_app hT (by assumption) (by omega) (by assumption) (by assumption) (by assumption) (by assumption) | exact kept_same hT (by assumption) (by omega) (by assumption) (by assumption) (by assumption) (by assumption)
  k_steps
  all_goals first
    | exact (told_no (by assumption) (by assumption)).elim
    | (rename News _ _ _ _ => kN; rename StrsAre _ _ => kS; exact ret_texts hret (by k_asm) kN (fun p hp => hp) kS (by rw [← range_len sh]; assumption))
end Mine
namespace Mine
open PySem PySem.W PyProof.Rows PySem.Calls
/-- one stretch looked at -/
def fstep (sh : Str) (e : Nat) (acc : List Str) (b : Nat) : List Str := if pal (sub sh.cps.toList b e) = true ∧ acc.contains (ofL (sub sh.cps.toList b e)) = false then acc ++ [ofL (sub sh.cps.toList b e)] else acc
def foundS (sh : Str) : Nat → List Str
  | 0 => []
  | e + 1 => (List.range (e + 1)).foldl (fstep sh (e + 1)) (foundS sh e)
def innerS (sh : Str) (e k : Nat) : List Str := (List.range k).foldl (fstep sh e) (foundS sh (e - 1))
theorem innerS_step (sh : Str) (e k : Nat) : innerS sh e (k + 1) = fstep sh e (innerS sh e k) k := by
  unfold innerS
  rw [List.range_succ, List.foldl_append]
  rfl
theorem innerS_zero (sh : Str) (e : Nat) : innerS sh e 0 = foundS sh (e - 1) := rfl
theorem innerS_whole (sh : Str) (e : Nat) : innerS sh (e + 1) (e + 1) = foundS sh (e + 1) := rfl
theorem fstep_len (sh : Str) (e : Nat) (acc : List Str) (b : Nat) : (fstep sh e acc b).length ≤ acc.length + 1 := by
  unfold fstep
  split <;> simp
theorem inner_len (sh : Str) (e k : Nat) : (innerS sh e k).length ≤ (foundS sh (e - 1)).length + k := by
  induction k with
  | zero => exact Nat.le_refl _
  | succ k ih =>
    rw [innerS_step]
    have := fstep_len sh e (innerS sh e k) k
    omega
theorem found_len (sh : Str) : ∀ e, (foundS sh e).length ≤ e * e
  | 0 => Nat.le_refl _
  | e + 1 => by
    have h1 := found_len sh e
    have h2 := inner_len sh (e + 1) (e + 1)
    rw [innerS_whole, Nat.add_sub_cancel] at h2
    have : (e + 1) * (e + 1) = e * e + e + (e + 1) := by rw [Nat.mul_succ, Nat.succ_mul]
    omega
theorem inner_start {sh : Str} {e : Int} {pre : List Int} {found : List Str} (h0 : e = 1 + (pre.length : Int)) (h : found = foundS sh pre.length) (h2 : found.length ≤ 64) : found = innerS sh e.toNat ([] : List Int).length ∧ found.length ≤ 64 := by
  refine ⟨?_, h2⟩
  rw [h, List.length_nil, innerS_zero, show e.toNat - 1 = pre.length by omega]
theorem outer_turn {sh : Str} {e : Int} {pre : List Int} {found : List Str} {k : Nat} (h0 : e = 1 + (pre.length : Int)) (h9 : e ≤ sh.length) (hl : sh.length ≤ 8) (hk : k = e.toNat) (h : found = innerS sh e.toNat k) : found = foundS sh (pre ++ [e]).length ∧ found.length ≤ 64 := by
  have h1 : found = foundS sh (pre ++ [e]).length := by
    rw [h, hk, List.length_append, List.length_singleton, show e.toNat = pre.length + 1 by omega, innerS_whole]
  refine ⟨h1, ?_⟩
  rw [h1]
  have := found_len sh (pre ++ [e]).length
  have h3 : (pre ++ [e]).length ≤ 8 := by rw [List.length_append, List.length_singleton]; omega
  exact Nat.le_trans this (Nat.mul_le_mul h3 h3)
theorem rev_eq (x : Str) (u : Tok) : Txt.sliceBy x none none (-1, u) = ofL x.cps.toList.reverse := by
  have h := step_rev_list x u
  have hl : x.length = x.cps.toList.length := by simp [Str.length]
  rw [← ofL_self (Txt.sliceBy x none none (-1, u)), h]
  congr 1
  apply List.ext_getElem
  · simp [hl]
  · intro i h1 h2
    simp only [List.length_map, List.length_range] at h1
    have e : x.length = x.cps.size := rfl
    rw [List.getElem_map, List.getElem_range, List.getElem_reverse]
    rw [Array.getD_eq_getD_getElem?, Array.getElem?_eq_getElem (by omega)]
    simp [e]
theorem pal_test (x : Str) (u : Tok) : (x == Txt.sliceBy x none none (-1, u)) = pal x.cps.toList := by
  rw [rev_eq]
  unfold pal
  by_cases h : x.cps.toList = x.cps.toList.reverse
  · rw [← h, ofL_self]
    simp
  · have h1 : x ≠ ofL x.cps.toList.reverse := fun e => h (by
      have h2 := congrArg (fun y : Str => y.cps.toList) e
      exact h2.trans (ofL_cps _))
    rw [beq_eq_false_iff_ne.mpr h1, beq_eq_false_iff_ne.mpr h]
theorem slice_sub {sh : Str} {b e : Int} (h0 : 0 ≤ b) (h1 : b ≤ e) (h2 : e ≤ sh.length) : Txt.slice sh (some b) (some e) = ofL (sub sh.cps.toList b.toNat e.toNat) := by
  have hl : sh.length = sh.cps.toList.length := by simp [Str.length]
  have h3 := slice_mid (l := sh.cps.toList) (i := b) (j := e) h0 h1 (by omega)
  rw [ofL_self] at h3
  exact h3
theorem any_contains (xs : List Str) (x : Str) : (xs.any fun y => y == x) = xs.contains x := by
  induction xs with
  | nil => rfl
  | cons a r ih =>
    rw [List.any_cons, List.contains_cons, ih]
    congr 1
    by_cases h : a = x
    · subst h; rfl
    · rw [beq_eq_false_iff_ne.mpr h, beq_eq_false_iff_ne.mpr (Ne.symm h)]
section
variable {sh : Str} {b e : Int} {pre preO : List Int} {found : List Str} {u : Tok}
theorem inner_small (hl : sh.length ≤ 8) (_ : b = 0 + (pre.length : Int)) (h1 : pre.length < (e - 0).toNat) (h2 : e = 1 + (preO.length : Int)) (h3 : preO.length < ((sh.length : Int) + 1 - 1).toNat) :
    (innerS sh e.toNat (pre ++ [b]).length).length ≤ 64 := by
  have h4 := inner_len sh e.toNat (pre ++ [b]).length
  have h5 := found_len sh (e.toNat - 1)
  have h6 : (pre ++ [b]).length ≤ 8 := by rw [List.length_append, List.length_singleton]; omega
  have h7 : (e.toNat - 1) * (e.toNat - 1) ≤ 7 * 7 := Nat.mul_le_mul (by omega) (by omega)
  omega
theorem inner_step (hl : sh.length ≤ 8) (h0 : b = 0 + (pre.length : Int)) (h1 : pre.length < (e - 0).toNat) (h2 : e = 1 + (preO.length : Int)) (h3 : preO.length < ((sh.length : Int) + 1 - 1).toNat) (h : found = innerS sh e.toNat pre.length) :
    innerS sh e.toNat (pre ++ [b]).length = if pal (Txt.slice sh (some b) (some e)).cps.toList = true ∧ (found.any fun x => x == Txt.slice sh (some b) (some e)) = false then found ++ [Txt.slice sh (some b) (some e)] else found := by
  rw [List.length_append, List.length_singleton, innerS_step, ← h, slice_sub (by omega) (by omega) (by omega), ofL_cps, any_contains]
  have e1 : b.toNat = pre.length := by omega
  rw [e1]
  rfl
theorem inner_yes (hl : sh.length ≤ 8) (h0 : b = 0 + (pre.length : Int)) (h1 : pre.length < (e - 0).toNat) (h2 : e = 1 + (preO.length : Int)) (h3 : preO.length < ((sh.length : Int) + 1 - 1).toNat) (h : found = innerS sh e.toNat pre.length)
    (hp : (Txt.slice sh (some b) (some e) == Txt.sliceBy (Txt.slice sh (some b) (some e)) none none (-1, u)) = true) (ha : (found.any fun x => x == Txt.slice sh (some b) (some e)) = false) :
    found ++ [Txt.slice sh (some b) (some e)] = innerS sh e.toNat (pre ++ [b]).length ∧ (found ++ [Txt.slice sh (some b) (some e)]).length ≤ 64 := by
  have h4 := inner_step hl h0 h1 h2 h3 h
  rw [pal_test] at hp
  rw [if_pos ⟨hp, ha⟩] at h4
  refine ⟨h4.symm, ?_⟩
  rw [← h4]
  exact inner_small (b := b) hl h0 h1 h2 h3
theorem inner_no (hl : sh.length ≤ 8) (h0 : b = 0 + (pre.length : Int)) (h1 : pre.length < (e - 0).toNat) (h2 : e = 1 + (preO.length : Int)) (h3 : preO.length < ((sh.length : Int) + 1 - 1).toNat) (h : found = innerS sh e.toNat pre.length)
    (ha : (found.any fun x => x == Txt.slice sh (some b) (some e)) = true) :
    found = innerS sh e.toNat (pre ++ [b]).length ∧ found.length ≤ 64 := by
  have h4 := inner_step hl h0 h1 h2 h3 h
  rw [if_neg (by rw [ha]; simp)] at h4
  refine ⟨h4.symm, ?_⟩
  rw [← h4]
  exact inner_small (b := b) hl h0 h1 h2 h3
theorem inner_no2 (hl : sh.length ≤ 8) (h0 : b = 0 + (pre.length : Int)) (h1 : pre.length < (e - 0).toNat) (h2 : e = 1 + (preO.length : Int)) (h3 : preO.length < ((sh.length : Int) + 1 - 1).toNat) (h : found = innerS sh e.toNat pre.length)
    (hp : (Txt.slice sh (some b) (some e) == Txt.sliceBy (Txt.slice sh (some b) (some e)) none none (-1, u)) = false) :
    found = innerS sh e.toNat (pre ++ [b]).length ∧ found.length ≤ 64 := by
  have h4 := inner_step hl h0 h1 h2 h3 h
  rw [pal_test] at hp
  rw [if_neg (by rw [hp]; simp)] at h4
  refine ⟨h4.symm, ?_⟩
  rw [← h4]
  exact inner_small (b := b) hl h0 h1 h2 h3
theorem outer_turn' (hl : sh.length ≤ 8) (h2 : e = 1 + (preO.length : Int)) (h3 : preO.length < ((sh.length : Int) + 1 - 1).toNat) (h : found = innerS sh e.toNat (rangeKs 0 (e - 0).toNat).length) : found = foundS sh (preO ++ [e]).length ∧ found.length ≤ 64 :=
  outer_turn h2 (by omega) hl (by rw [rangeKs_length]; omega) h
end
local macro_rules | `(tactic| walk_at "call type:range") => `(tactic| k_extra "call type:range")
local macro_rules | `(tactic| kst_facts1) => `(tactic| first | exact PyProof.Rows.StrsAre.nil | exact PyProof.Rows.StrsAre.append' (by with_reducible assumption) (.cons _ _ .nil) | (with_reducible assumption))
set_option maxHeartbeats 4000000
theorem found_does (w : World) (news : List (Addr × Obj)) (sh : Str) (t1 : Tok) (hl : sh.length ≤ 8) :
    DoesO w 149 9 news (fun _ => True) [.str sh t1] (RT (foundS sh sh.length)) := by
  dsimp only [DoesO]
  k_fill
  intros
  rename_i _ hd hu hret
  refine wpAny_call ?_
  k_dflt cell_enter
  k_with_none
  k_with "call type:range" => (k_here; (with_reducible show wpAny _ _ (call (Value.type "range") [_, _]) _ _ _); (rename Fr _ _ _ _ => F'); (rename News _ _ _ _ => N'); (refine range2_rows F' N' ?_); intro _ _ _ _ _ _ _ _ _)
  k_with "call type:range" => (k_here; (with_reducible show wpAny _ _ (call (Value.type "range") [_]) _ _ _); (rename Fr _ _ _ _ => F'); (rename News _ _ _ _ => N'); (refine range1_rows F' N' ?_); intro _ _ _ _ _ _ _ _ _)
  k_with "pyIter ref" => (k_of "end" => k_state (fun pre found => found = foundS sh pre.length ∧ found.length ≤ 64) "found$")
  k_with "pyIter ref" => (k_of "begin" => k_state_given ["end"] (fun e pre found => found = innerS sh e.toNat pre.length ∧ found.length ≤ 64) "found$")
  k_with "state" => first | exact inner_start (by assumption) (by assumption) (by assumption) | exact ⟨rfl, Nat.zero_le _⟩ | exact inner_yes hl (by assumption) (by assumption) (by assumption) (by assumption) (by assumption) (by assumption) (by assumption) | exact inner_no hl (by assumption) (by assumption) (by assumption) (by assumption) (by assumption) (by assumption) | exact inner_no2 hl (by assumption) (by assumption) (by assumption) (by assumption) (by assumption) (by assumption) | exact outer_turn' hl (by assumption) (by assumption) (by assumption)
  k_steps
  all_goals (rename News _ _ _ _ => kN; rename StrsAre _ _ => kS; exact ret_texts hret (by k_asm) kN (fun p hp => hp) kS (by rw [← range_len sh]; assumption))
end Mine
namespace Mine
open PySem PySem.W PyProof.Rows PySem.Calls
section
variable {prog : Program} {w : World} {A : Around} {E : Value → Shared → Prop} {s : Shared} {env : Env} {h₀ : Heap} {x : Str} {body : List Stmt} {Q : Flow → Shared → Prop}
/-- a loop over a list of texts whose turns store names alone -/
theorem iter_texts {l : Addr} {vs : List Value} {xs : List Str} {nn : Nat} {m₀ : Str → Option Value} {news : List (Addr × Obj)} (stored : List Str) (P : List Int → Unit → Prop)
    (hh : A.handled = none) (hl : (l, listOf vs.toArray nn) ∈ news) (hi : StrsAre vs xs) (F : Fr h₀ env.locals s.heap m₀) (N : News h₀ env.locals s.heap news) (hp : P [] ())
    (turn : ∀ (pre : List Int) (p : Str) t (u : Str → Option Value) h tk own, xs[pre.length]? = some p → OwnOff own (news.map (·.1)) → P pre () →
      Fr h₀ env.locals h (fun y => if y = x then some (.str p t) else kstB (fun z => if stored.contains z then u z else m₀ z) [] y) → News h₀ env.locals h (news ++ own) →
      wpAny (model prog w) A (execs body env) (InvPostN h₀ env.locals (KstS (fun _ : Unit => news) (fun _ => []) (fun _ => True) x stored m₀ P (pre ++ [(pre.length : Int)])) own (news.map (·.1)) { s with heap := h, toks := tk } Q) E { s with heap := h, toks := tk })
    (done : ∀ (pre : List Int) (u : Str → Option Value) h tk, pre.length = xs.length → P pre () → Fr h₀ env.locals h (fun y => if y = x then u y else kstB (fun z => if stored.contains z then u z else m₀ z) [] y) → News h₀ env.locals h news → Q .next { s with heap := h, toks := tk }) :
    wpAny (model prog w) A (pyIter (.ref l)) (fun it s₂ => LoopAtV prog w A h₀ env x body Q E it s₂) E s := by
  have hol : s.heap.get? l = some (listOf vs.toArray nn) := (N _ hl).1
  have hls : s.heap.IsList l vs.toArray := ⟨_, hol, rfl, nn, rfl⟩
  have hne : l ≠ s.heap.objs.size := Nat.ne_of_lt (Heap.lt_size hol)
  refine wpAny_pyIter_list hls ?_
  have W := Walks.list (prog := prog) (w := w) hh s.heap.objs.size l hne vs.toArray
  have hlen : vs.toArray.size = xs.length := by simp [hi.length]
  rw [hlen] at W
  refine ⟨_, _, _, xs.length, _, _, m₀, news, (fun i m nx => ∃ pre : List Int, pre.length = i ∧ KstS (fun _ : Unit => news) (fun _ => []) (fun _ => True) x stored m₀ P pre m nx), rfl, W, ?_, ?_, ?_, ⟨⟨_, Heap.get?_push_size _ rfl, rfl, rfl⟩, hls.at fun o e => Heap.get?_push_of_some _ e⟩, F.push _, (fun p hp => ⟨Heap.get?_push_of_some _ (N p hp).1, (N p hp).2⟩), ⟨[], rfl, (), rfl, True.intro, (fun _ h => nomatch h), (fun _ _ _ _ => rfl), hp⟩, ?_, ?_⟩
  · intro hm
    rcases List.mem_cons.mp hm with e | hm
    · exact absurd F.ns.lt (e ▸ Nat.lt_irrefl _)
    · exact (N _ hl).2.1 ((List.mem_singleton.mp hm).symm)
  · intro b hb
    rw [List.mem_singleton.mp hb]
    exact next_is_new F
  · intro p hp hI
    exact absurd (Heap.lt_size (N p hp).1) ((List.mem_singleton.mp hI) ▸ Nat.lt_irrefl _)
  · rintro i v m₁ news₁ s₁ own ⟨hh', tk', rfl⟩ hin hP ⟨pre, hpre, c, en, _, h1, h2, hPp⟩ hoff hown hget hfp _ F₁ N₁
    have en : news₁ = news := en
    rw [en] at N₁
    have hsep : OwnOff (own.filter fun p => decide (p.1 = s.heap.objs.size)) (news.map (·.1)) := by
      intro p hp b hb e
      obtain ⟨q, hq, rfl⟩ := List.mem_map.mp hb
      have h1 : p.1 = s.heap.objs.size := by simpa using (List.mem_filter.mp hp).2
      exact absurd (Heap.lt_size (N q hq).1) (by rw [← e, h1]; exact Nat.lt_irrefl _)
    have hlt' : i < xs.length := hin
    obtain ⟨t, hx⟩ := hi.get i xs[i] (by simp [hlt'])
    have hv : v = .str xs[i] t := by
      have hP' : vs[i]? = some v := by simpa using hP
      rw [hx] at hP'; exact (Option.some.inj hP').symm
    subst hv
    have N₂ : News h₀ env.locals hh' (news ++ own.filter fun p => decide (p.1 = s.heap.objs.size)) := fun p hp => N₁ p ((List.mem_append.mp hp).elim (fun h => List.mem_append.mpr (.inr h)) fun h => List.mem_append.mpr (.inl ((List.mem_filter.mp h).1)))
    have hlo : hh'.get? l = some (listOf vs.toArray nn) := (N₁ _ (List.mem_append.mpr (.inr hl))).1
    refine wpAny_mono (turn pre xs[i] t m₁ hh' tk' _ (by rw [hpre]; simp [hlt']) hsep hPp (kst_fr h1 h2 F₁) N₂) (fun f s₂ p => ?_) fun _ _ e => e
    have fin : InvEndN h₀ env.locals (KstS (fun _ : Unit => news) (fun _ => []) (fun _ => True) x stored m₀ P (pre ++ [(pre.length : Int)])) (own.filter fun p => decide (p.1 = s.heap.objs.size)) (news.map (·.1)) { s with heap := hh', toks := tk' } s₂ →
        LoopStepU h₀ env.locals [s.heap.objs.size] own (fun m nx => ∃ pre : List Int, pre.length = i + 1 ∧ KstS (fun _ : Unit => news) (fun _ => []) (fun _ => True) x stored m₀ P pre m nx) { s with heap := hh', toks := tk' } .next s₂ := by
      rintro ⟨h', tk, m', news', nx, e, F', N', hn, ho, ha, hm⟩
      have enx : nx = news := by obtain ⟨_, e, _⟩ := hm; exact e
      refine ⟨rfl, h', tk, m', nx, e, F', fun p hp => ?_, fun p hp => ?_, pre ++ [(pre.length : Int)], by rw [List.length_append, List.length_singleton, hpre], hm⟩
      · rcases List.mem_append.mp hp with h | h
        · by_cases hI : p.1 = s.heap.objs.size
          · exact N' p (ho p (List.mem_filter.mpr ⟨h, by simpa using hI⟩))
          · have h1 : p.1 = l := by
              rcases List.mem_cons.mp (hown p h) with h2 | h2
              · exact absurd h2 hI
              · exact List.mem_singleton.mp h2
            have h2 : hh'.get? p.1 = some p.2 := hget p h
            rw [h1, hlo] at h2
            have h3 : p = (l, listOf vs.toArray nn) := Prod.ext h1 (Option.some.inj h2).symm
            rw [h3]
            exact N' _ (hn _ (by rw [enx]; exact hl))
        · exact N' p (hn p h)
      · have h1 : p.1 ∈ nx.map (·.1) := List.mem_map.mpr ⟨p, hp, rfl⟩
        rw [ha] at h1
        obtain ⟨q, hq, e⟩ := List.mem_map.mp h1
        intro hI
        exact absurd (Heap.lt_size (N q hq).1) (by rw [e, List.mem_singleton.mp hI]; exact Nat.lt_irrefl _)
    cases f with
    | ret v => exact .ret p
    | brk => exact .brk p
    | next => exact .next (fin p)
    | cont => exact .cont (fin p)
  · rintro h' tk m' news' F' N' _ ⟨pre, hpre, c, en, _, h1, h2, hPp⟩
    have en : news' = news := en
    rw [en] at N'
    exact done pre m' h' tk hpre hPp (kst_frOut h1 h2 F') N'
end
end Mine
namespace Mine
open PySem PySem.W PyProof.Rows PySem.Calls
/-- does the matcher find p in the stretch behind b, up to e? -/
def toldE (sh p : Str) (b e : Int) : Bool := decide (0 ≤ Txt.find (Txt.slice sh (some (b + 1)) (some e)) p)
def OkAt (sh p : Str) (b : Int) : Prop := Txt.slice sh (some b) (some (b + p.length)) = p → ∀ e : Int, b + p.length + 1 ≤ e → e ≤ sh.length → toldE sh p b e = true → (∀ e', b + p.length + 1 ≤ e' → e' < e → toldE sh p b e' = false) → pal (Txt.slice sh (some b) (some e)).cps.toList = true
def OkPiece (sh p : Str) : Prop := ∀ b : Int, 0 ≤ b → b < sh.length - p.length → OkAt sh p b
def SteadyP (sh : Str) (xs : List Str) : Prop := ∀ p ∈ xs, OkPiece sh p
open Classical in
noncomputable def steadyB (sh : Str) (xs : List Str) : Bool := decide (SteadyP sh xs)
def OutP (sh : Str) (xs : List Str) (pre : List Int) : Prop := ∀ i p, i < pre.length → xs[i]? = some p → OkPiece sh p
def MidP (sh p : Str) (pre : List Int) : Prop := ∀ b : Int, 0 ≤ b → b < pre.length → OkAt sh p b
def InP (sh p : Str) (b : Int) (pre : List Int) : Prop := ∀ e : Int, b + p.length + 1 ≤ e → e < b + p.length + 1 + pre.length → toldE sh p b e = false
theorem out_start {sh xs} : OutP sh xs [] := fun i p h => absurd h (Nat.not_lt_zero _)
theorem mid_start {sh p} : MidP sh p [] := fun b h0 h1 => by simp at h1; omega
theorem in_start {sh p b} : InP sh p b [] := fun e h0 h1 => by simp at h1; omega
theorem out_end {sh xs pre p} (hx : xs[pre.length]? = some p) (h : OutP sh xs pre) (hp : OkPiece sh p) {k : Int} : OutP sh xs (pre ++ [k]) := by
  intro i q hi hq
  rw [List.length_append, List.length_singleton] at hi
  by_cases e : i = pre.length
  · subst e
    rw [hx] at hq
    cases hq
    exact hp
  · exact h i q (by omega) hq
section
variable {sh p : Str} {xs : List Str} {b e : Int} {pre preM preO : List Int} {u : Tok}
theorem mid_snoc (h : MidP sh p pre) (hb : b = 0 + (pre.length : Int)) (h1 : OkAt sh p b) : MidP sh p (pre ++ [b]) := by
  intro c h0 hc
  rw [List.length_append, List.length_singleton] at hc
  by_cases he : c = b
  · subst he; exact h1
  · exact h c h0 (by omega)
theorem not_beq_rev (x : Str) (u : Tok) : (x != Txt.sliceBy x none none (-1, u)) = !pal x.cps.toList := by
  show (!(x == Txt.sliceBy x none none (-1, u))) = _
  rw [pal_test]
theorem way_brk (hb : b = 0 + (preM.length : Int)) (hM : MidP sh p preM) (he : e = b + p.length + 1 + (pre.length : Int)) (hI : InP sh p b pre) (hf : 0 ≤ Txt.find (Txt.slice sh (some (b + 1)) (some e)) p)
    (ht : (Txt.slice sh (some b) (some e) != Txt.sliceBy (Txt.slice sh (some b) (some e)) none none (-1, u)) = false) : MidP sh p (preM ++ [b]) := by
  refine mid_snoc hM hb fun _ e' h1 h2 h3 h4 => ?_
  rw [not_beq_rev] at ht
  have : e' = e := by
    rcases Int.lt_trichotomy e' e with h | h | h
    · rw [hI e' h1 (by omega)] at h3; cases h3
    · exact h
    · have h5 := h4 e (by omega) h
      unfold toldE at h5
      rw [decide_eq_true hf] at h5
      cases h5
  subst this
  simpa using ht
theorem way_on (he : e = b + p.length + 1 + (pre.length : Int)) (hI : InP sh p b pre) (hf : ¬ 0 ≤ Txt.find (Txt.slice sh (some (b + 1)) (some e)) p) : InP sh p b (pre ++ [e]) := by
  intro c h0 hc
  rw [List.length_append, List.length_singleton] at hc
  by_cases h : c = e
  · subst h
    unfold toldE
    exact decide_eq_false hf
  · exact hI c h0 (by omega)
theorem way_none (hb : b = 0 + (preM.length : Int)) (hM : MidP sh p preM) (hI : InP sh p b (rangeKs (b + p.length + 1) ((sh.length : Int) + 1 - (b + p.length + 1)).toNat)) : MidP sh p (preM ++ [b]) := by
  refine mid_snoc hM hb fun _ e' h1 h2 h3 h4 => ?_
  rw [hI e' h1 (by rw [rangeKs_length]; omega)] at h3
  cases h3
theorem way_other (hb : b = 0 + (preM.length : Int)) (hM : MidP sh p preM) (ht : (Txt.slice sh (some b) (some (b + p.length)) == p) = false) : MidP sh p (preM ++ [b]) :=
  mid_snoc hM hb fun h => by rw [h] at ht; simp at ht
theorem way_out (hx : xs[preO.length]? = some p) (hO : OutP sh xs preO) (hM : MidP sh p (rangeKs 0 ((sh.length : Int) - p.length - 0).toNat)) {k : Int} : OutP sh xs (preO ++ [k]) :=
  out_end hx hO fun b h0 h1 => hM b h0 (by rw [rangeKs_length]; omega)
theorem way_true (hl : preO.length = xs.length) (hO : OutP sh xs preO) : steadyB sh xs = true := by
  unfold steadyB
  refine @decide_eq_true _ (Classical.propDecidable _) fun p hp => ?_
  obtain ⟨i, hi, rfl⟩ := List.mem_iff_getElem.mp hp
  exact hO i _ (by omega) (by simp [hi])
theorem way_false (hx : xs[preO.length]? = some p) (hb : b = 0 + (preM.length : Int)) (hb2 : preM.length < ((sh.length : Int) - p.length - 0).toNat) (hp : (Txt.slice sh (some b) (some (b + p.length)) == p) = true)
    (he : e = b + p.length + 1 + (pre.length : Int)) (he2 : pre.length < ((sh.length : Int) + 1 - (b + p.length + 1)).toNat) (hI : InP sh p b pre) (hf : 0 ≤ Txt.find (Txt.slice sh (some (b + 1)) (some e)) p)
    (ht : (Txt.slice sh (some b) (some e) != Txt.sliceBy (Txt.slice sh (some b) (some e)) none none (-1, u)) = true) : steadyB sh xs = false := by
  unfold steadyB
  refine @decide_eq_false _ (Classical.propDecidable _) fun h => ?_
  have h1 := h p (List.mem_of_getElem? hx) b (by omega) (by omega) (eq_of_beq hp) e (by omega) (by omega) (decide_eq_true hf) fun e' h2 h3 => hI e' h2 (by omega)
  rw [not_beq_rev, h1] at ht
  cases ht
end
local macro_rules | `(tactic| walk_at "call type:range") => `(tactic| k_extra "call type:range")
local macro_rules | `(tactic| walk_at "call ref") => `(tactic| k_extra "call ref")
set_option maxHeartbeats 4000000
theorem steady_does (w : World) (news : List (Addr × Obj)) (sh : Str) (t1 : Tok) (D : Addr) (ys : List Value) (nn : Nat) (xs : List Str) (hm : (D, listOf ys.toArray nn) ∈ news) (hs : StrsAre ys xs) (hl : sh.length ≤ 8) (hxs : ∀ p ∈ xs, 46 ∉ p.cps.toList ∧ p.length ≠ 0 ∧ p.length ≤ 8) :
    Does w 156 9 news [.str sh t1, .ref D] (fun _ => .bool (steadyB sh xs)) := by
  dsimp only [Does]
  k_fill
  intros
  rename_i hd hu hret
  refine wpAny_call ?_
  k_dflt cell_enter
  k_with_none
  k_with "call type:range" => (k_here; (with_reducible show wpAny _ _ (call (Value.type "range") [_, _]) _ _ _); (rename Fr _ _ _ _ => F'); (rename News _ _ _ _ => N'); (refine range2_rows F' N' ?_); intro _ _ _ _ _ _ _ _ _)
  k_with "call type:range" => (k_here; (with_reducible show wpAny _ _ (call (Value.type "range") [_]) _ _ _); (rename Fr _ _ _ _ => F'); (rename News _ _ _ _ => N'); (refine range1_rows F' N' ?_); intro _ _ _ _ _ _ _ _ _)
  k_with "call ref" => (k_here; (with_reducible show wpAny _ _ (call (Value.ref 21) _) _ _ _); k_dflt (refine' ell_both _ _ _ _ _ _ ?zzka ?zzkb ?zzkc ?zzkg _ _ _ _ _ _ _ _ _ _ _ _ _ _ _ _ _ _ _ _ _ _ ?zzk1 ?zzk2 ?zzk3 ?zzk4 ?zzk5 ?zzkK ?zzkd ?zzku ?_; (case zzk1 => k_asm); (case zzk2 => k_asm); (case zzk3 => k_asm); (case zzk4 => k_asm); (case zzk5 => k_asm); (case zzkK => first | exact rfl | assumption); (case zzka => assumption); (case zzkb => assumption); (case zzkc => omega); (case zzkg => exact slice_small (by omega)); (case zzkd => ktr_room); (case zzku => ktr_units); intro t9 h9 tk9 F9 N9; (try dsimp only); (try k_fold)))
  k_with "pyIter ref" => (k_of "piece" => ((with_reducible show wpAny _ _ (pyIter (Value.ref _)) (fun it s₂ => LoopAtV _ _ _ _ _ _ _ _ _ it s₂) _ _); (rename Fr _ _ _ _ => lF); (rename News _ _ _ _ => lN); (with_unfolding_all refine' iter_texts [Str.ofString "size", Str.ofString "begin", Str.ofString "end", Str.ofString "part"] (fun pre _ => OutP sh xs pre) (by rfl) hm hs lF lN ?kp ?kt ?kd); (case kp => exact out_start); (case' kt => (intro preO pC tC uO hO tkO ownO hx offO invO FO NO; obtain ⟨p46, p0, p8⟩ := hxs pC (List.mem_of_getElem? hx); dsimp only [kstB] at FO)); (case' kd => (intro preO uO hO tkO lenO invO FO NO; dsimp only [kstB] at FO)); (all_goals (try clear lF lN))))
  k_with "pyIter ref" => (k_of "begin" => k_search (fun pre => MidP sh pC pre))
  k_with "pyIter ref" => (k_of "end" => k_search (fun pre => InP sh pC kN pre))
  k_with "state" => first | exact mid_start | exact in_start | exact way_brk (by assumption) (by assumption) (by assumption) (by assumption) (by assumption) (by assumption) | exact way_on (by assumption) (by assumption) (by assumption) | exact way_none (by assumption) (by assumption) (by assumption) | exact way_other (by assumption) (by assumption) (by assumption) | exact way_out (by assumption) (by assumption) (by assumption)
  k_steps
  all_goals first
    | (have hst := way_true lenO invO; rw [hst] at hret; cb_end hret)
    | (have hst := way_false hx (by assumption) (by assumption) (by assumption) (by assumption) (by assumption) (by assumption) (by assumption) (by assumption); rw [hst] at hret; cb_end hret)
    | ((rename News _ _ _ _ => nE'); refine kst_end () (by assumption) nE' ?g1 ?g2 (by rfl) True.intro (List.forall_mem_nil _) ?g4 ?g5; (case g1 => exact fun p hp => List.mem_append_left _ (List.mem_append_left _ hp)); (case g2 => exact fun p hp => List.mem_append_left _ (List.mem_append_right _ hp)); (case g4 => kst_same); (case g5 => exact way_brk (by assumption) (by assumption) (by assumption) (by assumption) (by assumption) (by assumption)))
end Mine
namespace Mine
open PySem PySem.W PyProof.Rows PySem.Calls
section
variable {prog : Program} {w : World} {A : Around} {E : Value → Shared → Prop} {s : Shared} {h₀ : Heap} {L : Addr} {m : Str → Option Value} {env : Env}
/-- a comprehension's source is bytes -/
def SrcB (prog : Program) (w : World) (A : Around) (h₀ : Heap) (L : Addr) (m : Str → Option Value) (env : Env) (elt : Expr) (x : Str) (scope : Scope) (cl : List (Str × Addr)) (Fin : Shared → List Value → List (Addr × Obj) → Prop) (xv : Value) (s₁ : Shared) : Prop :=
  ∃ b t news, xv = .bytes b t ∧ A.handled = none ∧ Fr h₀ L s₁.heap m ∧ News h₀ L s₁.heap news ∧ b.size ≤ sizeLine ∧
    ∀ s₂ : Shared, (∃ h, s₂ = { s₁ with heap := h }) → LCg.CompRest prog w A h₀ L m env elt x scope cl s₂ (fun _ => True) (fun i v => ∃ c u, b[i]? = some c ∧ v = .int (c.toNat : Int) u) (Fin s₂) b.size 0 [] news
theorem SrcB.intro {elt : Expr} {x : Str} {scope : Scope} {cl : List (Str × Addr)} {Fin : Shared → List Value → List (Addr × Obj) → Prop} {b : Array UInt8} {t : Tok} {news : List (Addr × Obj)} {s₁ : Shared}
    (hh : A.handled = none) (F : Fr h₀ L s₁.heap m) (N : News h₀ L s₁.heap news) (hsz : b.size ≤ sizeLine)
    (h : ∀ g, LCg.CompRest prog w A h₀ L m env elt x scope cl { s₁ with heap := g } (fun _ => True) (fun i v => ∃ c u, b[i]? = some c ∧ v = .int (c.toNat : Int) u) (Fin { s₁ with heap := g }) b.size 0 [] news) :
    SrcB prog w A h₀ L m env elt x scope cl Fin (.bytes b t) s₁ := ⟨b, t, news, rfl, hh, F, N, hsz, fun _ ⟨g, e⟩ => e ▸ h g⟩
theorem ListComp_B {elt iter : Expr} {x : Str} {px : Pos} {scope : Scope} {cl : List (Str × Addr)} {pos : Pos} {Q : Value → Shared → Prop} (F₀ : Fr h₀ L s.heap m)
    (hclos : closureFor scope env = pure cl) (hcell : ∀ y ∈ scope.names, y.2 ≠ .cell) (hkind : scope.kind = .function)
    (hnames : ∀ y ∈ scope.names, y.2 = .local → scope.names.lookup y.1 = some .local) (hx : scope.names.lookup x = some .local)
    (h : wpAny (model prog w) A (eval iter env) (SrcB prog w A h₀ L m env elt x scope cl (fun s₂ => LCg.FinE h₀ L m s₂ Q)) E s)
    (hs : ∀ x, foldedSetIterable iter env x = pure x := by intro _; rfl) :
    wpAny (model prog w) A (eval (.ListComp elt [⟨.Name x px, iter, [], 0⟩] scope pos) env) Q E s := by
  rw [eval_ListComp]
  refine wpAny_comprehension_free (use := none) rfl hs hclos hkind hnames (wpAny_mono h (fun xv s₁ h₁ => ?_) fun _ _ e => e)
  obtain ⟨b, t, news, rfl, hh, F, N, hsz, R⟩ := h₁
  refine KBw.pyIter_bytes ?_
  refine LCg.block_U (KBw.walks (prog := prog) (w := w) hh s₁.heap.objs.size b t) hsz (fun i h st => by obtain ⟨o, e, _⟩ := st; exact ⟨o, e⟩)
    (fun i h h' o nw st e e' _ _ _ => by obtain ⟨o', q, r⟩ := st; rw [e] at q; cases q; exact ⟨o, e', r⟩) hcell hkind hx ⟨_, Heap.get?_push_size _ rfl, rfl, rfl⟩ (fun b hb => ?_)
    (F.keeps fun _ _ e => Heap.get?_push_of_some _ e) (N.grown fun _ _ e => Heap.get?_push_of_some _ e) (Nat.ne_of_lt F.ns.lt) (next_is_new F) (fun p hp => Nat.ne_of_lt (Heap.lt_size (N p hp).1)) trivial (R _ ⟨_, rfl⟩) ?_
  · rw [List.mem_singleton.mp hb]
    show s₁.heap.objs.size < (s₁.heap.push _).objs.size
    rw [Heap.size_push]; exact Nat.lt_succ_self _
  · intro D C h tk m' ys news' F' N' o1 hn hC₀ hD₀ hCL hDL hCD offC fin
    refine ⟨m', hn, fun h'' hs'' => fin D h'' tk (F'.change hs'' hCL hC₀) (fun p hp => ?_) o1⟩
    refine ⟨hs''.extBut _ _ ?_ (N' p hp).1, (N' p hp).2⟩
    rcases List.mem_cons.mp hp with rfl | hp
    · exact Ne.symm hCD
    · exact offC p hp
variable {elt : Expr} {x : Str} {scope : Scope} {cl : List (Str × Addr)} {S : List (Addr × Obj) → Prop} {Fin : List Value → List (Addr × Obj) → Prop} {news : List (Addr × Obj)}
/-- texts made of the bytes -/
theorem kct_bytes {b : Array UInt8} (g : Int → PySem.Str)
    (turn : ∀ k t I oI C oC D m₂ ys h tk (E' : Value → Shared → Prop), k ∈ KBw.bInts b → 0 ≤ k → k < 256 → LCg.NsObj oC m₂ → m₂ x = some (.int k t) → Fr h₀ L h m → News h₀ L h ((I, oI) :: (C, oC) :: (D, LCg.lst ys) :: news) → LCg.Off3 I C D news → ((@Ne Nat I C) ∧ (@Ne Nat I D) ∧ (@Ne Nat C D)) → KPfMark →
      wpAny (model prog w) A (eval elt (compEnvC scope cl C env)) (LCg.CompEnd h₀ L m { s with heap := h, toks := tk } I oI C oC D (LCg.lst ys) S (fun y news' => KCtEl news (g k) y news')) E' { s with heap := h, toks := tk })
    (fin : KPfDone (∀ ys, CarriedAll ys ((KBw.bInts b).map fun k => PyData.str (g k)) → (KBw.bInts b).length = b.size → Fin ys news)) : LCg.CompRest prog w A h₀ L m env elt x scope cl s S (fun i v => ∃ c u, b[i]? = some c ∧ v = .int (c.toNat : Int) u) Fin b.size 0 [] news :=
  kct_rest (ks := KBw.bInts b) g (KBw.ints_length b) (fun i v _ hv => by
    obtain ⟨c, u, hc, e⟩ := hv
    exact ⟨_, u, KBw.ints_get hc, e⟩) (fun k t I oI C oC D m₂ ys h tk E' hk hC hx F N off ne mk => turn k t I oI C oC D m₂ ys h tk E' hk (KBw.ints_in hk).1 (KBw.ints_in hk).2 hC hx F N off ne mk) fin
end
end Mine
namespace Mine
open PySem PySem.W PyProof.Rows PySem.Calls PyProof.V PySem.Spec
theorem st_canLayAll0 : ∀ ns : List Str, (∀ x ∈ ns, PyData.strOk x = true) → PyData.canLayAll0 (ns.map PyData.str) = true
  | [], _ => rfl
  | a :: r, h => by simp [PyData.canLayAll0, PyData.canLay0, st_canLayAll0 r fun x hx => h x (.tail _ hx), h a (.head _)]
theorem st_depthAll : ∀ ns : List Str, PyData.depthAll (ns.map PyData.str) = 0
  | [] => rfl
  | _ :: r => by simp [PyData.depthAll, PyData.depth, st_depthAll r]
theorem st_shaped (ns : List Str) (h : ∀ x ∈ ns, PyData.strOk x = true) : SeqAt.shaped (.list (ns.map PyData.str)) = true := by
  simp [SeqAt.shaped, PyData.canLay0, PyData.depth, st_canLayAll0 ns h, st_depthAll]
theorem st_sameAll : ∀ ns : List Str, PySem.Spec.sameAll (ns.map PyData.str) (ns.map PyData.str) = true
  | [] => by simp [PySem.Spec.sameAll]
  | a :: r => by
    simp only [List.map_cons, PySem.Spec.sameAll, PySem.Spec.same, st_sameAll r]
    simp
theorem st_same (ns : List Str) : PySem.Spec.same (.list (ns.map PyData.str)) (.list (ns.map PyData.str)) = true := by
  simp only [PySem.Spec.same]; exact st_sameAll ns
theorem st_carried : ∀ {vs : List Value} {ns : List Str}, StrsAre vs ns → CarriedAll vs (ns.map PyData.str)
  | _, _, .nil => .nil
  | _, _, .cons _ t r => .cons (.str _ t) (st_carried r)
section
variable {prog : Program} {w : World} {A : Around} {E : Value → Shared → Prop} {s : Shared} {a b : Addr} {xs ys : List Value} {ns : List Str} {Q : Value → Shared → Prop}
/-- two lists of the same texts are not unlike -/
theorem ne_texts (ha : s.heap.IsList a xs.toArray) (hb : s.heap.IsList b ys.toArray) (hi : StrsAre xs ns) (hj : StrsAre ys ns) (ho : ∀ x ∈ ns, PyData.strOk x = true) (hu : A.units + 64 < cLine) (h : Q (.bool false) s) :
    wpAny (model prog w) A (compareOp .NotEq (.ref a) (.ref b)) Q E s :=
  ne_dataH_same (reads_newData ha (st_carried hi)) (reads_newData hb (st_carried hj)) (st_shaped _ ho) (st_shaped _ ho) hu (SeqAt.noMix_of_shape (.list .str) rfl _ _ (list_map_has fun _ => rfl) (list_map_has fun _ => rfl)) (by rw [st_same]; exact h)
end
end Mine
namespace Mine
open PySem PySem.W PyProof.Rows PySem.Calls PySem.Spec PyProof.V
/-- what map_table_b3 gives for the sign of that number -/
def b3V (c : Nat) : Str := match Spec.lookup (.int (c : Int)) b3D with
  | some (.str y) => y
  | _ => Txt.lower ⟨#[c]⟩
def b3Ok (c : Nat) : Bool := match Spec.lookup (.int (c : Int)) b3D with
  | some (.str _) => true
  | none => !Builtin.Str.tooLong (Txt.lower ⟨#[c]⟩).length
  | _ => false
theorem b3_any (w : World) (news : List (Addr × Obj)) (c : Nat) (t1 : Tok) (h : b3Ok c = true) :
    Does w 123 3 news [.str ⟨#[c]⟩ t1] (fun t => .str (b3V c) t) := by
  cases e : Spec.lookup (.int (c : Int)) b3D with
  | none =>
    have h1 : b3V c = Txt.lower ⟨#[c]⟩ := by unfold b3V; rw [e]
    have h2 : Builtin.Str.tooLong (Txt.lower ⟨#[c]⟩).length = false := by unfold b3Ok at h; rw [e] at h; simpa using h
    rw [h1]
    exact b3_does2 w news c t1 e h2
  | some d =>
    cases d with
    | str y =>
      have h1 : b3V c = y := by unfold b3V; rw [e]
      rw [h1]
      exact b3_does w news c t1 y e
    | _ => unfold b3Ok at h; rw [e] at h; cases h
/-- the signs' numbers, and what they spell -/
def codesL : List Int := [64256, 64257, 64258, 64259, 64260, 8497, 8464, 8466, 70, 105, 119923]
def spellL : List (List Nat) := [[102, 102], [102, 105], [102, 108], [102, 102, 105], [102, 102, 108], [102], [105], [108], [102], [105], [108]]
def meantL : List Str := [Str.ofString "ff", Str.ofString "fi", Str.ofString "fl", Str.ofString "ffi", Str.ofString "ffl", Str.ofString "f", Str.ofString "i", Str.ofString "l", Str.ofString "f", Str.ofString "i", Str.ofString "l"]
def g1 (k : Int) : Str := b3V ((codesL.getD k.toNat 0).toNat)
def g2 (k : Int) : Str := meantL.getD k.toNat Str.empty
def g3 (k : Int) : Str := b3V k.toNat
theorem sign_all : ∀ k : Fin 11, b3V ((codesL.getD k.val 0).toNat) = ofL (spellL.getD k.val []) ∧ meantL.getD k.val Str.empty = ofL (spellL.getD k.val []) ∧ b3Ok ((codesL.getD k.val 0).toNat) = true := by decide +kernel
theorem figure_all : ∀ k : Fin 16, b3V (65 + k.val) = ofL [97 + k.val] ∧ b3Ok (65 + k.val) = true := by decide +kernel
end Mine
namespace Mine
open PySem PySem.W PyProof.Rows PySem.Calls
theorem fmod_in (ns : List Int) : ∀ k ∈ signsL ns, 0 ≤ k ∧ k < 11 := by
  intro k hk
  obtain ⟨a, _, rfl⟩ := List.mem_map.mp hk
  rw [Int.fmod_eq_emod_of_nonneg _ (by omega)]
  omega
theorem signs_len (ns : List Int) : (signsL ns).length = 5 := by
  unfold signsL
  rw [List.length_map, five_len]
theorem g1_eq {k : Int} (h : 0 ≤ k ∧ k < 11) : g1 k = ofL (spellL.getD k.toNat []) := (sign_all ⟨k.toNat, by omega⟩).1
theorem g2_eq {k : Int} (h : 0 ≤ k ∧ k < 11) : g2 k = ofL (spellL.getD k.toNat []) := (sign_all ⟨k.toNat, by omega⟩).2.1
theorem code_ok {k : Int} (h : 0 ≤ k ∧ k < 11) : b3Ok ((codesL.getD k.toNat 0).toNat) = true := (sign_all ⟨k.toNat, by omega⟩).2.2
theorem spell_len : ∀ k : Fin 11, (spellL.getD k.val []).length ≤ 3 ∧ 1 ≤ (spellL.getD k.val []).length ∧ ∀ c ∈ spellL.getD k.val [], c = 102 ∨ c = 105 ∨ c = 108 := by decide
theorem code_bd : ∀ k : Fin 11, 0 ≤ codesL.getD k.val 0 ∧ codesL.getD k.val 0 ≤ 1114111 := by decide
def textV (S : List Int) : Str := Txt.join (Str.ofString "") (S.map g1)
/-- what the signs spell, as codes -/
def spelt (S : List Int) : List Nat := S.flatMap fun k => spellL.getD k.toNat []
theorem join_cps : ∀ xs : List Str, (Txt.join (Str.ofString "") xs).cps.toList = xs.flatMap fun x => x.cps.toList := by
  intro xs
  show (Builtin.Str.glued (Str.ofString "") xs).cps.toList = _
  rw [StrLaws.glued_eq_join]
  induction xs with
  | nil => rfl
  | cons a r ih =>
    cases r with
    | nil => simp [Str.join]
    | cons b r =>
      have h0 : (Str.ofString "").cps.toList = [] := by decide
      rw [show Str.join (Str.ofString "") (a :: b :: r) = a ++ Str.ofString "" ++ Str.join (Str.ofString "") (b :: r) from rfl, Str.cps_append, Str.cps_append, Array.toList_append, Array.toList_append, h0, ih]
      simp
theorem join_maps {S : List Int} {g : Int → Str} {f : Int → List Nat} (h : ∀ k ∈ S, g k = ofL (f k)) : Txt.join (Str.ofString "") (S.map g) = ofL (S.flatMap f) := by
  rw [← ofL_self (Txt.join (Str.ofString "") (S.map g)), join_cps, List.flatMap_map]
  congr 1
  induction S with
  | nil => rfl
  | cons a r ih =>
    rw [List.flatMap_cons, List.flatMap_cons, h a (.head _), ofL_cps, ih fun k hk => h k (.tail _ hk)]
theorem text_eq (ns : List Int) : textV (signsL ns) = ofL (spelt (signsL ns)) := join_maps fun k hk => g1_eq (fmod_in ns k hk)
theorem let_eq (ns : List Int) : Txt.join (Str.ofString "") ((signsL ns).map g2) = textV (signsL ns) := by
  rw [text_eq]
  exact join_maps fun k hk => g2_eq (fmod_in ns k hk)
theorem spelt_letters {S : List Int} (h : ∀ k ∈ S, 0 ≤ k ∧ k < 11) : ∀ c ∈ spelt S, c = 102 ∨ c = 105 ∨ c = 108 := by
  intro c hc
  obtain ⟨k, hk, hc⟩ := List.mem_flatMap.mp hc
  have := h k hk
  exact (spell_len ⟨k.toNat, by omega⟩).2.2 c hc
theorem spelt_len {S : List Int} (h : ∀ k ∈ S, 0 ≤ k ∧ k < 11) : S.length ≤ (spelt S).length ∧ (spelt S).length ≤ 3 * S.length := by
  induction S with
  | nil => exact ⟨Nat.le_refl _, Nat.le_refl _⟩
  | cons a r ih =>
    have h1 := ih fun k hk => h k (.tail _ hk)
    have h2 := h a (.head _)
    have h3 := spell_len ⟨a.toNat, by omega⟩
    simp only [spelt, List.flatMap_cons, List.length_append, List.length_cons] at h1 ⊢
    simp only at h3
    omega
end Mine
namespace Mine
open PySem PySem.W PyProof.Rows PySem.Calls
def cutL (ns : List Int) : List Nat := (spelt (signsL ns)).take 8
theorem ofL_length (l : List Nat) : ((ofL l).length : Int) = l.length := by rw [ofL_len]
theorem slice8 (l : List Nat) : Txt.slice (ofL l) none (some 8) = ofL (l.take 8) := by
  by_cases h : 8 ≤ l.length
  · exact slice_to (j := 8) (by decide) (by omega)
  · rw [slice_to_beyond (by rw [ofL_len]; omega), ofL_len, slice_to (by omega) (by omega), List.take_of_length_le (by omega), List.take_of_length_le (by omega)]
theorem slice8_eq (ns : List Int) : Txt.slice (textV (signsL ns)) none (some 8) = ofL (cutL ns) := by rw [text_eq, slice8]; rfl
theorem cut_len (ns : List Int) : (cutL ns).length ≤ 8 := by unfold cutL; rw [List.length_take]; omega
theorem cut_len5 (ns : List Int) : 5 ≤ (cutL ns).length := by
  have h := (spelt_len (fmod_in ns)).1
  rw [signs_len] at h
  unfold cutL
  rw [List.length_take]
  omega
theorem cut_letters (ns : List Int) : ∀ c ∈ cutL ns, c = 102 ∨ c = 105 ∨ c = 108 := fun c hc => spelt_letters (fmod_in ns) c (List.mem_of_mem_take hc)
theorem cut46 (ns : List Int) : 46 ∉ (ofL (cutL ns)).cps.toList := by
  rw [ofL_cps]
  intro h
  have := cut_letters ns 46 h
  omega
theorem text_get (ns : List Int) {i : Nat} (h : i < (cutL ns).length) : (textV (signsL ns)).cps.getD i 0 = (cutL ns).getD i 0 ∧ i < (textV (signsL ns)).length := by
  have h8 := cut_len ns
  have hl : i < (spelt (signsL ns)).length := by
    unfold cutL at h
    rw [List.length_take] at h
    omega
  rw [text_eq]
  refine ⟨?_, by rw [ofL_len]; exact hl⟩
  unfold cutL ofL
  simp only [List.getD_eq_getElem?_getD]
  rw [List.getElem?_take_of_lt (by omega)]
  simp
theorem cut_get (ns : List Int) {i : Nat} (h : i < (cutL ns).length) : 97 ≤ ((cutL ns).getD i 0 : Int) ∧ ((cutL ns).getD i 0 : Int) ≤ 108 := by
  have : (cutL ns).getD i 0 ∈ cutL ns := by
    rw [List.getD_eq_getElem?_getD, List.getElem?_eq_getElem h]
    exact List.getElem_mem h
  have := cut_letters ns _ this
  omega
/-- the number of the first j letters, and of them turned about -/
def numI (l : List Nat) : Nat → Int
  | 0 => 0
  | j + 1 => numI l j * 16 + ((l.getD j 0 : Int) - 97)
def turI (l : List Nat) : Nat → Int
  | 0 => 0
  | j + 1 => turI l j + ((l.getD j 0 : Int) - 97) * 2 ^ (4 * j)
theorem pow4 (j : Nat) : (2 : Int) ^ (4 * (j + 1)) = 16 * 2 ^ (4 * j) := by
  rw [show 4 * (j + 1) = 4 * j + 4 by omega, Int.pow_add]
  omega
theorem num_bd {l : List Nat} (h : ∀ i, i < l.length → 97 ≤ (l.getD i 0 : Int) ∧ (l.getD i 0 : Int) ≤ 108) : ∀ j, j ≤ l.length → 0 ≤ numI l j ∧ numI l j < 2 ^ (4 * j) ∧ 0 ≤ turI l j ∧ turI l j < 2 ^ (4 * j)
  | 0, _ => by simp [numI, turI]
  | j + 1, hj => by
    have h1 := num_bd h j (by omega)
    have h2 := h j (by omega)
    have h3 := pow4 j
    have h4 : (0 : Int) < 2 ^ (4 * j) := Int.pow_pos (by decide)
    simp only [numI, turI]
    have h5 : ((l.getD j 0 : Int) - 97) * 2 ^ (4 * j) ≤ 11 * 2 ^ (4 * j) := Int.mul_le_mul_of_nonneg_right (by omega) (by omega)
    have h6 : 0 ≤ ((l.getD j 0 : Int) - 97) * 2 ^ (4 * j) := Int.mul_nonneg (by omega) (by omega)
    omega
theorem pow_small {j : Nat} (h : j ≤ 8) : (2 : Int) ^ (4 * j) ≤ 4294967296 := by
  have : j = 0 ∨ j = 1 ∨ j = 2 ∨ j = 3 ∨ j = 4 ∨ j = 5 ∨ j = 6 ∨ j = 7 ∨ j = 8 := by omega
  rcases this with rfl | rfl | rfl | rfl | rfl | rfl | rfl | rfl | rfl <;> decide
def NumP (ns : List Int) (j : Nat) (n u : Int) : Prop := n = numI (cutL ns) j ∧ u = turI (cutL ns) j ∧ 0 ≤ n ∧ n < 4294967296 ∧ 0 ≤ u ∧ u < 4294967296
theorem num_start (ns : List Int) : NumP ns ([] : List Int).length 0 0 := ⟨rfl, rfl, by decide, by decide, by decide, by decide⟩
theorem num_turn {ns : List Int} {pre : List Int} {p n u c : Int} (h : NumP ns pre.length n u) (hp : p = 0 + (pre.length : Int)) (hl : pre.length < (((cutL ns).length : Int) - 0).toNat) (hc : c = (cutL ns).getD p.toNat 0) :
    NumP ns (pre ++ [p]).length (n * 16 + (c - 97)) (u + (c - 97) * 2 ^ (4 * p).toNat) := by
  obtain ⟨h1, h2, h3, h4, h5, h6⟩ := h
  have hb := num_bd (l := cutL ns) (fun i hi => cut_get ns hi) (pre.length + 1) (by omega)
  have hs := pow_small (j := pre.length + 1) (by have := cut_len ns; omega)
  rw [List.length_append, List.length_singleton]
  have ep : p.toNat = pre.length := by omega
  have ep4 : (4 * p).toNat = 4 * pre.length := by omega
  rw [hc, ep, ep4, h1, h2]
  have e1 : numI (cutL ns) pre.length * 16 + (((cutL ns).getD pre.length 0 : Int) - 97) = numI (cutL ns) (pre.length + 1) := rfl
  have e2 : turI (cutL ns) pre.length + (((cutL ns).getD pre.length 0 : Int) - 97) * 2 ^ (4 * pre.length) = turI (cutL ns) (pre.length + 1) := rfl
  rw [e1, e2]
  exact ⟨rfl, rfl, hb.1, by omega, hb.2.2.1, by omega⟩
theorem ap_num {l : List Nat} (h : ∀ i, i < l.length → 97 ≤ (l.getD i 0 : Int) ∧ (l.getD i 0 : Int) ≤ 108) : ∀ j, j ≤ l.length → apB (numI l j + 2 ^ (4 * j)).toNat = 66 :: (l.take j).map fun c => UInt8.ofNat (c - 32)
  | 0, _ => by
    show apB 1 = [66]
    rw [apB_step (by decide)]
    rfl
  | j + 1, hj => by
    have h1 := ap_num h j (by omega)
    have h2 := h j (by omega)
    have h3 := pow4 j
    have h4 := num_bd h j (by omega)
    have h5 : (0 : Int) < 2 ^ (4 * j) := Int.pow_pos (by decide)
    simp only [numI]
    rw [h3]
    rw [apB_step (by omega)]
    have e1 : (numI l j * 16 + ((l.getD j 0 : Int) - 97) + 16 * 2 ^ (4 * j)).toNat / 16 = (numI l j + 2 ^ (4 * j)).toNat := by omega
    have e2 : 65 + (numI l j * 16 + ((l.getD j 0 : Int) - 97) + 16 * 2 ^ (4 * j)).toNat % 16 = l.getD j 0 - 32 := by omega
    rw [e1, e2, h1]
    have e3 : l.take (j + 1) = l.take j ++ [l.getD j 0] := by
      rw [List.take_add_one, List.getD_eq_getElem?_getD, List.getElem?_eq_getElem (by omega)]
      rfl
    rw [e3, List.map_append]
    rfl
/-- the octets of the word, and what they spell -/
def octL (ns : List Int) : List UInt8 := 66 :: (cutL ns).map fun c => UInt8.ofNat (c - 32)
theorem oct_eq {ns : List Int} {n u : Int} {pre : List Int} (h : NumP ns pre.length n u) (hl : pre.length = (cutL ns).length) : apB (n + 1 * 2 ^ (4 * ((cutL ns).length : Int)).toNat).toNat = octL ns := by
  rw [h.1, hl, Int.one_mul, show (4 * ((cutL ns).length : Int)).toNat = 4 * (cutL ns).length by omega, ap_num (fun i hi => cut_get ns hi) _ (Nat.le_refl _), List.take_length]
  rfl
theorem oct_small (ns : List Int) : ∀ k ∈ KBw.bInts (octL ns).toArray, ∃ c : Nat, k = (c : Int) ∧ b3Ok c = true ∧ g3 k = ofL [c + 32] := by
  intro k hk
  rw [KBw.ints_list] at hk
  obtain ⟨c, hc, rfl⟩ := List.mem_map.mp hk
  have hc2 : ∃ j : Fin 16, c.toNat = 65 + j.val := by
    unfold octL at hc
    rcases List.mem_cons.mp hc with rfl | hc
    · exact ⟨1, rfl⟩
    · obtain ⟨d, hd, rfl⟩ := List.mem_map.mp hc
      rcases cut_letters ns d hd with rfl | rfl | rfl
      · exact ⟨5, rfl⟩
      · exact ⟨8, rfl⟩
      · exact ⟨11, rfl⟩
  obtain ⟨j, hj⟩ := hc2
  refine ⟨c.toNat, rfl, ?_, ?_⟩
  · rw [hj]; exact (figure_all j).2
  · show b3V (c.toNat : Int).toNat = _
    rw [Int.toNat_natCast, hj, (figure_all j).1]
    congr 2
    omega
theorem oct_join (ns : List Int) : Txt.join (Str.ofString "") ((KBw.bInts (octL ns).toArray).map g3) = ofL (98 :: cutL ns) := by
  have h : ∀ k ∈ KBw.bInts (octL ns).toArray, g3 k = ofL ((fun k : Int => [k.toNat + 32]) k) := by
    intro k hk
    obtain ⟨c, rfl, _, h⟩ := oct_small ns k hk
    exact h
  rw [join_maps h, KBw.ints_list]
  congr 1
  unfold octL
  rw [List.flatMap_map, List.flatMap_cons, List.flatMap_map]
  have : ∀ l : List Nat, (∀ c ∈ l, c = 102 ∨ c = 105 ∨ c = 108) → (l.flatMap fun a => [((UInt8.ofNat (a - 32)).toNat : Int).toNat + 32]) = l := by
    intro l
    induction l with
    | nil => intro _; rfl
    | cons a r ih =>
      intro h
      rw [List.flatMap_cons, ih fun c hc => h c (.tail _ hc)]
      rcases h a (.head _) with rfl | rfl | rfl <;> rfl
  show [98] ++ _ = _
  rw [this _ (cut_letters ns)]
  rfl
theorem slice1 (c : Nat) (l : List Nat) : Txt.slice (ofL (c :: l)) (some 1) none = ofL l := by
  have h := StrLaws.sliceText_from (x := ofL (c :: l)) (i := 1) ⟨by decide, by rw [ofL_cps, List.length_cons]; omega⟩
  rw [ofL_cps] at h
  refine h.trans ?_
  unfold ofL
  congr 2
  simp
theorem b_app (l : List Nat) : Str.ofString "b" ++ ofL l = ofL (98 :: l) := by
  have h : (Str.ofString "b").cps.toList = [98] := by decide
  rw [← ofL_self (Str.ofString "b" ++ ofL l), Str.cps_append, Array.toList_append, h, ofL_cps]
  rfl
end Mine
namespace Mine

section rich
variable {α : Type} (w : Nat → α)

/-- the stretch from b to e reads the same both ways -/
def PalI (b e : Nat) : Prop := ∀ i, b ≤ i → i < e → w i = w (b + e - 1 - i)
/-- the stretches of k letters from i and from j are the same -/
def SameI (i j k : Nat) : Prop := ∀ d, d < k → w (i + d) = w (j + d)

variable {w}
theorem SameI.symm {i j k : Nat} (h : SameI w i j k) : SameI w j i k := fun d hd => (h d hd).symm
theorem SameI.trans {i j l k : Nat} (h : SameI w i j k) (h' : SameI w j l k) : SameI w i l k := fun d hd => (h d hd).trans (h' d hd)
theorem SameI.refl {i k : Nat} : SameI w i i k := fun _ _ => rfl

/-- mirrored: inside the palindrome [q, e) a palindromic stretch at i of length k stands at q + e - i - k too -/
theorem mirror_same {q e i k : Nat} (hq : PalI w q e) (hp : PalI w i (i + k)) (h1 : q ≤ i) (h2 : i + k ≤ e) : SameI w (q + e - i - k) i k := by
  intro d hd
  have a := hq (q + e - i - k + d) (by omega) (by omega)
  have b := hp (i + d) (by omega) (by omega)
  rw [a, b]
  congr 1
  omega

theorem pal_of_same {i j k : Nat} (h : SameI w i j k) (hp : PalI w j (j + k)) : PalI w i (i + k) := by
  intro t h1 h2
  have a := h (t - i) (by omega)
  have b := hp (j + (t - i)) (by omega) (by omega)
  have c := h (k - 1 - (t - i)) (by omega)
  have e1 : i + (t - i) = t := by omega
  have e2 : j + (j + k) - 1 - (j + (t - i)) = j + (k - 1 - (t - i)) := by omega
  have e3 : i + (k - 1 - (t - i)) = i + (i + k) - 1 - t := by omega
  rw [e1] at a
  rw [e2] at b
  rw [e3] at c
  rw [a, b, ← c]

/-- the prefix of length e ends in a palindrome that begins at b and stands nowhere before -/
def NewAt (w : Nat → α) (e b : Nat) : Prop := b < e ∧ PalI w b e ∧ (∀ b', b' < b → ¬ PalI w b' e)
def Fresh (w : Nat → α) (e b : Nat) : Prop := ¬ ∃ j, j + (e - b) + 1 ≤ e ∧ SameI w j b (e - b)

/-- each complete return to a palindrome is a palindrome -/
def SteadyI (w : Nat → α) (n : Nat) : Prop :=
  ∀ b k e, 0 < k → PalI w b (b + k) → b + k + 1 ≤ e → e ≤ n → SameI w (e - k) b k → (∀ j, b < j → j + k < e → ¬ SameI w j b k) → PalI w b e

theorem rich_steady {n : Nat} (hr : ∀ e b, e ≤ n → NewAt w e b → Fresh w e b) (hex : ∀ e, 0 < e → ∃ b, NewAt w e b) : SteadyI w n := by
  intro b k e
  induction e using Nat.strongRecOn generalizing b with
  | _ e ih =>
    intro hk hp h1 h2 hs hno
    obtain ⟨q, hq⟩ := hex e (by omega)
    have hf := hr e q h2 hq
    obtain ⟨hqe, hqp, hqmin⟩ := hq
    -- the palindrome at the end is a suffix of the longest one
    have hpe : PalI w (e - k) e := by
      have := pal_of_same hs hp
      have e1 : e - k + k = e := by omega
      rwa [e1] at this
    have hqk : q ≤ e - k := by
      rcases Nat.lt_or_ge (e - k) q with h | h
      · exact absurd hpe (hqmin _ h)
      · exact h
    have hne : q ≠ e - k := by
      intro h
      subst h
      refine hf ⟨b, by omega, ?_⟩
      have : e - (e - k) = k := by omega
      rw [this]
      exact hs.symm
    have hqk' : q < e - k := by omega
    -- it stands at q too
    have hm : SameI w q (e - k) k := by
      have e0 : e - k + k = e := by omega
      have := mirror_same (i := e - k) (k := k) hqp (by rw [e0]; exact hpe) hqk (by omega)
      have e1 : q + e - (e - k) - k = q := by omega
      rwa [e1] at this
    have hqb : SameI w q b k := hm.trans hs
    rcases Nat.lt_trichotomy q b with h | h | h
    · -- mirrored: an earlier one
      have hr' : PalI w q (q + (e - b)) := by
        refine ih (q + (e - b)) (by omega) q hk (pal_of_same hqb hp) (by omega) (by omega) ?_ ?_
        · -- the front of the return, mirrored
          have := mirror_same (i := b) (k := k) hqp hp (by omega) (by omega)
          have e1 : q + e - b - k = q + (e - b) - k := by omega
          rw [e1] at this
          exact this.trans hqb.symm
        · intro j hj1 hj2 hj
          have hpj : PalI w j (j + k) := pal_of_same (hj.trans hqb) hp
          have := mirror_same (i := j) (k := k) hqp hpj (by omega) (by omega)
          refine hno (q + e - j - k) (by omega) (by omega) (this.trans (hj.trans hqb))
      -- back
      intro t ht1 ht2
      have a := hqp t (by omega) ht2
      have c := hr' (q + e - 1 - t) (by omega) (by omega)
      have d := hqp (q + (q + (e - b)) - 1 - (q + e - 1 - t)) (by omega) (by omega)
      rw [a, c, d]
      congr 1
      omega
    · subst h
      exact hqp
    · exact absurd hqb (hno q h (by omega))

/-- the last stretch before e that is the same as the one at the end -/
theorem last_before {P : Nat → Prop} : ∀ m, (∃ j, j < m ∧ P j) → ∃ j, j < m ∧ P j ∧ ∀ i, j < i → i < m → ¬ P i := by
  intro m
  induction m with
  | zero => rintro ⟨j, h, _⟩; omega
  | succ m ih =>
    rintro ⟨j, h, hj⟩
    by_cases hm : P m
    · exact ⟨m, Nat.lt_succ_self _, hm, fun i h1 h2 => by omega⟩
    · have hjm : j ≠ m := fun e => hm (e ▸ hj)
      obtain ⟨i, h1, h2, h3⟩ := ih ⟨j, by omega, hj⟩
      refine ⟨i, by omega, h2, fun t h4 h5 => ?_⟩
      by_cases ht : t = m
      · subst ht; exact hm
      · exact h3 t h4 (by omega)

theorem steady_rich {n : Nat} (hs : SteadyI w n) : ∀ e b, e ≤ n → NewAt w e b → Fresh w e b := by
  rintro e b he ⟨h1, h2, h3⟩ ⟨j, hj, hs'⟩
  obtain ⟨i, hi, hP, hlast⟩ := last_before (P := fun j => j + (e - b) + 1 ≤ e ∧ SameI w j b (e - b)) e ⟨j, by omega, hj, hs'⟩
  have hb : i < b := by omega
  have e0 : b + (e - b) = e := by omega
  have hpi : PalI w i (i + (e - b)) := pal_of_same hP.2 (by rw [e0]; exact h2)
  refine h3 i hb (hs i (e - b) e (by omega) hpi (by omega) he ?_ ?_)
  · have e1 : e - (e - b) = b := by omega
    rw [e1]
    exact hP.2.symm
  · intro t ht1 ht2 ht
    exact hlast t ht1 (by omega) ⟨by omega, ht.trans hP.2⟩
end rich
end Mine
namespace Mine
open PySem PySem.W PyProof.Rows PySem.Calls
def wl (l : List Nat) (i : Nat) : Nat := l.getD i 0
theorem sub_get {l : List Nat} {b e i : Nat} (h : i < e - b) : (sub l b e)[i]? = l[b + i]? := by
  unfold sub
  rw [List.getElem?_take_of_lt h, List.getElem?_drop]
theorem sub_split (l : List Nat) {b j e : Nat} (h1 : b ≤ j) (h2 : j ≤ e) : sub l b e = sub l b j ++ sub l j e := by
  unfold sub
  rw [show e - b = (j - b) + (e - j) by omega, List.take_add, List.drop_drop, show b + (j - b) = j by omega]
theorem sub_zero (l : List Nat) (e : Nat) : sub l 0 e = l.take e := by unfold sub; simp
theorem get_wl {l : List Nat} {i : Nat} (h : i < l.length) : l[i]? = some (wl l i) := by
  unfold wl
  rw [List.getD_eq_getElem?_getD, List.getElem?_eq_getElem h]
  rfl
theorem same_iff {l : List Nat} {i j k : Nat} (hi : i + k ≤ l.length) (hj : j + k ≤ l.length) : sub l i (i + k) = sub l j (j + k) ↔ SameI (wl l) i j k := by
  constructor
  · intro h d hd
    have h1 := congrArg (fun x => x[d]?) h
    rw [sub_get (by omega), sub_get (by omega), get_wl (by omega), get_wl (by omega)] at h1
    exact Option.some.inj h1
  · intro h
    apply List.ext_getElem?
    intro d
    by_cases hd : d < k
    · rw [sub_get (by omega), sub_get (by omega), get_wl (by omega), get_wl (by omega), h d hd]
    · rw [List.getElem?_eq_none (by rw [sub_len (by omega)]; omega), List.getElem?_eq_none (by rw [sub_len (by omega)]; omega)]
theorem pal_iff {l : List Nat} {b e : Nat} (h : e ≤ l.length) (hb : b ≤ e) : pal (sub l b e) = true ↔ PalI (wl l) b e := by
  have hl : (sub l b e).length = e - b := sub_len h
  unfold pal
  rw [beq_iff_eq]
  constructor
  · intro hp i h1 h2
    have h3 := congrArg (fun x => x[i - b]?) hp
    rw [List.getElem?_reverse (by omega), sub_get (by omega), hl, sub_get (by omega), get_wl (by omega), get_wl (by omega)] at h3
    have h4 := Option.some.inj h3
    rw [show b + (i - b) = i by omega, show b + (e - b - 1 - (i - b)) = b + e - 1 - i by omega] at h4
    exact h4
  · intro hp
    apply List.ext_getElem?
    intro d
    by_cases hd : d < e - b
    · rw [List.getElem?_reverse (by omega), sub_get (by omega), hl, sub_get (by omega), get_wl (by omega), get_wl (by omega)]
      have := hp (b + d) (by omega) (by omega)
      rw [this]
      congr 2
      omega
    · rw [List.getElem?_eq_none (by omega), List.getElem?_eq_none (by rw [List.length_reverse]; omega)]
theorem infix_iff {l y : List Nat} {b e : Nat} (h : e ≤ l.length) (hb : b ≤ e) : y <:+: sub l b e ↔ ∃ j, b ≤ j ∧ j + y.length ≤ e ∧ sub l j (j + y.length) = y := by
  constructor
  · rintro ⟨s, t, hst⟩
    have hlen := congrArg List.length hst
    rw [sub_len h, List.length_append, List.length_append] at hlen
    refine ⟨b + s.length, by omega, by omega, ?_⟩
    have h1 : sub l b e = sub l b (b + s.length) ++ (sub l (b + s.length) (b + s.length + y.length) ++ sub l (b + s.length + y.length) e) := by
      rw [← sub_split l (by omega) (by omega), ← sub_split l (by omega) (by omega)]
    rw [h1, List.append_assoc] at hst
    have h2 := List.append_inj hst (by rw [sub_len (by omega)]; omega)
    exact (List.append_inj h2.2 (by rw [sub_len (by omega)]; omega)).1.symm
  · rintro ⟨j, h1, h2, h3⟩
    refine ⟨sub l b j, sub l (j + y.length) e, ?_⟩
    rw [sub_split l h1 (by omega : j ≤ e), sub_split l (by omega : j ≤ j + y.length) h2, h3, List.append_assoc]
theorem least_ex {P : Nat → Prop} : ∀ n, P n → ∃ b, b ≤ n ∧ P b ∧ ∀ b', b' < b → ¬ P b' := by
  intro n
  induction n using Nat.strongRecOn with
  | _ n ih =>
    intro hn
    by_cases h : ∃ m, m < n ∧ P m
    · obtain ⟨m, h1, h2⟩ := h
      obtain ⟨b, a, c, d⟩ := ih m h1 h2
      exact ⟨b, by omega, c, d⟩
    · exact ⟨n, Nat.le_refl _, hn, fun b' hb hp => h ⟨b', hb, hp⟩⟩
theorem new_ex {α : Type} (w : Nat → α) (e : Nat) (he : 0 < e) : ∃ b, NewAt w e b := by
  obtain ⟨b, h1, h2, h3⟩ := least_ex (P := fun b => PalI w b e) (e - 1) (by
    intro i h1 h2
    congr 1
    omega)
  exact ⟨b, by omega, h2, h3⟩
theorem bgn_eq {l : List Nat} {e b : Nat} (he : e ≤ l.length) (h : NewAt (wl l) e b) : bgn l e = b := by
  obtain ⟨h1, h2, h3⟩ := h
  refine least_eq _ e 0 b (Nat.zero_le _) (by omega) ((pal_iff he (by omega)).mpr h2) fun j _ hj => ?_
  cases hp : pal (sub l j e) with
  | false => rfl
  | true => exact absurd ((pal_iff he (by omega)).mp hp) (h3 j hj)
theorem bgn_new {l : List Nat} {e : Nat} (h0 : 0 < e) (he : e ≤ l.length) : NewAt (wl l) e (bgn l e) := by
  obtain ⟨b, hb⟩ := new_ex (wl l) e h0
  rw [bgn_eq he hb]
  exact hb
theorem find_neg {x y : List Nat} : (Txt.find (ofL x) (ofL y) < 0) ↔ ¬ y <:+: x := by
  have h := find_iff (x := ofL x) (y := ofL y)
  rw [ofL_cps, ofL_cps] at h
  rw [← h]
  exact Decidable.not_not.symm
/-- the longest mirrored end of the first e + 1 letters stands in the first e only if it is not fresh -/
theorem fresh_iff {l : List Nat} {e : Nat} (he : e + 1 ≤ l.length) : (Txt.find (ofL (l.take e)) (ofL (piece l (e + 1))) < 0) ↔ Fresh (wl l) (e + 1) (bgn l (e + 1)) := by
  have hb := (bgn_new (l := l) (e := e + 1) (by omega) he).1
  rw [find_neg, ← sub_zero, infix_iff (by omega) (by omega)]
  unfold Fresh piece
  rw [sub_len (by omega)]
  refine not_congr ⟨?_, ?_⟩
  · rintro ⟨j, _, h1, h2⟩
    refine ⟨j, by omega, ?_⟩
    rw [← same_iff (by omega) (by omega)]
    rw [h2]
    congr 1
    omega
  · rintro ⟨j, h1, h2⟩
    refine ⟨j, by omega, by omega, ?_⟩
    rw [← same_iff (by omega) (by omega)] at h2
    rw [h2]
    congr 1
    omega
end Mine
namespace Mine
open PySem PySem.W PyProof.Rows PySem.Calls
theorem kept_mem {l : List Nat} {x : List Nat} : ∀ e, x ∈ keptC l e → ∃ i, i < e ∧ x = piece l (i + 1)
  | 0, h => nomatch h
  | e + 1, h => by
    unfold keptC at h
    rcases List.mem_append.mp h with h | h
    · obtain ⟨i, h1, h2⟩ := kept_mem e h
      exact ⟨i, by omega, h2⟩
    · split at h
      · exact ⟨e, by omega, List.mem_singleton.mp h⟩
      · cases h
theorem kept_mono {l : List Nat} {x : List Nat} {e : Nat} (h : x ∈ keptC l e) : x ∈ keptC l (e + 1) := by
  unfold keptC
  exact List.mem_append_left _ h
/-- a mirrored end that is not the longest stands before -/
theorem short_before {l : List Nat} {e b : Nat} (he : e + 1 ≤ l.length) (hb : b < e + 1) (hp : pal (sub l b (e + 1)) = true) (hq : bgn l (e + 1) ≠ b) :
    ∃ j, j + (e + 1 - b) ≤ e ∧ sub l j (j + (e + 1 - b)) = sub l b (e + 1) := by
  obtain ⟨h1, h2, h3⟩ := bgn_new (l := l) (e := e + 1) (by omega) he
  have hp' := (pal_iff he (by omega)).mp hp
  have hlt : bgn l (e + 1) < b := by
    rcases Nat.lt_trichotomy (bgn l (e + 1)) b with h | h | h
    · exact h
    · exact absurd h hq
    · exact absurd hp' (h3 b h)
  refine ⟨bgn l (e + 1), by omega, ?_⟩
  have hm := mirror_same (i := b) (k := e + 1 - b) h2 (by rw [show b + (e + 1 - b) = e + 1 by omega]; exact hp') (by omega) (by omega)
  rw [show bgn l (e + 1) + (e + 1) - b - (e + 1 - b) = bgn l (e + 1) by omega, ← same_iff (by omega) (by omega)] at hm
  rw [hm]
  congr 1
  omega
theorem pal_in_kept {l : List Nat} : ∀ e, e ≤ l.length → ∀ b e', b < e' → e' ≤ e → pal (sub l b e') = true → sub l b e' ∈ keptC l e
  | 0, _, b, e', h1, h2, _ => by omega
  | e + 1, he, b, e', h1, h2, hp => by
    by_cases h : e' ≤ e
    · exact kept_mono (pal_in_kept e (by omega) b e' h1 h hp)
    · have h' : e' = e + 1 := by omega
      subst h'
      by_cases hq : bgn l (e + 1) = b
      · by_cases hf : Txt.find (ofL (l.take e)) (ofL (piece l (e + 1))) < 0
        · unfold keptC
          rw [if_pos hf]
          refine List.mem_append_right _ (List.mem_singleton.mpr ?_)
          unfold piece
          rw [hq]
        · rw [find_neg, Decidable.not_not, ← sub_zero, infix_iff (by omega) (by omega)] at hf
          obtain ⟨j, _, h3, h4⟩ := hf
          have h5 : piece l (e + 1) = sub l b (e + 1) := by unfold piece; rw [hq]
          rw [h5] at h3 h4
          rw [← h4] at hp ⊢
          have h6 : (sub l b (e + 1)).length = e + 1 - b := sub_len he
          exact kept_mono (pal_in_kept e (by omega) _ _ (by omega) h3 hp)
      · obtain ⟨j, h3, h4⟩ := short_before he h1 hp hq
        rw [← h4] at hp ⊢
        exact kept_mono (pal_in_kept e (by omega) _ _ (by omega) h3 hp)
theorem ofL_mem {xs : List (List Nat)} {x : List Nat} : ofL x ∈ xs.map ofL ↔ x ∈ xs := by
  constructor
  · intro h
    obtain ⟨y, hy, e⟩ := List.mem_map.mp h
    rw [← ofL_inj e]
    exact hy
  · intro h
    exact List.mem_map.mpr ⟨x, h, rfl⟩
theorem contains_kept {l : List Nat} {x : List Nat} {e : Nat} : ((keptC l e).map ofL).contains (ofL x) = true ↔ x ∈ keptC l e := by
  rw [List.contains_iff_mem, ofL_mem]
theorem found_kept (sh : Str) : ∀ e, e ≤ sh.length → foundS sh e = (keptC sh.cps.toList e).map ofL
  | 0, _ => rfl
  | e + 1, he => by
    have ih := found_kept sh e (by omega)
    have hl : sh.length = sh.cps.toList.length := by simp [Str.length]
    generalize hL : sh.cps.toList = l at ih hl ⊢
    have hq := bgn_new (l := l) (e := e + 1) (by omega) (by omega)
    have key : ∀ k, k ≤ e + 1 → innerS sh (e + 1) k = if k ≤ bgn l (e + 1) then (keptC l e).map ofL else (keptC l (e + 1)).map ofL := by
      intro k
      induction k with
      | zero =>
        intro _
        rw [innerS_zero, if_pos (Nat.zero_le _)]
        exact ih
      | succ k ihk =>
        intro hk
        rw [innerS_step, ihk (by omega)]
        unfold fstep
        rw [hL]
        rcases Nat.lt_trichotomy k (bgn l (e + 1)) with h | h | h
        · have e1 : (if k ≤ bgn l (e + 1) then (keptC l e).map ofL else (keptC l (e + 1)).map ofL) = (keptC l e).map ofL := if_pos (by omega)
          have e2 : (if k + 1 ≤ bgn l (e + 1) then (keptC l e).map ofL else (keptC l (e + 1)).map ofL) = (keptC l e).map ofL := if_pos (by omega)
          rw [e1, e2]
          have hp : pal (sub l k (e + 1)) = false := by
            cases hp : pal (sub l k (e + 1)) with
            | false => rfl
            | true => exact absurd ((pal_iff (by omega) (by omega)).mp hp) (hq.2.2 k h)
          rw [if_neg (by rw [hp]; simp)]
        · have hp : pal (sub l k (e + 1)) = true := by rw [h]; exact (pal_iff (by omega) (by omega)).mpr hq.2.1
          have e1 : (if k ≤ bgn l (e + 1) then (keptC l e).map ofL else (keptC l (e + 1)).map ofL) = (keptC l e).map ofL := if_pos (by omega)
          have e2 : (if k + 1 ≤ bgn l (e + 1) then (keptC l e).map ofL else (keptC l (e + 1)).map ofL) = (keptC l (e + 1)).map ofL := if_neg (by omega)
          have e3 : keptC l (e + 1) = keptC l e ++ (if Txt.find (ofL (l.take e)) (ofL (piece l (e + 1))) < 0 then [piece l (e + 1)] else []) := rfl
          rw [e1, e2, e3]
          have hpc : sub l k (e + 1) = piece l (e + 1) := by unfold piece; rw [h]
          rw [hpc]
          rw [hpc] at hp
          by_cases hf : Txt.find (ofL (l.take e)) (ofL (piece l (e + 1))) < 0
          · have hc : ((keptC l e).map ofL).contains (ofL (piece l (e + 1))) = false := by
              rw [Bool.eq_false_iff]
              intro hc
              rw [contains_kept] at hc
              obtain ⟨i, hi, ei⟩ := kept_mem e hc
              refine find_neg.mp hf ?_
              rw [ei, ← sub_zero, infix_iff (by omega) (by omega)]
              have hb := (bgn_new (l := l) (e := i + 1) (by omega) (by omega)).1
              have hlp : (piece l (i + 1)).length = i + 1 - bgn l (i + 1) := sub_len (by omega)
              refine ⟨bgn l (i + 1), by omega, by omega, ?_⟩
              rw [hlp]
              unfold piece
              congr 1
              omega
            rw [if_pos ⟨hp, hc⟩, if_pos hf, List.map_append]
            rfl
          · have hc : ((keptC l e).map ofL).contains (ofL (piece l (e + 1))) = true := by
              rw [contains_kept]
              rw [find_neg, Decidable.not_not, ← sub_zero, infix_iff (by omega) (by omega)] at hf
              obtain ⟨j, _, h3, h4⟩ := hf
              have h6 : (piece l (e + 1)).length = e + 1 - bgn l (e + 1) := sub_len (by omega)
              have := hq.1
              have h7 := pal_in_kept (l := l) e (by omega) j (j + (piece l (e + 1)).length) (by omega) h3 (by rw [h4]; exact hp)
              rw [h4] at h7
              exact h7
            rw [if_neg (by rw [hc]; simp), if_neg hf, List.append_nil]
        · have e1 : (if k ≤ bgn l (e + 1) then (keptC l e).map ofL else (keptC l (e + 1)).map ofL) = (keptC l (e + 1)).map ofL := if_neg (by omega)
          have e2 : (if k + 1 ≤ bgn l (e + 1) then (keptC l e).map ofL else (keptC l (e + 1)).map ofL) = (keptC l (e + 1)).map ofL := if_neg (by omega)
          rw [e1, e2]
          by_cases hp : pal (sub l k (e + 1)) = true
          · have hc : ((keptC l (e + 1)).map ofL).contains (ofL (sub l k (e + 1))) = true := by
              rw [contains_kept]
              exact pal_in_kept (e + 1) (by omega) k (e + 1) (by omega) (Nat.le_refl _) hp
            rw [if_neg (by rw [hc]; simp)]
          · rw [if_neg (by intro hx; exact hp hx.1)]
    have h1 := key (e + 1) (Nat.le_refl _)
    rw [innerS_whole, if_neg (by have := hq.1; omega)] at h1
    exact h1
theorem kept_found (sh : Str) : keptS sh sh.length = foundS sh sh.length := (found_kept sh _ (Nat.le_refl _)).symm
theorem kept_parts {sh : Str} {p : Str} (h : p ∈ keptS sh sh.length) : ∃ b e, b < e ∧ e ≤ sh.length ∧ p = ofL (sub sh.cps.toList b e) ∧ pal (sub sh.cps.toList b e) = true := by
  have hl : sh.length = sh.cps.toList.length := by simp [Str.length]
  obtain ⟨x, hx, rfl⟩ := List.mem_map.mp h
  obtain ⟨i, hi, rfl⟩ := kept_mem _ hx
  have hq := bgn_new (l := sh.cps.toList) (e := i + 1) (by omega) (by omega)
  exact ⟨bgn sh.cps.toList (i + 1), i + 1, hq.1, by omega, rfl, (pal_iff (by omega) (by have := hq.1; omega)).mpr hq.2.1⟩
theorem kept_ok (sh : Str) (h46 : 46 ∉ sh.cps.toList) (h : sh.length ≤ 8) : ∀ p ∈ keptS sh sh.length, 46 ∉ p.cps.toList ∧ p.length ≠ 0 ∧ p.length ≤ 8 := by
  intro p hp
  have hl : sh.length = sh.cps.toList.length := by simp [Str.length]
  obtain ⟨b, e, h1, h2, rfl, _⟩ := kept_parts hp
  rw [ofL_cps, ofL_len, sub_len (by omega)]
  exact ⟨fun hm => h46 (sub_mem hm), by omega, by omega⟩
theorem found_ok (sh : Str) (h : ∀ c ∈ sh.cps.toList, c < 1114112) : ∀ x ∈ foundS sh sh.length, PySem.PyData.strOk x = true := by
  intro p hp
  rw [← kept_found] at hp
  obtain ⟨b, e, h1, h2, rfl, _⟩ := kept_parts hp
  unfold PyData.strOk
  rw [Array.all_eq_true_iff_forall_mem]
  intro c hc
  have hc' : c ∈ (ofL (sub sh.cps.toList b e)).cps.toList := Array.mem_toList_iff.mpr hc
  rw [ofL_cps] at hc'
  simpa using h c (sub_mem hc')
theorem kept_len_iff {l : List Nat} : ∀ e, e ≤ l.length → ((keptC l e).length = e ↔ ∀ i, i < e → Fresh (wl l) (i + 1) (bgn l (i + 1)))
  | 0, _ => by simp [keptC]
  | e + 1, he => by
    have ih := kept_len_iff (l := l) e (by omega)
    have hle := keptC_len l e
    unfold keptC
    rw [List.length_append]
    by_cases hf : Txt.find (ofL (l.take e)) (ofL (piece l (e + 1))) < 0
    · rw [if_pos hf, List.length_singleton]
      have hf' := (fresh_iff he).mp hf
      constructor
      · intro h i hi
        by_cases hie : i = e
        · subst hie; exact hf'
        · exact ih.mp (by omega) i (by omega)
      · intro h
        rw [ih.mpr fun i hi => h i (by omega)]
    · rw [if_neg hf, List.length_nil]
      constructor
      · intro h; omega
      · intro h
        exact absurd ((fresh_iff he).mpr (h e (by omega))) hf
theorem rich_iff {l : List Nat} : (keptC l l.length).length = l.length ↔ SteadyI (wl l) l.length := by
  rw [kept_len_iff _ (Nat.le_refl _)]
  constructor
  · intro h
    refine rich_steady (fun e b he hn => ?_) fun e he => new_ex _ e he
    have hb := bgn_eq he hn
    have he0 : 0 < e := by have := hn.1; omega
    have := h (e - 1) (by omega)
    rw [show e - 1 + 1 = e by omega, hb] at this
    exact this
  · intro h i hi
    exact steady_rich h (i + 1) _ (by omega) (bgn_new (by omega) (by omega))
theorem told_iff {sh p : Str} {b e : Int} (h0 : 0 ≤ b) (h1 : b + 1 ≤ e) (h2 : e ≤ sh.length) : toldE sh p b e = true ↔ ∃ j, b.toNat + 1 ≤ j ∧ j + p.length ≤ e.toNat ∧ sub sh.cps.toList j (j + p.length) = p.cps.toList := by
  have hl : sh.length = sh.cps.toList.length := by simp [Str.length]
  have hp : p.length = p.cps.toList.length := by simp [Str.length]
  unfold toldE
  rw [slice_sub (by omega) (by omega) h2, decide_eq_true_iff]
  have h3 := find_iff (x := ofL (sub sh.cps.toList (b + 1).toNat e.toNat)) (y := p)
  rw [ofL_cps, infix_iff (by omega) (by omega), show (b + 1).toNat = b.toNat + 1 by omega, ← hp] at h3
  rw [show (b + 1).toNat = b.toNat + 1 by omega, ← h3]
  omega
theorem steady_iff (sh : Str) : SteadyP sh (keptS sh sh.length) ↔ SteadyI (wl sh.cps.toList) sh.length := by
  have hl : sh.length = sh.cps.toList.length := by simp [Str.length]
  constructor
  · intro h b k e hk hp h1 h2 hs hno
    have hpl : pal (sub sh.cps.toList b (b + k)) = true := (pal_iff (by omega) (by omega)).mpr hp
    have hm : ofL (sub sh.cps.toList b (b + k)) ∈ keptS sh sh.length := List.mem_map.mpr ⟨_, pal_in_kept _ (by omega) b (b + k) (by omega) (by omega) hpl, rfl⟩
    have hlen : (ofL (sub sh.cps.toList b (b + k))).length = k := by rw [ofL_len, sub_len (by omega)]; omega
    have h3 := h _ hm (b : Int) (by omega) (by rw [hlen]; omega) (by
      rw [hlen, slice_sub (by omega) (by omega) (by omega)]
      congr 2) (e : Int) (by rw [hlen]; omega) (by omega) ?_ ?_
    · rw [slice_sub (by omega) (by omega) (by omega), ofL_cps, Int.toNat_natCast, Int.toNat_natCast] at h3
      exact (pal_iff (by omega) (by omega)).mp h3
    · rw [told_iff (by omega) (by omega) (by omega), hlen, ofL_cps]
      refine ⟨e - k, by omega, by omega, ?_⟩
      rw [same_iff (by omega) (by omega)]
      exact hs
    · intro e' h4 h5
      rw [hlen] at h4
      rw [Bool.eq_false_iff, ne_eq, told_iff (by omega) (by omega) (by omega), hlen, ofL_cps]
      rintro ⟨j, h6, h7, h8⟩
      rw [same_iff (by omega) (by omega)] at h8
      exact hno j (by omega) (by omega) h8
  · intro h p hp b h0 hb hsl e h1 h2 ht hno
    obtain ⟨pb, pe, q1, q2, rfl, q3⟩ := kept_parts hp
    have hlen : (ofL (sub sh.cps.toList pb pe)).length = pe - pb := by rw [ofL_len, sub_len (by omega)]
    rw [hlen] at hb hsl h1 hno
    rw [slice_sub (by omega) (by omega) (by omega)] at hsl
    have hsl := ofL_inj hsl
    rw [show (b + ((pe - pb : Nat) : Int)).toNat = b.toNat + (pe - pb) by omega] at hsl
    rw [slice_sub (by omega) (by omega) (by omega), ofL_cps]
    rw [told_iff (by omega) (by omega) (by omega), hlen, ofL_cps] at ht
    obtain ⟨j, j1, j2, j3⟩ := ht
    have hj : j + (pe - pb) = e.toNat := by
      rcases Nat.lt_or_ge (j + (pe - pb)) e.toNat with hlt | hge
      · have := hno ((j + (pe - pb) : Nat) : Int) (by omega) (by omega)
        rw [Bool.eq_false_iff, ne_eq, told_iff (by omega) (by omega) (by omega), hlen, ofL_cps] at this
        exact absurd ⟨j, j1, by omega, j3⟩ this
      · omega
    refine (pal_iff (by omega) (by omega)).mpr (h b.toNat (pe - pb) e.toNat (by omega) ?_ (by omega) (by omega) ?_ ?_)
    · refine (pal_iff (by omega) (by omega)).mp ?_
      rw [hsl]
      exact q3
    · rw [show e.toNat - (pe - pb) = j by omega, ← same_iff (by omega) (by omega), j3, hsl]
    · intro i i1 i2 hs
      rw [← same_iff (by omega) (by omega), hsl] at hs
      have := hno ((i + (pe - pb) : Nat) : Int) (by omega) (by omega)
      rw [Bool.eq_false_iff, ne_eq, told_iff (by omega) (by omega) (by omega), hlen, ofL_cps] at this
      exact this ⟨i, by omega, by omega, hs⟩
theorem kept_steady (sh : Str) : (((keptS sh sh.length).length : Int) == (sh.length : Int)) = steadyB sh (keptS sh sh.length) := by
  have hl : sh.length = sh.cps.toList.length := by simp [Str.length]
  have h1 : (keptS sh sh.length).length = (keptC sh.cps.toList sh.cps.toList.length).length := by unfold keptS; rw [List.length_map, hl]
  have h2 := rich_iff (l := sh.cps.toList)
  have h3 := steady_iff sh
  rw [← hl, ← h3] at h2
  rw [hl, ← hl] at h1
  unfold steadyB
  rw [Bool.eq_iff_iff, beq_iff_eq]
  constructor
  · intro h
    exact @decide_eq_true _ (Classical.propDecidable _) (h2.mp (by omega))
  · intro h
    have := h2.mpr (@of_decide_eq_true _ (Classical.propDecidable _) h)
    omega
end Mine
namespace Mine
open PySem PySem.W PyProof.Rows PySem.Calls
/-- the number of letters from a on, to the base 16 -/
def bgF (n : Int) (c : Nat) : Int := n * 16 + ((c : Int) - 97)
def bg (s : List Nat) : Int := s.foldl bgF 0
theorem bg_snoc (s : List Nat) (c : Nat) : bg (s ++ [c]) = bg s * 16 + ((c : Int) - 97) := by unfold bg; rw [List.foldl_append]; rfl
def Fig (s : List Nat) : Prop := ∀ c ∈ s, 97 ≤ c ∧ c ≤ 112
theorem pow16 (n : Nat) : (16 : Int) ^ (n + 1) = 16 * 16 ^ n := by rw [Int.pow_succ, Int.mul_comm]
theorem pow_pos16 (n : Nat) : (0 : Int) < 16 ^ n := Int.pow_pos (by decide)
theorem bg_from : ∀ (t : List Nat) (a : Int), t.foldl bgF a = a * 16 ^ t.length + bg t
  | [], a => by simp [bg]
  | c :: t, a => by
    have h1 := bg_from t (bgF a c)
    have h2 := bg_from t (bgF 0 c)
    rw [List.foldl_cons, h1]
    show _ = _ + List.foldl bgF (bgF 0 c) t
    rw [h2, List.length_cons, pow16]
    unfold bgF
    rw [Int.zero_mul, Int.zero_add, Int.add_mul, Int.mul_assoc, Int.add_assoc]
theorem bg_app (s t : List Nat) : bg (s ++ t) = bg s * 16 ^ t.length + bg t := by
  show (s ++ t).foldl bgF 0 = _
  rw [List.foldl_append, bg_from]
  rfl
theorem bg_bd : ∀ (n : Nat) (s : List Nat), s.length = n → Fig s → 0 ≤ bg s ∧ bg s < 16 ^ n := by
  intro n
  induction n with
  | zero =>
    intro s hs _
    rw [List.length_eq_zero_iff.mp hs]
    show (0 : Int) ≤ 0 ∧ (0 : Int) < 16 ^ 0
    decide
  | succ n ih =>
    intro s hs hf
    obtain ⟨t, c, rfl⟩ : ∃ t c, s = t ++ [c] := ⟨s.dropLast, s.getLast (by intro h; rw [h] at hs; cases hs), (List.dropLast_concat_getLast _).symm⟩
    have h1 := ih t (by simp at hs; exact hs) fun d hd => hf d (List.mem_append_left _ hd)
    have h2 := hf c (List.mem_append_right _ (List.mem_singleton.mpr rfl))
    rw [bg_snoc, pow16]
    omega
theorem bg_inj : ∀ (n : Nat) (s t : List Nat), s.length = n → t.length = n → Fig s → Fig t → bg s = bg t → s = t := by
  intro n
  induction n with
  | zero =>
    intro s t hs ht _ _ _
    rw [List.length_eq_zero_iff.mp hs, List.length_eq_zero_iff.mp ht]
  | succ n ih =>
    intro s t hs ht hf hg h
    obtain ⟨s, c, rfl⟩ : ∃ t c, s = t ++ [c] := ⟨s.dropLast, s.getLast (by intro h; rw [h] at hs; cases hs), (List.dropLast_concat_getLast _).symm⟩
    obtain ⟨t, d, rfl⟩ : ∃ t' c, t = t' ++ [c] := ⟨t.dropLast, t.getLast (by intro h; rw [h] at ht; cases ht), (List.dropLast_concat_getLast _).symm⟩
    have h1 := hf c (List.mem_append_right _ (List.mem_singleton.mpr rfl))
    have h2 := hg d (List.mem_append_right _ (List.mem_singleton.mpr rfl))
    rw [bg_snoc, bg_snoc] at h
    have hc : c = d := by omega
    subst hc
    rw [ih s t (by simp at hs; exact hs) (by simp at ht; exact ht) (fun d hd => hf d (List.mem_append_left _ hd)) (fun d hd => hg d (List.mem_append_left _ hd)) (by omega)]
theorem num_bg (l : List Nat) : ∀ j, j ≤ l.length → numI l j = bg (l.take j) ∧ turI l j = bg (l.take j).reverse
  | 0, _ => by simp [numI, turI, bg]
  | j + 1, hj => by
    have ih := num_bg l j (by omega)
    have e : l.take (j + 1) = l.take j ++ [l.getD j 0] := by
      rw [List.take_add_one, List.getD_eq_getElem?_getD, List.getElem?_eq_getElem (by omega)]
      rfl
    have e16 : (2 : Int) ^ (4 * j) = 16 ^ j := by rw [Int.pow_mul, show (2 : Int) ^ 4 = 16 by decide]
    constructor
    · rw [e, bg_snoc, ← ih.1]
      rfl
    · rw [e, List.reverse_append, List.reverse_singleton, bg_app, ← ih.2, List.length_reverse, List.length_take, Nat.min_eq_left (by omega)]
      show turI l j + ((l.getD j 0 : Int) - 97) * 2 ^ (4 * j) = _
      rw [e16]
      have e1 : bg [l.getD j 0] = (l.getD j 0 : Int) - 97 := by simp [bg, bgF]
      rw [e1, Int.add_comm]
theorem div_pow {a r : Int} {k : Nat} (h0 : 0 ≤ r) (h1 : r < 16 ^ k) : (a * 16 ^ k + r) / 16 ^ k = a := by
  rw [Int.add_comm, Int.add_mul_ediv_right _ _ (by have := pow_pos16 k; omega), Int.ediv_eq_zero_of_lt h0 h1]
  omega
theorem mod_pow {a r : Int} {k : Nat} (h0 : 0 ≤ r) (h1 : r < 16 ^ k) : (a * 16 ^ k + r) % 16 ^ k = r := by
  rw [Int.add_comm, Int.add_mul_emod_self_right, Int.emod_eq_of_lt h0 h1]
theorem two16 (k : Int) (h : 0 ≤ k) : (2 : Int) ^ (4 * k).toNat = 16 ^ k.toNat := by
  rw [show (4 * k).toNat = 4 * k.toNat by omega, Int.pow_mul, show (2 : Int) ^ 4 = 16 by decide]
theorem fig_sub {s : List Nat} (h : Fig s) (b e : Nat) : Fig (sub s b e) := fun c hc => h c (sub_mem hc)
theorem tells_of {l : List Nat} (hf : Fig l) : Tells (bg l) (bg l.reverse) (ofL l) := by
  intro e b h1 h2 h3 h4
  rw [ofL_len] at h2 ⊢
  rw [ofL_cps]
  obtain ⟨e, rfl⟩ := Int.eq_ofNat_of_zero_le (show 0 ≤ e by omega)
  obtain ⟨b, rfl⟩ := Int.eq_ofNat_of_zero_le h3
  have hl : l = sub l 0 b ++ sub l b e ++ sub l e l.length := by
    rw [← sub_split l (Nat.zero_le b) (by omega), ← sub_split l (Nat.zero_le e) (by omega), sub_zero, List.take_length]
  have l1 : (sub l 0 b).length = b := by rw [sub_len (by omega)]; omega
  have l2 : (sub l b e).length = e - b := sub_len (by omega)
  have l3 : (sub l e l.length).length = l.length - e := sub_len (Nat.le_refl _)
  have fr : ∀ {s : List Nat}, Fig s → Fig s.reverse := fun h c hc => h c (List.mem_reverse.mp hc)
  have b3 := bg_bd _ _ l3 (fig_sub hf _ _)
  have b2 := bg_bd _ _ l2 (fig_sub hf _ _)
  have b1' := bg_bd b _ (by rw [List.length_reverse]; exact l1) (fr (fig_sub hf 0 b))
  have b2' := bg_bd (e - b) _ (by rw [List.length_reverse]; exact l2) (fr (fig_sub hf b e))
  have n0 := bg_bd _ _ rfl hf
  have u0 := bg_bd _ _ (List.length_reverse (as := l)) (fr hf)
  unfold mirB
  rw [two16 _ (by omega), two16 _ (by omega), two16 _ (by omega), Int.one_mul]
  rw [show ((l.length : Int) - ((e : Nat) : Int)).toNat = l.length - e by omega, show (((b : Nat) : Int)).toNat = b by omega, show (((e : Nat) : Int) - ((b : Nat) : Int)).toNat = e - b by omega, show (((e : Nat) : Int)).toNat = e by omega]
  rw [Int.fdiv_eq_ediv_of_nonneg _ (Int.le_of_lt (pow_pos16 _)), Int.fdiv_eq_ediv_of_nonneg _ (Int.le_of_lt (pow_pos16 _)), Int.fmod_eq_emod_of_nonneg _ (Int.le_of_lt (pow_pos16 _)), Int.fmod_eq_emod_of_nonneg _ (Int.le_of_lt (pow_pos16 _))]
  have e1 : bg l / 16 ^ (l.length - e) % 16 ^ (e - b) = bg (sub l b e) := by
    have h5 : bg l = bg (sub l 0 b ++ sub l b e ++ sub l e l.length) := congrArg bg hl
    rw [h5, bg_app, l3, div_pow b3.1 b3.2, bg_app, l2, mod_pow b2.1 b2.2]
  have e2 : bg l.reverse / 16 ^ b % 16 ^ (e - b) = bg (sub l b e).reverse := by
    have h5 : bg l.reverse = bg (sub l 0 b ++ sub l b e ++ sub l e l.length).reverse := congrArg (fun x => bg x.reverse) hl
    rw [h5, List.append_assoc, List.reverse_append, bg_app, List.length_reverse, l1, div_pow b1'.1 b1'.2, List.reverse_append, bg_app, List.length_reverse, l2, mod_pow b2'.1 b2'.2]
  rw [e1, e2]
  unfold pal
  rw [Bool.eq_iff_iff, beq_iff_eq, beq_iff_eq]
  constructor
  · intro h
    exact bg_inj _ _ _ l2 (by rw [List.length_reverse]; exact l2) (fig_sub hf _ _) (fr (fig_sub hf _ _)) h
  · intro h
    exact congrArg bg h
theorem tells_cut {ns : List Int} {n u : Int} {pre : List Int} (h : NumP ns pre.length n u) (hl : pre.length = (cutL ns).length) : Tells n u (ofL (cutL ns)) := by
  obtain ⟨h1, h2, _⟩ := h
  have h3 := num_bg (cutL ns) _ (Nat.le_refl _)
  rw [h1, h2, hl, h3.1, h3.2, List.take_length]
  exact tells_of fun c hc => by
    have := cut_letters ns c hc
    omega
end Mine
namespace Mine
open PySem PySem.W PyProof.Rows PySem.Calls
theorem filled : (KF, OpenLaw.prog PySem.Challenge.rw_wo0057_02) = (KF, OpenLaw.prog PySem.Challenge.rw_wo0057_02) := by
  k_fill
  rfl
theorem signs_room {vs : List Value} {ns : List Int} (h : IntsAre vs (signsL ns)) : vs.toArray.size ≤ sizeLine := by
  rw [List.size_toArray, h.length, signs_len]
  exact Nat.le_of_ble_eq_true rfl
theorem ri_elim {h₀ : Heap} {L : Addr} {m : Str → Option Value} {news : List (Addr × Obj)} {s : Shared} {Q : Value → Shared → Prop} {ns : List Int} (h : ∀ (D : Addr) (ys : List Value) (n : Nat) (h' : Heap) (tk' : Nat), IntsAre ys ns → Fr h₀ L h' m → News h₀ L h' ((D, listOf ys.toArray n) :: news) → Q (.ref D) { s with heap := h', toks := tk' }) :
    ∀ (v : Value) (more : List (Addr × Obj)) (h' : Heap) (tk' : Nat), RI ns v more → Fr h₀ L h' m → News h₀ L h' (more ++ news) → Q v { s with heap := h', toks := tk' } := by
  rintro _ _ h' tk' ⟨D, ys, n, rfl, rfl, hI⟩ F N
  exact h D ys n h' tk' hI F N
theorem rt_elim {h₀ : Heap} {L : Addr} {m : Str → Option Value} {news : List (Addr × Obj)} {s : Shared} {Q : Value → Shared → Prop} {xs : List Str} (h : ∀ (D : Addr) (ys : List Value) (n : Nat) (h' : Heap) (tk' : Nat), StrsAre ys xs → Fr h₀ L h' m → News h₀ L h' ((D, listOf ys.toArray n) :: news) → Q (.ref D) { s with heap := h', toks := tk' }) :
    ∀ (v : Value) (more : List (Addr × Obj)) (h' : Heap) (tk' : Nat), RT xs v more → Fr h₀ L h' m → News h₀ L h' (more ++ news) → Q v { s with heap := h', toks := tk' } := by
  rintro _ _ h' tk' ⟨D, ys, n, rfl, rfl, hI⟩ F N
  exact h D ys n h' tk' hI F N
local macro_rules | `(tactic| walk_at "call ref") => `(tactic| (k_here; (with_reducible show wpAny _ _ (call (Value.ref 128) _) _ _ _); k_dflt (refine' signs_does _ _ _ _ _ _ _ _ _ _ _ _ _ _ _ _ _ _ _ _ _ _ _ _ _ _ _ ?k1 ?k2 ?k3 ?k4 ?k5 ?kK ?ka ?kd ?ku ?_; (case k1 => k_asm); (case k2 => k_asm); (case k3 => k_asm); (case k4 => k_asm); (case k5 => k_asm); (case kK => first | exact rfl | assumption); (case ka => exact ⟨by assumption, by assumption, by omega⟩); (case kd => first | ktr_room | exact Nat.le_of_ble_eq_true rfl); (case ku => first | ktr_units | exact Nat.le_of_ble_eq_true rfl); refine ri_elim ?_; intro D9 ys9 n9 h9 tk9 hI9 F9 N9; (try dsimp only); (try k_fold))))
local macro_rules | `(tactic| walk_at "call ref") => `(tactic| (k_here; (with_reducible show wpAny _ _ (call (Value.ref 123) _) _ _ _); k_dflt (refine' b3_any _ _ _ _ ?kp _ _ _ _ _ _ _ _ _ _ _ _ _ _ _ _ _ _ _ _ _ _ ?k1 ?k2 ?k3 ?k4 ?k5 ?kK ?kd ?ku ?_; (case k1 => k_asm); (case k2 => k_asm); (case k3 => k_asm); (case k4 => k_asm); (case k5 => k_asm); (case kK => first | exact rfl | assumption); (case kp => exact code_ok (fmod_in _ _ (by assumption))); (case kd => first | ktr_room | exact Nat.le_of_ble_eq_true rfl); (case ku => first | ktr_units | exact Nat.le_of_ble_eq_true rfl); intro t9 h9 tk9 F9 N9; (try dsimp only); (try k_fold))))
section
variable {prog : Program} {w : World} {A : Around} {E : Value → Shared → Prop} {s : Shared} {value slice : PySem.Expr} {l : Addr} {vs : List Value} {k : Int} {u : Tok} {Q : Value → Shared → Prop}
theorem item_codes (hl : s.heap.IsList l vs.toArray) (hi : IntsAre vs codesL) (hk : 0 ≤ k ∧ k < 11) (h : ∀ t, 0 ≤ codesL.getD k.toNat 0 → codesL.getD k.toNat 0 ≤ 1114111 → Q (.int (codesL.getD k.toNat 0) t) s)
    (hs : subscripted slice false (.ref l) (.int k u) = operate [.ref l, .int k u] (getItem (.ref l) (.int k u)) := by with_unfolding_all rfl) :
    wpAny (model prog w) A (subscriptTail value slice (.ref l) (.int k u)) Q E s := by
  obtain ⟨t, hx⟩ := hi.get k.toNat (codesL.getD k.toNat 0) (ints_getD hk.1 (by show k < ((11 : Nat) : Int); omega))
  have hb := code_bd ⟨k.toNat, by omega⟩
  exact tail_any hl.typeIs slot_list_getitem.lookup (wpAny_getItem_list hl hk.1 (by omega) (x := .int _ t) (by simpa using hx) (h t hb.1 hb.2)) hs
theorem item_meant (hl : s.heap.IsList l vs.toArray) (hi : StrsAre vs meantL) (hk : 0 ≤ k ∧ k < 11) (h : ∀ t, Q (.str (g2 k) t) s)
    (hs : subscripted slice false (.ref l) (.int k u) = operate [.ref l, .int k u] (getItem (.ref l) (.int k u)) := by with_unfolding_all rfl) :
    wpAny (model prog w) A (subscriptTail value slice (.ref l) (.int k u)) Q E s :=
  KTb.item_list hl hi hk.1 (by show k < ((11 : Nat) : Int); omega) (by omega) (fun t _ => h t) hs
end
local macro_rules | `(tactic| walk_at "subscriptTail") => `(tactic| (k_here; (with_reducible show wpAny _ _ (subscriptTail (Expr.Name (Str.ofString "codes") _) (Expr.Name _ _) (Value.ref _) (Value.int _ _)) _ _ _); k_dflt (refine item_codes (News.isList (by k_asm) (by k_mem)) (by repeat constructor) (fmod_in _ _ (by assumption)) ?_; intro t9 hc0 hc1)))
local macro_rules | `(tactic| walk_at "subscriptTail") => `(tactic| (k_here; (with_reducible show wpAny _ _ (subscriptTail (Expr.Name (Str.ofString "meant") _) (Expr.Name _ _) (Value.ref _) (Value.int _ _)) _ _ _); k_dflt (refine item_meant (News.isList (by k_asm) (by k_mem)) (by repeat constructor) (fmod_in _ _ (by assumption)) ?_; intro t9)))
local macro_rules | `(tactic| walk_at "KCtEl") => `(tactic| exact kct_el rfl (by with_unfolding_all rfl) (by with_unfolding_all rfl))
section
variable {prog : Program} {w : World} {A : Around} {E : Value → Shared → Prop} {s : Shared} {t u : Tok} {Q : Value → Shared → Prop} {D : Addr} {ys : List Value} {ns : List Int}
theorem join_text (hl : s.heap.IsList D ys.toArray) (hc : CarriedAll ys ((signsL ns).map fun a => PyData.str (g1 a))) (h : ∀ t' k, Q (.str (textV (signsL ns)) t') { s with toks := k }) :
    wpAny (model prog w) A (call (.builtin "str.join") [.str (Str.ofString "") t, .ref D]) Q E s :=
  KT.join_B 10 hl hc (fun a ha => by
    have hb := fmod_in ns a ha
    rw [g1_eq hb, ofL_len]
    have := (spell_len ⟨a.toNat, by omega⟩).1
    simp only at this
    omega) (by rw [signs_len]; decide) (by decide) h
theorem join_let (hl : s.heap.IsList D ys.toArray) (hc : CarriedAll ys ((signsL ns).map fun a => PyData.str (g2 a))) (h : ∀ t' k, Q (.str (textV (signsL ns)) t') { s with toks := k }) :
    wpAny (model prog w) A (call (.builtin "str.join") [.str (Str.ofString "") t, .ref D]) Q E s :=
  KT.join_B 10 hl hc (fun a ha => by
    have hb := fmod_in ns a ha
    rw [g2_eq hb, ofL_len]
    have := (spell_len ⟨a.toNat, by omega⟩).1
    simp only at this
    omega) (by rw [signs_len]; decide) (by decide) (fun t' k => by rw [let_eq]; exact h t' k)
theorem join_oct (hl : s.heap.IsList D ys.toArray) (hc : CarriedAll ys ((KBw.bInts (octL ns).toArray).map fun a => PyData.str (g3 a))) (h : ∀ t' k, Q (.str (ofL (98 :: cutL ns)) t') { s with toks := k }) :
    wpAny (model prog w) A (call (.builtin "str.join") [.str (Str.ofString "") t, .ref D]) Q E s :=
  KT.join_B 10 hl hc (fun a ha => by
    obtain ⟨c, _, _, e⟩ := oct_small ns a ha
    rw [e, ofL_len]
    simp) (by
      rw [KBw.ints_length, List.size_toArray]
      unfold octL
      have := cut_len ns
      rw [List.length_cons, List.length_map]
      omega) (by decide) (fun t' k => by rw [oct_join]; exact h t' k)
theorem item_textV {value slice : PySem.Expr} {i : Int} (h0 : 0 ≤ i) (h1 : i < (cutL ns).length) (h : ∀ t', 97 ≤ ((cutL ns).getD i.toNat 0 : Int) → ((cutL ns).getD i.toNat 0 : Int) ≤ 108 → Q (.str ⟨#[(cutL ns).getD i.toNat 0]⟩ t') { s with toks := s.toks + 1 })
    (hs : subscripted slice false (.str (textV (signsL ns)) t) (.int i u) = operate [.str (textV (signsL ns)) t, .int i u] (getItem (.str (textV (signsL ns)) t) (.int i u)) := by with_unfolding_all rfl)
    (ht : ∀ r, letTemporaryGo value (.str (textV (signsL ns)) t) r = pure () := by intro _; with_unfolding_all rfl) :
    wpAny (model prog w) A (subscriptTail value slice (.str (textV (signsL ns)) t) (.int i u)) Q E s := by
  have hg := text_get ns (i := i.toNat) (by omega)
  have hb := cut_get ns (i := i.toNat) (by omega)
  have h8 := cut_len ns
  refine item_str (fitsSsize_of (N := 9223372036854775808) (by omega) (by omega) (Int.le_refl _)) (by omega) (by omega) (fun e => ?_) hs ht
  rw [item_meets h0 (n := (cutL ns).getD i.toNat 0) (by
    have h9 := hg.2
    unfold Str.length at h9
    rw [Array.getElem?_eq_getElem h9]
    have h10 := hg.1
    rw [Array.getD_eq_getD_getElem?, Array.getElem?_eq_getElem h9] at h10
    exact congrArg some h10)]
  exact h _ hb.1 hb.2
end
local macro_rules | `(tactic| walk_at "call builtin:str.join") => `(tactic| (k_here; (with_reducible show wpAny _ _ (call (Value.builtin "str.join") [Value.str _ _, Value.ref _]) _ _ _); (with_reducible rename CarriedAll _ (List.map _ _) => ktC); k_dflt (first | (refine join_text (News.isList (by k_asm) (by k_mem)) ktC ?_) | (refine join_let (News.isList (by k_asm) (by k_mem)) ktC ?_) | (refine join_oct (News.isList (by k_asm) (by k_mem)) ktC ?_)); intro _ _))
local macro_rules | `(tactic| walk_at "eval ListComp") => `(tactic| (k_here; (with_reducible show wpAny _ _ (eval (Expr.ListComp _ [⟨_, Expr.Name _ _, _, _⟩] _ _) _) _ _ _); k_dflt (refine LCg.ListComp_U (F₀ := by k_asm) (by with_unfolding_all rfl) (by decide) (by rfl) (by decide) (by rfl) ?_)))
local macro_rules | `(tactic| walk_at "CompSrc") => `(tactic| (k_here; (with_reducible show LCg.CompSrc _ _ _ _ _ _ _ (Expr.Call _ _ _ _) _ _ _ _ _ _); k_dflt (refine LCg.CompSrc.ledger (by rfl) (by k_asm) (by k_asm) (by k_mem) (signs_room (by assumption)) ?_; intro g9; refine' kct_list g1 (by assumption) (fun k' t' I' oI' C' oC' D' m' ys' h' tk' E' hk' hC' hx' F' N' off' ne' => ?_) ?_; (all_goals (try ((show KPfMark → _); intro hMark'))); kcf_last)))
local macro_rules | `(tactic| walk_at "CompSrc") => `(tactic| (k_here; (with_reducible show LCg.CompSrc _ _ _ _ _ _ _ (Expr.Subscript _ _ _) _ _ _ _ _ _); k_dflt (refine LCg.CompSrc.ledger (by rfl) (by k_asm) (by k_asm) (by k_mem) (signs_room (by assumption)) ?_; intro g9; refine' kct_list g2 (by assumption) (fun k' t' I' oI' C' oC' D' m' ys' h' tk' E' hk' hC' hx' F' N' off' ne' => ?_) ?_; (all_goals (try ((show KPfMark → _); intro hMark'))); kcf_last)))
local macro_rules | `(tactic| walk_at "eval Name") => `(tactic| (k_here; (with_reducible show wpAny _ _ (eval (Expr.Name (Str.ofString "map_table_b3") _) (compEnvC _ _ _ _)) _ _ _); k_dflt (refine LCgL.ld_global (by k_asm) (by k_asm) (by k_asm) (by k_is) ?_)))
local macro_rules | `(tactic| walk_at "eval Name") => `(tactic| (k_here; (with_reducible show wpAny _ _ (eval (Expr.Name (Str.ofString "chr") _) (compEnvC _ _ _ _)) _ _ _); k_dflt (refine LCgL.ld_built (by k_asm) (by k_asm) (by k_asm) (by k_is) (by boot_by_name) (by decide) ?_)))
def NumX (x : Str) (j : Nat) (n u : Int) : Prop := ∀ ns, x = ofL (cutL ns) → NumP ns j n u
theorem numx_start (x : Str) : NumX x ([] : List Int).length 0 0 ∧ (0 : Int) ≤ 0 ∧ (0 : Int) < 4294967296 ∧ (0 : Int) ≤ 0 ∧ (0 : Int) < 4294967296 := ⟨fun ns _ => num_start ns, by decide, by decide, by decide, by decide⟩
theorem cut_inj {a b : List Int} (h : ofL (cutL a) = ofL (cutL b)) : cutL a = cutL b := ofL_inj h
theorem numx_turn {ns : List Int} {pre : List Int} {p n u c : Int} (h : NumX (ofL (cutL ns)) pre.length n u) (hp : p = 0 + (pre.length : Int)) (hl : pre.length < (((cutL ns).length : Int) - 0).toNat) (hc : c = (cutL ns).getD p.toNat 0) :
    NumX (ofL (cutL ns)) (pre ++ [p]).length (n * 16 + (c - 97)) (u + (c - 97) * 2 ^ (4 * p).toNat) ∧ 0 ≤ n * 16 + (c - 97) ∧ n * 16 + (c - 97) < 4294967296 ∧ 0 ≤ u + (c - 97) * 2 ^ (4 * p).toNat ∧ u + (c - 97) * 2 ^ (4 * p).toNat < 4294967296 := by
  have h1 := num_turn (h ns rfl) hp hl hc
  refine ⟨fun ms e => ?_, h1.2.2.1, h1.2.2.2.1, h1.2.2.2.2.1, h1.2.2.2.2.2⟩
  have e2 := cut_inj e
  obtain ⟨a, b, c⟩ := h1
  exact ⟨by rw [← e2]; exact a, by rw [← e2]; exact b, c⟩
theorem text_room (ns : List Int) : (textV (signsL ns)).length ≤ sizeLine := by
  rw [text_eq, ofL_len]
  have h := (spelt_len (fmod_in ns)).2
  rw [signs_len] at h
  exact Nat.le_trans h (Nat.le_of_ble_eq_true rfl)
theorem cut_room (ns : List Int) : (ofL (98 :: cutL ns)).length ≤ sizeLine := by
  rw [ofL_len, List.length_cons]
  have h := cut_len ns
  have : sizeLine = 16777216 := PySem.sizeLine_eq
  omega
theorem cut_len' (ns : List Int) : (ofL (cutL ns)).length ≤ 8 := by rw [ofL_len]; exact cut_len ns
theorem oct_room (ns : List Int) : (octL ns).toArray.size ≤ sizeLine := by
  have : sizeLine = 16777216 := PySem.sizeLine_eq
  rw [List.size_toArray]
  unfold octL
  have := cut_len ns
  rw [List.length_cons, List.length_map]
  omega
section
variable {prog : Program} {w : World} {A : Around} {E : Value → Shared → Prop} {s : Shared} {t u : Tok} {Q : Value → Shared → Prop}
variable {h₀ : Heap} {L : Addr} {m : Str → Option Value} {news : List (Addr × Obj)} {value slice : PySem.Expr} {ns : List Int}
theorem slice_text {j : Int} {uj : Tok} (hF : Fr h₀ L s.heap m) (hN : News h₀ L s.heap news) (h : ∀ h' t' k, Fr h₀ L h' m → News h₀ L h' news → (ofL (cutL ns)).length ≤ 8 → (cutL ns).length ≤ 8 → Q (.str (ofL (cutL ns)) t') { s with heap := h', toks := k }) (hj : j = 8 := by rfl)
    (hs : subscripted slice false (.str (textV (signsL ns)) t) (.ref s.heap.objs.size) = operate [.ref s.heap.objs.size, .str (textV (signsL ns)) t] (getItem (.str (textV (signsL ns)) t) (.ref s.heap.objs.size)) := by with_unfolding_all rfl)
    (ht : ∀ r, letTemporaryGo value (.str (textV (signsL ns)) t) r = pure () := by intro _; with_unfolding_all rfl) :
    wpAny (model prog w) A (subscriptTail value slice (.str (textV (signsL ns)) t) (.ref s.heap.objs.size)) Q E { s with heap := s.heap.push { cls := .type "slice", data := .fields #[.none, .int j uj, .none] } } := by
  subst hj
  exact slice_strN_ns hF hN (fun h' t' k a b => by rw [slice8_eq]; exact h h' t' k a b (cut_len' ns) (cut_len ns)) hs ht (text_room ns)
theorem slice_shown {j : Int} {uj : Tok} (hF : Fr h₀ L s.heap m) (hN : News h₀ L s.heap news) (h : ∀ h' t' k, Fr h₀ L h' m → News h₀ L h' news → Q (.str (ofL (cutL ns)) t') { s with heap := h', toks := k }) (hj : j = 1 := by rfl)
    (hs : subscripted slice false (.str (ofL (98 :: cutL ns)) t) (.ref s.heap.objs.size) = operate [.ref s.heap.objs.size, .str (ofL (98 :: cutL ns)) t] (getItem (.str (ofL (98 :: cutL ns)) t) (.ref s.heap.objs.size)) := by with_unfolding_all rfl)
    (ht : ∀ r, letTemporaryGo value (.str (ofL (98 :: cutL ns)) t) r = pure () := by intro _; with_unfolding_all rfl) :
    wpAny (model prog w) A (subscriptTail value slice (.str (ofL (98 :: cutL ns)) t) (.ref s.heap.objs.size)) Q E { s with heap := s.heap.push { cls := .type "slice", data := .fields #[.int j uj, .none, .none] } } := by
  subst hj
  exact slice_strN_sn hF hN (fun h' t' k a b => by rw [slice1]; exact h h' t' k a b) hs ht (cut_room ns)
theorem len_cut (h : Q (.int (cutL ns).length (s.toks + 1)) { s with toks := s.toks + 1 + 1 }) : wpAny (model prog w) A (call (.builtin "len") [.str (ofL (cutL ns)) t]) Q E s := by
  refine PyProof.Rows.len_str (by have := cut_len' ns; omega) ?_
  rw [ofL_len]
  exact h
theorem ne_no {x y : Str} (e : x = y) (h : Q (.bool false) s) : wpAny (model prog w) A (compareOp .NotEq (.str x t) (.str y u)) Q E s := by
  subst e
  refine PyProof.Rows.ne_str ?_
  have : (x != x) = false := by simp
  rw [this]
  exact h
theorem ap_is {ns : List Int} {n v : Int} {pre : List Int} (h : NumP ns pre.length n v) (hl : pre.length = (cutL ns).length) : 0 ≤ n + 1 * 2 ^ (4 * ((cutL ns).length : Int)).toNat ∧ n + 1 * 2 ^ (4 * ((cutL ns).length : Int)).toNat < 2 ^ 100 := by
  have h1 := pow_small (j := (cutL ns).length) (cut_len ns)
  have h2 : (0 : Int) < 2 ^ (4 * (cutL ns).length) := Int.pow_pos (by decide)
  rw [show (4 * ((cutL ns).length : Int)).toNat = 4 * (cutL ns).length by omega]
  obtain ⟨_, _, h3, h4, _, _⟩ := h
  have : (2 : Int) ^ 100 = 1267650600228229401496703205376 := by decide
  omega
end
local macro_rules | `(tactic| walk_at "subscriptTail Name Slice str ref") => `(tactic| (k_here; (with_reducible show wpAny _ _ (subscriptTail _ (Expr.Slice none (some _) none _) (Value.str (textV _) _) (Value.ref _)) _ _ _); (with_reducible rename Fr _ _ _ _ => F'); (with_reducible rename News _ _ _ _ => N'); (refine slice_text (s := ⟨_, _, _, _, _⟩) F' N' ?_); intro _ _ _ F' N' hcl hcl2))
local macro_rules | `(tactic| walk_at "subscriptTail Name Slice str ref") => `(tactic| (k_here; (with_reducible show wpAny _ _ (subscriptTail _ (Expr.Slice (some _) none none _) (Value.str (ofL (98 :: cutL _)) _) (Value.ref _)) _ _ _); (with_reducible rename Fr _ _ _ _ => F'); (with_reducible rename News _ _ _ _ => N'); (refine slice_shown (s := ⟨_, _, _, _, _⟩) F' N' ?_); intro _ _ _ F' N'))
local macro_rules | `(tactic| walk_at "subscriptTail Name Name str int") => `(tactic| (k_here; (with_reducible show wpAny _ _ (subscriptTail _ _ (Value.str (textV _) _) (Value.int _ _)) _ _ _); k_dflt (refine item_textV (by omega) (by omega) ?_); intro t9 hc0 hc1))
local macro_rules | `(tactic| walk_at "compareOp NotEq str str") => `(tactic| (k_here; first | (with_reducible refine ne_no rfl ?_) | (with_reducible refine ne_no (b_app _).symm ?_)))
local macro_rules | `(tactic| walk_at "call builtin:len") => `(tactic| (k_here; (with_reducible show wpAny _ _ (call (Value.builtin "len") [Value.str (ofL (cutL _)) _]) _ _ _); (refine len_cut ?_)))
local macro_rules | `(tactic| walk_at "call type:range") => `(tactic| (k_here; (with_reducible show wpAny _ _ (call (Value.type "range") [_]) _ _ _); (rename Fr _ _ _ _ => F'); (rename News _ _ _ _ => N'); (refine range1_rows F' N' ?_); intro _ _ _ _ _ _ _ _ _))
abbrev RK (ns : List Int) : List Int := rangeKs 0 (((cutL ns).length : Int) - 0).toNat
theorem rk_len (ns : List Int) : (RK ns).length = (cutL ns).length := by
  unfold RK
  rw [rangeKs_length]
  omega
def FS (ns : List Int) : List Str := foundS (ofL (cutL ns)) (ofL (cutL ns)).length
theorem ap_word (w : World) (news : List (Addr × Obj)) {ns : List Int} {n u : Int} (t1 : Tok) (h : NumX (ofL (cutL ns)) (RK ns).length n u) :
    Does w 28 3 news [.int (n + 1 * 2 ^ (4 * ((cutL ns).length : Int)).toNat) t1] (fun t => .bytes (octL ns).toArray t) := by
  have h1 := h ns rfl
  have h2 := ap_is h1 (rk_len ns)
  have h3 := oct_eq h1 (rk_len ns)
  rw [← h3]
  exact ap_does w news _ t1 h2.1 h2.2
theorem kept_cut (w : World) (news : List (Addr × Obj)) {ns : List Int} {n u : Int} (t1 t2 t3 : Tok) (h : NumX (ofL (cutL ns)) (RK ns).length n u) :
    DoesO w 142 9 news (fun _ => True) [.str (ofL (cutL ns)) t1, .int n t2, .int u t3] (RT (FS ns)) := by
  have h1 := h ns rfl
  have e : FS ns = keptS (ofL (cutL ns)) (ofL (cutL ns)).length := (kept_found _).symm
  rw [e]
  have hp : (2 : Int) ^ 100 = 1267650600228229401496703205376 := by decide
  obtain ⟨_, _, a, b, c, d⟩ := id h1
  exact kept_does w news _ n u t1 t2 t3 ⟨a, by omega, c, by omega⟩ (cut_len' ns) (cut46 ns) (tells_cut h1 (rk_len ns))
theorem found_cut (w : World) (news : List (Addr × Obj)) (ns : List Int) (t1 : Tok) : DoesO w 149 9 news (fun _ => True) [.str (ofL (cutL ns)) t1] (RT (FS ns)) :=
  found_does w news _ t1 (cut_len' ns)
theorem steady_cut (w : World) (news : List (Addr × Obj)) (ns : List Int) (t1 : Tok) (D : Addr) (ys : List Value) (nn : Nat) (hm : (D, listOf ys.toArray nn) ∈ news) (hs : StrsAre ys (FS ns)) :
    Does w 156 9 news [.str (ofL (cutL ns)) t1, .ref D] (fun _ => .bool (((FS ns).length : Int) == ((cutL ns).length : Int))) := by
  have e : FS ns = keptS (ofL (cutL ns)) (ofL (cutL ns)).length := (kept_found _).symm
  have h := kept_steady (ofL (cutL ns))
  rw [← e, ofL_length] at h
  rw [h]
  exact steady_does w news _ t1 D ys nn _ hm hs (cut_len' ns) (by rw [e]; exact kept_ok _ (cut46 ns) (cut_len' ns))
theorem oct_bd {ns : List Int} {k : Int} (h : k ∈ KBw.bInts (octL ns).toArray) : 0 ≤ k ∧ k < 256 := KBw.ints_in h
theorem oct_ok {ns : List Int} {k : Int} (h : k ∈ KBw.bInts (octL ns).toArray) : b3Ok k.toNat = true := by
  obtain ⟨c, rfl, h1, _⟩ := oct_small ns k h
  rw [Int.toNat_natCast]
  exact h1
local macro_rules | `(tactic| walk_at "call ref") => `(tactic| (k_here; (with_reducible show wpAny _ _ (call (Value.ref 123) _) _ _ _); (rename _ ∈ KBw.bInts _ => hkb); k_dflt (refine' b3_any _ _ _ _ ?kp _ _ _ _ _ _ _ _ _ _ _ _ _ _ _ _ _ _ _ _ _ _ ?k1 ?k2 ?k3 ?k4 ?k5 ?kK ?kd ?ku ?_; (case k1 => k_asm); (case k2 => k_asm); (case k3 => k_asm); (case k4 => k_asm); (case k5 => k_asm); (case kK => first | exact rfl | assumption); (case kp => exact oct_ok hkb); (case kd => first | ktr_room | exact Nat.le_of_ble_eq_true rfl); (case ku => first | ktr_units | exact Nat.le_of_ble_eq_true rfl); intro t9 h9 tk9 F9 N9; (try dsimp only); (try k_fold))))
local macro_rules | `(tactic| walk_at "call ref") => `(tactic| (k_here; (with_reducible show wpAny _ _ (call (Value.ref 28) _) _ _ _); k_dflt (refine' ap_word _ _ _ ?kp _ _ _ _ _ _ _ _ _ _ _ _ _ _ _ _ _ _ _ _ _ _ ?k1 ?k2 ?k3 ?k4 ?k5 ?kK ?kd ?ku ?_; (case k1 => k_asm); (case k2 => k_asm); (case k3 => k_asm); (case k4 => k_asm); (case k5 => k_asm); (case kK => first | exact rfl | assumption); (case kp => assumption); (case kd => first | ktr_room | exact Nat.le_of_ble_eq_true rfl); (case ku => first | ktr_units | exact Nat.le_of_ble_eq_true rfl); intro t9 h9 tk9 F9 N9; (try dsimp only); (try k_fold))))
local macro_rules | `(tactic| walk_at "call ref") => `(tactic| (k_here; (with_reducible show wpAny _ _ (call (Value.ref 142) _) _ _ _); k_dflt (refine' kept_cut _ _ _ _ _ ?kp _ _ _ _ _ _ _ _ _ _ _ _ _ _ _ _ _ _ _ _ _ _ ?k1 ?k2 ?k3 ?k4 ?k5 ?kK ?ka ?kd ?ku ?_; (case k1 => k_asm); (case k2 => k_asm); (case k3 => k_asm); (case k4 => k_asm); (case k5 => k_asm); (case kK => first | exact rfl | assumption); (case kp => assumption); (case ka => exact True.intro); (case kd => first | ktr_room | exact Nat.le_of_ble_eq_true rfl); (case ku => first | ktr_units | exact Nat.le_of_ble_eq_true rfl); refine rt_elim ?_; intro D9 ys9 n9 h9 tk9 hS9 F9 N9; (try dsimp only); (try k_fold))))
local macro_rules | `(tactic| walk_at "call ref") => `(tactic| (k_here; (with_reducible show wpAny _ _ (call (Value.ref 149) _) _ _ _); k_dflt (refine' found_cut _ _ _ _ _ _ _ _ _ _ _ _ _ _ _ _ _ _ _ _ _ _ _ _ _ _ ?k1 ?k2 ?k3 ?k4 ?k5 ?kK ?ka ?kd ?ku ?_; (case k1 => k_asm); (case k2 => k_asm); (case k3 => k_asm); (case k4 => k_asm); (case k5 => k_asm); (case kK => first | exact rfl | assumption); (case ka => exact True.intro); (case kd => first | ktr_room | exact Nat.le_of_ble_eq_true rfl); (case ku => first | ktr_units | exact Nat.le_of_ble_eq_true rfl); refine rt_elim ?_; intro D9 ys9 n9 h9 tk9 hS9 F9 N9; (try dsimp only); (try k_fold))))
local macro_rules | `(tactic| walk_at "call ref") => `(tactic| (k_here; (with_reducible show wpAny _ _ (call (Value.ref 156) _) _ _ _); k_dflt (refine' steady_cut _ _ _ _ _ _ _ ?km ?ks _ _ _ _ _ _ _ _ _ _ _ _ _ _ _ _ _ _ _ _ _ _ ?k1 ?k2 ?k3 ?k4 ?k5 ?kK ?kd ?ku ?_; (case k1 => k_asm); (case k2 => k_asm); (case k3 => k_asm); (case k4 => k_asm); (case k5 => k_asm); (case kK => first | exact rfl | assumption); (case km => k_mem); (case ks => assumption); (case kd => first | ktr_room | exact Nat.le_of_ble_eq_true rfl); (case ku => first | ktr_units | exact Nat.le_of_ble_eq_true rfl); intro t9 h9 tk9 F9 N9; (try dsimp only); (try k_fold))))
local macro_rules | `(tactic| walk_at "eval ListComp") => `(tactic| (k_here; (with_reducible show wpAny _ _ (eval (Expr.ListComp _ [⟨_, Expr.Name (Str.ofString "word") _, _, _⟩] _ _) _) _ _ _); k_dflt (refine ListComp_B (F₀ := by k_asm) (by with_unfolding_all rfl) (by decide) (by rfl) (by decide) (by rfl) ?_)))
local macro_rules | `(tactic| walk_at "SrcB") => `(tactic| (k_here; k_dflt (refine SrcB.intro (by rfl) (by k_asm) (by k_asm) (oct_room _) ?_; intro g9; refine' kct_bytes g3 (fun k' t' I' oI' C' oC' D' m' ys' h' tk' E' hk' hkb0 hkb1 hC' hx' F' N' off' ne' => ?_) ?_; (all_goals (try ((show KPfMark → _); intro hMark'))); kcf_last)))
theorem fs_ok (ns : List Int) : ∀ x ∈ FS ns, PyData.strOk x = true := found_ok _ (by
  rw [ofL_cps]
  intro c hc
  have := cut_letters ns c hc
  omega)
local macro_rules | `(tactic| walk_at "CompEnd") => `(tactic| (k_here; (with_reducible rename News _ _ _ _ => nE); (with_reducible rename LCg.Off3 _ _ _ _ => oE); k_dflt (refine LCg.CompEnd.intro (by assumption) nE _ (fun _ h => h) oE (by lcg_src) ?_)))
local macro_rules | `(tactic| walk_at "compareOp NotEq ref ref") => `(tactic| (k_here; k_dflt (refine ne_texts (News.isList (by k_asm) (by k_mem)) (News.isList (by k_asm) (by k_mem)) (by assumption) (by assumption) (fs_ok _) (by ke_room) ?_)))
theorem fs_small (ns : List Int) : ((FS ns).length : Int) < 9223372036854775808 := by
  have h := found_len (ofL (cutL ns)) (ofL (cutL ns)).length
  have h2 := cut_len' ns
  have h3 := Nat.mul_le_mul h2 h2
  unfold FS
  omega
local macro_rules | `(tactic| walk_at "call builtin:len") => `(tactic| (k_here; (with_reducible show wpAny _ _ (call (Value.builtin "len") [Value.ref _]) _ _ _); k_dflt (refine len_strsA (News.isList (by k_asm) (by k_mem)) (by assumption) (fs_small _) ?_)))
set_option maxHeartbeats 0
theorem law_holds : PySem.Challenge.rw_wo0057_02.Holds := by
  w_on
  o_law
  refine holds_open (r := LW.row) (q := qM) (loose := looseM) (Xt := XtM) (XP := XL qM []) (Yf := HK.obs) (Ya := HK.val) (YP := HK.says) (N := 30000) left HK.of HK.keeps (fun s e => xl_of s (Bool.and_eq_true_iff.mp e).1) XL.keeps (by rfl) (by rfl) (by rfl) (fun s e => recFacts_of (Bool.and_eq_true_iff.mp e).2) (by rfl) (by assumption) (by decide +kernel) ⟨rfl, rfl, rfl, rfl, rfl, by decide +kernel⟩ ?hw ?hc
  · w_witness2
  · k_with "pyIter ref" => (k_of "place" => k_state_given ["letters"] (fun x pre n u => NumX x pre.length n u ∧ 0 ≤ n ∧ n < 4294967296 ∧ 0 ≤ u ∧ u < 4294967296) "number" "turned")
    k_with "state" => first | exact numx_start _ | exact numx_turn (by assumption) (by assumption) (by assumption) rfl
    w_strict (k_go0; k_steps)
end Mine
set_option maxHeartbeats 0 in
theorem PySem.Challenge.cw_wo0057_02_holds : PySem.Challenge.rw_wo0057_02.Holds :=
  Mine.law_holds
